import Derived.Test.Qxb6627720aWalkH
namespace Go.Proofs.Qxb6627720a
open Go.ChangeShapes Go.WideShapes Go.ChangeAt Go.RowKit
open Glob

set_option maxRecDepth 100000 in
set_option maxHeartbeats 2000000 in
theorem any_main (a0 a1 : Option Addr) (n c0 c1 ct : Nat) (gs : Nat → ByteArray) (ns : Nat → Bool) (m : ByteArray) (w : World) (hn : n ≤ 4096) (hm : m.size ≤ 4096) (hct : ct ≤ n)
    (hgs : ∀ i, i < n → (gs i).size ≤ maxLen) (hg : Row w a0 n (fun i => .string (gs i))) (hb : Row w a1 n (fun i => .bool (ns i))) (ha0 : a0 = none → n = 0 ∧ c0 = 0) (ha1 : a1 = none → n = 0 ∧ c1 = 0) :
    Calls Try.prog 3 #[.slice a0 n c0, .slice a1 n c1, .int .i64 (ct : Int), .string m] w fun e w' => e = .returned (.bool true) ∧ Below w.heap.size w w' := by
  have hcall := hide (bytes1_any a0 a1 n c0 n c1 ct gs m w (by unfold maxLen; omega) (by unfold maxLen; omega) (by unfold maxLen; omega) hgs hg)
  have HG := hide hg
  have HN := hide hb
  have HA0 := hide ha0
  have HA1 := hide ha1
  clear hg hb hgs ha0 ha1
  have e0 : decide ((4096 : Int) < (n : Int)) = false := by simp; omega
  have e2 : decide ((4096 : Int) < (m.size : Int)) = false := by simp; omega
  have q22 := fun (w : World) (a : Option Addr) (n c : Nat) => run_neq_slice_nil_any (P := Try.prog) w 22 9 a n c 0 0 Try.underlying22
  have q23 := fun (w : World) (a : Option Addr) (n c : Nat) => run_neq_slice_nil_any (P := Try.prog) w 23 4 a n c 0 0 Try.underlying23
  have k22 := fun (w : World) => run_make_row' (P := Try.prog) 22 9 (.string ByteArray.empty) 16 Try.underlying22 Try.info9 rfl .i64 .i64 n (by omega) (by omega) w
  have k23 := fun (w : World) => run_make_row' (P := Try.prog) 23 4 (.bool false) 1 Try.underlying23 Try.info4 rfl .i64 .i64 n (by omega) (by omega) w
  have tn : ((n : Int) != (n : Int)) = false := by simp
  have tc1 : decide ((ct : Int) < 0) = false := by simp
  have tc2 : decide ((n : Int) < (ct : Int)) = false := by simp; omega
  go_enter Try.func3, Try.ntmps3
  go_wp2_with fail
  refine (unhide hcall).mono ?_
  rintro e w1 ⟨⟨b, rfl, hsm⟩, hw⟩
  have HGs := hide hsm
  clear hsm
  clear hcall
  subst hw
  cases b
  case false =>
    go_wp2
    go_ret
    exact ⟨rfl, Below.refl _ _⟩
  have HS := hide (unhide HGs rfl)
  clear HGs
  go_upto_if 39 with fail
  go_cut [0] (fun s wr => ∃ a : Option Addr, s = .slice a n n ∧ Row wr a n (fun i => .string (gs i)) ∧ Below w1.heap.size w1 wr)
  case first =>
    cases a0 with
    | none =>
      have hc0 : c0 = n := by have := unhide HA0; simp at this; omega
      subst hc0
      go_wp2
      go_meet
      case rel => exact ⟨none, rfl, unhide HG, Below.refl _ _⟩
    | some ad =>
      obtain ⟨wX, hcp, hrow, hbel⟩ := copy_new (.string ByteArray.empty) Try.underlying22 Try.size9 w1 (some ad) n c0 (fun i => .string (gs i)) (unhide HG) (fun _ => rfl)
      have HR := hide hrow
      have HB := hide hbel
      clear hrow hbel
      go_wp2
      go_meet
      case rel => exact ⟨_, rfl, .inr ⟨w1.heap.size, 0, rfl, (unhide HR).lt, fun i hi => by simpa using (unhide HR).cell (i := i) hi⟩, unhide HB⟩
  case rest =>
    obtain ⟨ag, rfl, hrow0, hbel0⟩ := hcut
    have HR0 := hide hrow0
    have HB0 := hide hbel0
    clear hrow0 hbel0 HG HA0
    go_upto_if 48 with fail
    go_cut [1] (fun s wr => ∃ a : Option Addr, s = .slice a n n ∧ Row wr a n (fun i => .bool (ns i)) ∧ Below wc.heap.size wc wr)
    case first =>
      have hrow1 := (unhide HN).below (unhide HB0)
      cases a1 with
      | none =>
        have hc1 : c1 = n := by have := unhide HA1; simp at this; omega
        subst hc1
        go_wp2
        go_meet
        case rel => exact ⟨none, rfl, hrow1, Below.refl _ _⟩
      | some ad =>
        obtain ⟨wX, hcp, hrow, hbel⟩ := copy_new (.bool false) Try.underlying23 Try.size4 wc (some ad) n c1 (fun i => .bool (ns i)) hrow1 (fun _ => rfl)
        have HR := hide hrow
        have HB := hide hbel
        clear hrow hbel hrow1
        go_wp2
        go_meet
        case rel => exact ⟨_, rfl, .inr ⟨wc.heap.size, 0, rfl, (unhide HR).lt, fun i hi => by simpa using (unhide HR).cell (i := i) hi⟩, unhide HB⟩
    case rest =>
      obtain ⟨an, rfl, hrow1, hbel1⟩ := hcut
      have HRG := hide ((unhide HR0).below hbel1)
      have HRN := hide hrow1
      have HB := hide ((unhide HB0).trans (hbel1.mono (unhide HB0).size))
      clear hrow1 hbel1 HR0 HB0 HN HA1 q22 q23 k22 k23
      go_wp2
      go_loop [11, 12] (fun t i => ∃ (k : Nat) (s : Int), k ≤ n ∧ i = .int .i64 k ∧ t = .int .i64 s ∧ 0 ≤ s ∧ s ≤ 4096 ∧ ∀ j, j < k → ((gs j).size : Int) ≤ s) (fun _ i => n - (intOf i).toNat)
      case atStart => exact ⟨0, 0, Nat.zero_le _, rfl, rfl, by omega, by omega, fun j hj => by omega⟩
      case round =>
        obtain ⟨k, s, hk, rfl, rfl, hs0, hs1, hall⟩ := hrel
        have HAll := hide hall
        clear hall
        by_cases hlt : k < n
        · rcases unhide HRG with h0 | ⟨bg, og, rfl, hgl, hgc⟩
          · omega
          have q1 := hgc k hlt
          have hsz := unhide HS k hlt
          clear hgc hgl
          by_cases d : s + (gs k).size ≤ 4096
          · have td : decide ((4096 : Int) < s + ((gs k).size : Int)) = false := by simp; omega
            go_wp2
            go_round
            case rel =>
              refine ⟨k + 1, s + (gs k).size, by omega, by go_num, rfl, by omega, d, fun j hj => ?_⟩
              by_cases hjk : j = k
              · subst hjk; omega
              · have := unhide HAll j (by omega); omega
            case measure => simp [intOf]; omega
          · go_wp2
            go_ret
            exact ⟨rfl, unhide HB⟩
        · have hall2 : ∀ j, j < n → (gs j).size ≤ 4096 := fun j hj => by have := unhide HAll j (by omega); omega
          have HG2 := hide hall2
          clear hall2 HAll HS
          go_wp2
          go_loopw [13] (fun i wr => ∃ k : Nat, k ≤ n ∧ i = .int .i64 k ∧ Row wr ag n (fun i => .string (gs i)) ∧ Row wr an n (fun i => .bool (ns i)) ∧ Below w1.heap.size w1 wr) (fun i _ => n - (intOf i).toNat)
          case atStart => exact ⟨0, Nat.zero_le _, rfl, unhide HRG, unhide HRN, unhide HB⟩
          case round =>
            obtain ⟨k2, hk2, rfl, hRG, hRN, hB⟩ := hrel
            have KRG := hide hRG
            have KRN := hide hRN
            have KB := hide hB
            clear hRG hRN hB HRG HRN HB
            by_cases hlt2 : k2 < n
            · have KG2 := hide ((unhide KRG).below (below_drewN (Below.refl _ _) 0))
              rcases id (unhide KRG) with h0 | ⟨bg, og, rfl, hgl, hgc⟩
              · omega
              rcases id (unhide KRN) with h0 | ⟨bn, on, rfl, hnl, hnc⟩
              · omega
              have q1 := hgc k2 hlt2
              have q2 := hnc k2 hlt2
              have hsz := unhide HG2 k2 hlt2
              clear hgc hgl hnc hnl
              cases hrb : reachB (gs k2).data.toList (ns k2)
              case false =>
                go_wp2
                go_quiet ((go_at_call 6; exact Calls.quiet_of_same (reach_is _ _ _ (by unfold maxLen; omega))))
                go_wp2
                go_ret
                exact ⟨rfl, below_drewN (unhide KB) _⟩
              case true =>
                go_wp2
                go_quiet ((go_at_call 6; exact Calls.quiet_of_same (reach_is _ _ _ (by unfold maxLen; omega))))
                go_wp2
                go_roundw
                case rel => exact ⟨k2 + 1, by omega, by go_num, (unhide KRG).below (below_drewN (Below.refl _ _) _), (unhide KRN).below (below_drewN (Below.refl _ _) _), below_drewN (unhide KB) _⟩
                case measure => simp [intOf]; omega
            · go_wp2_with fail
              refine (newPat_any _ _ _ _ _ gs ns _ hn (unhide KRG) (unhide KRN)).mono ?_
              rintro e w2 ⟨b1, rfl, hb1, hrow1, hbel1⟩
              have L1 := hide ((unhide KRG).below hbel1)
              have L2 := hide ((unhide KRN).below hbel1)
              have L3 := hide ((unhide KB).trans (hbel1.mono (unhide KB).size))
              clear hb1 hbel1 KRG KRN KB
              go_wp2_with fail
              refine (match_any _ _ gs ns _ _ hn hm (unhide HG2) hrow1).mono ?_
              rintro e w3 ⟨rfl, hbel⟩
              have M1 := hide ((unhide L1).below hbel)
              have M2 := hide ((unhide L2).below hbel)
              have M3 := hide ((unhide L3).trans (hbel.mono (unhide L3).size))
              clear hbel hrow1 L1 L2 L3
              go_upto_region 30 with fail
              go_cut [15] (fun s wr => s = .bool (anyAlt gs ns ct m) ∧ Below w3.heap.size w3 wr)
              case first =>
                have N1 := hide ((unhide M1).take hct)
                have N2 := hide ((unhide M2).take hct)
                rcases id (unhide M1) with h0 | ⟨bg, og, rfl, hgl, hgc⟩
                · obtain rfl : ct = 0 := by omega
                  subst h0
                  go_region_with (first
                    | (go_at_call 7; refine (newPat_any _ _ _ _ _ gs ns _ ?_ ?_ ?_).mono ?_; omega; exact .inl rfl; exact .inl rfl; rintro e w4 ⟨b2, rfl, hb2, hrow2, hbel2⟩)
                    | (go_at_call 8; refine (match_any _ _ gs ns _ _ ?_ hm ?_ hrow2).mono ?_; omega; (intro i hi; omega); rintro e w5 ⟨rfl, hbel3⟩))
                  all_goals
                    go_wp2_with fail
                    go_meet
                    case rel => exact ⟨rfl, Below.trans (Below.trans (Below.drew (Below.refl _ _)) hbel2) (hbel3.mono hbel2.size)⟩
                rcases id (unhide M2) with h0 | ⟨bn, on, rfl, hnl, hnc⟩
                · obtain rfl : ct = 0 := by omega
                  subst h0
                  go_region_with (first
                    | (go_at_call 7; refine (newPat_any _ _ _ _ _ gs ns _ ?_ ?_ ?_).mono ?_; omega; exact .inl rfl; exact .inl rfl; rintro e w4 ⟨b2, rfl, hb2, hrow2, hbel2⟩)
                    | (go_at_call 8; refine (match_any _ _ gs ns _ _ ?_ hm ?_ hrow2).mono ?_; omega; (intro i hi; omega); rintro e w5 ⟨rfl, hbel3⟩))
                  all_goals
                    go_wp2_with fail
                    go_meet
                    case rel => exact ⟨rfl, Below.trans (Below.trans (Below.drew (Below.refl _ _)) hbel2) (hbel3.mono hbel2.size)⟩
                clear hgl hgc hnl hnc
                go_region_with (first
                  | (go_at_call 7; refine (newPat_any _ _ _ _ _ gs ns _ ?_ ?_ ?_).mono ?_; omega; exact unhide N1; exact unhide N2; rintro e w4 ⟨b2, rfl, hb2, hrow2, hbel2⟩)
                  | (go_at_call 8; refine (match_any _ _ gs ns _ _ ?_ hm ?_ hrow2).mono ?_; omega; (intro i hi; exact unhide HG2 i (by omega)); rintro e w5 ⟨rfl, hbel3⟩))
                all_goals
                  go_wp2_with fail
                  go_meet
                  case rel => exact ⟨rfl, Below.trans (Below.trans (Below.drew (Below.refl _ _)) hbel2) (hbel3.mono hbel2.size)⟩
              case rest =>
                obtain ⟨rfl, hbelL⟩ := hcut
                have P1 := hide ((unhide M1).below hbelL)
                have P2 := hide ((unhide M2).below hbelL)
                have P3 := hide ((unhide M3).trans (hbelL.mono (unhide M3).size))
                clear hbelL M1 M2 M3
                go_upto_region 31 with fail
                go_cut [16] (fun s wr => s = .bool (anyAlt (fun i => gs (ct + i)) (fun i => ns (ct + i)) (n - ct) m) ∧ Below wc.heap.size wc wr)
                case first =>
                  by_cases hnc : n = ct
                  · subst hnc
                    go_region_with (first
                      | (go_at_call 7; refine (newPat_any _ _ _ _ _ (fun i => gs (n + i)) (fun i => ns (n + i)) _ ?_ ?_ ?_).mono ?_; omega; exact .inl rfl; exact .inl rfl; rintro e w4 ⟨b2, rfl, hb2, hrow2, hbel2⟩)
                      | (go_at_call 8; refine (match_any _ _ (fun i => gs (n + i)) (fun i => ns (n + i)) _ _ ?_ hm ?_ hrow2).mono ?_; omega; (intro i hi; omega); rintro e w5 ⟨rfl, hbel3⟩))
                    all_goals
                      go_wp2_with fail
                      go_meet
                      case rel => exact ⟨by rw [Nat.sub_self], Below.trans (Below.trans (Below.drew (Below.refl _ _)) hbel2) (hbel3.mono hbel2.size)⟩
                  · rcases id (unhide P1) with h0 | ⟨bg, og, rfl, hgl, hgc⟩
                    · omega
                    rcases id (unhide P2) with h0 | ⟨bn, on, rfl, hnl, hncc⟩
                    · omega
                    have N1 := hide ((unhide P1).drop hct)
                    have N2 := hide ((unhide P2).drop hct)
                    clear hgl hgc hnl hncc
                    go_region_with (first
                      | (go_at_call 7; refine (newPat_any _ _ _ _ _ (fun i => gs (ct + i)) (fun i => ns (ct + i)) _ ?_ ?_ ?_).mono ?_; omega; exact unhide N1; exact unhide N2; rintro e w4 ⟨b2, rfl, hb2, hrow2, hbel2⟩)
                      | (go_at_call 8; refine (match_any _ _ (fun i => gs (ct + i)) (fun i => ns (ct + i)) _ _ ?_ hm ?_ hrow2).mono ?_; omega; (intro i hi; exact unhide HG2 _ (by omega)); rintro e w5 ⟨rfl, hbel3⟩))
                    all_goals
                      go_wp2_with fail
                      go_meet
                      case rel => exact ⟨rfl, Below.trans (Below.trans (Below.drew (Below.refl _ _)) hbel2) (hbel3.mono hbel2.size)⟩
                case rest =>
                  obtain ⟨rfl, hbelR⟩ := hcut
                  have R1 := hide ((unhide P1).below hbelR)
                  have R2 := hide ((unhide P2).below hbelR)
                  have R3 := hide ((unhide P3).trans (hbelR.mono (unhide P3).size))
                  clear hbelR P1 P2 P3
                  have hsp := anyAlt_split gs ns ct m (n - ct)
                  rw [show ct + (n - ct) = n from by omega] at hsp
                  have HSp := hide hsp
                  clear hsp
                  go_wp2
                  go_loopw [17, 18] (fun v i wr => ∃ k : Nat, k ≤ ct ∧ i = .int .i64 k ∧ v = .bool (anyAlt gs ns k m) ∧ Row wr ag n (fun i => .string (gs i)) ∧ Row wr an n (fun i => .bool (ns i)) ∧ Below w1.heap.size w1 wr) (fun _ i _ => ct - (intOf i).toNat)
                  case atStart => exact ⟨0, Nat.zero_le _, rfl, rfl, unhide R1, unhide R2, unhide R3⟩
                  case round =>
                    obtain ⟨k3, hk3, rfl, rfl, hRG, hRN, hB⟩ := hrel
                    have S1 := hide hRG
                    have S2 := hide hRN
                    have S3 := hide hB
                    clear hRG hRN hB R1 R2 R3
                    by_cases hlt3 : k3 < ct
                    · rcases id (unhide S1) with h0 | ⟨bg, og, rfl, hgl, hgc⟩
                      · omega
                      rcases id (unhide S2) with h0 | ⟨bn, on, rfl, hnl, hnc⟩
                      · omega
                      have q1 := hgc k3 (by omega)
                      have q2 := hnc k3 (by omega)
                      have hsz := unhide HG2 k3 (by omega)
                      clear hgc hgl hnc hnl
                      have hi3 : (k3 : Int) < (n : Int) := by omega
                      cases hc : (gmS (gs k3) m == ns k3)
                      case true =>
                        go_wp2
                        go_quiet ((go_at_call 9; exact Calls.quiet_of_same (zzGlob_any _ _ _ hsz hm)))
                        go_wp2
                        go_roundw
                        case rel => exact ⟨k3 + 1, by omega, by go_num, by rw [anyAlt_succ, bne, hc]; simp, (unhide S1).below (below_drewN (Below.refl _ _) _), (unhide S2).below (below_drewN (Below.refl _ _) _), below_drewN (unhide S3) _⟩
                        case measure => simp [intOf]; omega
                      case false =>
                        go_wp2
                        go_quiet ((go_at_call 9; exact Calls.quiet_of_same (zzGlob_any _ _ _ hsz hm)))
                        go_wp2
                        go_roundw
                        case rel => exact ⟨k3 + 1, by omega, by go_num, by rw [anyAlt_succ, bne, hc]; simp, (unhide S1).below (below_drewN (Below.refl _ _) _), (unhide S2).below (below_drewN (Below.refl _ _) _), below_drewN (unhide S3) _⟩
                        case measure => simp [intOf]; omega
                    · obtain rfl : k3 = ct := by omega
                      have hA := unhide HSp
                      cases hBB : anyAlt gs ns k3 m
                      all_goals
                        cases hCC : anyAlt (fun i => gs (k3 + i)) (fun i => ns (k3 + i)) (n - k3) m
                      all_goals
                        rw [hBB, hCC] at hA
                        first | (have hA2 : anyAlt gs ns n m = true := hA) | (have hA2 : anyAlt gs ns n m = false := hA)
                        clear hA
                        go_wp2
                        go_ret
                        exact ⟨rfl, unhide S3⟩
end Go.Proofs.Qxb6627720a
