import Derived.Test.Qxb6627720aWalkI
namespace Go.Proofs.Qxb6627720a
open Go.ChangeShapes Go.WideShapes Go.ChangeAt Go.RowKit
open Glob

set_option maxRecDepth 100000 in
set_option maxHeartbeats 2000000 in
theorem any_off (a0 a1 : Option Addr) (n n1 c0 c1 : Nat) (ct : Int) (gs : Nat → ByteArray) (ns : Nat → Bool) (m : ByteArray) (w : World) (hn : n ≤ 4096) (hn1 : n1 ≤ 4096) (hm : m.size ≤ 4096) (hoff : ((n1 : Int) == (n : Int)) = false ∨ (((n1 : Int) == (n : Int)) = true ∧ (decide (ct < 0) = true ∨ (decide (ct < 0) = false ∧ decide ((n : Int) < ct) = true))))
    (hgs : ∀ i, i < n → (gs i).size ≤ maxLen) (hg : Row w a0 n (fun i => .string (gs i))) (hb : Row w a1 n1 (fun i => .bool (ns i))) (ha0 : a0 = none → n = 0 ∧ c0 = 0) (ha1 : a1 = none → n1 = 0 ∧ c1 = 0) :
    Calls Try.prog 3 #[.slice a0 n c0, .slice a1 n1 c1, .int .i64 ct, .string m] w fun e w' => e = .returned (.bool true) ∧ Below w.heap.size w w' := by
  have hcall := hide (bytes1_any a0 a1 n c0 n1 c1 ct gs m w (by unfold maxLen; omega) (by unfold maxLen; omega) (by unfold maxLen; omega) hgs hg)
  have HG := hide hg
  have HN := hide hb
  have HA0 := hide ha0
  have HA1 := hide ha1
  clear hg hb hgs ha0 ha1
  have e0 : decide ((4096 : Int) < (n : Int)) = false := by simp; omega
  have e1 : decide ((4096 : Int) < (n1 : Int)) = false := by simp; omega
  have e2 : decide ((4096 : Int) < (m.size : Int)) = false := by simp; omega
  have q22 := fun (w : World) (a : Option Addr) (n c : Nat) => run_neq_slice_nil_any (P := Try.prog) w 22 9 a n c 0 0 Try.underlying22
  have q23 := fun (w : World) (a : Option Addr) (n c : Nat) => run_neq_slice_nil_any (P := Try.prog) w 23 4 a n c 0 0 Try.underlying23
  have k22 := fun (w : World) => run_make_row' (P := Try.prog) 22 9 (.string ByteArray.empty) 16 Try.underlying22 Try.info9 rfl .i64 .i64 n (by omega) (by omega) w
  have k23 := fun (w : World) => run_make_row' (P := Try.prog) 23 4 (.bool false) 1 Try.underlying23 Try.info4 rfl .i64 .i64 n1 (by omega) (by omega) w
  have HOff := hide hoff
  clear hoff
  go_enter Try.func3, Try.ntmps3
  go_wp2_with fail
  refine (unhide hcall).mono ?_
  rintro e w1 ⟨⟨b, rfl, hsm⟩, hw⟩
  have HGs := hide hsm
  clear hsm
  clear hcall
  subst hw
  cases b
  case false =>
    go_wp2
    go_ret
    exact ⟨rfl, Below.refl _ _⟩
  have HS := hide (unhide HGs rfl)
  clear HGs
  go_upto_if 39 with fail
  go_cut [0] (fun s wr => ∃ a : Option Addr, s = .slice a n n ∧ Row wr a n (fun i => .string (gs i)) ∧ Below w1.heap.size w1 wr)
  case first =>
    cases a0 with
    | none =>
      have hc0 : c0 = n := by have := unhide HA0; simp at this; omega
      subst hc0
      go_wp2
      go_meet
      case rel => exact ⟨none, rfl, unhide HG, Below.refl _ _⟩
    | some ad =>
      obtain ⟨wX, hcp, hrow, hbel⟩ := copy_new (.string ByteArray.empty) Try.underlying22 Try.size9 w1 (some ad) n c0 (fun i => .string (gs i)) (unhide HG) (fun _ => rfl)
      have HR := hide hrow
      have HB := hide hbel
      clear hrow hbel
      go_wp2
      go_meet
      case rel => exact ⟨_, rfl, .inr ⟨w1.heap.size, 0, rfl, (unhide HR).lt, fun i hi => by simpa using (unhide HR).cell (i := i) hi⟩, unhide HB⟩
  case rest =>
    obtain ⟨ag, rfl, hrow0, hbel0⟩ := hcut
    have HR0 := hide hrow0
    have HB0 := hide hbel0
    clear hrow0 hbel0 HG HA0
    go_upto_if 48 with fail
    go_cut [1] (fun s wr => ∃ a : Option Addr, s = .slice a n1 n1 ∧ Row wr a n1 (fun i => .bool (ns i)) ∧ Below wc.heap.size wc wr)
    case first =>
      have hrow1 := (unhide HN).below (unhide HB0)
      cases a1 with
      | none =>
        have hc1 : c1 = n1 := by have := unhide HA1; simp at this; omega
        subst hc1
        go_wp2
        go_meet
        case rel => exact ⟨none, rfl, hrow1, Below.refl _ _⟩
      | some ad =>
        obtain ⟨wX, hcp, hrow, hbel⟩ := copy_new (.bool false) Try.underlying23 Try.size4 wc (some ad) n1 c1 (fun i => .bool (ns i)) hrow1 (fun _ => rfl)
        have HR := hide hrow
        have HB := hide hbel
        clear hrow hbel hrow1
        go_wp2
        go_meet
        case rel => exact ⟨_, rfl, .inr ⟨wc.heap.size, 0, rfl, (unhide HR).lt, fun i hi => by simpa using (unhide HR).cell (i := i) hi⟩, unhide HB⟩
    case rest =>
      obtain ⟨an, rfl, hrow1, hbel1⟩ := hcut
      have HRG := hide ((unhide HR0).below hbel1)
      have HRN := hide hrow1
      have HB := hide ((unhide HB0).trans (hbel1.mono (unhide HB0).size))
      clear hrow1 hbel1 HR0 HB0 HN HA1 q22 q23 k22 k23
      go_wp2
      go_loop [11, 12] (fun t i => ∃ (k : Nat) (s : Int), k ≤ n ∧ i = .int .i64 k ∧ t = .int .i64 s ∧ 0 ≤ s ∧ s ≤ 4096 ∧ ∀ j, j < k → ((gs j).size : Int) ≤ s) (fun _ i => n - (intOf i).toNat)
      case atStart => exact ⟨0, 0, Nat.zero_le _, rfl, rfl, by omega, by omega, fun j hj => by omega⟩
      case round =>
        obtain ⟨k, s, hk, rfl, rfl, hs0, hs1, hall⟩ := hrel
        have HAll := hide hall
        clear hall
        by_cases hlt : k < n
        · rcases unhide HRG with h0 | ⟨bg, og, rfl, hgl, hgc⟩
          · omega
          have q1 := hgc k hlt
          have hsz := unhide HS k hlt
          clear hgc hgl
          by_cases d : s + (gs k).size ≤ 4096
          · have td : decide ((4096 : Int) < s + ((gs k).size : Int)) = false := by simp; omega
            go_wp2
            go_round
            case rel =>
              refine ⟨k + 1, s + (gs k).size, by omega, by go_num, rfl, by omega, d, fun j hj => ?_⟩
              by_cases hjk : j = k
              · subst hjk; omega
              · have := unhide HAll j (by omega); omega
            case measure => simp [intOf]; omega
          · go_wp2
            go_ret
            exact ⟨rfl, unhide HB⟩
        · clear HAll HS
          rcases unhide HOff with t1 | ⟨t1, t2 | ⟨t2, t3⟩⟩
          · have t1' : ((n1 : Int) != (n : Int)) = true := by simp [bne, t1]
            go_wp2
            go_ret
            exact ⟨rfl, unhide HB⟩
          · have t1' : ((n1 : Int) != (n : Int)) = false := by simp [bne, t1]
            go_wp2
            go_ret
            exact ⟨rfl, unhide HB⟩
          · have t1' : ((n1 : Int) != (n : Int)) = false := by simp [bne, t1]
            go_wp2
            go_ret
            exact ⟨rfl, unhide HB⟩

set_option maxHeartbeats 1000000 in
theorem any_long (a0 a1 : Option Addr) (n0 c0 n1 c1 : Nat) (cut : Int) (gs : Nat → ByteArray) (m : ByteArray) (w : World) (hn0 : n0 ≤ maxLen) (hn1 : n1 ≤ maxLen) (hm : m.size ≤ maxLen)
    (hgs : ∀ i, i < n0 → (gs i).size ≤ maxLen) (hg : Row w a0 n0 (fun i => .string (gs i)))
    (hlong : decide ((4096 : Int) < (n0 : Int)) = true ∨ (decide ((4096 : Int) < (n0 : Int)) = false ∧ (decide ((4096 : Int) < (n1 : Int)) = true ∨ (decide ((4096 : Int) < (n1 : Int)) = false ∧ decide ((4096 : Int) < (m.size : Int)) = true)))) :
    Calls Try.prog 3 #[.slice a0 n0 c0, .slice a1 n1 c1, .int .i64 cut, .string m] w fun e w' => e = .returned (.bool true) ∧ Below w.heap.size w w' := by
  have hcall := hide (bytes1_any a0 a1 n0 c0 n1 c1 cut gs m w hn0 hn1 hm hgs hg)
  clear hg hgs hn0 hn1 hm
  rcases hlong with t1 | ⟨t1, t2 | ⟨t2, t3⟩⟩
  all_goals
    go_enter Try.func3, Try.ntmps3
    go_wp2_with fail
    refine (unhide hcall).mono ?_
    rintro e w1 ⟨⟨b, rfl, hsm⟩, hw⟩
    clear hsm hcall
    subst hw
    cases b
    all_goals
      go_wp2
      go_ret
      exact ⟨rfl, Below.refl _ _⟩

theorem any_walk (a0 a1 : Option Addr) (n0 c0 n1 c1 : Nat) (cut : Int) (gs : Nat → ByteArray) (ns : Nat → Bool) (m : ByteArray) (w : World) (hn0 : n0 ≤ maxLen) (hn1 : n1 ≤ maxLen) (hm : m.size ≤ maxLen)
    (hgs : ∀ i, i < n0 → (gs i).size ≤ maxLen) (hg : Row w a0 n0 (fun i => .string (gs i))) (hb : Row w a1 n1 (fun i => .bool (ns i))) (ha0 : a0 = none → n0 = 0 ∧ c0 = 0) (ha1 : a1 = none → n1 = 0 ∧ c1 = 0) :
    Calls Try.prog 3 #[.slice a0 n0 c0, .slice a1 n1 c1, .int .i64 cut, .string m] w fun e w' => e = .returned (.bool true) ∧ Below w.heap.size w w' := by
  by_cases d0 : n0 ≤ 4096
  case neg => exact any_long a0 a1 n0 c0 n1 c1 cut gs m w hn0 hn1 hm hgs hg (.inl (by simp; omega))
  by_cases d1 : n1 ≤ 4096
  case neg => exact any_long a0 a1 n0 c0 n1 c1 cut gs m w hn0 hn1 hm hgs hg (.inr ⟨by simp; omega, .inl (by simp; omega)⟩)
  by_cases d2 : m.size ≤ 4096
  case neg => exact any_long a0 a1 n0 c0 n1 c1 cut gs m w hn0 hn1 hm hgs hg (.inr ⟨by simp; omega, .inr ⟨by simp; omega, by simp; omega⟩⟩)
  by_cases e1 : n1 = n0
  case neg => exact any_off a0 a1 n0 n1 c0 c1 cut gs ns m w d0 d1 d2 (.inl (by simp; omega)) hgs hg hb ha0 ha1
  by_cases e2 : cut < 0
  case pos => exact any_off a0 a1 n0 n1 c0 c1 cut gs ns m w d0 d1 d2 (.inr ⟨by simp; omega, .inl (by simpa using e2)⟩) hgs hg hb ha0 ha1
  by_cases e3 : (n0 : Int) < cut
  case pos => exact any_off a0 a1 n0 n1 c0 c1 cut gs ns m w d0 d1 d2 (.inr ⟨by simp; omega, .inr ⟨by simpa using e2, by simpa using e3⟩⟩) hgs hg hb ha0 ha1
  subst e1
  obtain ⟨k, rfl⟩ := Int.eq_ofNat_of_zero_le (show 0 ≤ cut by omega)
  exact any_main a0 a1 n1 c0 c1 k gs ns m w d0 d2 (by omega) hgs hg hb ha0 ha1
end Go.Proofs.Qxb6627720a
