import Derived.Test.Qxb6627770aFmtWalkC
namespace Go.Proofs.Qxb6627770aFmt
open Go.ChangeShapes Go.WideShapes Go.ChangeAt Go.RowKit

theorem fits_drop {pl T np idx k : Int} (h : Fits pl T np idx) (k0 : 0 ≤ k) (k1 : k ≤ idx) :
    Fits pl (T - k * pl) (np - k) (idx - k) ∧ pieceSz pl (T - k * pl) (idx - k) = pieceSz pl T idx ∧ 0 ≤ k * pl ∧ k * pl ≤ idx * pl := by
  obtain ⟨h1, h2, h3, h4, h5, h6, h7, h8, h9, h10⟩ := h
  have e : (idx - k) * pl = idx * pl - k * pl := Int.sub_mul _ _ _
  have kp : 0 ≤ k * pl := Int.mul_nonneg k0 (by omega)
  have kq : k * pl ≤ idx * pl := Int.mul_le_mul_of_nonneg_right k1 (by omega)
  refine ⟨⟨h1, h2, by omega, by omega, by omega, by omega, by omega, by omega, fun c => ?_, fun c => ?_⟩, ?_, kp, kq⟩
  · have := h9 (by omega); omega
  · have := h10 (by omega); omega
  · unfold pieceSz
    rw [e, show T - k * pl - (idx * pl - k * pl) = T - idx * pl from by omega]

set_option maxHeartbeats 1000000 in
theorem dep_early (pl T np idx k : Int) (w : World) (hp : -9223372036854775808 ≤ pl ∧ pl ≤ 9223372036854775807) (hT : -9223372036854775808 ≤ T ∧ T ≤ 9223372036854775807)
    (h : pl < 1 ∨ 1073741824 < pl ∨ T < 1 ∨ ¬ np = pieces pl T ∨ idx < 0 ∨ np ≤ idx ∨ k < 0 ∨ idx < k) :
    Calls Tryf.prog 4 #[.int .i64 pl, .int .i64 T, .int .i64 np, .int .i64 idx, .int .i64 k] w fun e w' => e = .returned (.bool true) ∧ w' = w := by
  by_cases c1 : pl < 1
  case pos =>
    go_enter Tryf.func4, Tryf.ntmps4
    go_wp2
    go_ret
    exact ⟨rfl, rfl⟩
  by_cases c2 : 1073741824 < pl
  case pos =>
    go_enter Tryf.func4, Tryf.ntmps4
    go_wp2
    go_ret
    exact ⟨rfl, rfl⟩
  by_cases c3 : T < 1
  case pos =>
    go_enter Tryf.func4, Tryf.ntmps4
    go_wp2
    go_ret
    exact ⟨rfl, rfl⟩
  have hp0 : 0 < pl := by omega
  have hT0 : 0 ≤ T := by omega
  rcases ways pl T np (by omega) hT0 hT.2 with ⟨tm, tq⟩ | ⟨tm, tq, b1, b2⟩
  all_goals
    by_cases cq : np = pieces pl T
    case neg =>
      rw [decide_eq_false cq] at tq
      clear h cq
      go_enter Tryf.func4, Tryf.ntmps4
      go_wp2
      go_ret
      exact ⟨rfl, rfl⟩
    case pos =>
      rw [decide_eq_true cq] at tq
      by_cases c4 : idx < 0
      · clear h cq
        go_enter Tryf.func4, Tryf.ntmps4
        go_wp2
        go_ret
        exact ⟨rfl, rfl⟩
      · by_cases c5 : np ≤ idx
        · clear h cq
          go_enter Tryf.func4, Tryf.ntmps4
          go_wp2
          go_ret
          exact ⟨rfl, rfl⟩
        · by_cases c6 : k < 0
          · clear h cq
            go_enter Tryf.func4, Tryf.ntmps4
            go_wp2
            go_ret
            exact ⟨rfl, rfl⟩
          · have c7 : idx < k := by omega
            clear h cq
            go_enter Tryf.func4, Tryf.ntmps4
            go_wp2
            go_ret
            exact ⟨rfl, rfl⟩

set_option maxRecDepth 100000 in
set_option maxHeartbeats 2000000 in
theorem dep_main (pl T np idx k : Int) (w : World) (hF : Fits pl T np idx) (hT1 : 1 ≤ T) (hq : np = pieces pl T) (k0 : 0 ≤ k) (k1 : k ≤ idx) :
    Calls Tryf.prog 4 #[.int .i64 pl, .int .i64 T, .int .i64 np, .int .i64 idx, .int .i64 k] w fun e w' => e = .returned (.bool true) ∧ Below w.heap.size w w' := by
  have hS := hF.size
  obtain ⟨hD, hDS, kp, kq⟩ := fits_drop hF k0 k1
  have HF := hide hF
  have HD := hide hD
  clear hD
  obtain ⟨h1, h2, h3, h4, h5, h6, h7, h8, h9, h10⟩ := hF
  have hp0 : 0 < pl := by omega
  have hT0 : 0 ≤ T := by omega
  have hw := ways pl T np (by omega) hT0 h3
  rw [decide_eq_true hq] at hw
  clear h9 h10 hq
  generalize hSS : pieceSz pl T idx = S at hS hDS
  have HS := hide hSS
  have HDS := hide hDS
  clear hSS hDS
  have hcn := cnt_is S hS.1
  obtain ⟨M, hM⟩ : ∃ M : Nat, cnt S = M + 1 := ⟨cnt S - 1, by omega⟩
  have HN := hide hM
  rw [hM] at hcn
  clear hM
  obtain ⟨hS1, hS2⟩ := hS
  obtain ⟨hN1, hN2, hN3⟩ := hcn
  have t1 : decide (pl < 1) = false := by simp; omega
  have t2 : decide (1073741824 < pl) = false := by simp; omega
  have t3 : decide (T < 1) = false := by simp; omega
  have t4 : decide (idx < 0) = false := by simp; omega
  have t5 : decide (np ≤ idx) = false := by simp; omega
  have t6 : decide (k < 0) = false := by simp; omega
  have t7 : decide (idx < k) = false := by simp; omega
  have hcq : (S + 16384 - 1) / 16384 = (M : Int) + 1 := by omega
  rcases hw with ⟨tm, tq⟩ | ⟨tm, tq, d1, d2⟩
  all_goals
    go_enter Tryf.func4, Tryf.ntmps4
    go_wp2_with fail
    refine (model_any _ _ _ _ h1 h2 h3 h7 h8).mono ?_
    rintro e w1 ⟨rfl, hw⟩
    subst hw
    rw [unhide HS]
    go_wp2_with fail
    refine (newLayout_any _ _ _ _).mono ?_
    rintro e w2 ⟨rfl, hb2⟩
    have HB2 := hide hb2
    clear hb2
    go_wp2_with fail
    refine (newLayout_any _ _ _ _).mono ?_
    rintro e w3 ⟨rfl, hb3⟩
    have q1 := hb3.cell (p := ⟨w2.heap.size, 0, none⟩) (by simp)
    have q2 := hb3.cell (p := ⟨w2.heap.size, 1, none⟩) (by simp)
    have q3 := hb3.cell (p := ⟨w2.heap.size, 2, none⟩) (by simp)
    have sz3 : w2.heap.size < w3.heap.size := by have := hb3.size; simp at this; omega
    simp at q1 q2 q3
    have HB3 := hide hb3
    clear hb3
    go_wp2_with fail
    refine (blocks_any _ _ _ _ _ (unhide HF)).mono ?_
    rintro e w4 ⟨v, rfl, hown, hb4⟩
    rw [unhide HS, unhide HN] at hown
    obtain ⟨g, cap, rfl, hg, hat⟩ := at_of_own hN1 hown
    have q4 := hb4.cell (p := ⟨w3.heap.size, 0, none⟩) (by simp)
    have q5 := hb4.cell (p := ⟨w3.heap.size, 1, none⟩) (by simp)
    have q6 := hb4.cell (p := ⟨w3.heap.size, 2, none⟩) (by simp)
    have sz4 : w3.heap.size < w4.heap.size := by have := hb4.size; simp at this; omega
    simp at q4 q5 q6
    have HA := hide hat
    have HB4 := hide hb4
    clear hb4 hat hown hg q1 q2 q3
    go_wp2_with fail
    refine (blocks_any _ _ _ _ _ (unhide HD)).mono ?_
    rintro e w5 ⟨v, rfl, hown, hb5⟩
    rw [unhide HDS, unhide HN] at hown
    obtain ⟨g2, cap2, rfl, hg2, hat2⟩ := at_of_own hN1 hown
    have hB : Below w1.heap.size w1 w5 := by
      have y2 := unhide HB2
      have y3 := unhide HB3
      have y4 := unhide HB4
      have s2 := y2.size
      refine Below.trans ?_ (hb5.mono (by omega))
      refine Below.trans ?_ (y4.mono (by simp; omega))
      refine Below.alloc ?_ (by omega) _
      refine Below.trans ?_ (y3.mono (by simp; omega))
      exact y2.alloc s2 _
    have HA1 := hide ((unhide HA).below hb5)
    have HA2 := hide hat2
    have HB := hide hB
    clear hB hb5 HB2 HB3 HB4 hat2 hown hg2 q4 q5 q6 HA sz3 sz4
    go_wp2
    go_loopw [18] (fun i wr => ∃ j : Nat, j ≤ M + 1 ∧ i = .int .i64 j ∧ At wr g (M + 1) idx S ∧ At wr g2 (M + 1) (idx - k) S ∧ Below w1.heap.size w1 wr) (fun i _ => M + 1 - (intOf i).toNat)
    case atStart => exact ⟨0, Nat.zero_le _, rfl, unhide HA1, unhide HA2, unhide HB⟩
    case round =>
      obtain ⟨j, hj, rfl, hA1, hA2, hB⟩ := hrel
      have JA1 := hide hA1
      have JA2 := hide hA2
      have JB := hide hB
      clear hA1 hA2 hB HA1 HA2 HB
      by_cases hlt : j < M + 1
      · obtain ⟨q1, q2, q3⟩ := (unhide JA1).2 j hlt
        obtain ⟨q4, q5, q6⟩ := (unhide JA2).2 j hlt
        have hlt' : (j : Int) < (M : Int) + 1 := by omega
        obtain ⟨L, hL⟩ : ∃ L, min 16384 (S - 16384 * (j : Int)) = L := ⟨_, rfl⟩
        rw [hL] at q3 q6
        clear hL
        obtain ⟨Bg, hBg⟩ : ∃ Bg, 16384 * (j : Int) = Bg := ⟨_, rfl⟩
        rw [hBg] at q2 q5
        clear hBg
        have g1 : (Bg != Bg) = false := by simp
        have g2' : (L != L) = false := by simp
        go_wp2
        go_quiet (fail)
        go_wp2
        go_roundw
        case rel => exact ⟨j + 1, by omega, by go_num, (unhide JA1).below (below_drewN (Below.refl _ _) _), (unhide JA2).below (below_drewN (Below.refl _ _) _), below_drewN (unhide JB) _⟩
        case measure => simp [intOf]; omega
      · obtain rfl : j = M + 1 := by omega
        obtain ⟨q1, q2, q3⟩ := (unhide JA1).2 M (by omega)
        obtain ⟨L, hL⟩ : ∃ L, min 16384 (S - 16384 * (M : Int)) = L := ⟨_, rfl⟩
        rw [hL] at q3
        have l1 : 1 ≤ L := by omega
        have l2 : L ≤ 16384 := by omega
        have l4 : ((16384 * (M : Int) + L) == S) = true := by simp; omega
        clear hL
        go_wp2
        go_ret
        exact ⟨rfl, (unhide JB).alloc (unhide JB).size _⟩
end Go.Proofs.Qxb6627770aFmt
