import Derived.Test.Qxb6627770aFmtWalkB
namespace Go.Proofs.Qxb6627770aFmt
open Go.ChangeShapes Go.WideShapes Go.ChangeAt Go.RowKit

theorem div_room (pl T : Int) (h1 : 1 ≤ pl) (h0 : 0 ≤ T) (hT : T ≤ 9223372036854775807) (c : ¬ T % pl = 0) : 0 ≤ T / pl ∧ T / pl + 1 ≤ 9223372036854775807 := by
  have hdm : pl * (T / pl) + T % pl = T := Int.mul_ediv_add_emod T pl
  have hr0 : 0 ≤ T % pl := Int.emod_nonneg T (by omega)
  have hq0 : 0 ≤ T / pl := Int.ediv_nonneg h0 (by omega)
  have h2 : 2 ≤ pl := by
    by_cases e : pl = 1
    · subst e; omega
    · omega
  have k := Int.mul_le_mul_of_nonneg_right h2 hq0
  omega

/-- The two ways in which the number of pieces is reckoned. -/
theorem ways (pl T np : Int) (h1 : 1 ≤ pl) (h0 : 0 ≤ T) (hT : T ≤ 9223372036854775807) :
    ((T % pl != 0) = false ∧ (np == T / pl) = decide (np = pieces pl T)) ∨
    ((T % pl != 0) = true ∧ (np == T / pl + 1) = decide (np = pieces pl T) ∧ 0 ≤ T / pl ∧ T / pl + 1 ≤ 9223372036854775807) := by
  by_cases c : T % pl = 0
  · exact .inl ⟨by simp [c], by unfold pieces; rw [if_pos c]; rfl⟩
  · exact .inr ⟨by simp [c], by unfold pieces; rw [if_neg c]; rfl, div_room pl T h1 h0 hT c⟩

set_option maxHeartbeats 1000000 in
theorem tile_early (pl T np idx : Int) (w : World) (hp : -9223372036854775808 ≤ pl ∧ pl ≤ 9223372036854775807) (hT : -9223372036854775808 ≤ T ∧ T ≤ 9223372036854775807)
    (h : pl < 1 ∨ 1073741824 < pl ∨ T < 1 ∨ ¬ np = pieces pl T ∨ idx < 0 ∨ np ≤ idx) :
    Calls Tryf.prog 3 #[.int .i64 pl, .int .i64 T, .int .i64 np, .int .i64 idx] w fun e w' => e = .returned (.bool true) ∧ w' = w := by
  by_cases c1 : pl < 1
  case pos =>
    go_enter Tryf.func3, Tryf.ntmps3
    go_wp2
    go_ret
    exact ⟨rfl, rfl⟩
  by_cases c2 : 1073741824 < pl
  case pos =>
    go_enter Tryf.func3, Tryf.ntmps3
    go_wp2
    go_ret
    exact ⟨rfl, rfl⟩
  by_cases c3 : T < 1
  case pos =>
    go_enter Tryf.func3, Tryf.ntmps3
    go_wp2
    go_ret
    exact ⟨rfl, rfl⟩
  have hp0 : 0 < pl := by omega
  have hT0 : 0 ≤ T := by omega
  rcases ways pl T np (by omega) hT0 hT.2 with ⟨tm, tq⟩ | ⟨tm, tq, b1, b2⟩
  all_goals
    by_cases cq : np = pieces pl T
    case neg =>
      rw [decide_eq_false cq] at tq
      clear h cq
      go_enter Tryf.func3, Tryf.ntmps3
      go_wp2
      go_ret
      exact ⟨rfl, rfl⟩
    case pos =>
      rw [decide_eq_true cq] at tq
      by_cases c4 : idx < 0
      · clear h cq
        go_enter Tryf.func3, Tryf.ntmps3
        go_wp2
        go_ret
        exact ⟨rfl, rfl⟩
      · have c5 : np ≤ idx := by omega
        clear h cq
        go_enter Tryf.func3, Tryf.ntmps3
        go_wp2
        go_ret
        exact ⟨rfl, rfl⟩

set_option maxHeartbeats 2000000 in
theorem tile_main (pl T np idx : Int) (w : World) (hF : Fits pl T np idx) (hT1 : 1 ≤ T) (hq : np = pieces pl T) :
    Calls Tryf.prog 3 #[.int .i64 pl, .int .i64 T, .int .i64 np, .int .i64 idx] w fun e w' => e = .returned (.bool true) ∧ Below w.heap.size w w' := by
  have hS := hF.size
  have HF := hide hF
  obtain ⟨h1, h2, h3, h4, h5, h6, h7, h8, h9, h10⟩ := hF
  have hp0 : 0 < pl := by omega
  have hT0 : 0 ≤ T := by omega
  have hw := ways pl T np (by omega) hT0 h3
  rw [decide_eq_true hq] at hw
  clear h9 h10 hq
  generalize hSS : pieceSz pl T idx = S at hS
  have HS := hide hSS
  clear hSS
  have hcn := cnt_is S hS.1
  generalize hNN : cnt S = N at hcn
  have HN := hide hNN
  clear hNN
  obtain ⟨hS1, hS2⟩ := hS
  obtain ⟨hN1, hN2, hN3⟩ := hcn
  have t1 : decide (pl < 1) = false := by simp; omega
  have t2 : decide (1073741824 < pl) = false := by simp; omega
  have t3 : decide (T < 1) = false := by simp; omega
  have t4 : decide (idx < 0) = false := by simp; omega
  have t5 : decide (np ≤ idx) = false := by simp; omega
  rcases hw with ⟨tm, tq⟩ | ⟨tm, tq, d1, d2⟩
  all_goals
    go_enter Tryf.func3, Tryf.ntmps3
    go_wp2_with fail
    refine (model_any _ _ _ _ h1 h2 h3 h7 h8).mono ?_
    rintro e w1 ⟨rfl, hw⟩
    subst hw
    rw [unhide HS]
    go_wp2_with fail
    refine (newLayout_any _ _ _ _).mono ?_
    rintro e w2 ⟨rfl, hb2⟩
    have HB2 := hide hb2
    clear hb2
    go_wp2_with fail
    refine (pieceSize_any _ _ _ _ _ (unhide HF)).mono ?_
    rintro e w3 ⟨rfl, hb3⟩
    rw [unhide HS]
    have q1 := hb3.cell (p := ⟨w2.heap.size, 0, none⟩) (by simp)
    have q2 := hb3.cell (p := ⟨w2.heap.size, 1, none⟩) (by simp)
    have q3 := hb3.cell (p := ⟨w2.heap.size, 2, none⟩) (by simp)
    simp at q1 q2 q3
    have HB3 := hide hb3
    clear hb3
    go_wp2_with fail
    refine (blocks_any _ _ _ _ _ (unhide HF)).mono ?_
    rintro e w4 ⟨v, rfl, hown, hb4⟩
    rw [unhide HS, unhide HN] at hown
    obtain ⟨g, cap, rfl, hg, hat⟩ := at_of_own hN1 hown
    have HA := hide hat
    have hB : Below w1.heap.size w1 w4 := by
      have y2 := unhide HB2
      have y3 := unhide HB3
      have s2 := y2.size
      have s3 := y3.size
      simp at s3
      refine Below.trans ?_ (hb4.mono (by omega))
      refine Below.trans ?_ (y3.mono (by simp; omega))
      exact y2.alloc s2 _
    have HB := hide hB
    clear hB hb4 HB2 HB3 hat hown hg q1 q2 q3
    go_wp2
    go_loopw [14, 15] (fun en i wr => ∃ (k : Nat) (t : Int), k ≤ N ∧ i = .int .i64 k ∧ en = .int .i64 t ∧ (k < N → t = 16384 * k) ∧ (k = N → t = S) ∧ Below w4.heap.size w4 wr) (fun _ i _ => N - (intOf i).toNat)
    case atStart => exact ⟨0, 0, Nat.zero_le _, rfl, rfl, fun _ => rfl, fun h => by omega, Below.refl _ _⟩
    case round =>
      obtain ⟨k, t, hk, rfl, rfl, hk1, hk2, hbel⟩ := hrel
      have HB5 := hide hbel
      by_cases hlt : k < N
      · obtain rfl : t = 16384 * k := hk1 hlt
        obtain ⟨q1, q2, q3⟩ := ((unhide HA).below hbel).2 k hlt
        clear hk1 hk2 hbel
        obtain ⟨L, hL⟩ : ∃ L, min 16384 (S - 16384 * (k : Int)) = L := ⟨_, rfl⟩
        rw [hL] at q3
        have l1 : 1 ≤ L := by omega
        have l2 : L ≤ 16384 := by omega
        have l3 : 16384 * (k : Int) + L ≤ S := by omega
        by_cases c : k + 1 < N
        · obtain rfl : L = 16384 := by omega
          clear hL
          go_wp2
          go_roundw
          case rel => exact ⟨k + 1, 16384 * k + 16384, by omega, by go_num, by go_num, fun _ => by omega, fun h => by omega, (unhide HB5).alloc (unhide HB5).size _⟩
          case measure => simp [intOf]; omega
        · have l4 : 16384 * (k : Int) + L = S := by omega
          have L4 := hide l4
          clear hL l4
          go_wp2
          go_roundw
          case rel => exact ⟨k + 1, 16384 * k + L, by omega, by go_num, by go_num, fun h => by omega, fun _ => unhide L4, (unhide HB5).alloc (unhide HB5).size _⟩
          case measure => simp [intOf]; omega
      · obtain rfl : t = S := hk2 (by omega)
        clear hk1 hk2 hbel
        go_wp2
        go_ret
        exact ⟨ret_bool (by simp), (unhide HB).trans ((unhide HB5).mono (unhide HB).size)⟩
end Go.Proofs.Qxb6627770aFmt
