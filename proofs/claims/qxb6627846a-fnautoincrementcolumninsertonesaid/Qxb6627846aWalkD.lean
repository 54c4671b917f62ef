import Derived.Test.Qxb6627846aWalkC
namespace Go.Proofs.Qxb6627846a
open Go.ChangeShapes Go.WideShapes Go.ChangeAt Go.RowKit

set_option maxHeartbeats 1000000 in
theorem ins_early (a : Option Addr) (n c : Nat) (cut : Int) (b : Bool) (w : World) (hn : n ≤ maxLen) (h : decide ((65536 : Int) < (n : Int)) = true ∨
    (decide ((65536 : Int) < (n : Int)) = false ∧ (decide (cut < 0) = true ∨ (decide (cut < 0) = false ∧ decide ((n : Int) < cut) = true)))) :
    Calls Try.prog 4 #[.slice a n c, .int .i64 cut, .bool b] w fun e w' => e = .returned (.bool true) ∧ w' = w := by
  rcases h with t1 | ⟨t1, t2 | ⟨t2, t3⟩⟩
  all_goals
    go_enter Try.func4, Try.ntmps4
    go_wp2_with fail
    refine (bytesI_any _ _ _ _ _ _ hn).mono ?_
    rintro e w1 ⟨⟨x, rfl⟩, hw⟩
    subst hw
    cases x
    all_goals
      go_wp2
      go_ret
      exact ⟨rfl, rfl⟩

/-- The new list behind k rounds of the first loop; of the second. -/
def p1 (fl : Nat → Bool) (k j : Nat) : Value := .bool (if j < k then fl j else false)
def p2 (fl : Nat → Bool) (m : Nat) (b : Bool) (k j : Nat) : Value := .bool (if j ≤ k then put fl m b j else false)

theorem p1_step (fl : Nat → Bool) (k j : Nat) : (if j = k then Value.bool (fl k) else p1 fl k j) = p1 fl (k + 1) j := by
  unfold p1
  by_cases e : j = k
  · subst e; rw [if_pos rfl, if_pos (by omega)]
  · rw [if_neg e]
    by_cases h : j < k
    · rw [if_pos h, if_pos (by omega)]
    · rw [if_neg h, if_neg (by omega)]

theorem p_mid (fl : Nat → Bool) (m : Nat) (b : Bool) (j : Nat) : (if j = m then Value.bool b else p1 fl m j) = p2 fl m b m j := by
  unfold p1 p2 put
  by_cases e : j = m
  · subst e; rw [if_pos rfl, if_pos (Nat.le_refl _), if_neg (by omega), if_pos rfl]
  · rw [if_neg e]
    by_cases h : j < m
    · rw [if_pos h, if_pos (by omega), if_pos h]
    · rw [if_neg h, if_neg (by omega)]

theorem p2_step (fl : Nat → Bool) (m : Nat) (b : Bool) (k j : Nat) (h : m ≤ k) : (if j = k + 1 then Value.bool (fl k) else p2 fl m b k j) = p2 fl m b (k + 1) j := by
  unfold p2 put
  by_cases e : j = k + 1
  · subst e; rw [if_pos rfl, if_pos (Nat.le_refl _), if_neg (by omega), if_neg (by omega), Nat.add_sub_cancel]
  · rw [if_neg e]
    by_cases hj : j ≤ k
    · have h2 : j ≤ k + 1 := by omega
      rw [if_pos hj, if_pos h2]
    · have h2 : ¬ j ≤ k + 1 := by omega
      rw [if_neg hj, if_neg h2]

theorem Try.info4 : (Try.prog.info? 4).map (fun i => (i.zero, i.size, i.bytes)) = some (some (.bool false), 1, 1) := by kernel_rfl

set_option maxHeartbeats 2000000 in
theorem ins_main (a : Option Addr) (n c m : Nat) (b : Bool) (fl : Nat → Bool) (w : World) (hn : n ≤ 65536) (hm : m ≤ n) (ha : a = none → n = 0) (hr : Row w a n (fun i => .bool (fl i))) :
    Calls Try.prog 4 #[.slice a n c, .int .i64 (m : Int), .bool b] w fun e w' => e = .returned (.bool true) ∧ Below w.heap.size w w' := by
  have t1 : decide ((65536 : Int) < (n : Int)) = false := by simp; omega
  have t2 : decide ((m : Int) < 0) = false := by simp
  have t3 : decide ((n : Int) < (m : Int)) = false := by simp; omega
  have t3' : decide (n < m) = false := by simp; omega
  have hmk := fun (w : World) => run_make_row' (P := Try.prog) 22 4 (.bool false) 1 Try.underlying22 Try.info4 rfl .i64 .i64 (n + 1) (by omega) (by omega) w
  have ec : ((n + 1 : Nat) : Int) = (n : Int) + 1 := by omega
  rw [ec] at hmk
  have HR := hide hr
  have HA := hide ha
  clear hr ha
  go_enter Try.func4, Try.ntmps4
  go_wp2_with fail
  refine (bytesI_any _ _ _ _ _ _ (by unfold maxLen; omega)).mono ?_
  rintro e w1 ⟨⟨x, rfl⟩, hw⟩
  subst hw
  cases x
  case false =>
    go_wp2
    go_ret
    exact ⟨rfl, Below.refl _ _⟩
  go_wp2
  go_loopw [8] (fun i wr => ∃ k : Nat, k ≤ m ∧ i = .int .i64 k ∧ wr.rowIs w1.heap.size 4 (n + 1) (p1 fl k) ∧ Below w1.heap.size w1 wr) (fun i _ => m - (intOf i).toNat)
  case atStart => exact ⟨0, Nat.zero_le _, rfl, World.rowIs_made w1 (.bool false) (n + 1) 4, (Below.refl _ _).alloc (Nat.le_refl _) _⟩
  case round =>
    obtain ⟨k, hk, rfl, hrow, hbel⟩ := hrel
    have HRow := hide hrow
    have HB := hide hbel
    by_cases hlt : k < m
    · rcases unhide HR with h0 | ⟨bb, o, rfl, hl, hcell⟩
      · omega
      have q1 := ((hbel.cell (p := ⟨bb, o + k, none⟩) hl).trans (hcell k (by omega)))
      have q2 := hrow.cell (i := k) (by omega)
      have q3 := hrow.frozen k
      have hkn : (k : Int) < (n : Int) := by omega
      clear hrow hbel hcell hl hmk
      go_wp2
      go_roundw
      case rel => exact ⟨k + 1, by omega, by go_num, ((unhide HRow).set k (.bool (fl k))).congr (fun j _ => p1_step fl k j), (unhide HB).setCell (p := ⟨w1.heap.size, k, none⟩) (Nat.le_refl _) _⟩
      case measure => simp [intOf]; omega
    · obtain rfl : k = m := by omega
      have q2 := hrow.cell (i := k) (by omega)
      have q3 := hrow.frozen k
      clear hrow hbel hmk
      go_wp2
      go_loopw [9] (fun i wr => ∃ l : Nat, k ≤ l ∧ l ≤ n ∧ i = .int .i64 l ∧ wr.rowIs w1.heap.size 4 (n + 1) (p2 fl k b l) ∧ Below w1.heap.size w1 wr) (fun i _ => n - (intOf i).toNat)
      case atStart => exact ⟨k, Nat.le_refl _, hm, rfl, ((unhide HRow).set k (.bool b)).congr (fun j _ => p_mid fl k b j), (unhide HB).setCell (p := ⟨w1.heap.size, k, none⟩) (Nat.le_refl _) _⟩
      case round =>
        obtain ⟨l, hkl, hln, rfl, hrow, hbel⟩ := hrel
        clear HRow HB
        have HRow := hide hrow
        have HB := hide hbel
        by_cases hlt2 : l < n
        · rcases unhide HR with h0 | ⟨bb, o, rfl, hl, hcell⟩
          · omega
          have q4 := ((hbel.cell (p := ⟨bb, o + l, none⟩) hl).trans (hcell l (by omega)))
          have q5 := hrow.cell (i := l + 1) (by omega)
          have q6 := hrow.frozen (l + 1)
          clear hrow hbel hcell hl q2 q3
          go_wp2
          go_roundw
          case rel => exact ⟨l + 1, by omega, by omega, by go_num, ((unhide HRow).set (l + 1) (.bool (fl l))).congr (fun j _ => p2_step fl k b l j hkl), (unhide HB).setCell (p := ⟨w1.heap.size, l + 1, none⟩) (Nat.le_refl _) _⟩
          case measure => simp [intOf]; omega
        · obtain rfl : l = n := by omega
          have hins : Row wr (some ⟨w1.heap.size, 0, none⟩) (l + 1) (fun i => .bool (put fl k b i)) :=
            .inr ⟨w1.heap.size, 0, rfl, hrow.lt, fun i hi => by
              rw [Nat.zero_add, hrow.cell (i := i) hi]; unfold p2; rw [if_pos (by omega)]⟩
          have HI := hide hins
          have HR1 := hide ((unhide HR).below hbel)
          clear hrow hbel hins q2 q3 HRow
          go_wp2_with fail
          refine (buildDef_any _ _ _ fl _ (by omega) (unhide HA) (unhide HR1)).mono ?_
          rintro e w2 ⟨d1, rfl, hD1, hb2⟩
          have HI2 := hide ((unhide HI).below hb2)
          have HB2 := hide ((unhide HB).trans (hb2.mono (unhide HB).size))
          clear hb2 HI HB HR1
          go_wp2_with fail
          refine (autoCol_any _ _ _ _ (by omega) hD1).mono ?_
          rintro e w3 ⟨rfl, hb3⟩
          have HI3 := hide ((unhide HI2).below hb3)
          have HB3 := hide ((unhide HB2).trans (hb3.mono (unhide HB2).size))
          clear hb3 HI2 HB2 hD1
          go_wp2_with fail
          refine (buildDef_any _ _ _ (put fl k b) _ (by omega) (fun h => by cases h) (unhide HI3)).mono ?_
          rintro e w4 ⟨d2, rfl, hD2, hb4⟩
          have HI4 := hide ((unhide HI3).below hb4)
          have HB4 := hide ((unhide HB3).trans (hb4.mono (unhide HB3).size))
          clear hb4 HI3 HB3
          go_wp2_with fail
          refine (autoCol_any _ _ _ _ (by omega) hD2).mono ?_
          rintro e w5 ⟨rfl, hb5⟩
          have HI5 := hide ((unhide HI4).below hb5)
          have HB5 := hide ((unhide HB4).trans (hb5.mono (unhide HB4).size))
          clear hb5 HI4 HB4 hD2
          have rO := first_range fl l
          have law := first_put fl l k b hm
          generalize first fl l = O at rO law ⊢
          by_cases cO : 0 ≤ O ∧ O < k
          · rw [if_pos cO] at law
            obtain ⟨cO1, cO2⟩ := cO
            have tq : (first (put fl k b) (l + 1) == O) = true := by rw [law]; simp
            clear law
            go_wp2_with fail
            refine (isFirst_any _ _ _ _ _ (by omega) (unhide HI5)).mono ?_
            rintro e w8 ⟨rfl, hw⟩
            subst hw
            go_wp2
            go_ret
            exact ⟨rfl, unhide HB5⟩
          · rw [if_neg cO] at law
            cases b with
            | true =>
              rw [if_pos rfl] at law
              have tq : (first (put fl k true) (l + 1) == (k : Int)) = true := by rw [law]; simp
              clear law
              by_cases cO1 : 0 ≤ O
              · have cO2 : ¬ O < k := fun h => cO ⟨cO1, h⟩
                clear cO
                go_wp2_with fail
                refine (isFirst_any _ _ _ _ _ (by omega) (unhide HI5)).mono ?_
                rintro e w8 ⟨rfl, hw⟩
                subst hw
                go_wp2
                go_ret
                exact ⟨rfl, unhide HB5⟩
              · clear cO
                go_wp2_with fail
                refine (isFirst_any _ _ _ _ _ (by omega) (unhide HI5)).mono ?_
                rintro e w8 ⟨rfl, hw⟩
                subst hw
                go_wp2
                go_ret
                exact ⟨rfl, unhide HB5⟩
            | false =>
              rw [if_neg (by simp)] at law
              by_cases cO1 : 0 ≤ O
              · have cO2 : ¬ O < k := fun h => cO ⟨cO1, h⟩
                rw [if_pos cO1] at law
                have tq : (first (put fl k false) (l + 1) == O + 1) = true := by rw [law]; simp
                clear cO law
                go_wp2_with fail
                refine (isFirst_any _ _ _ _ _ (by omega) (unhide HI5)).mono ?_
                rintro e w8 ⟨rfl, hw⟩
                subst hw
                go_wp2
                go_ret
                exact ⟨rfl, unhide HB5⟩
              · rw [if_neg cO1] at law
                have tq : (first (put fl k false) (l + 1) == -1) = true := by rw [law]; simp
                clear cO law
                go_wp2_with fail
                refine (isFirst_any _ _ _ _ _ (by omega) (unhide HI5)).mono ?_
                rintro e w8 ⟨rfl, hw⟩
                subst hw
                go_wp2
                go_ret
                exact ⟨rfl, unhide HB5⟩
end Go.Proofs.Qxb6627846a
