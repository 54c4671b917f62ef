import Derived.Test.Qxb6627770aFmtWalkA
namespace Go.Proofs.Qxb6627770aFmt
open Go.ChangeShapes Go.WideShapes Go.ChangeAt Go.RowKit

/-- The number of pieces. -/
def pieces (pl T : Int) : Int := if T % pl = 0 then T / pl else T / pl + 1

theorem fits_of (pl T np idx : Int) (h1 : 1 ≤ pl) (h2 : pl ≤ 1073741824) (hT : T ≤ 9223372036854775807) (hn : np ≤ 9223372036854775807) (hq : np = pieces pl T) (h0 : 0 ≤ idx) (hlt : idx < np) : Fits pl T np idx := by
  have hdm : pl * (T / pl) + T % pl = T := Int.mul_ediv_add_emod T pl
  have hr0 : 0 ≤ T % pl := Int.emod_nonneg T (by omega)
  have hr1 : T % pl < pl := Int.emod_lt_of_pos T (by omega)
  have m0 : 0 ≤ idx * pl := Int.mul_nonneg h0 (by omega)
  unfold pieces at hq
  have hcomm : pl * (T / pl) = T / pl * pl := Int.mul_comm _ _
  by_cases c : T % pl = 0
  · rw [if_pos c] at hq
    have s1 : (T / pl - 1) * pl = T / pl * pl - pl := by rw [Int.sub_mul, Int.one_mul]
    have k1 : idx * pl ≤ (T / pl - 1) * pl := Int.mul_le_mul_of_nonneg_right (by omega) (by omega)
    refine ⟨h1, h2, hT, h0, hlt, hn, m0, by omega, fun _ => by omega, fun e => ?_⟩
    have : idx = T / pl - 1 := by omega
    rw [this]; omega
  · rw [if_neg c] at hq
    have k1 : idx * pl ≤ T / pl * pl := Int.mul_le_mul_of_nonneg_right (by omega) (by omega)
    refine ⟨h1, h2, hT, h0, hlt, hn, m0, by omega, fun e => ?_, fun e => ?_⟩
    · have s1 : (T / pl - 1) * pl = T / pl * pl - pl := by rw [Int.sub_mul, Int.one_mul]
      have k2 : idx * pl ≤ (T / pl - 1) * pl := Int.mul_le_mul_of_nonneg_right (by omega) (by omega)
      omega
    · have : idx = T / pl := by omega
      rw [this]; omega

theorem blks_at (idx sz : Int) (j : Nat) (hj : j < 3) : ∀ n k, k < n → (blks idx sz n)[k * 3 + j]? = (blk idx sz k)[j]?
  | 0, k, h => by omega
  | n + 1, k, h => by
    have hl := blks_length idx sz n
    by_cases hk : k < n
    · rw [blks, List.getElem?_append_left (by omega)]; exact blks_at idx sz j hj n k hk
    · obtain rfl : k = n := by omega
      rw [blks, List.getElem?_append_right (by omega), hl]
      congr 1; omega

/-- Where the blocks lie: one row, three cells a block. -/
def At (w : World) (g n : Nat) (idx sz : Int) : Prop :=
  g < w.heap.size ∧ ∀ k, k < n → w.cell? ⟨g, k * 3, none⟩ = some (.int .i64 idx) ∧ w.cell? ⟨g, k * 3 + 1, none⟩ = some (.int .i64 (16384 * k)) ∧ w.cell? ⟨g, k * 3 + 2, none⟩ = some (.int .i64 (min 16384 (sz - 16384 * k)))

theorem At.below {w w' : World} {g n : Nat} {idx sz : Int} (h : At w g n idx sz) (hb : Below w.heap.size w w') : At w' g n idx sz := by
  refine ⟨Nat.lt_of_lt_of_le h.1 hb.size, fun k hk => ?_⟩
  obtain ⟨a, b, c⟩ := h.2 k hk
  exact ⟨(hb.cell (p := ⟨g, k * 3, none⟩) h.1).trans a, (hb.cell (p := ⟨g, k * 3 + 1, none⟩) h.1).trans b, (hb.cell (p := ⟨g, k * 3 + 2, none⟩) h.1).trans c⟩

theorem at_of_own {w : World} {base n : Nat} {v : Value} {idx sz : Int} (hn : 1 ≤ n) (h : w.ownsRow base 30 3 v n (blks idx sz n)) :
    ∃ g cap, v = .slice (some ⟨g, 0, none⟩) n cap ∧ base ≤ g ∧ At w g n idx sz := by
  obtain ⟨_, ⟨_, h0⟩ | ⟨g, cap, cur, rfl, hb, hblk, hc1, hc2, hsz, htk⟩⟩ := h
  · omega
  · have hlt : g < w.heap.size := (Array.getElem?_eq_some_iff.1 hblk).1
    have hcell : ∀ o, o < n * 3 → w.cell? ⟨g, o, none⟩ = (blks idx sz n)[o]? := fun o ho => by
      rw [← htk, List.getElem?_take_of_lt ho]
      simp [World.cell?, hblk]
    refine ⟨g, cap, rfl, hb, hlt, fun k hk => ⟨?_, ?_, ?_⟩⟩
    · rw [hcell _ (by omega)]; exact blks_at idx sz 0 (by omega) n k hk
    · rw [hcell _ (by omega)]; exact blks_at idx sz 1 (by omega) n k hk
    · rw [hcell _ (by omega)]; exact blks_at idx sz 2 (by omega) n k hk

theorem cnt_is (S : Int) (h : 1 ≤ S) : 1 ≤ cnt S ∧ 16384 * ((cnt S : Nat) : Int) - 16384 < S ∧ S ≤ 16384 * ((cnt S : Nat) : Int) := by
  unfold cnt; omega

end Go.Proofs.Qxb6627770aFmt
