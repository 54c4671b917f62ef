import Derived.Test.Qxb6627770aFmtCards
import Derived.WalkKit
import Derived.ProofKit
import Derived.WalkSpells
import Derived.WalkLawsBesides
import Derived.Deep.QuietTactic
import Derived.BigQuiet
import Derived.Lib.MinMax
import Derived.Laws.MakeOwn
import Derived.Laws.OwnMore
namespace Go.Proofs.Qxb6627770aFmt
open Go.ChangeShapes Go.WideShapes Go.ChangeAt Go.RowKit

theorem hide {p : Prop} (h : p) : Hid p := h
theorem unhide {p : Prop} (h : Hid p) : p := h
theorem ret_bool {a b : Bool} (h : a = b) : Ending.returned (.bool a) = .returned (.bool b) := by rw [h]
theorem ret_int {k : IntKind} {a b : Int} (h : a = b) : Ending.returned (.int k a) = .returned (.int k b) := by rw [h]

/-- The size of a piece. -/
def pieceSz (pl T idx : Int) : Int := if T - idx * pl < pl then T - idx * pl else pl

theorem model_any (pl T idx : Int) (w : World) (h1 : 1 ≤ pl) (h2 : pl ≤ 1073741824) (hT : T ≤ 9223372036854775807) (h3 : 0 ≤ idx * pl) (h4 : idx * pl < T) :
    Calls Tryf.prog 5 #[.int .i64 pl, .int .i64 T, .int .i64 idx] w fun e w' => e = .returned (.int .i64 (pieceSz pl T idx)) ∧ w' = w := by
  unfold pieceSz
  by_cases c : T - idx * pl < pl
  · rw [if_pos c]
    go_enter Tryf.func5, Tryf.ntmps5
    go_wp2
    go_ret
    exact ⟨rfl, rfl⟩
  · rw [if_neg c]
    go_enter Tryf.func5, Tryf.ntmps5
    go_wp2
    go_ret
    exact ⟨rfl, rfl⟩

theorem newLayout_any (pl T np : Int) (w : World) :
    Calls Tryf.prog 6 #[.int .i64 pl, .int .i64 T, .int .i64 np] w fun e w' => e = .returned (.agg #[.int .i64 pl, .int .i64 T, .int .i64 np]) ∧ Below w.heap.size w w' := by
  go_enter Tryf.func6, Tryf.ntmps6
  go_wp2
  exact bodyPost_ret (v := .agg #[.int .i64 pl, .int .i64 T, .int .i64 np]) (by simp [results, Tryf.results6, go_sem]) rfl ⟨rfl, (Below.refl _ _).alloc (Nat.le_refl _) _⟩

theorem check_any (pl T np idx : Int) (w : World) (h0 : 0 ≤ idx) (h1 : idx < np) :
    Calls Tryf.prog 9 #[.agg #[.int .i64 pl, .int .i64 T, .int .i64 np], .int .i64 idx] w fun e w' => e = .returned (.tuple #[]) ∧ Below w.heap.size w w' := by
  go_enter Tryf.func9, Tryf.ntmps9
  go_wp2
  go_end0
  exact ⟨rfl, (Below.refl _ _).alloc (Nat.le_refl _) _⟩

/-- What PieceSize needs of its input. -/
structure Fits (pl T np idx : Int) : Prop where
  pl1 : 1 ≤ pl
  pl2 : pl ≤ 1073741824
  T2 : T ≤ 9223372036854775807
  i0 : 0 ≤ idx
  i1 : idx < np
  n2 : np ≤ 9223372036854775807
  m0 : 0 ≤ idx * pl
  m1 : idx * pl < T
  inner : idx < np - 1 → pl ≤ T - idx * pl
  outer : idx = np - 1 → T - idx * pl ≤ pl

theorem Fits.size {pl T np idx : Int} (h : Fits pl T np idx) : 1 ≤ pieceSz pl T idx ∧ pieceSz pl T idx ≤ 1073741824 := by
  obtain ⟨h1, h2, h3, h4, h5, h6, h7, h8, h9, h10⟩ := h
  unfold pieceSz
  split <;> omega

theorem pieceSize_any (pl T np idx : Int) (w : World) (h : Fits pl T np idx) :
    Calls Tryf.prog 7 #[.agg #[.int .i64 pl, .int .i64 T, .int .i64 np], .int .i64 idx] w fun e w' => e = .returned (.int .i64 (pieceSz pl T idx)) ∧ Below w.heap.size w w' := by
  obtain ⟨h1, h2, h3, h4, h5, h6, h7, h8, h9, h10⟩ := h
  by_cases c : idx < np - 1
  · have e := hide (show pieceSz pl T idx = pl from by unfold pieceSz; have := h9 c; split <;> omega)
    clear h9 h10
    go_enter Tryf.func7, Tryf.ntmps7
    go_wp2_with fail
    refine (check_any _ _ _ _ _ h4 h5).mono ?_
    rintro e w1 ⟨rfl, hb⟩
    have HB := hide hb
    have q1 := hb.cell (p := ⟨w.heap.size, 0, none⟩) (by simp)
    have q2 := hb.cell (p := ⟨w.heap.size, 1, none⟩) (by simp)
    have q3 := hb.cell (p := ⟨w.heap.size, 2, none⟩) (by simp)
    simp at q1 q2 q3
    clear hb
    go_wp2
    go_ret
    exact ⟨ret_int (by rw [unhide e]), Below.trans ((Below.refl _ _).alloc (Nat.le_refl _) _) ((unhide HB).mono (by simp))⟩
  · have e := hide (show pieceSz pl T idx = T - idx * pl from by unfold pieceSz; have := h10 (by omega); split <;> omega)
    clear h9 h10
    go_enter Tryf.func7, Tryf.ntmps7
    go_wp2_with fail
    refine (check_any _ _ _ _ _ h4 h5).mono ?_
    rintro e w1 ⟨rfl, hb⟩
    have HB := hide hb
    have q1 := hb.cell (p := ⟨w.heap.size, 0, none⟩) (by simp)
    have q2 := hb.cell (p := ⟨w.heap.size, 1, none⟩) (by simp)
    have q3 := hb.cell (p := ⟨w.heap.size, 2, none⟩) (by simp)
    simp at q1 q2 q3
    clear hb
    go_wp2
    go_ret
    exact ⟨ret_int (by rw [unhide e]), Below.trans ((Below.refl _ _).alloc (Nat.le_refl _) _) ((unhide HB).mono (by simp))⟩

/-- The cells of block k, and of the first k blocks. -/
def blk (idx sz : Int) (k : Nat) : List Value := [.int .i64 idx, .int .i64 (16384 * k), .int .i64 (min 16384 (sz - 16384 * k))]
def blks (idx sz : Int) : Nat → List Value
  | 0 => []
  | k + 1 => blks idx sz k ++ blk idx sz k

theorem blks_length (idx sz : Int) : ∀ k, (blks idx sz k).length = k * 3
  | 0 => rfl
  | k + 1 => by simp [blks, blks_length idx sz k, blk]; omega

/-- How many blocks. -/
def cnt (sz : Int) : Nat := ((sz + 16383) / 16384).toNat

theorem blk_new (wr : World) (idx sz : Int) (k : Nat) : ∀ j u, (blk idx sz k)[j]? = some u →
    (wr.alloc (.cells #[.int .i64 idx, .int .i64 (16384 * k), .int .i64 (min 16384 (sz - 16384 * k))] 30)).cell? ((⟨wr.heap.size, 0, none⟩ : Addr).add j) = some u := by
  intro j u hj
  unfold blk at hj
  match j, hj with
  | 0, hj => simp at hj; subst hj; simp [Addr.add]
  | 1, hj => simp at hj; subst hj; simp [Addr.add]
  | 2, hj => simp at hj; subst hj; simp [Addr.add]
  | j + 3, hj => simp at hj

theorem blk_one (idx sz : Int) (k : Nat) : ∀ u ∈ blk idx sz k, u.oneCell' = true := by
  intro u hu
  unfold blk at hu
  simp at hu
  rcases hu with rfl | rfl | rfl <;> rfl

theorem own_block {w : World} {base : Nat} {e : TypeId} {size n : Nat} {v : Value} {xs : List Value} (h : w.ownsRow base e size v n xs) : ∀ k, v.ownBlock = some k → base ≤ k := by
  intro k hk
  obtain ⟨_, ⟨rfl, _⟩ | ⟨g, cap, cur, rfl, hb, _⟩⟩ := h
  · cases hk
  · simp [Value.ownBlock] at hk; omega

theorem Tryf.info30 : (Tryf.prog.info? 30).map (fun i => (i.zero, i.size, i.bytes)) = some (some (.agg #[.int .i64 0, .int .i64 0, .int .i64 0]), 3, 24) := by kernel_rfl

set_option maxHeartbeats 1000000 in
theorem blocks_any (pl T np idx : Int) (w : World) (h : Fits pl T np idx) :
    Calls Tryf.prog 8 #[.agg #[.int .i64 pl, .int .i64 T, .int .i64 np], .int .i64 idx] w fun e w' => ∃ v, e = .returned v ∧
      w'.ownsRow w.heap.size 30 3 v (cnt (pieceSz pl T idx)) (blks idx (pieceSz pl T idx) (cnt (pieceSz pl T idx))) ∧ Below w.heap.size w w' := by
  have hs := h.size
  obtain ⟨i30, hi, hzz⟩ := Option.map_eq_some_iff.1 Tryf.info30
  simp only [Prod.mk.injEq] at hzz
  obtain ⟨hz0, hz1, hz2⟩ := hzz
  have HZ := hide (And.intro hi (And.intro hz0 (And.intro hz1 hz2)))
  clear hi hz0 hz1 hz2
  generalize hS : pieceSz pl T idx = S at hs ⊢
  have HS := hide hS
  clear hS
  have HF := hide h
  clear h
  obtain ⟨hs1, hs2⟩ := hs
  go_enter Tryf.func8, Tryf.ntmps8
  go_wp2_with fail
  refine (pieceSize_any _ _ _ _ _ (unhide HF)).mono ?_
  rintro e w1 ⟨rfl, hb⟩
  rw [unhide HS]
  have hB1 : Below w.heap.size w w1 := Below.trans ((Below.refl _ _).alloc (Nat.le_refl _) _) (hb.mono (by simp))
  have HB := hide hB1
  clear hb hB1
  obtain ⟨c, hc⟩ : ∃ c : Nat, S / 16384 + 1 = (c : Int) := ⟨(S / 16384 + 1).toNat, by omega⟩
  have hcb : c ≤ 65537 := by omega
  obtain ⟨hi, hz0, hz1, hz2⟩ := unhide HZ
  obtain ⟨w2, hmk, hown, hgrow⟩ := run_make_own (P := Tryf.prog) w1 w.heap.size 27 30 i30 _ 3 Tryf.underlying27 hi hz0 hz1 .i64 .i64 c (by rw [hz2]; omega) (by unfold maxLen; omega) (unhide HB).size
  have HO := hide hown
  have HB2 := hide ((unhide HB).grown hgrow (unhide HB).size (fun k hk => by cases hk))
  clear hown hgrow hi hz0 hz1 hz2 HB
  go_wp2
  clear hmk hc hcb
  go_loopw [6, 7] (fun v i wr => ∃ k : Nat, i = .int .i64 (16384 * k) ∧ 16384 * (k : Int) < S + 16384 ∧ wr.ownsRow w.heap.size 30 3 v k (blks idx S k) ∧ Below w.heap.size w wr) (fun _ i _ => (S + 16384 - intOf i).toNat)
  case atStart => exact ⟨0, rfl, by omega, unhide HO, unhide HB2⟩
  case round =>
    obtain ⟨k, rfl, hk, hown, hbel⟩ := hrel
    have HO2 := hide hown
    have HB3 := hide hbel
    clear hown hbel HO HB2
    by_cases hlt : 16384 * (k : Int) < S
    · obtain ⟨hi, hz0, hz1, hz2⟩ := unhide HZ
      have hown := unhide HO2
      go_wp2_with (at_builtin; refine wpList_append_own _ rfl _ _ 27 rfl w.heap.size 30 i30 (.agg #[.int .i64 0, .int .i64 0, .int .i64 0]) 3 24 Tryf.underlying27 hi hz0 hz1 hz2 rfl (by decide) _ _ _ rfl (hown.alloc _) ⟨wr.heap.size, 0, none⟩ 1 1 (blk idx S k) rfl rfl ?c1 ?c2 ?c3 ?c4 ?c5 ?_)
      case c1 => exact blk_new wr idx S k
      case c2 => exact blk_one idx S k
      case c3 => unfold maxLen; omega
      case c4 => omega
      case c5 => have := (unhide HB3).size; simp; omega
      intro v' w4 hown' hgrow _
      have HO4 := hide hown'
      have HB4 := hide (((unhide HB3).alloc (unhide HB3).size _).grown hgrow (by have := (unhide HB3).size; simp; omega) (own_block hown))
      clear hown' hgrow hown hi hz0 hz1 hz2
      go_wp2
      go_roundw
      case rel => exact ⟨k + 1, by go_num, by omega, unhide HO4, unhide HB4⟩
      case measure => simp [intOf]; omega
    · have hcn : cnt S = k := by unfold cnt; omega
      have HC := hide hcn
      clear hcn
      go_wp2
      go_ret
      exact ⟨_, rfl, by rw [unhide HC]; exact unhide HO2, unhide HB3⟩
end Go.Proofs.Qxb6627770aFmt
