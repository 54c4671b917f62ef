import Derived.Test.Qxb6627720aWalkC
import Derived.Deep.OwnRows
import Derived.RegionTactic
import Derived.BigRegion
namespace Go.Proofs.Qxb6627720a
open Go.ChangeShapes Go.WideShapes Go.ChangeAt Go.RowKit
open Glob

/-- The slice whose array begins at 'a' holds 'f 0', .., 'f (n - 1)'. -/
def Row (w : World) (a : Option Addr) (n : Nat) (f : Nat → Value) : Prop :=
  n = 0 ∨ ∃ b o, a = some ⟨b, o, none⟩ ∧ b < w.heap.size ∧ ∀ i, i < n → w.cell? ⟨b, o + i, none⟩ = some (f i)

/-- A row of alternatives: glob and flag, side by side. -/
def altAt (gs : Nat → ByteArray) (ns : Nat → Bool) (k : Nat) (j : Nat) : Value :=
  if j < 2 * k then (if j % 2 = 0 then .string (gs (j / 2)) else .bool (ns (j / 2))) else (if j % 2 = 0 then .string ByteArray.empty else .bool false)

theorem alt_step (gs : Nat → ByteArray) (ns : Nat → Bool) (k j : Nat) :
    (if j = k * 2 + 1 then Value.bool (ns k) else if j = k * 2 then Value.string (gs k) else altAt gs ns k j) = altAt gs ns (k + 1) j := by
  unfold altAt
  by_cases h1 : j = k * 2 + 1
  · subst h1
    rw [if_pos rfl, if_pos (by omega), if_neg (by omega), show (k * 2 + 1) / 2 = k from by omega]
  · rw [if_neg h1]
    by_cases h2 : j = k * 2
    · subst h2
      rw [if_pos rfl, if_pos (by omega), if_pos (by omega), show (k * 2) / 2 = k from by omega]
    · rw [if_neg h2]
      by_cases h3 : j < 2 * k
      · have h4 : j < 2 * (k + 1) := by omega
        rw [if_pos h3, if_pos h4]
      · have h4 : ¬ j < 2 * (k + 1) := by omega
        rw [if_neg h3, if_neg h4]

theorem Try.cells33 : Try.prog.cellsOf 33 = 2 := by kernel_rfl
theorem Try.info33 : (Try.prog.info? 33).map (fun i => (i.zero, i.size, i.bytes)) = some (some (.agg #[.string ByteArray.empty, .bool false]), 2, 24) := by kernel_rfl

theorem make33 (n : Nat) (hn : n ≤ 4096) (w : World) :
    (Instr.makeSlice 26 (.int .i64 (n : Int)) (.int .i64 (n : Int))).run Try.prog w =
      .ok (.slice (some ⟨w.heap.size, 0, none⟩) n n) (w.alloc (.cells (madeCells #[.string ByteArray.empty, .bool false] (n * 2)) 33)) := by
  obtain ⟨i, hi, hzz⟩ := Option.map_eq_some_iff.1 Try.info33
  simp only [Prod.mk.injEq] at hzz
  obtain ⟨hz, hs, hb⟩ := hzz
  have hr := run_make (P := Try.prog) w 26 33 i _ Try.underlying26 hi hz .i64 .i64 n n (by omega) (by omega) (by rw [hb]; omega) (by omega)
  rw [hs] at hr
  simpa [Value.cells] using hr

theorem made_row {gs : Nat → ByteArray} {ns : Nat → Bool} (w : World) (n : Nat) : (w.alloc (.cells (madeCells #[.string ByteArray.empty, .bool false] (n * 2)) 33)).rowIs w.heap.size 33 (n * 2) (altAt gs ns 0) := by
  have := World.rowIs_alloc w (madeCells #[.string ByteArray.empty, .bool false] (n * 2)) 33 (altAt gs ns 0) (fun i hi => by
    rw [size_madeCells] at hi
    have h2 : i % 2 = 0 ∨ i % 2 = 1 := by omega
    rcases h2 with h2 | h2 <;> simp [madeCells, hi, altAt, h2])
  rwa [size_madeCells] at this

set_option maxHeartbeats 400000 in
theorem newPat_any (ag an : Option Addr) (n cg cn : Nat) (gs : Nat → ByteArray) (ns : Nat → Bool) (w : World) (hn : n ≤ 4096)
    (hg : Row w ag n (fun i => .string (gs i))) (hb : Row w an n (fun i => .bool (ns i))) :
    Calls Try.prog 7 #[.slice ag n cg, .slice an n cn] w fun e w' => ∃ b, e = .returned (.agg #[.slice (some ⟨b, 0, none⟩) n n]) ∧ w.heap.size ≤ b ∧
      w'.rowIs b 33 (n * 2) (altAt gs ns n) ∧ Below w.heap.size w w' := by
  have hmk := make33 n hn
  go_enter Try.func7, Try.ntmps7
  go_wp2
  go_loopw [12] (fun i wr => ∃ k : Nat, k ≤ n ∧ i = .int .i64 k ∧ wr.rowIs (w.heap.size + 1) 33 (n * 2) (altAt gs ns k) ∧ wr.rowIs w.heap.size 28 1 (fun _ => .slice none 0 0) ∧ Below w.heap.size w wr)
    (fun i _ => n - (intOf i).toNat)
  case atStart => exact ⟨0, Nat.zero_le _, rfl, by simpa using made_row (gs := gs) (ns := ns) (w.alloc (.cells #[.slice none 0 0] 28)) n, (World.rowIs_alloc w #[_] 28 _ (fun i hi => by simp at hi; subst hi; rfl)).alloc _, ((Below.refl _ _).alloc (Nat.le_refl _) _).alloc (by simp) _⟩
  case round =>
    obtain ⟨k, hk, rfl, hrow, hres, hbel⟩ := hrel
    have hsz : w.heap.size + 1 < wr.heap.size := hrow.lt
    by_cases hlt : k < n
    · rcases hg with h0 | ⟨bg, og, rfl, hgl, hgc⟩
      · omega
      rcases hb with h0 | ⟨bn, on, rfl, hnl, hnc⟩
      · omega
      have q1 : wr.cell? ⟨bg, og + k, none⟩ = some (.string (gs k)) := (hbel.cell hgl).trans (hgc k hlt)
      have q2 : wr.cell? ⟨bn, on + k, none⟩ = some (.bool (ns k)) := (hbel.cell hnl).trans (hnc k hlt)
      have q3 := hrow.cell (i := k * 2) (by omega)
      have q4 := hrow.cell (i := k * 2 + 1) (by omega)
      have q5 := hrow.frozen (k * 2)
      have q6 := hrow.frozen (k * 2 + 1)
      have HG := hide hgc
      have HN := hide hnc
      have HR := hide hrow
      have HS := hide hres
      have HB := hide hbel
      clear hgc hnc hrow hres hbel
      go_wp2
      go_region
      go_wp2
      go_roundw
      case rel =>
        have h1 : w.heap.size ≠ w.heap.size + 1 := by omega
        refine ⟨k + 1, by omega, by go_num, ?_, (((unhide HS).setOther (a := ⟨w.heap.size + 1, k * 2, none⟩) h1 _).setOther (a := ⟨w.heap.size + 1, k * 2 + 1, none⟩) h1 _).drew,
          (((unhide HB).setCell (p := ⟨w.heap.size + 1, k * 2, none⟩) (Nat.le_succ _) _).setCell (p := ⟨w.heap.size + 1, k * 2 + 1, none⟩) (Nat.le_succ _) _).drew⟩
        exact ((((unhide HR).set (k * 2) (.string (gs k))).set (k * 2 + 1) (.bool (ns k))).congr (fun j hj => alt_step gs ns k j)).drew
      case measure => simp [intOf]; omega
    · have q7 := hres.cell (i := 0) (by omega)
      have q8 := hres.frozen 0
      obtain rfl : k = n := by omega
      have HR := hide hrow
      have HS := hide hres
      have HB := hide hbel
      clear hrow hres hbel
      go_wp2
      have q9 := ((unhide HS).set 0 (.slice (some ⟨w.heap.size + 1, 0, none⟩) k k)).cell (i := 0) (by omega)
      rw [if_pos rfl] at q9
      refine bodyPost_ret (v := .agg #[.slice (some ⟨w.heap.size + 1, 0, none⟩) k k]) (by simp [results, Try.results7, go_sem, q9]) rfl ⟨_, rfl, Nat.le_succ _, ?_, ?_⟩
      · exact (unhide HR).setOther (a := ⟨w.heap.size, 0, none⟩) (by show w.heap.size + 1 ≠ w.heap.size; omega) _
      · exact (unhide HB).setCell (p := ⟨w.heap.size, 0, none⟩) (Nat.le_refl _) _
end Go.Proofs.Qxb6627720a
