import Derived.Test.Qxb6627720aWalkG
import Derived.Deep.DeepCutAuto
import Derived.Deep.RegionWith
namespace Go.Proofs.Qxb6627720a
open Go.ChangeShapes Go.WideShapes Go.ChangeAt Go.RowKit
open Glob

theorem copy_new {t e : TypeId} (z : Value) (ht : Try.prog.underlying t = some (.slice e)) (hs : (Try.prog.info? e).map (·.size) = some 1) (w : World) (a : Option Addr) (n c : Nat) (f : Nat → Value)
    (h : Row w a n f) (h1 : ∀ i, (f i).oneCell' = true) :
    ∃ w', (∀ ty, (Builtin.copy_ #[t, t] ty #[.slice (some ⟨w.heap.size, 0, none⟩) n n, .slice a n c]).run Try.prog (w.alloc (.cells (madeCells #[z] n) e)) = .ok (goInt n) w') ∧
      w'.rowIs w.heap.size e n f ∧ Below w.heap.size w w' := by
  have hA : Below w.heap.size w (w.alloc (.cells (madeCells #[z] n) e)) := (Below.refl _ _).alloc (Nat.le_refl _) _
  by_cases hn : n = 0
  · subst hn
    refine ⟨_, fun ty => run_copy_none _ t t ty e _ a 0 0 0 c ht hs (by simp), ?_, hA⟩
    exact (World.rowIs_made w z 0 e).congr (fun i hi => by omega)
  · rcases h with h | ⟨b, o, rfl, hl, hc⟩
    · exact absurd h hn
    have hblk : (w.alloc (.cells (madeCells #[z] n) e)).heap[w.heap.size]? = some (.cells (madeCells #[z] n) e (0, 0)) := by
      show (w.heap.push _)[w.heap.size]? = _
      simp
    have hcl : ((List.range n).map f).length = n := by simp
    refine ⟨(w.alloc (.cells (madeCells #[z] n) e)).setRow w.heap.size ((madeCells #[z] n).toList.take 0 ++ (List.range n).map f ++ (madeCells #[z] n).toList.drop (0 + n)).toArray, fun ty => ?_, ?_, below_setRow hA (Nat.le_refl _) _⟩
    · have := run_copy_row (P := Try.prog) (w.alloc (.cells (madeCells #[z] n) e)) t t ty e w.heap.size 0 n n ⟨b, o, none⟩ n c (madeCells #[z] n) e ((List.range n).map f) ht hs hblk (by simp)
        (fun j v hv => by
          obtain ⟨hj, hv'⟩ := List.getElem?_eq_some_iff.1 hv
          simp at hv' hj
          subst hv'
          have hadd : (⟨b, o, none⟩ : Addr).add j = ⟨b, o + j, none⟩ := by unfold Addr.add; split <;> simp_all
          rw [hadd, hA.cell (p := ⟨b, o + j, none⟩) hl]
          exact hc j hj)
        (by rw [hcl, size_madeCells]; omega) (fun v hv => by
          obtain ⟨i, _, rfl⟩ := List.mem_map.1 hv
          exact h1 i)
      rw [hcl] at this
      exact this
    · refine ⟨_, setRow_heap _ _ _ _ _ _ hblk, ?_, ?_⟩
      · simp [size_madeCells]
      · intro i hi
        have hd : (madeCells #[z] n).toList.drop (0 + n) = [] := List.drop_eq_nil_of_le (by simp [size_madeCells])
        rw [hd]
        simp [hi]

theorem Try.size9 : (Try.prog.info? 9).map (·.size) = some 1 := by kernel_rfl
theorem Try.size4 : (Try.prog.info? 4).map (·.size) = some 1 := by kernel_rfl
theorem Try.info9 : (Try.prog.info? 9).map (fun i => (i.zero, i.size, i.bytes)) = some (some (.string ByteArray.empty), 1, 16) := by kernel_rfl
theorem Try.info4 : (Try.prog.info? 4).map (fun i => (i.zero, i.size, i.bytes)) = some (some (.bool false), 1, 1) := by kernel_rfl

theorem Row.take {w : World} {a : Option Addr} {n k : Nat} {f : Nat → Value} (h : Row w a n f) (hk : k ≤ n) : Row w a k f := by
  rcases h with h | ⟨b, o, ha, hl, hc⟩
  · exact .inl (by omega)
  · exact .inr ⟨b, o, ha, hl, fun i hi => hc i (by omega)⟩

theorem Row.drop {w : World} {b o n k : Nat} {f : Nat → Value} (h : Row w (some ⟨b, o, none⟩) n f) (hk : k ≤ n) : Row w (some ⟨b, o + k, none⟩) (n - k) (fun i => f (k + i)) := by
  rcases h with h | ⟨b', o', ha, hl, hc⟩
  · exact .inl (by omega)
  · simp only [Option.some.injEq, Addr.mk.injEq, and_true] at ha
    obtain ⟨rfl, rfl⟩ := ha
    exact .inr ⟨b, o + k, rfl, hl, fun i hi => by rw [Nat.add_assoc]; exact hc (k + i) (by omega)⟩

theorem anyAlt_split (gs : Nat → ByteArray) (ns : Nat → Bool) (k : Nat) (m : ByteArray) : ∀ d, anyAlt gs ns (k + d) m = (anyAlt gs ns k m || anyAlt (fun i => gs (k + i)) (fun i => ns (k + i)) d m)
  | 0 => by simp [anyAlt]
  | d + 1 => by rw [← Nat.add_assoc, anyAlt_succ, anyAlt_succ, anyAlt_split gs ns k m d, Bool.or_assoc]

end Go.Proofs.Qxb6627720a
