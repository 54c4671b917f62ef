import Derived.Test.Qxb6627846aWalkD
import Derived.WalkKit
import Derived.ProofKit
import Derived.OpenShut
import Derived.ShutString
import Derived.ChangeOld
import Derived.Below
import Derived.Deep.Grids
namespace Go.Proofs.Qxb6627846a.fnAutoIncrementColumnInsertOne
open Go.ChangeShapes Go.WideShapes Go.ChangeAt Go.RowKit
set_option linter.unusedVariables false

theorem own : ownKnob Try.prog.godebug = none := by kernel_rfl
theorem laidOut : laidOutB Try.prog = true := by kernel_rfl
theorem cells4 : Try.prog.cellsOf 4 = 1 := by kernel_rfl

theorem row_of (w : World) (a : Addr) (n : Nat) (f : Nat → Value) (h : ∀ i, i < n → w.cell? (a.add i) = some (f i)) : Row w (some a) n f := by
  by_cases hn : n = 0
  · exact .inl hn
  · obtain ⟨b, off, spot⟩ := a
    have h0 := h 0 (by omega)
    have hspot : spot = none := by simpa [Addr.add] using World.cell?_spot h0
    subst hspot
    refine .inr ⟨b, off, rfl, ?_, fun i hi => by rw [← add_plain]; exact h i hi⟩
    rw [add_plain] at h0
    by_cases hlt : b < w.heap.size
    · exact hlt
    · exfalso
      have : w.heap[b]? = none := by simp; omega
      simp [World.cell?, this] at h0

theorem ins_walk (a : Option Addr) (n c : Nat) (cut : Int) (b : Bool) (fl : Nat → Bool) (w : World) (hn : n ≤ maxLen) (ha : a = none → n = 0) (hr : Row w a n (fun i => .bool (fl i))) :
    Calls Try.prog 4 #[.slice a n c, .int .i64 cut, .bool b] w fun e w' => e = .returned (.bool true) ∧ Below w.heap.size w w' := by
  by_cases c1 : n ≤ 65536
  case neg => exact (ins_early a n c cut b w hn (.inl (by simp; omega))).mono fun e w' ⟨he, hw⟩ => ⟨he, by rw [hw]; exact Below.refl _ _⟩
  by_cases c2 : cut < 0
  case pos => exact (ins_early a n c cut b w hn (.inr ⟨by simp; omega, .inl (by simpa using c2)⟩)).mono fun e w' ⟨he, hw⟩ => ⟨he, by rw [hw]; exact Below.refl _ _⟩
  by_cases c3 : (n : Int) < cut
  case pos => exact (ins_early a n c cut b w hn (.inr ⟨by simp; omega, .inr ⟨by simpa using c2, by simpa using c3⟩⟩)).mono fun e w' ⟨he, hw⟩ => ⟨he, by rw [hw]; exact Below.refl _ _⟩
  obtain ⟨k, rfl⟩ := Int.eq_ofNat_of_zero_le (show 0 ≤ cut by omega)
  exact ins_main a n c k b fl w c1 (by omega) ha hr

set_option maxRecDepth 100000 in
theorem lifted (os : Os) (started : os.Started) (H : Type) (enc : TypeId × Value → H) :
    ReturnsInHanded {} Try.checked os 4 .any (Rows.fnAutoIncrementColumnInsertOneSpec.pre6 enc Try.prog Try.f4 Rows.fnAutoIncrementColumnInsertOneRow.domain false) (Rows.fnAutoIncrementColumnInsertOneSpec.post enc Try.prog Try.f4 false true false false) := by
  refine returnsInHanded_of_change (C := Try.checked) own started (by kernel_rfl) Try.func4
    (ChangeSpec.witness6 (enc := enc) (C := Try.checked) false ⟨#[], #[.slice none 0 0, .int .i64 0, .bool false], []⟩ 8 (by kernel_rfl) (by kernel_rfl) (by kernel_rfl) (by kernel_rfl)) ?_
  intro W base args ds gs before hval0 hW hcnd _
  have hval : ∀ (j : Nat) t v, Try.f4.params[j]? = some t → args[j]? = some v → Value.okWide Try.prog W .any base t v := hval0
  have hW' := hW
  obtain ⟨p, q, hA0, hV, rfl, hfz, hnd⟩ := hW
  have hA : DataW.TrodAll enc Try.prog W 0 (fun _ => true) true Try.f4.params.toList args.toList ds p := hA0
  rw [Try.params4] at hA hval
  obtain ⟨v0, vs0, d0, ds0, p0, q0, hargs, rfl, rfl, h0, r0⟩ := trodAll_cons hA
  obtain ⟨v1, vs1, d1, ds1, p1, q1, rfl, rfl, rfl, h1, r1⟩ := trodAll_cons r0
  obtain ⟨v2, vs2, d2, ds2, p2, q2, rfl, rfl, rfl, h2, r2⟩ := trodAll_cons r1
  obtain ⟨rfl, rfl, rfl⟩ := trodAll_nil r2
  obtain rfl : args = #[v0, v1, v2] := by cases args; simp_all
  obtain ⟨rfl, rfl⟩ := trodVars_none hV
  obtain ⟨a0, n0, c0, rfl⟩ := okWide_slice Try.underlying22 (hval 0 22 v0 rfl rfl)
  have k0 := h0
  have lt0 : ∀ x ∈ p0, x.block < W.heap.size := by obtain ⟨m, hm⟩ := k0; exact DataW.trod_lt m _ _ _ hm
  obtain ⟨fl, hn0, hc0, ha0, hb⟩ : ∃ fl : Nat → Bool, n0 ≤ maxLen ∧ n0 ≤ c0 ∧ (a0 = none → n0 = 0 ∧ c0 = 0) ∧ Row W a0 n0 (fun i => .bool (fl i)) := by
    obtain ⟨fuel, hf⟩ := h0
    rcases Go.Deep.open_bools Try.underlying22 Try.underlying4 cells4 hf with ⟨hcs, _⟩ | ⟨x, l, c, B, hcs, _, hl, hm, _, hcell⟩
    · simp [Value.cells] at hcs
      obtain ⟨rfl, rfl, rfl⟩ := hcs
      exact ⟨fun _ => false, Nat.zero_le _, Nat.le_refl _, fun _ => ⟨rfl, rfl⟩, .inl rfl⟩
    · simp [Value.cells] at hcs
      obtain ⟨rfl, rfl, rfl⟩ := hcs
      exact ⟨B, by omega, hl, (fun h => by cases h), row_of W x n0 _ (fun i hi => hcell i (by omega))⟩
  obtain ⟨a1, rfl, rfl, rfl, w1⟩ := open_int Try.underlying3 (hval 1 3 v1 rfl rfl) h1
  obtain ⟨a2, rfl, rfl, rfl⟩ := open_bool Try.underlying4 (hval 2 4 v2 rfl rfl) h2
  clear hA0 hval0
  refine (ins_walk a0 n0 c0 a1 a2 fl W hn0 (fun h => (ha0 h).1) hb).mono fun e W' ⟨he, bel⟩ => ?_
  subst he
  exact ⟨_, rfl, _, _, _, [], _, [], hW', trodAll_mk1 (shut_bool Try.underlying4 _), (trodAll_cons_mk (Below.trod laidOut (by kernel_rfl) (of_decide_eq_true (by kernel_rfl)) k0 bel lt0) (trodAll_cons_mk (shut_int Try.underlying3 w1) (trodAll_cons_mk (shut_bool Try.underlying4 _) trodAll_mk0))), rfl, bel.frame _, fun h => by cases h⟩

theorem over : Rows.fnAutoIncrementColumnInsertOneRow.holds Try.pinned (OpenSpec.ofChange Rows.fnAutoIncrementColumnInsertOneSpec) :=
  OpenClaim.holds_of_wide 4 Try.f4 rfl rfl rfl rfl rfl rfl rfl ⟨rfl, rfl, rfl, rfl, rfl⟩ rfl rfl rfl rfl rfl (by kernel_rfl) Try.func4 (by kernel_rfl)
    (of_decide_eq_true (by kernel_rfl)) (by unfold Func.isWrapper; first | (rw [if_pos (by decide +kernel)]; kernel_rfl) | (rw [if_neg (by decide +kernel)]; exact ⟨rfl, rfl⟩))
    (fun os started H enc _ => lifted os started H enc)

theorem proved : Rows.FnAutoIncrementColumnInsertOneSaid :=
  over
end Go.Proofs.Qxb6627846a.fnAutoIncrementColumnInsertOne
