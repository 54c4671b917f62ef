import Derived.Test.Qxb6627720aWalkE
namespace Go.Proofs.Qxb6627720a
open Go.ChangeShapes Go.WideShapes Go.ChangeAt Go.RowKit
open Glob

theorem anyAlt_one (g m : ByteArray) (b : Bool) : anyAlt (fun _ => g) (fun _ => b) 1 m = (gmS g m != b) := by
  simp [anyAlt]

theorem row_first (w : World) (x y : Value) (t u : TypeId) : Row ((w.alloc (.cells #[x] t)).alloc (.cells #[y] u)) (some ⟨w.heap.size, 0, none⟩) 1 (fun _ => x) :=
  .inr ⟨w.heap.size, 0, rfl, by simp; omega, fun i hi => by
    obtain rfl : i = 0 := by omega
    simp⟩

theorem row_second (w : World) (x y : Value) (t u : TypeId) : Row ((w.alloc (.cells #[x] t)).alloc (.cells #[y] u)) (some ⟨w.heap.size + 1, 0, none⟩) 1 (fun _ => y) :=
  .inr ⟨w.heap.size + 1, 0, rfl, by simp, fun i hi => by
    obtain rfl : i = 0 := by omega
    simp⟩

set_option maxHeartbeats 1000000 in
theorem neg_walk (g m : ByteArray) (w : World) (hg : g.size ≤ maxLen) (hm : m.size ≤ maxLen) :
    Calls Try.prog 4 #[.string g, .string m] w fun e w' => e = .returned (.bool true) ∧ Below w.heap.size w w' := by
  by_cases c1 : g.size ≤ 4096
  case neg =>
    have c1' : (4096 : Int) < (g.size : Int) := by omega
    go_enter Try.func4, Try.ntmps4
    go_wp2_with fail
    refine (bytes2_any _ _ _ hg hm).mono ?_
    rintro e w1 ⟨⟨b, rfl⟩, hw⟩
    subst hw
    cases b
    all_goals
      go_wp2
      go_ret
      exact ⟨rfl, Below.refl _ _⟩
  by_cases c2 : m.size ≤ 4096
  case neg =>
    have c2' : (4096 : Int) < (m.size : Int) := by omega
    go_enter Try.func4, Try.ntmps4
    go_wp2_with fail
    refine (bytes2_any _ _ _ hg hm).mono ?_
    rintro e w1 ⟨⟨b, rfl⟩, hw⟩
    subst hw
    cases b
    all_goals
      go_wp2
      go_ret
      exact ⟨rfl, Below.refl _ _⟩
  go_enter Try.func4, Try.ntmps4
  go_wp2_with fail
  refine (bytes2_any _ _ _ hg hm).mono ?_
  rintro e w1 ⟨⟨b, rfl⟩, hw⟩
  subst hw
  cases b
  case false =>
    go_wp2
    go_ret
    exact ⟨rfl, Below.refl _ _⟩
  go_wp2_with fail
  refine (reach_any _ _ _ hg).mono ?_
  rintro e w1 ⟨⟨b, rfl⟩, hw⟩
  subst hw
  cases b
  case false =>
    go_wp2
    go_ret
    exact ⟨rfl, Below.refl _ _⟩
  go_wp2_with fail
  refine (newPat_any _ _ 1 1 1 (fun _ => g) (fun _ => false) _ (by omega) ?_ ?_).mono ?_
  case _ => exact row_first w1 _ _ _ _
  case _ => exact row_second w1 _ _ _ _
  rintro e w2 ⟨b1, rfl, hb1, hrow1, hbel1⟩
  have HB1 := hide hbel1
  clear hbel1 hb1
  go_wp2_with fail
  refine (match_any _ 1 (fun _ => g) (fun _ => false) _ _ (by omega) c2 (fun _ _ => c1) hrow1).mono ?_
  rintro e w3 ⟨rfl, hbel⟩
  have HB2 := hide hbel
  clear hbel hrow1
  rw [anyAlt_one]
  go_wp2_with fail
  refine (newPat_any _ _ 1 1 1 (fun _ => g) (fun _ => true) _ (by omega) ?_ ?_).mono ?_
  case _ => exact row_first w3 _ _ _ _
  case _ => exact row_second w3 _ _ _ _
  rintro e w4 ⟨b2, rfl, hb2, hrow2, hbel2⟩
  have HB3 := hide hbel2
  clear hbel2 hb2
  go_wp2_with fail
  refine (match_any _ 1 (fun _ => g) (fun _ => true) _ _ (by omega) c2 (fun _ _ => c1) hrow2).mono ?_
  rintro e w5 ⟨rfl, hbel⟩
  have HB4 := hide hbel
  clear hbel hrow2
  rw [anyAlt_one]
  have HBel : Below w1.heap.size w1 w5 := by
    have h1 := unhide HB1
    have h2 := unhide HB2
    have h3 := unhide HB3
    have h4 := unhide HB4
    have s1 : w1.heap.size ≤ w2.heap.size := by have := h1.size; simp at this; omega
    have s2 : w1.heap.size ≤ w3.heap.size := by have := h2.size; omega
    have s3 : w1.heap.size ≤ w4.heap.size := by have := h3.size; simp at this; omega
    refine Below.trans ?_ (h4.mono s3)
    refine Below.trans ?_ (h3.mono (by simp; omega))
    refine Below.alloc (Below.alloc ?_ s2 _) (by simp; omega) _
    refine Below.trans ?_ (h2.mono s1)
    refine Below.trans ?_ (h1.mono (by simp; omega))
    exact ((Below.refl _ _).alloc (Nat.le_refl _) _).alloc (by simp) _
  have HBB := hide HBel
  clear HBel
  cases hgm : gmS g m
  all_goals
    go_wp2_with fail
    refine (zzGlob_any _ _ _ c1 c2).mono ?_
    rintro e w6 ⟨rfl, hw⟩
    subst hw
    rw [hgm]
    go_wp2
    go_ret
    exact ⟨rfl, unhide HBB⟩
end Go.Proofs.Qxb6627720a
