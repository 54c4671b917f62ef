import Derived.Test.Qxb6627797aWalkC
namespace Go.Proofs.Qxb6627797a
open Go.ChangeShapes Go.WideShapes Go.ChangeAt Go.RowKit

set_option maxHeartbeats 400000 in
theorem bytesC_any (a b : ByteArray) (w : World) (ha : a.size ≤ maxLen) (hb : b.size ≤ maxLen) :
    Calls Try.prog 5 #[.string a, .string b] w fun e w' => AnyBool e ∧ w' = w := by
  unfold maxLen at ha hb
  go_enter Try.func5, Try.ntmps5
  go_wp2
  all_goals (go_ret; exact ⟨anyBool _, rfl⟩)

theorem list_append (a b : ByteArray) : (a ++ b).data.toList = a.data.toList ++ b.data.toList := by
  rw [ByteArray.data_append, Array.toList_append]

/-- Empty, or a code. -/
def fine (l : List UInt8) : Bool := l.isEmpty || isCode l

theorem fine_all (l : List UInt8) : fine l = l.all okc := by
  unfold fine isCode
  cases l with
  | nil => rfl
  | cons x l => simp

theorem law_codeL (l : List UInt8) : isCode (codeL l) = true := is_code _ (by rw [codeL_length]; omega) (codeL_all l)

theorem law_slash (l : List UInt8) : isCode (l ++ [47]) = false := by
  unfold isCode
  rw [List.all_append]
  have : [(47 : UInt8)].all okc = false := by decide
  rw [this]; simp

def whole (a b : List UInt8) : Bool := fine a && fine b && decide (0 < a.length + b.length)

theorem law_concat (a b : List UInt8) : isCode (a ++ b) = whole a b := by
  unfold whole
  rw [fine_all, fine_all]
  unfold isCode
  rw [List.all_append]
  cases a with
  | nil => cases b with
    | nil => rfl
    | cons y b => simp
  | cons x a =>
    have : decide (0 < (x :: a).length + b.length) = true := by simp; omega
    rw [this]; simp

theorem fine_ways (a : ByteArray) : (a.toList.isEmpty = true ∧ a.size = 0 ∧ fine a.data.toList = true) ∨ (a.toList.isEmpty = false ∧ 0 < a.size ∧ isCode a.data.toList = true ∧ fine a.data.toList = true) ∨
    (a.toList.isEmpty = false ∧ 0 < a.size ∧ isCode a.data.toList = false ∧ fine a.data.toList = false) := by
  have hl : a.data.toList.length = a.size := by simp
  rw [Lib.toList_data]
  unfold fine
  cases h : a.data.toList with
  | nil => rw [h] at hl; exact .inl ⟨rfl, by simpa using hl.symm, rfl⟩
  | cons x l =>
    rw [h] at hl
    simp at hl
    cases hc : isCode (x :: l)
    · exact .inr (.inr ⟨rfl, by omega, rfl, rfl⟩)
    · exact .inr (.inl ⟨rfl, by omega, rfl, rfl⟩)

theorem law_front (l m : List UInt8) : isCode (codeL l ++ m) = fine m := by
  rw [fine_all]
  unfold isCode
  rw [List.all_append, codeL_all]
  have : (codeL l ++ m).isEmpty = false := by
    unfold codeL
    cases h : l.map letter <;> rfl
  rw [this]; rfl

theorem whole_fa {a b : ByteArray} (h : fine a.data.toList = false) : whole a.data.toList b.data.toList = false := by unfold whole; rw [h]; rfl
theorem whole_fb {a b : ByteArray} (h : fine b.data.toList = false) : whole a.data.toList b.data.toList = false := by unfold whole; rw [h]; simp
theorem whole_zero {a b : ByteArray} (ha : a.size = 0) (hb : b.size = 0) : whole a.data.toList b.data.toList = false := by
  unfold whole
  have h1 : a.data.toList.length = a.size := by simp
  have h2 : b.data.toList.length = b.size := by simp
  rw [h1, h2, ha, hb]; simp
theorem whole_yes {a b : ByteArray} (ha : fine a.data.toList = true) (hb : fine b.data.toList = true) (h : 0 < a.size + b.size) : whole a.data.toList b.data.toList = true := by
  unfold whole
  have h1 : a.data.toList.length = a.size := by simp
  have h2 : b.data.toList.length = b.size := by simp
  rw [h1, h2, ha, hb]; simpa using h

set_option maxHeartbeats 2000000 in
theorem concat_walk (a b : ByteArray) (w : World) (ha : a.size ≤ maxLen) (hb : b.size ≤ maxLen) :
    Calls Try.prog 3 #[.string a, .string b] w fun e w' => e = .returned (.bool true) ∧ Below w.heap.size w w' := by
  by_cases c1 : a.size ≤ 65536
  case neg =>
    have t1 : decide ((65536 : Int) < (a.size : Int)) = true := by simp; omega
    go_enter Try.func3, Try.ntmps3
    go_wp2_with fail
    refine (bytesC_any _ _ _ ha hb).mono ?_
    rintro e w1 ⟨⟨x, rfl⟩, hw⟩
    subst hw
    cases x
    all_goals
      go_wp2
      go_ret
      exact ⟨rfl, Below.refl _ _⟩
  have t1 : decide ((65536 : Int) < (a.size : Int)) = false := by simp; omega
  by_cases c2 : b.size ≤ 65536
  case neg =>
    have t2 : decide ((65536 : Int) < (b.size : Int)) = true := by simp; omega
    go_enter Try.func3, Try.ntmps3
    go_wp2_with fail
    refine (bytesC_any _ _ _ ha hb).mono ?_
    rintro e w1 ⟨⟨x, rfl⟩, hw⟩
    subst hw
    cases x
    all_goals
      go_wp2
      go_ret
      exact ⟨rfl, Below.refl _ _⟩
  have t2 : decide ((65536 : Int) < (b.size : Int)) = false := by simp; omega
  obtain ⟨C, hC⟩ : ∃ C : ByteArray, C = ⟨(codeL a.data.toList).toArray⟩ := ⟨_, rfl⟩
  have hCl : C.data.toList = codeL a.data.toList := by rw [hC]
  have hCs : C.size ≤ 65537 := by
    have : C.data.toList.length = C.size := by simp
    rw [hCl, codeL_length] at this
    simp at this
    omega
  have L1 := hide (show isCode C.data.toList = true by rw [hCl]; exact law_codeL _)
  have L2 := hide (show isCode (C ++ ⟨#[47]⟩).data.toList = false by rw [list_append]; exact law_slash _)
  have L3 := hide (show isCode (a ++ b).data.toList = whole a.data.toList b.data.toList by rw [list_append, law_concat])
  have L4 := hide (show isCode (C ++ a).data.toList = fine a.data.toList by rw [list_append, hCl]; exact law_front _ _)
  have HC := hide hC
  clear hC hCl
  go_enter Try.func3, Try.ntmps3
  go_wp2_with fail
  refine (bytesC_any _ _ _ ha hb).mono ?_
  rintro e w1 ⟨⟨x, rfl⟩, hw⟩
  subst hw
  cases x
  case false =>
    go_wp2
    go_ret
    exact ⟨rfl, Below.refl _ _⟩
  go_wp2_with fail
  refine (codeLike_any _ _ c1).mono ?_
  rintro e w2 ⟨rfl, hbel⟩
  have HB := hide hbel
  clear hbel
  rw [← unhide HC]
  go_wp2_with fail
  refine (isCode_any _ _ (by unfold maxLen; omega)).mono ?_
  rintro e w3 ⟨rfl, hw⟩
  subst hw
  rw [unhide L1]
  go_wp2_with fail
  refine (isCode_any _ _ (by rw [ByteArray.size_append]; unfold maxLen; have : (⟨#[47]⟩ : ByteArray).size = 1 := rfl; omega)).mono ?_
  rintro e w4 ⟨rfl, hw⟩
  subst hw
  rw [unhide L2]
  go_wp2_with fail
  refine (isCode_any _ _ (by rw [ByteArray.size_append]; unfold maxLen; omega)).mono ?_
  rintro e w5 ⟨rfl, hw⟩
  subst hw
  rw [unhide L3]
  go_upto_region 13 with fail
  go_cut [7] (fun v wr => v = .bool (whole a.data.toList b.data.toList) ∧ wr = w5)
  case first =>
    rcases fine_ways a with ⟨x1, x2, x3⟩ | ⟨x1, x2, x4, x3⟩ | ⟨x1, x2, x4, x3⟩
    · rcases fine_ways b with ⟨y1, y2, y3⟩ | ⟨y1, y2, y4, y3⟩ | ⟨y1, y2, y4, y3⟩
      · have HW := hide (whole_zero x2 y2)
        have tz : decide ((0 : Int) < (a.size : Int) + (b.size : Int)) = false := by simp; omega
        clear x2 x3 y2 y3
        go_wp2_with (go_at_call 7; refine (isCode_any _ _ (by first | exact ha | exact hb)).mono ?_; rintro e w6 ⟨rfl, rfl⟩)
        go_meet
        case rel => exact ⟨by rw [unhide HW], rfl⟩
      · have HW := hide (whole_yes x3 y3 (by omega))
        have tz : decide ((0 : Int) < (a.size : Int) + (b.size : Int)) = true := by simp; omega
        clear x2 x3 y2 y3
        go_wp2_with (go_at_call 7; refine (isCode_any _ _ (by first | exact ha | exact hb)).mono ?_; rintro e w6 ⟨rfl, rfl⟩)
        go_meet
        case rel => exact ⟨by rw [unhide HW], rfl⟩
      · have HW := hide (whole_fb (a := a) y3)
        clear x2 x3 y2 y3
        go_wp2_with (go_at_call 7; refine (isCode_any _ _ (by first | exact ha | exact hb)).mono ?_; rintro e w6 ⟨rfl, rfl⟩)
        go_meet
        case rel => exact ⟨by rw [unhide HW], rfl⟩
    · rcases fine_ways b with ⟨y1, y2, y3⟩ | ⟨y1, y2, y4, y3⟩ | ⟨y1, y2, y4, y3⟩
      · have HW := hide (whole_yes x3 y3 (by omega))
        have tz : decide ((0 : Int) < (a.size : Int) + (b.size : Int)) = true := by simp; omega
        clear x2 x3 y2 y3
        go_wp2_with (go_at_call 7; refine (isCode_any _ _ (by first | exact ha | exact hb)).mono ?_; rintro e w6 ⟨rfl, rfl⟩)
        go_meet
        case rel => exact ⟨by rw [unhide HW], rfl⟩
      · have HW := hide (whole_yes x3 y3 (by omega))
        have tz : decide ((0 : Int) < (a.size : Int) + (b.size : Int)) = true := by simp; omega
        clear x2 x3 y2 y3
        go_wp2_with (go_at_call 7; refine (isCode_any _ _ (by first | exact ha | exact hb)).mono ?_; rintro e w6 ⟨rfl, rfl⟩)
        go_meet
        case rel => exact ⟨by rw [unhide HW], rfl⟩
      · have HW := hide (whole_fb (a := a) y3)
        clear x2 x3 y2 y3
        go_wp2_with (go_at_call 7; refine (isCode_any _ _ (by first | exact ha | exact hb)).mono ?_; rintro e w6 ⟨rfl, rfl⟩)
        go_meet
        case rel => exact ⟨by rw [unhide HW], rfl⟩
    · have HW := hide (whole_fa (b := b) x3)
      clear x2 x3
      go_wp2_with (go_at_call 7; refine (isCode_any _ _ (by first | exact ha | exact hb)).mono ?_; rintro e w6 ⟨rfl, rfl⟩)
      go_meet
      case rel => exact ⟨by rw [unhide HW], rfl⟩
  case rest =>
    obtain ⟨rfl, rfl⟩ := hcut
    have tw : (whole a.data.toList b.data.toList == whole a.data.toList b.data.toList) = true := by simp
    have tw2 : (whole a.data.toList b.data.toList != whole a.data.toList b.data.toList) = false := by simp
    rcases fine_ways a with ⟨x1, x2, x3⟩ | ⟨x1, x2, x4, x3⟩ | ⟨x1, x2, x4, x3⟩
    all_goals
      have HX := hide x3
      clear x2 x3
      go_wp2_with fail
      refine (isCode_any _ _ (by rw [ByteArray.size_append]; unfold maxLen; omega)).mono ?_
      rintro e w6 ⟨rfl, hw⟩
      subst hw
      rw [unhide L4, unhide HX]
      go_wp2_with (go_at_call 7; refine (isCode_any _ _ ha).mono ?_; rintro e w6 ⟨rfl, rfl⟩)
      go_ret
      exact ⟨rfl, unhide HB⟩
end Go.Proofs.Qxb6627797a
