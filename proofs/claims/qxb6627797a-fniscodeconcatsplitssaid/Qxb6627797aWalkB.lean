import Derived.Test.Qxb6627797aWalkA
import Derived.RegionTactic
import Derived.Deep.DeepCutAuto
import Derived.Laws.IdiomStrings
namespace Go.Proofs.Qxb6627797a
open Go.ChangeShapes Go.WideShapes Go.ChangeAt Go.RowKit

set_option maxHeartbeats 400000 in
theorem bytesI_any (s : ByteArray) (i c : Int) (w : World) (hs : s.size ≤ maxLen) :
    Calls Try.prog 8 #[.string s, .int .i64 i, .int .u8 c] w fun e w' => AnyBool e ∧ w' = w := by
  unfold maxLen at hs
  go_enter Try.func8, Try.ntmps8
  go_wp2
  all_goals (go_ret; exact ⟨anyBool _, rfl⟩)

/-- What the law wants. -/
def wants (s : ByteArray) (c : UInt8) : Bool := (s.toList.isEmpty || isCode s.data.toList) && okc c

theorem code_one (c : UInt8) : isCode [c] = okc c := by simp [isCode]

theorem wants_empty (s : ByteArray) (c : UInt8) (h : s.toList.isEmpty = true) : wants s c = isCode [c] := by
  unfold wants; rw [h, code_one]; rfl
theorem wants_no (s : ByteArray) (c : UInt8) (h : s.toList.isEmpty = false) (h2 : isCode s.data.toList = false) : wants s c = false := by
  unfold wants; rw [h, h2]; rfl
theorem wants_yes (s : ByteArray) (c : UInt8) (h2 : isCode s.data.toList = true) : wants s c = isCode [c] := by
  unfold wants; rw [h2, code_one]; simp

theorem insert_law (s : ByteArray) (k : Nat) (c : UInt8) : isCode (s.extract 0 k ++ ⟨#[c]⟩ ++ s.extract k s.size).data.toList = wants s c := by
  have e : (s.extract 0 k ++ ⟨#[c]⟩ ++ s.extract k s.size).data.toList = s.data.toList.take k ++ c :: s.data.toList.drop k := by
    rw [ByteArray.data_append, ByteArray.data_append, Array.toList_append, Array.toList_append, Lib.extract_data, Lib.extract_data]
    simp
    exact List.take_of_length_le (by simp)
  rw [e]
  unfold wants isCode
  rw [Lib.toList_data]
  generalize s.data.toList = l
  have h1 : (l.take k ++ c :: l.drop k).isEmpty = false := by cases h : l.take k <;> rfl
  have h2 : l.all okc = ((l.take k).all okc && (l.drop k).all okc) := by rw [← List.all_append, List.take_append_drop]
  rw [h1, List.all_append, List.all_cons, h2]
  cases l with
  | nil => simp
  | cons x l =>
    generalize ((x :: l).take k).all okc = A
    generalize ((x :: l).drop k).all okc = B
    cases A <;> cases B <;> cases okc c <;> rfl

theorem insert_size (s : ByteArray) (k : Nat) (c : UInt8) (h : s.size ≤ 65536) : (s.extract 0 k ++ ⟨#[c]⟩ ++ s.extract k s.size).size ≤ maxLen := by
  have h1 : (⟨#[c]⟩ : ByteArray).size = 1 := rfl
  simp only [ByteArray.size_append, ByteArray.size_extract, h1, maxLen]
  omega

/-- How many of the first j bytes are codes by themselves. -/
def codes (j : Nat) : Nat := ((List.range j).filter okn).length
theorem codes_succ (j : Nat) : codes (j + 1) = codes j + (if okn j = true then 1 else 0) := by
  unfold codes
  rw [List.range_succ, List.filter_append]
  cases h : okn j <;> simp [h]
theorem codes_le (j : Nat) : codes j ≤ j := by
  have := List.length_filter_le okn (List.range j)
  unfold codes
  simpa using this
theorem codes_all : codes 256 = 62 := by decide +kernel
/-- 'string([]byte{b})'. -/
theorem conv_one (b : UInt8) (w : World) : (convert 26 9 (.slice (some ⟨w.heap.size, 0, none⟩) 1 1)).run Try.prog (w.alloc (.cells #[.int .u8 (b.toNat : Int)] 5)) =
    .ok (.string ⟨#[b]⟩) (w.alloc (.cells #[.int .u8 (b.toNat : Int)] 5)) :=
  run_convert_bytes_back (P := Try.prog) _ 26 9 5 ⟨w.heap.size, 0, none⟩ 1 [b] Try.underlying26 Try.underlying5 Try.underlying9 (fun j hj => by
    obtain rfl : j = 0 := by simp at hj; omega
    simp [Addr.add])

set_option maxRecDepth 100000 in
set_option maxHeartbeats 1000000 in
theorem insert_walk (s : ByteArray) (i : Int) (c : UInt8) (w : World) (hs : s.size ≤ maxLen) :
    Calls Try.prog 4 #[.string s, .int .i64 i, .int .u8 (c.toNat : Int)] w fun e w' => e = .returned (.bool true) ∧ Below w.heap.size w w' := by
  by_cases c1 : s.size ≤ 65536
  case neg =>
    have c1' : (65536 : Int) < (s.size : Int) := by omega
    go_enter Try.func4, Try.ntmps4
    go_wp2_with fail
    refine (bytesI_any _ _ _ _ hs).mono ?_
    rintro e w1 ⟨⟨b, rfl⟩, hw⟩
    subst hw
    cases b
    all_goals
      go_wp2
      go_ret
      exact ⟨rfl, Below.refl _ _⟩
  have t1 : decide ((65536 : Int) < (s.size : Int)) = false := by simp; omega
  by_cases c2 : i < 0 ∨ (s.size : Int) < i
  case pos =>
    have t2 : (decide (i < 0) || decide ((s.size : Int) < i)) = true := by simpa using c2
    go_enter Try.func4, Try.ntmps4
    go_wp2_with fail
    refine (bytesI_any _ _ _ _ hs).mono ?_
    rintro e w1 ⟨⟨b, rfl⟩, hw⟩
    subst hw
    cases b
    case false =>
      go_wp2
      go_ret
      exact ⟨rfl, Below.refl _ _⟩
    case true =>
      by_cases c3 : i < 0
      · go_wp2
        go_ret
        exact ⟨rfl, Below.refl _ _⟩
      · have c4 : (s.size : Int) < i := by omega
        go_wp2
        go_ret
        exact ⟨rfl, Below.refl _ _⟩
  obtain ⟨k, rfl⟩ := Int.eq_ofNat_of_zero_le (show 0 ≤ i by omega)
  have hk : k ≤ s.size := by omega
  have t3 : decide ((k : Int) < 0) = false := by simp
  have t4 : decide ((s.size : Int) < (k : Int)) = false := by simp; omega
  clear c2
  go_enter Try.func4, Try.ntmps4
  go_wp2_with fail
  refine (bytesI_any _ _ _ _ hs).mono ?_
  rintro e w1 ⟨⟨b, rfl⟩, hw⟩
  subst hw
  cases b
  case false =>
    go_wp2
    go_ret
    exact ⟨rfl, Below.refl _ _⟩
  have hcv := conv_one c w1
  go_wp2_with fail
  go_quiet (fail)
  have hB : Below w1.heap.size w1 ((w1.alloc (.cells #[.int .u8 (c.toNat : Int)] 5)).drewN nq) := below_drewN ((Below.refl _ _).alloc (Nat.le_refl _) _) _
  have HT := hide (insert_law s k c)
  generalize (w1.alloc (.cells #[.int .u8 (c.toNat : Int)] 5)).drewN nq = w2 at hB ⊢
  have HB := hide hB
  clear hB hcv
  go_upto_region 9 with fail
  go_cut [9] (fun v wr => v = .bool (wants s c) ∧ wr = w2)
  case first =>
    by_cases hE : s.toList.isEmpty = true
    · have HW := hide (wants_empty s c hE)
      go_wp2_with fail
      refine (isCode_any _ _ (by simp [maxLen, ByteArray.size])).mono ?_
      rintro e w3 ⟨rfl, hw⟩
      subst hw
      rw [show isCode ((⟨#[c]⟩ : ByteArray).data.toList) = wants s c from (unhide HW).symm]
      go_wp2
      go_meet
      case rel => exact ⟨rfl, rfl⟩
    · have hE' : s.toList.isEmpty = false := by simpa using hE
      clear hE
      go_wp2_with fail
      refine (isCode_any _ _ hs).mono ?_
      rintro e w3 ⟨rfl, hw⟩
      subst hw
      cases hS : isCode s.data.toList
      · have HW := hide (wants_no s c hE' hS)
        go_wp2
        go_meet
        case rel => exact ⟨by rw [unhide HW], rfl⟩
      · have HW := hide (wants_yes s c hS)
        go_wp2_with fail
        refine (isCode_any _ _ (by simp [maxLen, ByteArray.size])).mono ?_
        rintro e w4 ⟨rfl, hw⟩
        subst hw
        rw [show isCode ((⟨#[c]⟩ : ByteArray).data.toList) = wants s c from (unhide HW).symm]
        go_wp2
        go_meet
        case rel => exact ⟨rfl, rfl⟩
  case rest =>
    obtain ⟨rfl, rfl⟩ := hcut
    go_wp2_with fail
    refine (isCode_any _ _ (insert_size s k c c1)).mono ?_
    rintro e w3 ⟨rfl, hw⟩
    subst hw
    rw [unhide HT]
    have tw : (wants s c != wants s c) = false := by simp
    have tw2 : (wants s c == wants s c) = true := by simp
    go_wp2
    go_loopw [10, 11] (fun n i wr => ∃ j : Nat, j ≤ 256 ∧ i = .int .i64 j ∧ n = .int .i64 (codes j : Nat) ∧ Below w1.heap.size w1 wr) (fun _ i _ => 256 - (intOf i).toNat)
    case atStart => exact ⟨0, by omega, rfl, rfl, unhide HB⟩
    case round =>
      obtain ⟨j, hj, rfl, rfl, hbel⟩ := hrel
      have JB := hide hbel
      clear hbel HB
      have hcl := codes_le j
      by_cases hlt : j < 256
      · obtain ⟨u, hu⟩ : ∃ u : UInt8, u.toNat = j := ⟨UInt8.ofNat j, by rw [UInt8.toNat_ofNat', Nat.mod_eq_of_lt (by omega)]⟩
        have hcv := conv_one u wr
        rw [hu] at hcv
        have hsucc := codes_succ j
        have hok : isCode [u] = okn j := by rw [code_one]; unfold okc; rw [hu]
        have HS := hide hsucc
        have HO := hide hok
        clear hsucc hok hu
        have hj8 : (j : Int) ≤ 255 := by omega
        go_wp2_with fail
        refine (isCode_any _ _ (by simp [maxLen, ByteArray.size])).mono ?_
        rintro e w4 ⟨rfl, hw⟩
        subst hw
        rw [show isCode ((⟨#[u]⟩ : ByteArray).data.toList) = okn j from unhide HO]
        cases hk : okn j
        · have hsu : codes (j + 1) = codes j := by rw [unhide HS, hk]; rfl
          have HSu := hide hsu
          clear hsu
          go_wp2
          go_roundw
          case rel => exact ⟨j + 1, by omega, by go_num, by rw [unhide HSu], (unhide JB).alloc (unhide JB).size _⟩
          case measure => simp [intOf]; omega
        · have hsu : codes (j + 1) = codes j + 1 := by rw [unhide HS, hk]; rfl
          have HSu := hide hsu
          clear hsu
          go_wp2
          go_roundw
          case rel => exact ⟨j + 1, by omega, by go_num, by rw [unhide HSu]; go_num, (unhide JB).alloc (unhide JB).size _⟩
          case measure => simp [intOf]; omega
      · obtain rfl : j = 256 := by omega
        rw [codes_all]
        clear hcl
        go_wp2
        go_ret
        exact ⟨rfl, unhide JB⟩
end Go.Proofs.Qxb6627797a
