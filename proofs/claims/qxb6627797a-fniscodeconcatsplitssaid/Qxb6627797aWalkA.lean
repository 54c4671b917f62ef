import Derived.Test.Qxb6627797aRows
import Derived.WalkKit
import Derived.ProofKit
import Derived.WalkSpells
import Derived.WalkLawsBesides
import Derived.Deep.QuietTactic
import Derived.BigQuiet
import Derived.Lib.Strings
namespace Go.Proofs.Qxb6627797a
open Go.ChangeShapes Go.WideShapes Go.ChangeAt Go.RowKit

theorem hide {p : Prop} (h : p) : Hid p := h
theorem unhide {p : Prop} (h : Hid p) : p := h
theorem ret_bool {a b : Bool} (h : a = b) : Ending.returned (.bool a) = .returned (.bool b) := by rw [h]
def AnyBool (e : Ending) : Prop := ∃ b, e = .returned (.bool b)
theorem anyBool (b : Bool) : AnyBool (.returned (.bool b)) := ⟨b, rfl⟩

/-- A letter or a digit. -/
def okn (n : Nat) : Bool := (48 ≤ n && n ≤ 57) || (65 ≤ n && n ≤ 90) || (97 ≤ n && n ≤ 122)
def okc (c : UInt8) : Bool := okn c.toNat
def isCode (l : List UInt8) : Bool := !l.isEmpty && l.all okc

theorem byte_at (s : ByteArray) (k : Nat) (h : k < s.size) : s.data.toList[k]? = some s[k] := by
  rw [List.getElem?_eq_getElem (by simpa using h)]; rfl

theorem take_one {G : List UInt8} {k : Nat} {c : UInt8} (hc : G[k]? = some c) : G.take (k + 1) = G.take k ++ [c] := by
  rw [List.take_add_one, hc]; rfl

theorem all_step (l : List UInt8) (k : Nat) (c : UInt8) (h : l[k]? = some c) (ha : (l.take k).all okc = true) (hc : okc c = true) : (l.take (k + 1)).all okc = true := by
  rw [take_one h, List.all_append, ha]; simp [hc]

theorem not_code (l : List UInt8) (k : Nat) (c : UInt8) (h : l[k]? = some c) (hc : okc c = false) : isCode l = false := by
  unfold isCode
  have : l.all okc = false := by
    rw [List.all_eq_false]
    exact ⟨c, List.mem_of_getElem? h, by simp [hc]⟩
  rw [this]; simp

theorem is_code (l : List UInt8) (hn : 0 < l.length) (ha : l.all okc = true) : isCode l = true := by
  unfold isCode
  rw [ha]
  cases l with
  | nil => simp at hn
  | cons a l => rfl

theorem okc_ranges_fin : ∀ n : Fin 256, (decide ((48 : Int) ≤ (n.val : Int)) = false ∧ decide ((n.val : Int) ≤ 57) = true ∧ decide ((65 : Int) ≤ (n.val : Int)) = false ∧ decide ((n.val : Int) ≤ 90) = true ∧ decide ((97 : Int) ≤ (n.val : Int)) = false ∧ decide ((n.val : Int) ≤ 122) = true ∧ okn n.val = false) ∨
    (decide ((48 : Int) ≤ (n.val : Int)) = true ∧ decide ((n.val : Int) ≤ 57) = true ∧ decide ((65 : Int) ≤ (n.val : Int)) = false ∧ decide ((n.val : Int) ≤ 90) = true ∧ decide ((97 : Int) ≤ (n.val : Int)) = false ∧ decide ((n.val : Int) ≤ 122) = true ∧ okn n.val = true) ∨
    (decide ((48 : Int) ≤ (n.val : Int)) = true ∧ decide ((n.val : Int) ≤ 57) = false ∧ decide ((65 : Int) ≤ (n.val : Int)) = false ∧ decide ((n.val : Int) ≤ 90) = true ∧ decide ((97 : Int) ≤ (n.val : Int)) = false ∧ decide ((n.val : Int) ≤ 122) = true ∧ okn n.val = false) ∨
    (decide ((48 : Int) ≤ (n.val : Int)) = true ∧ decide ((n.val : Int) ≤ 57) = false ∧ decide ((65 : Int) ≤ (n.val : Int)) = true ∧ decide ((n.val : Int) ≤ 90) = true ∧ decide ((97 : Int) ≤ (n.val : Int)) = false ∧ decide ((n.val : Int) ≤ 122) = true ∧ okn n.val = true) ∨
    (decide ((48 : Int) ≤ (n.val : Int)) = true ∧ decide ((n.val : Int) ≤ 57) = false ∧ decide ((65 : Int) ≤ (n.val : Int)) = true ∧ decide ((n.val : Int) ≤ 90) = false ∧ decide ((97 : Int) ≤ (n.val : Int)) = false ∧ decide ((n.val : Int) ≤ 122) = true ∧ okn n.val = false) ∨
    (decide ((48 : Int) ≤ (n.val : Int)) = true ∧ decide ((n.val : Int) ≤ 57) = false ∧ decide ((65 : Int) ≤ (n.val : Int)) = true ∧ decide ((n.val : Int) ≤ 90) = false ∧ decide ((97 : Int) ≤ (n.val : Int)) = true ∧ decide ((n.val : Int) ≤ 122) = true ∧ okn n.val = true) ∨
    (decide ((48 : Int) ≤ (n.val : Int)) = true ∧ decide ((n.val : Int) ≤ 57) = false ∧ decide ((65 : Int) ≤ (n.val : Int)) = true ∧ decide ((n.val : Int) ≤ 90) = false ∧ decide ((97 : Int) ≤ (n.val : Int)) = true ∧ decide ((n.val : Int) ≤ 122) = false ∧ okn n.val = false) := by decide +kernel

theorem okc_ranges (c : UInt8) : (decide ((48 : Int) ≤ (c.toNat : Int)) = false ∧ decide ((c.toNat : Int) ≤ 57) = true ∧ decide ((65 : Int) ≤ (c.toNat : Int)) = false ∧ decide ((c.toNat : Int) ≤ 90) = true ∧ decide ((97 : Int) ≤ (c.toNat : Int)) = false ∧ decide ((c.toNat : Int) ≤ 122) = true ∧ okc c = false) ∨
    (decide ((48 : Int) ≤ (c.toNat : Int)) = true ∧ decide ((c.toNat : Int) ≤ 57) = true ∧ decide ((65 : Int) ≤ (c.toNat : Int)) = false ∧ decide ((c.toNat : Int) ≤ 90) = true ∧ decide ((97 : Int) ≤ (c.toNat : Int)) = false ∧ decide ((c.toNat : Int) ≤ 122) = true ∧ okc c = true) ∨
    (decide ((48 : Int) ≤ (c.toNat : Int)) = true ∧ decide ((c.toNat : Int) ≤ 57) = false ∧ decide ((65 : Int) ≤ (c.toNat : Int)) = false ∧ decide ((c.toNat : Int) ≤ 90) = true ∧ decide ((97 : Int) ≤ (c.toNat : Int)) = false ∧ decide ((c.toNat : Int) ≤ 122) = true ∧ okc c = false) ∨
    (decide ((48 : Int) ≤ (c.toNat : Int)) = true ∧ decide ((c.toNat : Int) ≤ 57) = false ∧ decide ((65 : Int) ≤ (c.toNat : Int)) = true ∧ decide ((c.toNat : Int) ≤ 90) = true ∧ decide ((97 : Int) ≤ (c.toNat : Int)) = false ∧ decide ((c.toNat : Int) ≤ 122) = true ∧ okc c = true) ∨
    (decide ((48 : Int) ≤ (c.toNat : Int)) = true ∧ decide ((c.toNat : Int) ≤ 57) = false ∧ decide ((65 : Int) ≤ (c.toNat : Int)) = true ∧ decide ((c.toNat : Int) ≤ 90) = false ∧ decide ((97 : Int) ≤ (c.toNat : Int)) = false ∧ decide ((c.toNat : Int) ≤ 122) = true ∧ okc c = false) ∨
    (decide ((48 : Int) ≤ (c.toNat : Int)) = true ∧ decide ((c.toNat : Int) ≤ 57) = false ∧ decide ((65 : Int) ≤ (c.toNat : Int)) = true ∧ decide ((c.toNat : Int) ≤ 90) = false ∧ decide ((97 : Int) ≤ (c.toNat : Int)) = true ∧ decide ((c.toNat : Int) ≤ 122) = true ∧ okc c = true) ∨
    (decide ((48 : Int) ≤ (c.toNat : Int)) = true ∧ decide ((c.toNat : Int) ≤ 57) = false ∧ decide ((65 : Int) ≤ (c.toNat : Int)) = true ∧ decide ((c.toNat : Int) ≤ 90) = false ∧ decide ((97 : Int) ≤ (c.toNat : Int)) = true ∧ decide ((c.toNat : Int) ≤ 122) = false ∧ okc c = false) := okc_ranges_fin ⟨c.toNat, c.toNat_lt⟩

set_option maxHeartbeats 1000000 in
theorem isCode_any (s : ByteArray) (w : World) (hs : s.size ≤ maxLen) :
    Calls Try.prog 7 #[.string s] w fun e w' => e = .returned (.bool (isCode s.data.toList)) ∧ w' = w := by
  unfold maxLen at hs
  by_cases h0 : s.size = 0
  · have hl : s.data.toList = [] := List.eq_nil_of_length_eq_zero (by rw [← h0]; simp)
    have HL := hide hl
    have t1 : s.toList.isEmpty = true := by rw [Lib.toList_data, hl]; rfl
    clear hl
    go_enter Try.func7, Try.ntmps7
    go_wp2
    go_ret
    exact ⟨ret_bool (by rw [unhide HL]; rfl), rfl⟩
  · have hpos : 0 < s.size := by omega
    have t1 : s.toList.isEmpty = false := by
      rw [Lib.toList_data]
      cases h : s.data.toList with
      | nil =>
        have h1 : s.data.toList.length = s.size := by simp
        rw [h] at h1
        simp at h1
        omega
      | cons a l => rfl
    clear h0
    go_enter Try.func7, Try.ntmps7
    go_wp2
    go_loop [3] (fun i => ∃ k : Nat, k ≤ s.size ∧ i = .int .i64 k ∧ (s.data.toList.take k).all okc = true) (fun i => s.size - (intOf i).toNat)
    case atStart => exact ⟨0, Nat.zero_le _, rfl, rfl⟩
    case round =>
      obtain ⟨k, hk, rfl, hall⟩ := hrel
      have HAll := hide hall
      clear hall
      by_cases hlt : k < s.size
      · have hbt := hide (byte_at s k hlt)
        rcases okc_ranges s[k] with ⟨e1, e2, e3, e4, e5, e6, c⟩ | ⟨e1, e2, e3, e4, e5, e6, c⟩ | ⟨e1, e2, e3, e4, e5, e6, c⟩ | ⟨e1, e2, e3, e4, e5, e6, c⟩ | ⟨e1, e2, e3, e4, e5, e6, c⟩ | ⟨e1, e2, e3, e4, e5, e6, c⟩ | ⟨e1, e2, e3, e4, e5, e6, c⟩
        · have HN := hide (not_code _ k _ (unhide hbt) c)
          clear c
          go_wp2
          go_ret
          exact ⟨ret_bool (by rw [unhide HN]), rfl⟩
        · have HN := hide (all_step _ k _ (unhide hbt) (unhide HAll) c)
          clear c
          go_wp2
          go_round
          case rel => exact ⟨k + 1, by omega, by go_num, unhide HN⟩
          case measure => simp [intOf]; omega
        · have HN := hide (not_code _ k _ (unhide hbt) c)
          clear c
          go_wp2
          go_ret
          exact ⟨ret_bool (by rw [unhide HN]), rfl⟩
        · have HN := hide (all_step _ k _ (unhide hbt) (unhide HAll) c)
          clear c
          go_wp2
          go_round
          case rel => exact ⟨k + 1, by omega, by go_num, unhide HN⟩
          case measure => simp [intOf]; omega
        · have HN := hide (not_code _ k _ (unhide hbt) c)
          clear c
          go_wp2
          go_ret
          exact ⟨ret_bool (by rw [unhide HN]), rfl⟩
        · have HN := hide (all_step _ k _ (unhide hbt) (unhide HAll) c)
          clear c
          go_wp2
          go_round
          case rel => exact ⟨k + 1, by omega, by go_num, unhide HN⟩
          case measure => simp [intOf]; omega
        · have HN := hide (not_code _ k _ (unhide hbt) c)
          clear c
          go_wp2
          go_ret
          exact ⟨ret_bool (by rw [unhide HN]), rfl⟩
      · have HC := hide (is_code s.data.toList (by simpa using hpos) (by have := unhide HAll; rw [List.take_of_length_le (by simp; omega)] at this; exact this))
        go_wp2
        go_ret
        exact ⟨ret_bool (by rw [unhide HC]), rfl⟩
end Go.Proofs.Qxb6627797a
