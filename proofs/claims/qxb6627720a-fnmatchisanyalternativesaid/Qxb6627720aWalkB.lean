import Derived.Test.Qxb6627720aWalkA
import Derived.Lib.Strings
namespace Go.Proofs.Qxb6627720a
open Go.ChangeShapes Go.WideShapes Go.ChangeAt Go.RowKit
open Glob

def AnyBool (e : Ending) : Prop := ∃ b, e = .returned (.bool b)
theorem anyBool (b : Bool) : AnyBool (.returned (.bool b)) := ⟨b, rfl⟩

set_option maxHeartbeats 400000 in
theorem bytes2_any (g s : ByteArray) (w : World) (hg : g.size ≤ maxLen) (hs : s.size ≤ maxLen) :
    Calls Try.prog 10 #[.string g, .string s] w fun e w' => AnyBool e ∧ w' = w := by
  unfold maxLen at hg hs
  go_enter Try.func10, Try.ntmps10
  go_wp2
  all_goals (go_ret; exact ⟨anyBool _, rfl⟩)

set_option maxHeartbeats 400000 in
theorem reach_any (g : ByteArray) (ng : Bool) (w : World) (hg : g.size ≤ maxLen) :
    Calls Try.prog 6 #[.string g, .bool ng] w fun e w' => AnyBool e ∧ w' = w := by
  unfold maxLen at hg
  cases ng
  all_goals
    go_enter Try.func6, Try.ntmps6
    go_wp2
    go_loop [5] (fun i => ∃ k : Nat, k ≤ g.size ∧ i = .int .i64 k) (fun i => g.size - (intOf i).toNat)
    case atStart => exact ⟨0, Nat.zero_le _, rfl⟩
    case round =>
      obtain ⟨k, hk, rfl⟩ := hrel
      by_cases hlt : k < g.size
      · by_cases hc : ((g[k].toNat : Int) == 124) = true
        · go_wp2
          go_ret
          exact ⟨anyBool _, rfl⟩
        · have hc' : ((g[k].toNat : Int) == 124) = false := by simpa using hc
          clear hc
          go_wp2
          go_round
          case rel => exact ⟨k + 1, by omega, by go_num⟩
          case measure => simp [intOf]; omega
      · by_cases h0 : 0 < g.size
        · go_wp2
          all_goals (go_ret; exact ⟨anyBool _, rfl⟩)
        · go_wp2
          all_goals (go_ret; exact ⟨anyBool _, rfl⟩)

/-- What zzIndex answers. -/
def Idx (t sub : List UInt8) (r : Int) : Prop :=
  (r = -1 ∧ ∀ q, q + sub.length ≤ t.length → (t.drop q).take sub.length ≠ sub) ∨
  (∃ p : Nat, r = p ∧ p + sub.length ≤ t.length ∧ (t.drop p).take sub.length = sub ∧ ∀ q, q < p → (t.drop q).take sub.length ≠ sub)

theorem extract_list (s : ByteArray) (a b : Nat) : (s.extract a b).data.toList = (s.data.toList.take b).drop a := by
  rw [Lib.extract_data, List.drop_take]

set_option maxHeartbeats 400000 in
theorem index_any (t sub : ByteArray) (w : World) (ht : t.size ≤ 4096) (hs : sub.size ≤ 4096) :
    Calls Try.prog 12 #[.string t, .string sub] w fun e w' => (∃ r, e = .returned (.int .i64 r) ∧ Idx t.data.toList sub.data.toList r) ∧ w' = w := by
  go_enter Try.func12, Try.ntmps12
  go_wp2
  go_loop [5] (fun i => ∃ k : Nat, k ≤ t.size + 1 ∧ i = .int .i64 k ∧ ∀ q, q < k → (t.data.toList.drop q).take sub.size ≠ sub.data.toList) (fun i => t.size + 1 - (intOf i).toNat)
  case atStart => exact ⟨0, Nat.zero_le _, rfl, fun q hq => by omega⟩
  case round =>
    obtain ⟨k, hk, rfl, hno⟩ := hrel
    by_cases hlt : k + sub.size ≤ t.size
    · have hno' := hide hno
      clear hno
      by_cases he : (t.data.toList.drop k).take sub.size = sub.data.toList
      · have hx := hide he
        have t1 : ((t.extract k (k + sub.size)).toList == sub.toList) = true := by
          rw [Lib.toList_data, Lib.toList_data, Lib.extract_data, Nat.add_sub_cancel_left, he]; simp
        clear he
        go_wp2
        go_ret
        exact ⟨⟨_, rfl, .inr ⟨k, rfl, by simpa using hlt, by simpa using unhide hx, by simpa using unhide hno'⟩⟩, rfl⟩
      · have hx := hide he
        have t1 : ((t.extract k (k + sub.size)).toList == sub.toList) = false := by
          rw [Lib.toList_data, Lib.toList_data, Lib.extract_data, Nat.add_sub_cancel_left]; simpa using he
        clear he
        go_wp2
        go_round
        case rel =>
          refine ⟨k + 1, by omega, by go_num, fun q hq => ?_⟩
          by_cases hqk : q = k
          · subst hqk; exact unhide hx
          · exact unhide hno' q (by omega)
        case measure => simp [intOf]; omega
    · have hno' := hide hno
      clear hno
      go_wp2
      go_ret
      exact ⟨⟨_, rfl, .inl ⟨rfl, fun q hq => by simp at hq; simpa using unhide hno' q (by omega)⟩⟩, rfl⟩
end Go.Proofs.Qxb6627720a
