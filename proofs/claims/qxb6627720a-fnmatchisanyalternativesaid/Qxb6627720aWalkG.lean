import Derived.Test.Qxb6627720aWalkF
import Derived.Laws.CopyRow
import Derived.Laws.IdiomCopy
import Derived.Laws.CopyOwn
namespace Go.Proofs.Qxb6627720a
open Go.ChangeShapes Go.WideShapes Go.ChangeAt Go.RowKit
open Glob

theorem Row.below {w w' : World} {a : Option Addr} {n : Nat} {f : Nat → Value} (h : Row w a n f) (hb : Below w.heap.size w w') : Row w' a n f := by
  rcases h with h | ⟨b, o, ha, hl, hc⟩
  · exact .inl h
  · exact .inr ⟨b, o, ha, Nat.lt_of_lt_of_le hl hb.size, fun i hi => (hb.cell (p := ⟨b, o + i, none⟩) hl).trans (hc i hi)⟩

def reachB (l : List UInt8) (ng : Bool) : Bool := !(l.any (· == 124)) && (ng || !(l.head? == some 33))

theorem any_snoc (l : List UInt8) (k : Nat) (c : UInt8) (h : l[k]? = some c) : (l.take (k + 1)).any (· == 124) = ((l.take k).any (· == 124) || (c == 124)) := by
  rw [take_one h]; simp

theorem any_at (l : List UInt8) (k : Nat) (h : l[k]? = some 124) : l.any (· == 124) = true := by
  rw [List.any_eq_true]
  exact ⟨124, List.mem_of_getElem? h, rfl⟩

set_option maxHeartbeats 400000 in
theorem reach_is (g : ByteArray) (ng : Bool) (w : World) (hg : g.size ≤ maxLen) :
    Calls Try.prog 6 #[.string g, .bool ng] w fun e w' => e = .returned (.bool (reachB g.data.toList ng)) ∧ w' = w := by
  unfold maxLen at hg
  cases ng
  all_goals
    go_enter Try.func6, Try.ntmps6
    go_wp2
    go_loop [5] (fun i => ∃ k : Nat, k ≤ g.size ∧ i = .int .i64 k ∧ (g.data.toList.take k).any (· == 124) = false) (fun i => g.size - (intOf i).toNat)
    case atStart => exact ⟨0, Nat.zero_le _, rfl, rfl⟩
    case round =>
      obtain ⟨k, hk, rfl, hno⟩ := hrel
      have HNo := hide hno
      clear hno
      by_cases hlt : k < g.size
      · by_cases hc : g[k] = 124
        · have t1 : ((g[k].toNat : Int) == 124) = true := by rw [hc]; rfl
          have hn := hide (any_at g.data.toList k (by rw [byte_at g k hlt, hc]))
          clear hc
          go_wp2
          go_ret
          exact ⟨ret_bool (by unfold reachB; rw [unhide hn]; rfl), rfl⟩
        · have t1 : ((g[k].toNat : Int) == 124) = false := by rw [show (124 : Int) = ((124 : UInt8).toNat : Int) from rfl, byte_eq]; simp [hc]
          have hn := hide (any_snoc g.data.toList k g[k] (byte_at g k hlt))
          have hc' := hide hc
          clear hc
          go_wp2
          go_round
          case rel => exact ⟨k + 1, by omega, by go_num, by rw [unhide hn, unhide HNo]; simpa using unhide hc'⟩
          case measure => simp [intOf]; omega
      · have hA : Hid (g.data.toList.any (· == 124) = false) := by
          have := unhide HNo
          rw [List.take_of_length_le (by simp; omega)] at this
          exact this
        clear HNo
        by_cases h0 : 0 < g.size
        · have hh : Hid (g.data.toList.head? = some g[0]) := by
            have := byte_at g 0 h0
            show g.data.toList.head? = some g[0]
            rw [List.head?_eq_getElem?]; exact this
          by_cases hc : g[0] = 33
          · have t1 : ((g[0].toNat : Int) == 33) = true := by rw [hc]; rfl
            have hc' := hide hc
            clear hc
            go_wp2
            go_ret
            exact ⟨ret_bool (by unfold reachB; rw [unhide hA, unhide hh, unhide hc']; rfl), rfl⟩
          · have t1 : ((g[0].toNat : Int) == 33) = false := by rw [show (33 : Int) = ((33 : UInt8).toNat : Int) from rfl, byte_eq]; simp [hc]
            have hc' := hide hc
            clear hc
            go_wp2
            go_ret
            exact ⟨ret_bool (by unfold reachB; rw [unhide hA, unhide hh]; have := unhide hc'; simp [this]), rfl⟩
        · have hh : Hid (g.data.toList = []) := by
            have hl : g.data.toList.length = g.size := by simp
            exact List.eq_nil_of_length_eq_zero (by omega)
          go_wp2
          go_ret
          exact ⟨ret_bool (by unfold reachB; rw [unhide hA, unhide hh]; rfl), rfl⟩

/-- The length check has answered; if it said yes, every string is short. -/
def BytesOk (n : Nat) (gs : Nat → ByteArray) (e : Ending) : Prop := ∃ b, e = .returned (.bool b) ∧ (b = true → ∀ i, i < n → (gs i).size ≤ 1048576)
theorem bytesNo (n : Nat) (gs : Nat → ByteArray) : BytesOk n gs (.returned (.bool false)) := ⟨false, rfl, fun h => by cases h⟩
theorem bytesYes (n : Nat) (gs : Nat → ByteArray) (h : ∀ i, i < n → (gs i).size ≤ 1048576) : BytesOk n gs (.returned (.bool true)) := ⟨true, rfl, fun _ => h⟩

set_option maxHeartbeats 400000 in
theorem bytes1_any (a0 a1 : Option Addr) (n0 c0 n1 c1 : Nat) (cut : Int) (gs : Nat → ByteArray) (m : ByteArray) (w : World) (hn0 : n0 ≤ maxLen) (hn1 : n1 ≤ maxLen) (hm : m.size ≤ maxLen)
    (hgs : ∀ i, i < n0 → (gs i).size ≤ maxLen) (hg : Row w a0 n0 (fun i => .string (gs i))) :
    Calls Try.prog 5 #[.slice a0 n0 c0, .slice a1 n1 c1, .int .i64 cut, .string m] w fun e w' => BytesOk n0 gs e ∧ w' = w := by
  unfold maxLen at hn0 hn1 hm hgs
  have HGs := hide hgs
  clear hgs
  by_cases d0 : n0 ≤ 1048576
  case neg =>
    go_enter Try.func5, Try.ntmps5
    go_wp2
    go_ret
    exact ⟨bytesNo _ _, rfl⟩
  go_enter Try.func5, Try.ntmps5
  go_wp2
  go_loop [9, 10] (fun z i => ∃ (k : Nat) (t : Int), k ≤ n0 ∧ i = .int .i64 k ∧ z = .int .i64 t ∧ 0 ≤ t ∧ t ≤ 1048576 ∧ ∀ j, j < k → (gs j).size ≤ 1048576) (fun _ i => n0 - (intOf i).toNat)
  case atStart => exact ⟨0, n0, Nat.zero_le _, rfl, by go_num, by omega, by omega, fun j hj => by omega⟩
  case round =>
    obtain ⟨k, t, hk, rfl, rfl, ht0, ht1, hall⟩ := hrel
    have HAll := hide hall
    clear hall
    by_cases hlt : k < n0
    · rcases hg with h0 | ⟨b, o, rfl, hl, hc⟩
      · omega
      have q1 := hc k hlt
      have hsz := unhide HGs k hlt
      clear hc
      by_cases d1 : (gs k).size ≤ 1048576
      · by_cases d2 : t + (gs k).size ≤ 1048576
        · go_wp2
          go_round
          case rel =>
            refine ⟨k + 1, t + (gs k).size, by omega, by go_num, rfl, by omega, d2, fun j hj => ?_⟩
            by_cases hjk : j = k
            · subst hjk; exact d1
            · exact unhide HAll j (by omega)
          case measure => simp [intOf]; omega
        · go_wp2
          go_ret
          exact ⟨bytesNo _ _, rfl⟩
      · go_wp2
        go_ret
        exact ⟨bytesNo _ _, rfl⟩
    · have hall2 := hide (bytesYes n0 gs (fun i hi => unhide HAll i (by omega)))
      clear HAll
      go_wp2
      all_goals (go_ret; first | exact ⟨bytesNo _ _, rfl⟩ | exact ⟨unhide hall2, rfl⟩)
end Go.Proofs.Qxb6627720a
