import Derived.Test.Qxb6627720aWalkD
namespace Go.Proofs.Qxb6627720a
open Go.ChangeShapes Go.WideShapes Go.ChangeAt Go.RowKit
open Glob

/-- Some alternative fits. -/
def anyAlt (gs : Nat → ByteArray) (ns : Nat → Bool) (n : Nat) (m : ByteArray) : Bool := (List.range n).any (fun i => gmS (gs i) m != ns i)

theorem anyAlt_succ (gs : Nat → ByteArray) (ns : Nat → Bool) (n : Nat) (m : ByteArray) : anyAlt gs ns (n + 1) m = (anyAlt gs ns n m || (gmS (gs n) m != ns n)) := by
  simp [anyAlt, List.range_succ, List.any_append]

theorem anyAlt_hit (gs : Nat → ByteArray) (ns : Nat → Bool) (n k : Nat) (m : ByteArray) (hk : k < n) (h : (gmS (gs k) m != ns k) = true) : anyAlt gs ns n m = true := by
  rw [anyAlt, List.any_eq_true]
  exact ⟨k, by simpa using hk, h⟩

theorem alt_str (gs : Nat → ByteArray) (ns : Nat → Bool) (n k : Nat) (h : k < n) : altAt gs ns n (k * 2) = .string (gs k) := by
  unfold altAt
  rw [if_pos (by omega), if_pos (by omega), show (k * 2) / 2 = k from by omega]

theorem alt_bool (gs : Nat → ByteArray) (ns : Nat → Bool) (n k : Nat) (h : k < n) : altAt gs ns n (k * 2 + 1) = .bool (ns k) := by
  unfold altAt
  rw [if_pos (by omega), if_neg (by omega), show (k * 2 + 1) / 2 = k from by omega]

set_option maxHeartbeats 400000 in
theorem match_any (b n : Nat) (gs : Nat → ByteArray) (ns : Nat → Bool) (m : ByteArray) (w : World) (hn : n ≤ 4096) (hm : m.size ≤ 4096)
    (hgs : ∀ i, i < n → (gs i).size ≤ 4096) (hrow : w.rowIs b 33 (n * 2) (altAt gs ns n)) :
    Calls Try.prog 8 #[.agg #[.slice (some ⟨b, 0, none⟩) n n], .string m] w fun e w' => e = .returned (.bool (anyAlt gs ns n m)) ∧ Below w.heap.size w w' := by
  have hbw := hrow.lt
  have HRow := hide hrow
  have HGs := hide hgs
  clear hrow hgs
  go_enter Try.func8, Try.ntmps8
  go_wp2
  go_loopw [10] (fun i wr => ∃ k : Nat, k ≤ n ∧ i = .int .i64 k ∧ anyAlt gs ns k m = false ∧ Below w.heap.size w wr) (fun i _ => n - (intOf i).toNat)
  case atStart => exact ⟨0, Nat.zero_le _, rfl, rfl, (Below.refl _ _).alloc (Nat.le_refl _) _⟩
  case round =>
    obtain ⟨k, hk, rfl, hno, hbel⟩ := hrel
    have HNo := hide hno
    have HB := hide hbel
    clear hno hbel
    by_cases hlt : k < n
    · have hrw : wr.rowIs b 33 (n * 2) (altAt gs ns n) := (unhide HRow).of_block ((unhide HB).block b hbw)
      have q1 := hrw.cell (i := k * 2) (by omega)
      have q2 := hrw.cell (i := k * 2 + 1) (by omega)
      rw [alt_str _ _ _ _ hlt] at q1
      rw [alt_bool _ _ _ _ hlt] at q2
      have hgk := unhide HGs k hlt
      clear hrw
      cases hc : (gmS (gs k) m == ns k)
      case true =>
        go_wp2
        go_quiet ((go_at_call 11; exact Calls.quiet_of (globMatch_any _ _ _ hgk hm)))
        go_wp2
        go_roundw
        case rel => exact ⟨k + 1, by omega, by go_num, by rw [anyAlt_succ, unhide HNo, bne, hc]; rfl, below_drewN (Below.alloc (unhide HB) (unhide HB).size _) _⟩
        case measure => simp [intOf]; omega
      case false =>
        have H := hide (anyAlt_hit gs ns n k m hlt (by rw [bne, hc]; rfl))
        go_wp2
        go_quiet ((go_at_call 11; exact Calls.quiet_of (globMatch_any _ _ _ hgk hm)))
        go_wp2
        go_ret
        exact ⟨ret_bool (by rw [unhide H]), below_drewN (Below.alloc (unhide HB) (unhide HB).size _) _⟩
    · obtain rfl : k = n := by omega
      go_wp2
      go_ret
      exact ⟨ret_bool (by rw [unhide HNo]), unhide HB⟩
end Go.Proofs.Qxb6627720a
