import Derived.Test.Qxb6627797aWalkB
import Derived.Deep.OwnRows
namespace Go.Proofs.Qxb6627797a
open Go.ChangeShapes Go.WideShapes Go.ChangeAt Go.RowKit

/-- What codeLike makes of a. -/
def letter (c : UInt8) : UInt8 := UInt8.ofNat (65 + c.toNat % 26)
def codeL (l : List UInt8) : List UInt8 := l.map letter ++ [122]

theorem letter_toNat (c : UInt8) : (letter c).toNat = 65 + c.toNat % 26 := by
  unfold letter
  rw [UInt8.toNat_ofNat', Nat.mod_eq_of_lt (by omega)]

theorem letter_ok (c : UInt8) : okc (letter c) = true := by
  unfold okc
  rw [letter_toNat]
  unfold okn
  have : c.toNat % 26 < 26 := Nat.mod_lt _ (by omega)
  generalize c.toNat % 26 = m at this
  simp; omega

theorem codeL_all (l : List UInt8) : (codeL l).all okc = true := by
  unfold codeL
  rw [List.all_append, List.all_eq_true.2 (fun x hx => by obtain ⟨c, _, rfl⟩ := List.mem_map.1 hx; exact letter_ok c)]
  decide

theorem codeL_length (l : List UInt8) : (codeL l).length = l.length + 1 := by simp [codeL]

/-- The row behind k rounds. -/
def rowAt (l : List UInt8) (k j : Nat) : Value := if j < k then .int .u8 ((letter (l.getD j 0)).toNat : Int) else .int .u8 0

theorem getD_at (a : ByteArray) (k : Nat) (h : k < a.size) : a.data.toList.getD k 0 = a[k] := by
  rw [List.getD, byte_at a k h]; rfl

theorem row_step (a : ByteArray) (k j : Nat) (h : k < a.size) :
    (if j = k then Value.int .u8 (65 + (a[k].toNat : Int) % 26) else rowAt a.data.toList k j) = rowAt a.data.toList (k + 1) j := by
  unfold rowAt
  by_cases e : j = k
  · subst e
    rw [if_pos rfl, if_pos (by omega), getD_at a j h, letter_toNat]
    rfl
  · rw [if_neg e]
    by_cases hl : j < k
    · rw [if_pos hl, if_pos (by omega)]
    · rw [if_neg hl, if_neg (by omega)]

theorem codeL_at (a : ByteArray) (j : Nat) (hj : j < (codeL a.data.toList).length) :
    (if j = a.size then Value.int .u8 122 else rowAt a.data.toList a.size j) = .int .u8 ((codeL a.data.toList)[j].toNat : Int) := by
  have hl : a.data.toList.length = a.size := by simp
  rw [codeL_length, hl] at hj
  by_cases e : j = a.size
  · subst e
    rw [if_pos rfl]
    have : (codeL a.data.toList)[a.size]? = some 122 := by
      unfold codeL
      rw [List.getElem?_append_right (by simp)]
      simp
    rw [List.getElem?_eq_getElem (by rw [codeL_length, hl]; omega)] at this
    rw [Option.some.inj this]; rfl
  · have hlt : j < a.size := by omega
    rw [if_neg e, rowAt, if_pos hlt, getD_at a j hlt]
    have : (codeL a.data.toList)[j]? = some (letter a[j]) := by
      unfold codeL
      rw [List.getElem?_append_left (by simpa using hlt), List.getElem?_map, byte_at a j hlt]; rfl
    rw [List.getElem?_eq_getElem (by rw [codeL_length, hl]; omega)] at this
    rw [Option.some.inj this]

theorem conv_all (a : ByteArray) (B : Nat) (w : World) (h : w.rowIs B 5 (a.size + 1) (fun j => if j = a.size then Value.int .u8 122 else rowAt a.data.toList a.size j)) :
    (convert 26 9 (.slice (some ⟨B, 0, none⟩) (a.size + 1) (a.size + 1))).run Try.prog w = .ok (.string ⟨(codeL a.data.toList).toArray⟩) w := by
  have hl : (codeL a.data.toList).length = a.size + 1 := by rw [codeL_length]; simp
  have := run_convert_bytes_back (P := Try.prog) w 26 9 5 ⟨B, 0, none⟩ (a.size + 1) (codeL a.data.toList) Try.underlying26 Try.underlying5 Try.underlying9 (fun j hj => by
    have hadd : (⟨B, 0, none⟩ : Addr).add j = ⟨B, j, none⟩ := by unfold Addr.add; split <;> simp_all
    rw [hadd, h.cell (i := j) (by omega), codeL_at a j hj])
  rw [hl] at this
  exact this

theorem Try.info5 : (Try.prog.info? 5).map (fun i => (i.zero, i.size, i.bytes)) = some (some (.int .u8 0), 1, 1) := by kernel_rfl

set_option maxHeartbeats 1000000 in
theorem codeLike_any (a : ByteArray) (w : World) (ha : a.size ≤ 65536) :
    Calls Try.prog 6 #[.string a] w fun e w' => e = .returned (.string ⟨(codeL a.data.toList).toArray⟩) ∧ Below w.heap.size w w' := by
  have hmk := fun (w : World) => run_make_row' (P := Try.prog) 26 5 (.int .u8 0) 1 Try.underlying26 Try.info5 rfl .i64 .i64 (a.size + 1) (by omega) (by omega) w
  have ec : ((a.size + 1 : Nat) : Int) = (a.size : Int) + 1 := by omega
  rw [ec] at hmk
  go_enter Try.func6, Try.ntmps6
  go_wp2
  go_loopw [4] (fun i wr => ∃ k : Nat, k ≤ a.size ∧ i = .int .i64 k ∧ wr.rowIs w.heap.size 5 (a.size + 1) (rowAt a.data.toList k) ∧ Below w.heap.size w wr) (fun i _ => a.size - (intOf i).toNat)
  case atStart => exact ⟨0, Nat.zero_le _, rfl, World.rowIs_made w (.int .u8 0) (a.size + 1) 5, (Below.refl _ _).alloc (Nat.le_refl _) _⟩
  case round =>
    obtain ⟨k, hk, rfl, hrow, hbel⟩ := hrel
    have HR := hide hrow
    have HB := hide hbel
    have hsz : w.heap.size < wr.heap.size := hrow.lt
    by_cases hlt : k < a.size
    · have q1 := hrow.cell (i := k) (by omega)
      have q2 := hrow.frozen k
      clear hrow hbel hmk
      go_wp2
      go_roundw
      case rel =>
        refine ⟨k + 1, by omega, by go_num, ((unhide HR).set k (.int .u8 (65 + (a[k].toNat : Int) % 26))).congr (fun j _ => row_step a k j hlt), (unhide HB).setCell (p := ⟨w.heap.size, k, none⟩) (Nat.le_refl _) _⟩
      case measure => simp [intOf]; omega
    · have q1 := hrow.cell (i := a.size) (by omega)
      have q2 := hrow.frozen a.size
      obtain rfl : k = a.size := by omega
      have hcv := conv_all a w.heap.size _ (hrow.set a.size (.int .u8 122))
      clear hrow hbel hmk
      go_wp2
      go_ret
      exact ⟨rfl, (unhide HB).setCell (p := ⟨w.heap.size, a.size, none⟩) (Nat.le_refl _) _⟩
end Go.Proofs.Qxb6627797a
