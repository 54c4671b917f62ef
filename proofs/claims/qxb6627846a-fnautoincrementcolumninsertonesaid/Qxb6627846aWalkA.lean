import Derived.Test.Qxb6627846aRows
import Derived.WalkKit
import Derived.ProofKit
import Derived.WalkSpells
import Derived.WalkLawsBesides
import Derived.Deep.OwnRows
import Derived.Laws.MakeOwn
namespace Go.Proofs.Qxb6627846a
open Go.ChangeShapes Go.WideShapes Go.ChangeAt Go.RowKit

theorem hide {p : Prop} (h : p) : Hid p := h
theorem unhide {p : Prop} (h : Hid p) : p := h
theorem ret_bool {a b : Bool} (h : a = b) : Ending.returned (.bool a) = .returned (.bool b) := by rw [h]
theorem ret_int {k : IntKind} {a b : Int} (h : a = b) : Ending.returned (.int k a) = .returned (.int k b) := by rw [h]
def AnyBool (e : Ending) : Prop := ∃ b, e = .returned (.bool b)
theorem anyBool (b : Bool) : AnyBool (.returned (.bool b)) := ⟨b, rfl⟩

/-- The slice whose array begins at 'a' holds 'f 0', .., 'f (n - 1)'. -/
def Row (w : World) (a : Option Addr) (n : Nat) (f : Nat → Value) : Prop :=
  n = 0 ∨ ∃ b o, a = some ⟨b, o, none⟩ ∧ b < w.heap.size ∧ ∀ i, i < n → w.cell? ⟨b, o + i, none⟩ = some (f i)

theorem Row.below {w w' : World} {a : Option Addr} {n : Nat} {f : Nat → Value} (h : Row w a n f) (hb : Below w.heap.size w w') : Row w' a n f := by
  rcases h with h | ⟨b, o, ha, hl, hc⟩
  · exact .inl h
  · exact .inr ⟨b, o, ha, Nat.lt_of_lt_of_le hl hb.size, fun i hi => (hb.cell (p := ⟨b, o + i, none⟩) hl).trans (hc i hi)⟩

/-- The first flagged place among the first n; -1 where there is none. -/
def first (fl : Nat → Bool) : Nat → Int
  | 0 => -1
  | n + 1 => if 0 ≤ first fl n then first fl n else if fl n = true then n else -1

/-- The cells of the columns behind k rounds. -/
def zeroCell (j : Nat) : Value :=
  match j with
  | 0 => .string ByteArray.empty
  | 1 => .int .u8 0
  | 2 => .int .i64 0
  | 3 => .bool false
  | 4 => .int .u8 0
  | 5 => .int .i64 0
  | 6 => .string ByteArray.empty
  | _ => .bool false
def colAt (fl : Nat → Bool) (k j : Nat) : Value := if j % 8 = 7 ∧ j / 8 < k then .bool (fl (j / 8)) else zeroCell (j % 8)

/-- A table's definition in memory: its column's flags are fl 0, .., fl (n - 1). -/
def DefAt (w : World) (d n : Nat) (fl : Nat → Bool) : Prop :=
  d < w.heap.size ∧ ∃ ac c, w.cell? ⟨d, 1, none⟩ = some (.slice ac n c) ∧ (n = 0 ∨ ∃ C, ac = some ⟨C, 0, none⟩ ∧ w.rowIs C 40 (n * 8) (colAt fl n))

theorem DefAt.below {w w' : World} {d n : Nat} {fl : Nat → Bool} (h : DefAt w d n fl) (hb : Below w.heap.size w w') : DefAt w' d n fl := by
  obtain ⟨h1, ac, c, h2, h3⟩ := h
  refine ⟨Nat.lt_of_lt_of_le h1 hb.size, ac, c, (hb.cell (p := ⟨d, 1, none⟩) h1).trans h2, ?_⟩
  rcases h3 with h3 | ⟨C, hC, hr⟩
  · exact .inl h3
  · exact .inr ⟨C, hC, hr.of_block (hb.block C hr.lt)⟩

theorem Try.info40 : (Try.prog.info? 40).map (fun i => (i.zero, i.size, i.bytes)) = some (some (.agg #[.string ByteArray.empty, .int .u8 0, .int .i64 0, .bool false, .int .u8 0, .int .i64 0, .string ByteArray.empty, .bool false]), 8, 80) := by kernel_rfl

theorem make40 (n : Nat) (hn : n ≤ 65537) (w : World) :
    (Instr.makeSlice 28 (.int .i64 (n : Int)) (.int .i64 (n : Int))).run Try.prog w =
      .ok (.slice (some ⟨w.heap.size, 0, none⟩) n n) (w.alloc (.cells (madeCells #[.string ByteArray.empty, .int .u8 0, .int .i64 0, .bool false, .int .u8 0, .int .i64 0, .string ByteArray.empty, .bool false] (n * 8)) 40)) := by
  obtain ⟨i, hi, hzz⟩ := Option.map_eq_some_iff.1 Try.info40
  simp only [Prod.mk.injEq] at hzz
  obtain ⟨hz, hs, hb⟩ := hzz
  have hr := run_make (P := Try.prog) w 28 40 i _ Try.underlying28 hi hz .i64 .i64 n n (by omega) (by omega) (by rw [hb]; omega) (by omega)
  rw [hs] at hr
  simpa [Value.cells] using hr

theorem made_row {fl : Nat → Bool} (w : World) (n : Nat) : (w.alloc (.cells (madeCells #[.string ByteArray.empty, .int .u8 0, .int .i64 0, .bool false, .int .u8 0, .int .i64 0, .string ByteArray.empty, .bool false] (n * 8)) 40)).rowIs w.heap.size 40 (n * 8) (colAt fl 0) := by
  have := World.rowIs_alloc w (madeCells #[.string ByteArray.empty, .int .u8 0, .int .i64 0, .bool false, .int .u8 0, .int .i64 0, .string ByteArray.empty, .bool false] (n * 8)) 40 (colAt fl 0) (fun i hi => by
    rw [size_madeCells] at hi
    have h2 : i % 8 = 0 ∨ i % 8 = 1 ∨ i % 8 = 2 ∨ i % 8 = 3 ∨ i % 8 = 4 ∨ i % 8 = 5 ∨ i % 8 = 6 ∨ i % 8 = 7 := by omega
    rcases h2 with h2 | h2 | h2 | h2 | h2 | h2 | h2 | h2 <;> simp [madeCells, hi, colAt, h2, zeroCell])
  rwa [size_madeCells] at this

theorem col_step (fl : Nat → Bool) (k j : Nat) : (if j = k * 8 + 7 then Value.bool (fl k) else colAt fl k j) = colAt fl (k + 1) j := by
  unfold colAt
  by_cases e : j = k * 8 + 7
  · subst e
    rw [if_pos rfl, if_pos (by omega), show (k * 8 + 7) / 8 = k from by omega]
  · rw [if_neg e]
    by_cases h : j % 8 = 7 ∧ j / 8 < k
    · have h' : j % 8 = 7 ∧ j / 8 < k + 1 := by omega
      rw [if_pos h, if_pos h']
    · have h' : ¬ (j % 8 = 7 ∧ j / 8 < k + 1) := by omega
      rw [if_neg h, if_neg h']

set_option maxHeartbeats 1000000 in
theorem buildDef_any (a : Option Addr) (n c : Nat) (fl : Nat → Bool) (w : World) (hn : n ≤ 65537) (ha : a = none → n = 0) (hr : Row w a n (fun i => .bool (fl i))) :
    Calls Try.prog 6 #[.slice a n c] w fun e w' => ∃ d, e = .returned (.pointer (some ⟨d, 0, none⟩)) ∧ DefAt w' d n fl ∧ Below w.heap.size w w' := by
  have q22 := fun (w : World) (a : Option Addr) (n c : Nat) => Lib.run_eql_slice_nil (P := Try.prog) w 22 4 a n c 0 0 Try.underlying22
  have hmk := make40 n hn
  cases a with
  | none =>
    obtain rfl : n = 0 := ha rfl
    clear hr ha hmk
    go_enter Try.func6, Try.ntmps6
    go_wp2
    go_ret
    exact ⟨w.heap.size, rfl, ⟨by simp, none, 0, by simp, .inl rfl⟩, (Below.refl _ _).alloc (Nat.le_refl _) _⟩
  | some ad =>
    have HR := hide hr
    clear hr ha
    go_enter Try.func6, Try.ntmps6
    go_wp2
    go_loopw [4] (fun i wr => ∃ k : Nat, k ≤ n ∧ i = .int .i64 k ∧ wr.rowIs w.heap.size 40 (n * 8) (colAt fl k) ∧ Below w.heap.size w wr) (fun i _ => n - (intOf i).toNat)
    case atStart => exact ⟨0, Nat.zero_le _, rfl, made_row w n, (Below.refl _ _).alloc (Nat.le_refl _) _⟩
    case round =>
      obtain ⟨k, hk, rfl, hrow, hbel⟩ := hrel
      have HRow := hide hrow
      have HB := hide hbel
      by_cases hlt : k < n
      · rcases unhide HR with h0 | ⟨b, o, hab, hl, hcell⟩
        · omega
        obtain rfl : ad = ⟨b, o, none⟩ := by simpa using hab
        have q1 := ((hbel.cell (p := ⟨b, o + k, none⟩) hl).trans (hcell k hlt))
        have q2 := hrow.cell (i := k * 8 + 7) (by omega)
        have q3 := hrow.frozen (k * 8 + 7)
        clear hrow hbel hcell hl hab hmk q22
        go_wp2
        go_roundw
        case rel =>
          exact ⟨k + 1, by omega, by go_num, ((unhide HRow).set (k * 8 + 7) (.bool (fl k))).congr (fun j _ => col_step fl k j), (unhide HB).setCell (p := ⟨w.heap.size, k * 8 + 7, none⟩) (Nat.le_refl _) _⟩
        case measure => simp [intOf]; omega
      · obtain rfl : k = n := by omega
        clear hrow hbel hmk q22
        go_wp2
        go_ret
        exact ⟨wr.heap.size, rfl, ⟨by simp, some ⟨w.heap.size, 0, none⟩, k, by simp, .inr ⟨w.heap.size, rfl, (unhide HRow).alloc _⟩⟩, (unhide HB).alloc (unhide HB).size _⟩

theorem first_range (fl : Nat → Bool) : ∀ n, -1 ≤ first fl n ∧ first fl n < n
  | 0 => by simp [first]
  | n + 1 => by
    have ih := first_range fl n
    unfold first
    split
    · omega
    · split <;> omega

/-- The first flagged place stays the first. -/
theorem first_hit (fl : Nat → Bool) (k : Nat) (h : first fl k = -1) (hf : fl k = true) : ∀ d, first fl (k + 1 + d) = k
  | 0 => by
    show first fl (k + 1) = k
    unfold first; rw [h, if_neg (by omega), if_pos hf]
  | d + 1 => by
    have ih := first_hit fl k h hf d
    show first fl (k + 1 + d + 1) = k
    unfold first; rw [ih, if_pos (by omega)]

theorem first_miss (fl : Nat → Bool) (k : Nat) (h : first fl k = -1) (hf : fl k = false) : first fl (k + 1) = -1 := by
  unfold first; rw [h, if_neg (by omega), if_neg (by simp [hf])]

theorem col_zero (fl : Nat → Bool) (n k j : Nat) (hj : j < 7) : colAt fl n (k * 8 + j) = zeroCell j := by
  unfold colAt
  rw [if_neg (by omega), show (k * 8 + j) % 8 = j from by omega]
theorem col_flag (fl : Nat → Bool) (n k : Nat) (h : k < n) : colAt fl n (k * 8 + 7) = .bool (fl k) := by
  unfold colAt
  rw [if_pos (by omega), show (k * 8 + 7) / 8 = k from by omega]

set_option maxHeartbeats 1000000 in
theorem autoCol_any (d n : Nat) (fl : Nat → Bool) (w : World) (hn : n ≤ 65537) (hd : DefAt w d n fl) :
    Calls Try.prog 7 #[.pointer (some ⟨d, 0, none⟩)] w fun e w' => e = .returned (.int .i64 (first fl n)) ∧ Below w.heap.size w w' := by
  obtain ⟨hlt, ac, c, hcell, hcols⟩ := hd
  have HC := hide hcols
  clear hcols
  go_enter Try.func7, Try.ntmps7
  go_wp2
  go_loopw [10] (fun i wr => ∃ k : Nat, k ≤ n ∧ i = .int .i64 k ∧ first fl k = -1 ∧ Below w.heap.size w wr) (fun i _ => n - (intOf i).toNat)
  case atStart => exact ⟨0, Nat.zero_le _, rfl, rfl, Below.refl _ _⟩
  case round =>
    obtain ⟨k, hk, rfl, hno, hbel⟩ := hrel
    have HNo := hide hno
    have HB := hide hbel
    clear hno
    by_cases hkn : k < n
    · rcases unhide HC with h0 | ⟨C, rfl, hr⟩
      · omega
      have hrw : wr.rowIs C 40 (n * 8) (colAt fl n) := hr.of_block (hbel.block C hr.lt)
      have q0 := hrw.cell (i := k * 8) (by omega)
      have q1 := hrw.cell (i := k * 8 + 1) (by omega)
      have q2 := hrw.cell (i := k * 8 + 2) (by omega)
      have q3 := hrw.cell (i := k * 8 + 3) (by omega)
      have q4 := hrw.cell (i := k * 8 + 4) (by omega)
      have q5 := hrw.cell (i := k * 8 + 5) (by omega)
      have q6 := hrw.cell (i := k * 8 + 6) (by omega)
      have q7 := hrw.cell (i := k * 8 + 7) (by omega)
      rw [show colAt fl n (k * 8) = .string ByteArray.empty from col_zero fl n k 0 (by omega)] at q0
      rw [show colAt fl n (k * 8 + 1) = .int .u8 0 from col_zero fl n k 1 (by omega)] at q1
      rw [show colAt fl n (k * 8 + 2) = .int .i64 0 from col_zero fl n k 2 (by omega)] at q2
      rw [show colAt fl n (k * 8 + 3) = .bool false from col_zero fl n k 3 (by omega)] at q3
      rw [show colAt fl n (k * 8 + 4) = .int .u8 0 from col_zero fl n k 4 (by omega)] at q4
      rw [show colAt fl n (k * 8 + 5) = .int .i64 0 from col_zero fl n k 5 (by omega)] at q5
      rw [show colAt fl n (k * 8 + 6) = .string ByteArray.empty from col_zero fl n k 6 (by omega)] at q6
      rw [col_flag fl n k hkn] at q7
      clear hr hrw hbel
      cases hf : fl k
      · have HN := hide (first_miss fl k (unhide HNo) hf)
        rw [hf] at q7
        clear hf
        go_wp2
        go_roundw
        case rel => exact ⟨k + 1, by omega, by go_num, unhide HN, (unhide HB).alloc (unhide HB).size _⟩
        case measure => simp [intOf]; omega
      · have hh := first_hit fl k (unhide HNo) hf (n - (k + 1))
        rw [show k + 1 + (n - (k + 1)) = n from by omega] at hh
        have HN := hide hh
        rw [hf] at q7
        clear hf hh
        go_wp2
        go_ret
        exact ⟨ret_int (by rw [unhide HN]), (unhide HB).alloc (unhide HB).size _⟩
    · obtain rfl : k = n := by omega
      clear hbel
      go_wp2
      go_ret
      exact ⟨ret_int (by rw [unhide HNo]), unhide HB⟩
end Go.Proofs.Qxb6627846a
