import Derived.Test.Qxb6627846aWalkA
namespace Go.Proofs.Qxb6627846a
open Go.ChangeShapes Go.WideShapes Go.ChangeAt Go.RowKit

/-- What it is to be the first flagged place. -/
def IsFirst (fl : Nat → Bool) (n : Nat) (r : Int) : Prop :=
  (r = -1 ∧ ∀ j, j < n → fl j = false) ∨ ∃ p : Nat, r = p ∧ p < n ∧ fl p = true ∧ ∀ j, j < p → fl j = false

theorem isFirst_first (fl : Nat → Bool) : ∀ n, IsFirst fl n (first fl n)
  | 0 => .inl ⟨rfl, fun j hj => by omega⟩
  | n + 1 => by
    have ih := isFirst_first fl n
    unfold first
    rcases ih with ⟨h, hall⟩ | ⟨p, h, hp, hf, hall⟩
    · rw [h, if_neg (by omega)]
      by_cases hn : fl n = true
      · rw [if_pos hn]
        exact .inr ⟨n, rfl, by omega, hn, hall⟩
      · rw [if_neg hn]
        refine .inl ⟨rfl, fun j hj => ?_⟩
        by_cases e : j = n
        · subst e; simpa using hn
        · exact hall j (by omega)
    · rw [h, if_pos (by omega)]
      exact .inr ⟨p, rfl, by omega, hf, hall⟩

theorem isFirst_unique {fl : Nat → Bool} {n : Nat} {r s : Int} (h : IsFirst fl n r) (k : IsFirst fl n s) : r = s := by
  rcases h with ⟨h, ha⟩ | ⟨p, h, hp, hf, ha⟩
  · rcases k with ⟨k, _⟩ | ⟨q, _, hq, hg, _⟩
    · rw [h, k]
    · rw [ha q hq] at hg; cases hg
  · rcases k with ⟨_, kb⟩ | ⟨q, k, hq, hg, kb⟩
    · rw [kb p hp] at hf; cases hf
    · have : p = q := by
        rcases Nat.lt_trichotomy p q with c | c | c
        · rw [kb p c] at hf; cases hf
        · exact c
        · rw [ha q c] at hg; cases hg
      rw [h, k, this]

theorem first_is {fl : Nat → Bool} {n : Nat} {r : Int} (h : IsFirst fl n r) : first fl n = r := isFirst_unique (isFirst_first fl n) h

/-- Cut at any place. -/
theorem first_cut (fl : Nat → Bool) (n k : Nat) (hk : k ≤ n) :
    first fl n = if 0 ≤ first fl k then first fl k else if 0 ≤ first (fun i => fl (k + i)) (n - k) then k + first (fun i => fl (k + i)) (n - k) else -1 := by
  apply first_is
  rcases isFirst_first fl k with ⟨h, ha⟩ | ⟨p, h, hp, hf, ha⟩
  · rw [h, if_neg (by omega)]
    rcases isFirst_first (fun i => fl (k + i)) (n - k) with ⟨g, hb⟩ | ⟨q, g, hq, hg, hb⟩
    · rw [g, if_neg (by omega)]
      refine .inl ⟨rfl, fun j hj => ?_⟩
      by_cases e : j < k
      · exact ha j e
      · have := hb (j - k) (by omega)
        simpa [show k + (j - k) = j from by omega] using this
    · rw [g, if_pos (by omega)]
      refine .inr ⟨k + q, by omega, by omega, hg, fun j hj => ?_⟩
      by_cases e : j < k
      · exact ha j e
      · have := hb (j - k) (by omega)
        simpa [show k + (j - k) = j from by omega] using this
  · rw [h, if_pos (by omega)]
    exact .inr ⟨p, rfl, by omega, hf, ha⟩

/-- One more column, put in at 'at'. -/
def put (fl : Nat → Bool) (k : Nat) (b : Bool) (j : Nat) : Bool := if j < k then fl j else if j = k then b else fl (j - 1)

theorem first_put (fl : Nat → Bool) (n k : Nat) (b : Bool) (hk : k ≤ n) :
    first (put fl k b) (n + 1) = if 0 ≤ first fl n ∧ first fl n < k then first fl n else if b = true then k else if 0 ≤ first fl n then first fl n + 1 else -1 := by
  apply first_is
  have plo : ∀ j, j < k → put fl k b j = fl j := fun j hj => by unfold put; rw [if_pos hj]
  have pk : put fl k b k = b := by unfold put; rw [if_neg (by omega), if_pos rfl]
  have phi : ∀ j, k < j → put fl k b j = fl (j - 1) := fun j hj => by unfold put; rw [if_neg (by omega), if_neg (by omega)]
  rcases isFirst_first fl n with ⟨h, ha⟩ | ⟨p, h, hp, hf, ha⟩
  · rw [h, if_neg (by omega)]
    by_cases hb : b = true
    · rw [if_pos hb]
      exact .inr ⟨k, rfl, by omega, by rw [pk, hb], fun j hj => by rw [plo j hj]; exact ha j (by omega)⟩
    · rw [if_neg hb, if_neg (by omega)]
      refine .inl ⟨rfl, fun j hj => ?_⟩
      rcases Nat.lt_trichotomy j k with c | c | c
      · rw [plo j c]; exact ha j (by omega)
      · rw [c, pk]; simpa using hb
      · rw [phi j c]; exact ha (j - 1) (by omega)
  · rw [h]
    by_cases hpk : p < k
    · rw [if_pos (by omega)]
      exact .inr ⟨p, rfl, by omega, by rw [plo p hpk]; exact hf, fun j hj => by rw [plo j (by omega)]; exact ha j hj⟩
    · rw [if_neg (by omega)]
      by_cases hb : b = true
      · rw [if_pos hb]
        exact .inr ⟨k, rfl, by omega, by rw [pk, hb], fun j hj => by rw [plo j hj]; exact ha j (by omega)⟩
      · rw [if_neg hb, if_pos (by omega)]
        refine .inr ⟨p + 1, by omega, by omega, by rw [phi (p + 1) (by omega)]; exact hf, fun j hj => ?_⟩
        rcases Nat.lt_trichotomy j k with c | c | c
        · rw [plo j c]; exact ha j (by omega)
        · rw [c, pk]; simpa using hb
        · rw [phi j c]; exact ha (j - 1) (by omega)

set_option maxHeartbeats 1000000 in
theorem isFirst_any (a : Option Addr) (n c : Nat) (fl : Nat → Bool) (w : World) (hn : n ≤ 65537) (hr : Row w a n (fun i => .bool (fl i))) :
    Calls Try.prog 8 #[.slice a n c, .int .i64 (first fl n)] w fun e w' => e = .returned (.bool true) ∧ w' = w := by
  have hf := isFirst_first fl n
  generalize first fl n = r at hf ⊢
  rcases hf with ⟨rfl, hall⟩ | ⟨p, rfl, hp, hfp, hall⟩
  · have HA := hide hall
    have HR := hide hr
    clear hall hr
    go_enter Try.func8, Try.ntmps8
    go_wp2
    go_loop [5] (fun i => ∃ k : Nat, k ≤ n ∧ i = .int .i64 k) (fun i => n - (intOf i).toNat)
    case atStart => exact ⟨0, Nat.zero_le _, rfl⟩
    case round =>
      obtain ⟨k, hk, rfl⟩ := hrel
      by_cases hlt : k < n
      · rcases unhide HR with h0 | ⟨b, o, rfl, hl, hcell⟩
        · omega
        have q1 := hcell k hlt
        simp only [unhide HA k hlt] at q1
        clear hcell hl
        go_wp2
        go_round
        case rel => exact ⟨k + 1, by omega, by go_num⟩
        case measure => simp [intOf]; omega
      · go_wp2
        go_ret
        exact ⟨rfl, rfl⟩
  · rcases hr with h0 | ⟨b, o, rfl, hl, hcell⟩
    · omega
    have q0 := hcell p hp
    simp only [hfp] at q0
    have HA := hide hall
    have HCell := hide hcell
    have t1 : ((p : Int) == -1) = false := by simp
    have t2 : decide ((p : Int) < 0) = false := by simp
    have t3 : decide ((n : Int) ≤ (p : Int)) = false := by simp; omega
    clear hall hcell hfp hl
    go_enter Try.func8, Try.ntmps8
    go_wp2
    go_loop [6] (fun i => ∃ k : Nat, k ≤ p ∧ i = .int .i64 k) (fun i => p - (intOf i).toNat)
    case atStart => exact ⟨0, Nat.zero_le _, rfl⟩
    case round =>
      obtain ⟨k, hk, rfl⟩ := hrel
      by_cases hlt : k < p
      · have q1 := unhide HCell k (by omega)
        simp only [unhide HA k hlt] at q1
        have hkn : (k : Int) < (n : Int) := by omega
        go_wp2
        go_round
        case rel => exact ⟨k + 1, by omega, by go_num⟩
        case measure => simp [intOf]; omega
      · go_wp2
        go_ret
        exact ⟨rfl, rfl⟩

set_option maxHeartbeats 400000 in
theorem bytesC_any (a : Option Addr) (n c : Nat) (cut : Int) (w : World) (hn : n ≤ maxLen) :
    Calls Try.prog 5 #[.slice a n c, .int .i64 cut] w fun e w' => AnyBool e ∧ w' = w := by
  unfold maxLen at hn
  go_enter Try.func5, Try.ntmps5
  go_wp2
  all_goals (go_ret; exact ⟨anyBool _, rfl⟩)

set_option maxHeartbeats 400000 in
theorem bytesI_any (a : Option Addr) (n c : Nat) (at_ : Int) (b : Bool) (w : World) (hn : n ≤ maxLen) :
    Calls Try.prog 9 #[.slice a n c, .int .i64 at_, .bool b] w fun e w' => AnyBool e ∧ w' = w := by
  unfold maxLen at hn
  go_enter Try.func9, Try.ntmps9
  go_wp2
  all_goals (go_ret; exact ⟨anyBool _, rfl⟩)
end Go.Proofs.Qxb6627846a
