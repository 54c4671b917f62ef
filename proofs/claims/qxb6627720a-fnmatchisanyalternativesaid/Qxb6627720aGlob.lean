/-
  The plain law of '*'-globs: no Go in sight. 'gm' is the meaning of a glob; the two matchers of the program come to it.
-/
namespace Go.Proofs.Qxb6627720a.Glob

def gm : List UInt8 → List UInt8 → Bool
  | [], s => s.isEmpty
  | c :: g, s =>
    if c = 42 then (List.range (s.length + 1)).any (fun k => gm g (s.drop k))
    else match s with
      | [] => false
      | x :: t => (c == x) && gm g t

theorem gm_nil (s : List UInt8) : gm [] s = true ↔ s = [] := by simp [gm]

theorem gm_star (g s : List UInt8) : gm (42 :: g) s = true ↔ ∃ u v, s = u ++ v ∧ gm g v = true := by
  simp only [gm, if_true, List.any_eq_true, List.mem_range]
  constructor
  · rintro ⟨k, _, h⟩
    exact ⟨s.take k, s.drop k, (List.take_append_drop k s).symm, h⟩
  · rintro ⟨u, v, rfl, h⟩
    exact ⟨u.length, by simp; omega, by simpa using h⟩

theorem gm_lit (c : UInt8) (hc : c ≠ 42) (g s : List UInt8) : gm (c :: g) s = true ↔ ∃ v, s = c :: v ∧ gm g v = true := by
  cases s with
  | nil => simp [gm, hc]
  | cons x t =>
    simp only [gm, if_neg hc, Bool.and_eq_true, beq_iff_eq]
    constructor
    · rintro ⟨rfl, h⟩; exact ⟨t, rfl, h⟩
    · rintro ⟨v, h, hv⟩
      cases h
      exact ⟨rfl, hv⟩

theorem gm_append (a b : List UInt8) : ∀ s, gm (a ++ b) s = true ↔ ∃ u v, s = u ++ v ∧ gm a u = true ∧ gm b v = true := by
  induction a with
  | nil =>
    intro s
    constructor
    · intro h; exact ⟨[], s, rfl, by simp [gm], by simpa using h⟩
    · rintro ⟨u, v, rfl, hu, hv⟩
      rw [gm_nil] at hu; subst hu; simpa using hv
  | cons c a ih =>
    intro s
    by_cases hc : c = 42
    · subst hc
      rw [List.cons_append, gm_star]
      constructor
      · rintro ⟨u, v, rfl, h⟩
        obtain ⟨x, y, rfl, hx, hy⟩ := (ih v).1 h
        exact ⟨u ++ x, y, by simp, (gm_star _ _).2 ⟨u, x, rfl, hx⟩, hy⟩
      · rintro ⟨u, v, rfl, hu, hv⟩
        obtain ⟨x, y, rfl, hy⟩ := (gm_star _ _).1 hu
        exact ⟨x, y ++ v, by simp, (ih _).2 ⟨y, v, rfl, hy, hv⟩⟩
    · rw [List.cons_append, gm_lit c hc]
      constructor
      · rintro ⟨v, rfl, h⟩
        obtain ⟨x, y, rfl, hx, hy⟩ := (ih v).1 h
        exact ⟨c :: x, y, by simp, (gm_lit c hc _ _).2 ⟨x, rfl, hx⟩, hy⟩
      · rintro ⟨u, v, rfl, hu, hv⟩
        obtain ⟨y, rfl, hy⟩ := (gm_lit c hc _ _).1 hu
        exact ⟨y ++ v, by simp, (ih _).2 ⟨y, v, rfl, hy, hv⟩⟩

def free (a : List UInt8) : Prop := ∀ c, c ∈ a → c ≠ 42

theorem gm_free (a : List UInt8) (h : free a) : ∀ s, gm a s = true ↔ s = a := by
  induction a with
  | nil => intro s; exact gm_nil s
  | cons c a ih =>
    intro s
    rw [gm_lit c (h c (by simp))]
    have ih' := ih (fun x hx => h x (by simp [hx]))
    constructor
    · rintro ⟨v, rfl, hv⟩; rw [(ih' v).1 hv]
    · rintro rfl; exact ⟨a, rfl, (ih' a).2 rfl⟩

theorem free_append_one {a : List UInt8} {c : UInt8} (h : free a) (hc : c ≠ 42) : free (a ++ [c]) := by
  intro x hx
  rcases List.mem_append.1 hx with h1 | h1
  · exact h x h1
  · simp at h1; subst h1; exact hc

theorem gm_pre (a b : List UInt8) (h : free a) (s : List UInt8) : gm (a ++ b) s = true ↔ ∃ v, s = a ++ v ∧ gm b v = true := by
  rw [gm_append]
  constructor
  · rintro ⟨u, v, rfl, hu, hv⟩
    rw [gm_free a h] at hu; subst hu; exact ⟨v, rfl, hv⟩
  · rintro ⟨v, rfl, hv⟩
    exact ⟨a, v, rfl, (gm_free a h a).2 rfl, hv⟩

theorem gm_suf (a b : List UInt8) (h : free b) (s : List UInt8) : gm (a ++ b) s = true ↔ ∃ u, s = u ++ b ∧ gm a u = true := by
  rw [gm_append]
  constructor
  · rintro ⟨u, v, rfl, hu, hv⟩
    rw [gm_free b h] at hv; subst hv; exact ⟨u, rfl, hu⟩
  · rintro ⟨u, rfl, hu⟩
    exact ⟨u, b, rfl, hu, (gm_free b h b).2 rfl⟩

theorem star_more (g u v : List UInt8) (h : gm (42 :: g) v = true) : gm (42 :: g) (u ++ v) = true := by
  obtain ⟨x, y, rfl, hy⟩ := (gm_star _ _).1 h
  exact (gm_star _ _).2 ⟨u ++ x, y, by simp, hy⟩

theorem suffix_of {a b c d : List UInt8} (h : a ++ b = c ++ d) (hl : a.length ≤ c.length) : ∃ x, b = x ++ d := by
  rcases List.append_eq_append_iff.1 h with ⟨x, rfl, rfl⟩ | ⟨x, rfl, rfl⟩
  · exact ⟨x, rfl⟩
  · simp at hl
    exact ⟨[], by rw [List.eq_nil_of_length_eq_zero (l := x) (by omega)]; rfl⟩

/-- The leftmost place of a literal piece is enough. -/
theorem greedy (lit rest p t : List UInt8) (hf : free lit) (hmin : ∀ u v, p ++ (lit ++ t) = u ++ (lit ++ v) → p.length ≤ u.length) :
    gm (42 :: (lit ++ 42 :: rest)) (p ++ (lit ++ t)) = gm (42 :: rest) t := by
  rw [Bool.eq_iff_iff, gm_star]
  constructor
  · rintro ⟨u, v, he, h⟩
    obtain ⟨v', rfl, hv⟩ := (gm_pre _ _ hf _).1 h
    have hl := hmin u v' he
    obtain ⟨x, hx⟩ := suffix_of (a := p ++ lit) (b := t) (c := u ++ lit) (d := v') (by simpa using he) (by simp; omega)
    rw [hx]
    exact star_more _ _ _ hv
  · intro h
    exact ⟨p, lit ++ t, rfl, (gm_pre _ _ hf _).2 ⟨t, rfl, h⟩⟩

theorem greedy0 (lit rest t : List UInt8) (hf : free lit) : gm (42 :: (lit ++ 42 :: rest)) (lit ++ t) = gm (42 :: rest) t :=
  greedy lit rest [] t hf (fun _ _ _ => Nat.zero_le _)

/-! ### The backtracking matcher -/
theorem drop_cons {l : List UInt8} {n : Nat} {c : UInt8} (h : l[n]? = some c) : l.drop n = c :: l.drop (n + 1) := by
  obtain ⟨hn, rfl⟩ := List.getElem?_eq_some_iff.1 h
  exact List.drop_eq_getElem_cons hn

/-- What holds at the head of every round. -/
def Inv (G S : List UInt8) (g i : Nat) (star resume : Int) : Prop :=
  g ≤ G.length ∧ i ≤ S.length ∧
  ((star = -1 ∧ resume = 0 ∧ gm G S = gm (G.drop g) (S.drop i)) ∨
   ∃ (a r : Nat) (lit : List UInt8), star = a ∧ resume = r ∧ G.drop a = 42 :: (lit ++ G.drop g) ∧ S.drop r = lit ++ S.drop i ∧ g = a + 1 + lit.length ∧
     i = r + lit.length ∧ free lit ∧ gm G S = gm (42 :: (lit ++ G.drop g)) (lit ++ S.drop i))

theorem inv_start (G S : List UInt8) : Inv G S 0 0 (-1) 0 := ⟨by omega, by omega, .inl ⟨rfl, rfl, by simp⟩⟩

theorem inv_bounds {G S : List UInt8} {g i : Nat} {star resume : Int} (h : Inv G S g i star resume) :
    g ≤ G.length ∧ i ≤ S.length ∧ -1 ≤ star ∧ star < g ∧ 0 ≤ resume ∧ resume ≤ i := by
  obtain ⟨h1, h2, h | ⟨a, r, lit, rfl, rfl, _, _, h3, h4, _⟩⟩ := h
  · obtain ⟨rfl, rfl, _⟩ := h; omega
  · omega

theorem inv_star {G S : List UInt8} {g i : Nat} {star resume : Int} (h : Inv G S g i star resume) (hc : G[g]? = some 42) :
    Inv G S (g + 1) i g i := by
  have hg := (List.getElem?_eq_some_iff.1 hc).1
  have hd := drop_cons hc
  obtain ⟨h1, h2, h⟩ := h
  refine ⟨by omega, h2, .inr ⟨g, i, [], rfl, rfl, by simpa using hd, by simp, by simp, by simp, fun c hc => by simp at hc, ?_⟩⟩
  rcases h with ⟨_, _, h⟩ | ⟨a, r, lit, _, _, _, _, _, _, hf, h⟩
  · rw [h, hd]; rfl
  · rw [h, hd, greedy0 _ _ _ hf]; rfl

theorem inv_eat {G S : List UInt8} {g i : Nat} {star resume : Int} {c : UInt8} (h : Inv G S g i star resume) (hc : G[g]? = some c) (hs : S[i]? = some c) (hne : c ≠ 42) :
    Inv G S (g + 1) (i + 1) star resume := by
  have hg := (List.getElem?_eq_some_iff.1 hc).1
  have hi := (List.getElem?_eq_some_iff.1 hs).1
  have hd := drop_cons hc
  have he := drop_cons hs
  obtain ⟨h1, h2, h⟩ := h
  refine ⟨by omega, by omega, ?_⟩
  rcases h with ⟨ha, hr, h⟩ | ⟨a, r, lit, ha, hr, hG, hS, hga, hir, hf, h⟩
  · refine .inl ⟨ha, hr, ?_⟩
    rw [h, hd, he]
    simp [gm, hne]
  · refine .inr ⟨a, r, lit ++ [c], ha, hr, by rw [hG, hd]; simp, by rw [hS, he]; simp, by simp; omega, by simp; omega, free_append_one hf hne, ?_⟩
    rw [h, hd, he]; simp

/-- No step fits at this place. -/
theorem mis {G S : List UInt8} {g i : Nat} (hi : i < S.length) (h42 : G[g]? ≠ some 42) (hne : G[g]? ≠ S[i]?) : gm (G.drop g) (S.drop i) = false := by
  have hs : S[i]? = some S[i] := List.getElem?_eq_getElem hi
  rw [drop_cons hs]
  by_cases hg : g < G.length
  · have hc : G[g]? = some G[g] := List.getElem?_eq_getElem hg
    rw [drop_cons hc]
    have h1 : G[g] ≠ 42 := fun h => h42 (by rw [hc, h])
    have h2 : ¬ G[g] = S[i] := fun h => hne (by rw [hc, hs, h])
    simp [gm, h1, h2]
  · rw [List.drop_of_length_le (by omega)]; rfl

theorem inv_lost {G S : List UInt8} {g i : Nat} {star resume : Int} (h : Inv G S g i star resume) (hi : i < S.length) (h42 : G[g]? ≠ some 42) (hne : G[g]? ≠ S[i]?)
    (hs : star < 0) : gm G S = false := by
  obtain ⟨_, _, ⟨_, _, h⟩ | ⟨a, r, lit, rfl, _⟩⟩ := h
  · rw [h, mis hi h42 hne]
  · omega

theorem inv_back {G S : List UInt8} {g i : Nat} {star resume : Int} (h : Inv G S g i star resume) (hi : i < S.length) (h42 : G[g]? ≠ some 42) (hne : G[g]? ≠ S[i]?)
    (hs : 0 ≤ star) : Inv G S (star.toNat + 1) (resume.toNat + 1) star (resume + 1) := by
  obtain ⟨hg1, hi1, ⟨rfl, _, _⟩ | ⟨a, r, lit, rfl, rfl, hG, hS, hga, hir, hf, h⟩⟩ := h
  · omega
  · have hm := mis hi h42 hne
    have ha : a < G.length := by
      have := congrArg List.length hG
      simp at this; omega
    have hr : r < S.length := by omega
    have hd : G.drop (a + 1) = lit ++ G.drop g := by
      have := congrArg (List.drop 1) hG
      simpa [Nat.add_comm] using this
    have hSr : S.drop r = S[r] :: S.drop (r + 1) := List.drop_eq_getElem_cons hr
    refine ⟨by simp; omega, by simp; omega, .inr ⟨a, r + 1, [], rfl, by simp, by simp [hd, hG], by simp, by simp, by simp, fun c hc => by simp at hc, ?_⟩⟩
    rw [h, ← hS, hSr]
    simp only [Int.toNat_natCast, List.nil_append, hd]
    rw [Bool.eq_iff_iff]
    constructor
    · intro hh
      obtain ⟨u, v, he, hv⟩ := (gm_star _ _).1 hh
      cases u with
      | nil =>
        exfalso
        rw [List.nil_append] at he
        rw [← he, ← hSr, hS] at hv
        obtain ⟨x, hx, hy⟩ := (gm_pre _ _ hf _).1 hv
        rw [List.append_cancel_left hx, hy] at hm
        cases hm
      | cons y u =>
        simp only [List.cons_append, List.cons.injEq] at he
        exact (gm_star _ _).2 ⟨u, v, he.2, hv⟩
    · intro hh
      exact star_more _ [S[r]] _ hh

theorem inv_end {G S : List UInt8} {g i : Nat} {star resume : Int} (h : Inv G S g i star resume) (hi : S.length ≤ i) : gm G S = gm (G.drop g) [] := by
  obtain ⟨_, _, ⟨_, _, h⟩ | ⟨a, r, lit, rfl, rfl, hG, hS, hga, hir, hf, h⟩⟩ := h
  · rw [h, List.drop_of_length_le hi]
  · rw [h, List.drop_of_length_le hi, Bool.eq_iff_iff, gm_star]
    constructor
    · rintro ⟨u, v, he, hv⟩
      obtain ⟨x, rfl, hx⟩ := (gm_pre _ _ hf _).1 hv
      have := congrArg List.length he
      simp at this
      have hx0 : x = [] := List.eq_nil_of_length_eq_zero (by omega)
      subst hx0; exact hx
    · intro hh
      exact ⟨[], lit ++ [], by simp, (gm_pre _ _ hf _).2 ⟨[], rfl, hh⟩⟩

theorem end_star {G : List UInt8} {g : Nat} (hc : G[g]? = some 42) : gm (G.drop g) [] = gm (G.drop (g + 1)) [] := by
  rw [drop_cons hc, Bool.eq_iff_iff, gm_star]
  constructor
  · rintro ⟨u, v, he, hv⟩
    have := (List.append_eq_nil_iff.1 he.symm).2
    subst this; exact hv
  · intro h; exact ⟨[], [], rfl, h⟩

theorem end_stop {G : List UInt8} {g : Nat} (hg : g ≤ G.length) (hc : G[g]? ≠ some 42) : gm (G.drop g) [] = decide (g = G.length) := by
  by_cases h : g < G.length
  · have hs : G[g]? = some G[g] := List.getElem?_eq_getElem h
    rw [drop_cons hs]
    have h1 : G[g] ≠ 42 := fun h => hc (by rw [hs, h])
    simp [gm, h1]; omega
  · have : g = G.length := by omega
    rw [List.drop_of_length_le (by omega)]
    simp [gm, this]

/-! ### The model: pieces found leftmost -/
/-- At the head of a round: 'gm G S' hangs on the star at 'j - 1' up to the last one, and on what lies between 'pos' and 'fin'. -/
def Mid (G S : List UInt8) (last pos fin j : Nat) : Prop :=
  1 ≤ j ∧ j ≤ last + 1 ∧ last < G.length ∧ G[last]? = some 42 ∧ G[j - 1]? = some 42 ∧ pos ≤ fin ∧ fin ≤ S.length ∧
    gm G S = gm ((G.take (last + 1)).drop (j - 1)) ((S.take fin).drop pos)

theorem gm_none (G S : List UInt8) (hf : free G) : gm G S = decide (G = S) := by
  rw [Bool.eq_iff_iff, gm_free G hf]
  simp [eq_comm]

theorem take_drop_eq {G : List UInt8} {a b : Nat} (hb : b ≤ G.length) (hab : a ≤ b) : (G.take b).drop a ++ G.drop b = G.drop a := by
  rw [← List.drop_append_of_le_length (by simp; omega), List.take_append_drop]

theorem mid_split {G : List UInt8} {first last : Nat} (h1 : first ≤ last) (h2 : last < G.length) :
    G = G.take first ++ ((G.take (last + 1)).drop first ++ G.drop (last + 1)) := by
  rw [take_drop_eq (by omega) (by omega), List.take_append_drop]

/-- The two ends fit. -/
theorem mid_start {G S : List UInt8} {first last : Nat} (h1 : first ≤ last) (h2 : last < G.length) (hF : G[first]? = some 42) (hL : G[last]? = some 42)
    (hpre : free (G.take first)) (hsuf : free (G.drop (last + 1))) (hlen : first + (G.length - (last + 1)) ≤ S.length)
    (hp : S.take first = G.take first) (hs : S.drop (S.length - (G.length - (last + 1))) = G.drop (last + 1)) :
    Mid G S last first (S.length - (G.length - (last + 1))) (first + 1) := by
  refine ⟨by omega, by omega, h2, hL, by simpa using hF, by omega, by omega, ?_⟩
  rw [Bool.eq_iff_iff]
  have hG := mid_split h1 h2
  have hS : S = G.take first ++ ((S.take (S.length - (G.length - (last + 1)))).drop first ++ G.drop (last + 1)) := by
    rw [← hs, take_drop_eq (by omega) (by omega), ← hp, List.take_append_drop]
  generalize (S.take (S.length - (G.length - (last + 1)))).drop first = m at hS ⊢
  simp only [Nat.add_sub_cancel]
  generalize hq : (G.take (last + 1)).drop first = q at hG ⊢
  generalize G.take first = a at *
  generalize G.drop (last + 1) = b at *
  rw [hG, hS, gm_pre _ _ hpre]
  constructor
  · rintro ⟨v, hv, hm⟩
    have hv' := List.append_cancel_left hv
    subst hv'
    obtain ⟨u, hu, hm⟩ := (gm_suf _ _ hsuf _).1 hm
    rw [List.append_cancel_right hu]; exact hm
  · intro hm
    exact ⟨_, rfl, (gm_suf _ _ hsuf _).2 ⟨_, rfl, hm⟩⟩

/-- One of the two ends does not fit. -/
theorem ends_no {G S : List UInt8} {first last : Nat} (h1 : first ≤ last) (h2 : last < G.length)
    (hpre : free (G.take first)) (hsuf : free (G.drop (last + 1)))
    (hno : S.length < first + (G.length - (last + 1)) ∨ S.take first ≠ G.take first ∨ S.drop (S.length - (G.length - (last + 1))) ≠ G.drop (last + 1)) :
    gm G S = false := by
  cases hh : gm G S with
  | false => rfl
  | true =>
    exfalso
    have hG := mid_split h1 h2
    rw [hG, gm_pre _ _ hpre] at hh
    obtain ⟨v, rfl, hv⟩ := hh
    obtain ⟨u, rfl, hu⟩ := (gm_suf _ _ hsuf _).1 hv
    have la : (G.take first).length = first := by simp; omega
    have lb : (G.drop (last + 1)).length = G.length - (last + 1) := by simp
    rcases hno with h | h | h
    · simp at h; omega
    · apply h
      rw [List.take_append_of_le_length (by omega), List.take_of_length_le (by omega)]
    · apply h
      rw [← List.append_assoc, List.drop_append_of_le_length (by simp; omega), List.drop_of_length_le (by simp; omega), List.nil_append]

theorem mid_done {G S : List UInt8} {last pos fin j : Nat} (h : Mid G S last pos fin j) (hj : last < j) : gm G S = true := by
  obtain ⟨h1, h2, h3, h4, _, h5, h6, h7⟩ := h
  have : j - 1 = last := by omega
  rw [h7, this, List.drop_take, drop_cons h4]
  simp only [Nat.add_sub_cancel_left, List.take_succ_cons, List.take_zero]
  exact (gm_star _ _).2 ⟨_, [], (List.append_nil _).symm, rfl⟩

theorem mid_form {G : List UInt8} {last j k : Nat} (hj : 1 ≤ j) (hjk : j ≤ k) (hk : k ≤ last) (hl : last < G.length) (hJ : G[j - 1]? = some 42) (hK : G[k]? = some 42) :
    (G.take (last + 1)).drop (j - 1) = 42 :: ((G.take k).drop j ++ 42 :: (G.take (last + 1)).drop (k + 1)) := by
  have e1 : (G.take (last + 1)).drop (j - 1) = 42 :: (G.take (last + 1)).drop j := by
    have : (G.take (last + 1))[j - 1]? = some 42 := by rw [List.getElem?_take_of_lt (by omega)]; exact hJ
    rw [drop_cons this]; congr 2; omega
  have e2 : (G.take (last + 1)).drop k = 42 :: (G.take (last + 1)).drop (k + 1) :=
    drop_cons (by rw [List.getElem?_take_of_lt (by omega)]; exact hK)
  rw [e1, ← e2]
  have : G.take k = (G.take (last + 1)).take k := by rw [List.take_take]; congr 1; omega
  rw [this, take_drop_eq (by simp; omega) hjk]

/-- The next piece stands nowhere. -/
theorem mid_none {G S : List UInt8} {last pos fin j k : Nat} (h : Mid G S last pos fin j) (hjk : j ≤ k) (hk : k ≤ last) (hK : G[k]? = some 42) (hf : free ((G.take k).drop j))
    (hno : ∀ u v, (S.take fin).drop pos ≠ u ++ ((G.take k).drop j ++ v)) : gm G S = false := by
  obtain ⟨h1, h2, h3, h4, h4', h5, h6, h7⟩ := h
  rw [h7, mid_form h1 hjk hk h3 h4' hK]
  cases hh : gm (42 :: ((G.take k).drop j ++ 42 :: (G.take (last + 1)).drop (k + 1))) ((S.take fin).drop pos) with
  | false => rfl
  | true =>
    exfalso
    obtain ⟨u, v, he, hv⟩ := (gm_star _ _).1 hh
    obtain ⟨v', rfl, _⟩ := (gm_pre _ _ hf _).1 hv
    exact hno u v' he

/-- The next piece stands at 'p', and nowhere before. -/
theorem mid_next {G S : List UInt8} {last pos fin j k p : Nat} (h : Mid G S last pos fin j) (hjk : j ≤ k) (hk : k ≤ last) (hK : G[k]? = some 42) (hf : free ((G.take k).drop j))
    (hp : p + (k - j) ≤ fin - pos) (hat : (((S.take fin).drop pos).drop p).take (k - j) = (G.take k).drop j)
    (hmin : ∀ q, q < p → (((S.take fin).drop pos).drop q).take (k - j) ≠ (G.take k).drop j) :
    Mid G S last (pos + p + (k - j)) fin (k + 1) := by
  obtain ⟨h1, h2, h3, h4, h4', h5, h6, h7⟩ := h
  refine ⟨by omega, by omega, h3, h4, by simpa using hK, by omega, h6, ?_⟩
  have e2 : (G.take (last + 1)).drop k = 42 :: (G.take (last + 1)).drop (k + 1) :=
    drop_cons (by rw [List.getElem?_take_of_lt (by omega)]; exact hK)
  rw [h7, mid_form h1 hjk hk h3 h4' hK, Nat.add_sub_cancel, e2]
  have hT : (S.take fin).drop (pos + p + (k - j)) = ((S.take fin).drop pos).drop (p + (k - j)) := by rw [List.drop_drop]; congr 1; omega
  rw [hT]
  have hlt : ((S.take fin).drop pos).length = fin - pos := by simp; omega
  generalize (S.take fin).drop pos = t at *
  have hll : ((G.take k).drop j).length = k - j := by simp; omega
  generalize (G.take k).drop j = l at *
  have ht : t = t.take p ++ (l ++ t.drop (p + (k - j))) := by
    rw [← hat, ← List.drop_drop, List.take_append_drop, List.take_append_drop]
  have := greedy l ((G.take (last + 1)).drop (k + 1)) (t.take p) (t.drop (p + (k - j))) hf ?_
  · rw [← ht] at this; exact this
  · rw [← ht]
    intro u v he
    rw [List.length_take]
    by_cases hq : u.length < p
    · exfalso
      apply hmin _ hq
      rw [he, List.drop_left, ← hll, List.take_left]
    · omega

end Go.Proofs.Qxb6627720a.Glob
