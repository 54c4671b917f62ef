import Derived.Test.Qxb6627720aGlob
namespace Go.Proofs.Qxb6627720a.Glob

/-- What the first loop of the model has found in the first k bytes. -/
def Scan (G : List UInt8) (k : Nat) (a b : Int) : Prop :=
  (a = -1 ∧ b = -1 ∧ free (G.take k)) ∨
  (∃ f l : Nat, a = f ∧ b = l ∧ f ≤ l ∧ l < k ∧ G[f]? = some 42 ∧ G[l]? = some 42 ∧ free (G.take f) ∧ free ((G.take k).drop (l + 1)))

theorem scan_start (G : List UInt8) : Scan G 0 (-1) (-1) := .inl ⟨rfl, rfl, fun c hc => by simp at hc⟩

theorem scan_bounds {G : List UInt8} {k : Nat} {a b : Int} (h : Scan G k a b) : -1 ≤ a ∧ a ≤ b ∧ b < k := by
  rcases h with ⟨rfl, rfl, _⟩ | ⟨f, l, rfl, rfl, h1, h2, _⟩
  · omega
  · omega

theorem free_nil : free [] := fun c hc => by simp at hc

theorem scan_first {G : List UInt8} {k : Nat} {a b : Int} (h : Scan G k a b) (hc : G[k]? = some 42) (ha : a < 0) : Scan G (k + 1) k k := by
  rcases h with ⟨rfl, rfl, hf⟩ | ⟨f, l, rfl, _⟩
  · refine .inr ⟨k, k, rfl, rfl, Nat.le_refl _, by omega, hc, hc, hf, ?_⟩
    rw [List.drop_of_length_le (by simp; omega)]; exact free_nil
  · omega

theorem scan_again {G : List UInt8} {k : Nat} {a b : Int} (h : Scan G k a b) (hc : G[k]? = some 42) (ha : ¬ a < 0) : Scan G (k + 1) a k := by
  rcases h with ⟨rfl, _⟩ | ⟨f, l, rfl, rfl, h1, h2, h3, h4, h5, h6⟩
  · omega
  · refine .inr ⟨f, k, rfl, rfl, by omega, by omega, h3, hc, h5, ?_⟩
    rw [List.drop_of_length_le (by simp; omega)]; exact free_nil

theorem take_one {G : List UInt8} {k : Nat} {c : UInt8} (hc : G[k]? = some c) : G.take (k + 1) = G.take k ++ [c] := by
  rw [List.take_add_one, hc]; rfl

theorem scan_other {G : List UInt8} {k : Nat} {a b : Int} {c : UInt8} (h : Scan G k a b) (hc : G[k]? = some c) (hne : c ≠ 42) : Scan G (k + 1) a b := by
  have hk := (List.getElem?_eq_some_iff.1 hc).1
  rcases h with ⟨ha, hb, hf⟩ | ⟨f, l, ha, hb, h1, h2, h3, h4, h5, h6⟩
  · exact .inl ⟨ha, hb, by rw [take_one hc]; exact free_append_one hf hne⟩
  · refine .inr ⟨f, l, ha, hb, h1, by omega, h3, h4, h5, ?_⟩
    rw [take_one hc, List.drop_append_of_le_length (by simp; omega)]; exact free_append_one h6 hne

theorem scan_none {G S : List UInt8} {k : Nat} {a b : Int} (h : Scan G k a b) (hk : G.length ≤ k) (ha : a < 0) : gm G S = decide (G = S) := by
  rcases h with ⟨_, _, hf⟩ | ⟨f, l, rfl, _⟩
  · rw [List.take_of_length_le hk] at hf; exact gm_none G S hf
  · omega

theorem scan_some {G : List UInt8} {k : Nat} {a b : Int} (h : Scan G k a b) (hk : G.length ≤ k) (ha : ¬ a < 0) :
    ∃ f l : Nat, a = f ∧ b = l ∧ f ≤ l ∧ l < G.length ∧ G[f]? = some 42 ∧ G[l]? = some 42 ∧ free (G.take f) ∧ free (G.drop (l + 1)) := by
  rcases h with ⟨rfl, _⟩ | ⟨f, l, ha, hb, h1, h2, h3, h4, h5, h6⟩
  · omega
  · rw [List.take_of_length_le hk] at h6
    exact ⟨f, l, ha, hb, h1, (List.getElem?_eq_some_iff.1 h4).1, h3, h4, h5, h6⟩

theorem seg_free_one {G : List UInt8} {j k : Nat} {c : UInt8} (hjk : j ≤ k) (hf : free ((G.take k).drop j)) (hc : G[k]? = some c) (hne : c ≠ 42) : free ((G.take (k + 1)).drop j) := by
  have hk := (List.getElem?_eq_some_iff.1 hc).1
  rw [take_one hc, List.drop_append_of_le_length (by simp; omega)]; exact free_append_one hf hne

theorem seg_free_start (G : List UInt8) (j : Nat) : free ((G.take j).drop j) := by
  rw [List.drop_of_length_le (by simp; omega)]; exact free_nil

/-- The answer of the search for the next piece, laid on the state. -/
theorem mid_index {G S : List UInt8} {last pos fin j k : Nat} {r : Int} (h : Mid G S last pos fin j) (hjk : j ≤ k) (hk : k ≤ last) (hK : G[k]? = some 42) (hf : free ((G.take k).drop j))
    (hi : ((r = -1 ∧ ∀ q, q + (k - j) ≤ fin - pos → (((S.take fin).drop pos).drop q).take (k - j) ≠ (G.take k).drop j) ∨
      (∃ p : Nat, r = p ∧ p + (k - j) ≤ fin - pos ∧ (((S.take fin).drop pos).drop p).take (k - j) = (G.take k).drop j ∧ ∀ q, q < p → (((S.take fin).drop pos).drop q).take (k - j) ≠ (G.take k).drop j))) :
    (r = -1 ∧ gm G S = false) ∨ (∃ p : Nat, r = p ∧ Mid G S last (pos + p + (k - j)) fin (k + 1)) := by
  rcases hi with ⟨hr, hno⟩ | ⟨p, hr, hp, hat, hmin⟩
  · refine .inl ⟨hr, mid_none h hjk hk hK hf fun u v he => ?_⟩
    obtain ⟨h1, h2, h3, _, _, h5, h6, _⟩ := h
    have hll : ((G.take k).drop j).length = k - j := by simp; omega
    have hlt : ((S.take fin).drop pos).length = fin - pos := by simp; omega
    have := congrArg List.length he
    rw [hlt, List.length_append, List.length_append, hll] at this
    apply hno u.length (by omega)
    rw [he, List.drop_left, ← hll, List.take_left]
  · exact .inr ⟨p, hr, mid_next h hjk hk hK hf hp hat hmin⟩

/-- An empty piece. -/
theorem mid_skip {G S : List UInt8} {last pos fin j : Nat} (h : Mid G S last pos fin j) (hk : j ≤ last) (hK : G[j]? = some 42) : Mid G S last pos fin (j + 1) := by
  have := mid_next (p := 0) h (Nat.le_refl j) hk hK (seg_free_start G j) (by omega) (by
    rw [List.drop_of_length_le (l := G.take j) (by simp; omega)]; simp) (fun q hq => by omega)
  simpa using this

end Go.Proofs.Qxb6627720a.Glob
