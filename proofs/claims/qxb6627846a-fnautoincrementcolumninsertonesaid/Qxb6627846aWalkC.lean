import Derived.Test.Qxb6627846aWalkB
namespace Go.Proofs.Qxb6627846a
open Go.ChangeShapes Go.WideShapes Go.ChangeAt Go.RowKit

set_option maxHeartbeats 1000000 in
theorem cut_early (a : Option Addr) (n c : Nat) (cut : Int) (w : World) (hn : n ≤ maxLen) (h : decide ((65536 : Int) < (n : Int)) = true ∨
    (decide ((65536 : Int) < (n : Int)) = false ∧ (decide (cut < 0) = true ∨ (decide (cut < 0) = false ∧ decide ((n : Int) < cut) = true)))) :
    Calls Try.prog 3 #[.slice a n c, .int .i64 cut] w fun e w' => e = .returned (.bool true) ∧ w' = w := by
  rcases h with t1 | ⟨t1, t2 | ⟨t2, t3⟩⟩
  all_goals
    go_enter Try.func3, Try.ntmps3
    go_wp2_with fail
    refine (bytesC_any _ _ _ _ _ hn).mono ?_
    rintro e w1 ⟨⟨x, rfl⟩, hw⟩
    subst hw
    cases x
    all_goals
      go_wp2
      go_ret
      exact ⟨rfl, rfl⟩

theorem Row.take {w : World} {a : Option Addr} {n k : Nat} {f : Nat → Value} (h : Row w a n f) (hk : k ≤ n) : Row w a k f := by
  rcases h with h | ⟨b, o, ha, hl, hc⟩
  · exact .inl (by omega)
  · exact .inr ⟨b, o, ha, hl, fun i hi => hc i (by omega)⟩

theorem add_plain (b o k : Nat) : (⟨b, o, none⟩ : Addr).add k = ⟨b, o + k, none⟩ := by unfold Addr.add; split <;> simp_all

theorem Row.drop {w : World} {ad : Addr} {n k : Nat} {f : Nat → Value} (h : Row w (some ad) n f) (hk : k ≤ n) : Row w (some (ad.add k)) (n - k) (fun i => f (k + i)) := by
  rcases h with h | ⟨b, o, ha, hl, hc⟩
  · exact .inl (by omega)
  · obtain rfl : ad = ⟨b, o, none⟩ := by simpa using ha
    exact .inr ⟨b, o + k, by rw [add_plain], hl, fun i hi => by rw [Nat.add_assoc]; exact hc (k + i) (by omega)⟩

set_option maxHeartbeats 1000000 in
theorem cut_main (a : Option Addr) (n c k : Nat) (fl : Nat → Bool) (w : World) (hn : n ≤ 65536) (hk : k ≤ n) (hc : n ≤ c) (ha : a = none → n = 0 ∧ c = 0) (hr : Row w a n (fun i => .bool (fl i))) :
    Calls Try.prog 3 #[.slice a n c, .int .i64 (k : Int)] w fun e w' => e = .returned (.bool true) ∧ Below w.heap.size w w' := by
  have t1 : decide ((65536 : Int) < (n : Int)) = false := by simp; omega
  have t2 : decide ((k : Int) < 0) = false := by simp
  have t3 : decide ((n : Int) < (k : Int)) = false := by simp; omega
  have HR := hide hr
  have HA := hide ha
  clear hr ha
  go_enter Try.func3, Try.ntmps3
  go_wp2_with fail
  refine (bytesC_any _ _ _ _ _ (by unfold maxLen; omega)).mono ?_
  rintro e w1 ⟨⟨x, rfl⟩, hw⟩
  subst hw
  cases x
  case false =>
    go_wp2
    go_ret
    exact ⟨rfl, Below.refl _ _⟩
  go_wp2_with fail
  refine (buildDef_any _ _ _ fl _ (by omega) (fun h => (unhide HA h).1) (unhide HR)).mono ?_
  rintro e w2 ⟨d1, rfl, hD1, hb2⟩
  have HD1 := hide hD1
  have HB2 := hide hb2
  clear hD1 hb2
  go_wp2_with fail
  have hr2 := (unhide HR).below (unhide HB2)
  refine (buildDef_any _ _ _ fl _ (by omega) (fun h => by have := (unhide HA h).1; omega) (hr2.take hk)).mono ?_
  rintro e w3 ⟨d2, rfl, hD2, hb3⟩
  have HD2 := hide hD2
  have HB3 := hide hb3
  have HR3 := hide (hr2.below hb3)
  clear hD2 hb3 hr2
  by_cases hck : c = k
  · subst hck
    obtain rfl : n = c := by omega
    go_wp2_with fail
    refine (buildDef_any _ _ _ (fun i => fl (n + i)) _ (by omega) (fun _ => rfl) (.inl rfl)).mono ?_
    rintro e w4 ⟨d3, rfl, hD3, hb4⟩
    rw [show DefAt w4 d3 0 (fun i => fl (n + i)) = DefAt w4 d3 (n - n) (fun i => fl (n + i)) from by rw [Nat.sub_self]] at hD3
    have HD3 := hide hD3
    have HB4 := hide hb4
    have HR4 := hide ((unhide HR3).below hb4)
    have HD2' := hide ((unhide HD2).below hb4)
    have HD1' := hide (((unhide HD1).below (unhide HB3)).below hb4)
    have HB14 := hide ((unhide HB2).trans (((unhide HB3).mono (unhide HB2).size).trans (hb4.mono (Nat.le_trans (unhide HB2).size (unhide HB3).size))))
    clear hD3 hb4 HD1 HD2 HB2 HB3 HB4 HR3
    go_wp2_with fail
    refine (autoCol_any _ _ _ _ (by omega) (unhide HD1')).mono ?_
    rintro e w5 ⟨rfl, hb5⟩
    have HD2'' := hide ((unhide HD2').below hb5)
    have HD3' := hide ((unhide HD3).below hb5)
    have HR5 := hide ((unhide HR4).below hb5)
    have HB15 := hide ((unhide HB14).trans (hb5.mono (unhide HB14).size))
    clear hb5 HD1' HD2' HD3 HR4 HB14
    go_wp2_with fail
    refine (autoCol_any _ _ _ _ (by omega) (unhide HD2'')).mono ?_
    rintro e w6 ⟨rfl, hb6⟩
    have HD3'' := hide ((unhide HD3').below hb6)
    have HR6 := hide ((unhide HR5).below hb6)
    have HB16 := hide ((unhide HB15).trans (hb6.mono (unhide HB15).size))
    clear hb6 HD2'' HD3' HR5 HB15
    go_wp2_with fail
    refine (autoCol_any _ _ _ _ (by omega) (unhide HD3'')).mono ?_
    rintro e w7 ⟨rfl, hb7⟩
    have HR7 := hide ((unhide HR6).below hb7)
    have HB17 := hide ((unhide HB16).trans (hb7.mono (unhide HB16).size))
    clear hb7 HD3'' HR6 HB16
    have rL := first_range fl n
    have rR := first_range (fun i => fl (n + i)) (n - n)
    have law := first_cut fl n n hk
    by_cases cL : 0 ≤ first fl n
    · rw [if_pos cL] at law
      have tq : (first fl n == first fl n) = true := by rw [law]; simp
      have HL := hide law
      clear law
      go_wp2_with fail
      refine (isFirst_any _ _ _ _ _ (by omega) (unhide HR7)).mono ?_
      rintro e w8 ⟨rfl, hw⟩
      subst hw
      go_wp2
      go_ret
      exact ⟨rfl, unhide HB17⟩
    · rw [if_neg cL] at law
      by_cases cR : 0 ≤ first (fun i => fl (n + i)) (n - n)
      · exfalso
        rw [Nat.sub_self] at cR
        have c0 : (0 : Int) ≤ -1 := cR
        omega
      · rw [if_neg cR] at law
        have tq : (first fl n == -1) = true := by rw [law]; simp
        have HL := hide law
        clear law
        go_wp2_with fail
        refine (isFirst_any _ _ _ _ _ (by omega) (unhide HR7)).mono ?_
        rintro e w8 ⟨rfl, hw⟩
        subst hw
        go_wp2
        go_ret
        exact ⟨rfl, unhide HB17⟩
  · cases a with
    | none => have := unhide HA rfl; omega
    | some ad =>
      go_wp2_with fail
      refine (buildDef_any _ _ _ (fun i => fl (k + i)) _ (by omega) (fun h => by cases h) ((unhide HR3).drop hk)).mono ?_
      rintro e w4 ⟨d3, rfl, hD3, hb4⟩
      have HD3 := hide hD3
      have HB4 := hide hb4
      have HR4 := hide ((unhide HR3).below hb4)
      have HD2' := hide ((unhide HD2).below hb4)
      have HD1' := hide (((unhide HD1).below (unhide HB3)).below hb4)
      have HB14 := hide ((unhide HB2).trans (((unhide HB3).mono (unhide HB2).size).trans (hb4.mono (Nat.le_trans (unhide HB2).size (unhide HB3).size))))
      clear hD3 hb4 HD1 HD2 HB2 HB3 HB4 HR3
      go_wp2_with fail
      refine (autoCol_any _ _ _ _ (by omega) (unhide HD1')).mono ?_
      rintro e w5 ⟨rfl, hb5⟩
      have HD2'' := hide ((unhide HD2').below hb5)
      have HD3' := hide ((unhide HD3).below hb5)
      have HR5 := hide ((unhide HR4).below hb5)
      have HB15 := hide ((unhide HB14).trans (hb5.mono (unhide HB14).size))
      clear hb5 HD1' HD2' HD3 HR4 HB14
      go_wp2_with fail
      refine (autoCol_any _ _ _ _ (by omega) (unhide HD2'')).mono ?_
      rintro e w6 ⟨rfl, hb6⟩
      have HD3'' := hide ((unhide HD3').below hb6)
      have HR6 := hide ((unhide HR5).below hb6)
      have HB16 := hide ((unhide HB15).trans (hb6.mono (unhide HB15).size))
      clear hb6 HD2'' HD3' HR5 HB15
      go_wp2_with fail
      refine (autoCol_any _ _ _ _ (by omega) (unhide HD3'')).mono ?_
      rintro e w7 ⟨rfl, hb7⟩
      have HR7 := hide ((unhide HR6).below hb7)
      have HB17 := hide ((unhide HB16).trans (hb7.mono (unhide HB16).size))
      clear hb7 HD3'' HR6 HB16
      have rL := first_range fl k
      have rR := first_range (fun i => fl (k + i)) (n - k)
      have law := first_cut fl n k hk
      by_cases cL : 0 ≤ first fl k
      · rw [if_pos cL] at law
        have tq : (first fl n == first fl k) = true := by rw [law]; simp
        have HL := hide law
        clear law
        go_wp2_with fail
        refine (isFirst_any _ _ _ _ _ (by omega) (unhide HR7)).mono ?_
        rintro e w8 ⟨rfl, hw⟩
        subst hw
        go_wp2
        go_ret
        exact ⟨rfl, unhide HB17⟩
      · rw [if_neg cL] at law
        by_cases cR : 0 ≤ first (fun i => fl (k + i)) (n - k)
        · rw [if_pos cR] at law
          have tq : (first fl n == (k : Int) + first (fun i => fl (k + i)) (n - k)) = true := by rw [law]; simp
          have HL := hide law
          clear law
          go_wp2_with fail
          refine (isFirst_any _ _ _ _ _ (by omega) (unhide HR7)).mono ?_
          rintro e w8 ⟨rfl, hw⟩
          subst hw
          go_wp2
          go_ret
          exact ⟨rfl, unhide HB17⟩
        · rw [if_neg cR] at law
          have tq : (first fl n == -1) = true := by rw [law]; simp
          have HL := hide law
          clear law
          go_wp2_with fail
          refine (isFirst_any _ _ _ _ _ (by omega) (unhide HR7)).mono ?_
          rintro e w8 ⟨rfl, hw⟩
          subst hw
          go_wp2
          go_ret
          exact ⟨rfl, unhide HB17⟩
end Go.Proofs.Qxb6627846a
