import Derived.Test.Qxb6627720aWalkB
import Derived.Test.Qxb6627720aScan
namespace Go.Proofs.Qxb6627720a
open Go.ChangeShapes Go.WideShapes Go.ChangeAt Go.RowKit
open Glob

theorem idx_form {G S : ByteArray} {pos fin j m : Nat} {r : Int} (hf : fin ≤ S.size) (hm : m ≤ G.size) (h : Idx (S.extract pos fin).data.toList (G.extract j m).data.toList r) :
    ((r = -1 ∧ ∀ q, q + (m - j) ≤ fin - pos → (((S.data.toList.take fin).drop pos).drop q).take (m - j) ≠ (G.data.toList.take m).drop j) ∨
      (∃ p : Nat, r = p ∧ p + (m - j) ≤ fin - pos ∧ (((S.data.toList.take fin).drop pos).drop p).take (m - j) = (G.data.toList.take m).drop j ∧
        ∀ q, q < p → (((S.data.toList.take fin).drop pos).drop q).take (m - j) ≠ (G.data.toList.take m).drop j)) := by
  rw [extract_list, extract_list] at h
  have l1 : ((S.data.toList.take fin).drop pos).length = fin - pos := by simp; omega
  have l2 : ((G.data.toList.take m).drop j).length = m - j := by simp; omega
  unfold Idx at h
  rw [l1, l2] at h
  exact h

set_option maxHeartbeats 1000000 in
theorem zzGlob_any (G S : ByteArray) (w : World) (hG : G.size ≤ 4096) (hS : S.size ≤ 4096) :
    Calls Try.prog 9 #[.string G, .string S] w fun e w' => e = .returned (.bool (gmS G S)) ∧ w' = w := by
  go_enter Try.func9, Try.ntmps9
  go_wp2
  go_loop [5, 6, 7] (fun x y i => ∃ (k : Nat) (a b : Int), k ≤ G.size ∧ x = .int .i64 a ∧ y = .int .i64 b ∧ i = .int .i64 k ∧ Scan G.data.toList k a b)
    (fun _ _ i => G.size - (intOf i).toNat)
  case atStart => exact ⟨0, -1, -1, Nat.zero_le _, rfl, rfl, rfl, scan_start _⟩
  case round =>
    obtain ⟨k, a, b, hk, rfl, rfl, rfl, hsc⟩ := hrel
    have hb := scan_bounds hsc
    obtain ⟨hb1, hb2, hb3⟩ := hb
    by_cases hlt : k < G.size
    · by_cases h42 : G[k] = 42
      · have t1 : ((G[k].toNat : Int) == 42) = true := by rw [h42]; rfl
        have hc : G.data.toList[k]? = some 42 := by rw [byte_at G k hlt, h42]
        clear h42
        by_cases ha : a < 0
        · have hn := scan_first hsc hc ha
          clear hsc hc
          go_wp2
          go_round
          case rel => exact ⟨k + 1, k, k, by omega, rfl, rfl, by go_num, hn⟩
          case measure => simp [intOf]; omega
        · have hn := scan_again hsc hc ha
          clear hsc hc
          go_wp2
          go_round
          case rel => exact ⟨k + 1, a, k, by omega, rfl, rfl, by go_num, hn⟩
          case measure => simp [intOf]; omega
      · have t1 : ((G[k].toNat : Int) == 42) = false := by rw [show (42 : Int) = ((42 : UInt8).toNat : Int) from rfl, byte_eq]; simp [h42]
        have hn := scan_other hsc (byte_at G k hlt) h42
        clear hsc h42
        go_wp2
        go_round
        case rel => exact ⟨k + 1, a, b, by omega, rfl, rfl, by go_num, hn⟩
        case measure => simp [intOf]; omega
    · by_cases ha : a < 0
      · have hn := hide (scan_none (S := S.data.toList) hsc (by simp; omega) ha)
        clear hsc
        go_wp2
        go_ret
        exact ⟨ret_bool (by unfold gmS; rw [unhide hn, Lib.toList_data, Lib.toList_data, Bool.eq_iff_iff]; simp), rfl⟩
      · obtain ⟨f, l, rfl, rfl, h1, h2, h3, h4, h5, h6⟩ := scan_some hsc (by simp; omega) ha
        have h2' : l < G.size := by simpa using h2
        clear hsc h2
        have hmn : min f G.size = f := by omega
        have e2 : (S.extract 0 f).data.toList = S.data.toList.take f := by rw [extract_list]; simp
        have e3 : (G.extract 0 f).data.toList = G.data.toList.take f := by rw [extract_list]; simp
        have e5 : (G.extract (l + 1) G.size).data.toList = G.data.toList.drop (l + 1) := by rw [extract_list, List.take_of_length_le (by simp)]
        by_cases c1 : S.size < f + (G.size - (l + 1))
        · have hn := hide (ends_no (S := S.data.toList) h1 (by simpa using h2') h5 h6 (.inl (by simpa using c1)))
          clear h3 h4 h5 h6 e2 e3 e5
          go_wp2
          go_ret
          exact ⟨ret_bool (by unfold gmS; rw [unhide hn]), rfl⟩
        by_cases c2 : S.data.toList.take f = G.data.toList.take f
        case neg =>
          have hn := hide (ends_no (S := S.data.toList) h1 (by simpa using h2') h5 h6 (.inr (.inl c2)))
          have t2 : ((S.extract 0 f).toList == (G.extract 0 f).toList) = false := by rw [Lib.toList_data, Lib.toList_data, e2, e3]; simpa using c2
          clear h3 h4 h5 h6 e2 e3 e5 c2
          go_wp2
          go_ret
          exact ⟨ret_bool (by unfold gmS; rw [unhide hn]), rfl⟩
        have t2 : ((S.extract 0 f).toList == (G.extract 0 f).toList) = true := by rw [Lib.toList_data, Lib.toList_data, e2, e3]; simpa using c2
        obtain ⟨fin, hfin⟩ : ∃ fin : Nat, fin + (G.size - (l + 1)) = S.size := ⟨S.size - (G.size - (l + 1)), by omega⟩
        have hfi : ((S.size : Int) - ((G.size - (l + 1) : Nat) : Int)) = (fin : Int) := by omega
        have e4 : (S.extract fin S.size).data.toList = S.data.toList.drop fin := by rw [extract_list, List.take_of_length_le (by simp)]
        have hfe : S.data.toList.length - (G.data.toList.length - (l + 1)) = fin := by simp; omega
        have t1 : decide ((S.size : Int) < (f : Int) + ((G.size - (l + 1) : Nat) : Int)) = false := by simp; omega
        by_cases c3 : S.data.toList.drop fin = G.data.toList.drop (l + 1)
        case neg =>
          have hn := hide (ends_no (S := S.data.toList) h1 (by simpa using h2') h5 h6 (.inr (.inr (by rw [hfe]; exact c3))))
          have t3 : ((S.extract fin S.size).toList == (G.extract (l + 1) G.size).toList) = false := by rw [Lib.toList_data, Lib.toList_data, e4, e5]; simpa using c3
          clear h3 h4 h5 h6 e2 e3 e4 e5 c2 c3 hfe
          go_wp2
          go_ret
          exact ⟨ret_bool (by unfold gmS; rw [unhide hn]), rfl⟩
        have t3 : ((S.extract fin S.size).toList == (G.extract (l + 1) G.size).toList) = true := by rw [Lib.toList_data, Lib.toList_data, e4, e5]; simpa using c3
        have hm := mid_start (S := S.data.toList) h1 (by simpa using h2') h3 h4 h5 h6 (by simp; omega) c2 (by rw [hfe]; exact c3)
        rw [hfe] at hm
        clear h3 h5 h6 e2 e3 e4 e5 c2 c3 hfe
        have H4 := hide h4
        clear h4
        go_wp2
        go_loop [10, 12] (fun x y => ∃ pos j : Nat, x = .int .i64 pos ∧ y = .int .i64 j ∧ Mid G.data.toList S.data.toList l pos fin j) (fun _ y => l + 1 - (intOf y).toNat)
        case atStart => exact ⟨f, f + 1, rfl, by go_num, hm⟩
        case round =>
          obtain ⟨pos, j, rfl, rfl, hmid⟩ := hrel
          clear hm
          have hj1 : 1 ≤ j := hmid.1
          have hj2 : j ≤ l + 1 := hmid.2.1
          have hp1 : pos ≤ fin := hmid.2.2.2.2.2.1
          by_cases hj : j ≤ l
          · go_wp2
            go_loop [13] (fun x => ∃ m : Nat, x = .int .i64 m ∧ j ≤ m ∧ m ≤ l ∧ free ((G.data.toList.take m).drop j)) (fun x => l - (intOf x).toNat)
            case atStart => exact ⟨j, rfl, Nat.le_refl _, hj, seg_free_start _ _⟩
            case round =>
              obtain ⟨m, rfl, hjm, hml, hfr⟩ := hrel
              by_cases hK : G.data.toList[m]? = some 42
              case neg =>
                have hlt : m < l := by
                  by_cases e : m = l
                  · subst e; exact absurd (unhide H4) hK
                  · omega
                have hmG : m < G.size := by omega
                have h42 : G[m] ≠ 42 := fun h => hK (by rw [byte_at G m hmG, h])
                have t4 : ((G[m].toNat : Int) == 42) = false := by rw [show (42 : Int) = ((42 : UInt8).toNat : Int) from rfl, byte_eq]; simp [h42]
                have t5 : ((G[m].toNat : Int) != 42) = true := by simp [bne, t4]
                have hn := seg_free_one hjm hfr (byte_at G m hmG) h42
                clear hK h42 hfr
                go_wp2
                go_round
                case rel => exact ⟨m + 1, by go_num, by omega, by omega, hn⟩
                case measure => simp [intOf]; omega
              have hmG : m < G.size := by omega
              have t4 : ((G[m].toNat : Int) == 42) = true := by
                have : G[m] = 42 := by have := byte_at G m hmG; rw [hK] at this; simpa using this.symm
                rw [this]; rfl
              have t5 : ((G[m].toNat : Int) != 42) = false := by simp [bne, t4]
              have HK := hide hK
              clear hK
              have hmn2 : min m G.size = m := by omega
              have hfS : min fin S.size = fin := by omega
              by_cases hjk : j < m
              · have hgt : decide ((0 : Int) < ((m - j : Nat) : Int)) = true := by simp; omega
                by_cases hlt : m < l
                all_goals
                  go_wp2_with fail
                  refine (index_any _ _ _ ?_ ?_).mono ?_
                  case _ => simp; omega
                  case _ => simp; omega
                  rintro e w' ⟨⟨r, rfl, hr⟩, hw⟩
                  subst hw
                  have hr2 := mid_index hmid hjm hml (unhide HK) hfr (idx_form (by omega) (by omega) hr)
                  clear hr
                  rcases hr2 with ⟨rfl, hn⟩ | ⟨p, rfl, hn⟩
                  · have hn' := hide hn
                    clear hn
                    go_wp2
                    go_ret
                    exact ⟨ret_bool (by unfold gmS; rw [unhide hn']), rfl⟩
                  · have hp2 : pos + p + (m - j) ≤ fin := hn.2.2.2.2.2.1
                    go_wp2
                    go_round
                    case rel => exact ⟨pos + p + (m - j), m + 1, by go_num, by go_num, hn⟩
                    case measure => simp [intOf]; omega
              · obtain rfl : j = m := by omega
                have hn := mid_skip hmid hml (unhide HK)
                by_cases hlt : j < l
                all_goals
                  go_wp2
                  go_round
                  case rel => exact ⟨pos, j + 1, rfl, by go_num, hn⟩
                  case measure => simp [intOf]; omega
          · have hn := hide (mid_done hmid (by omega))
            go_wp2
            go_ret
            exact ⟨ret_bool (by unfold gmS; rw [unhide hn]), rfl⟩
end Go.Proofs.Qxb6627720a
