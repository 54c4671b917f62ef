import Derived.Test.Qxb6627720aRows
import Derived.Test.Qxb6627720aGlob
import Derived.WalkKit
import Derived.ProofKit
import Derived.WalkSpells
import Derived.WalkLawsBesides
import Derived.Deep.QuietTactic
import Derived.BigQuiet
namespace Go.Proofs.Qxb6627720a
open Go.ChangeShapes Go.WideShapes Go.ChangeAt Go.RowKit
open Glob

theorem hide {p : Prop} (h : p) : Hid p := h
theorem unhide {p : Prop} (h : Hid p) : p := h

theorem ret_bool {a b : Bool} (h : a = b) : Ending.returned (.bool a) = .returned (.bool b) := by rw [h]

theorem byte_at (s : ByteArray) (k : Nat) (h : k < s.size) : s.data.toList[k]? = some s[k] := by
  rw [List.getElem?_eq_getElem (by simpa using h)]; rfl

theorem byte_beyond (s : ByteArray) (k : Nat) (h : ¬ k < s.size) : s.data.toList[k]? = none := by
  rw [List.getElem?_eq_none]; simpa using h

theorem byte_eq (a b : UInt8) : ((a.toNat : Int) == (b.toNat : Int)) = decide (a = b) := by
  rw [Bool.eq_iff_iff]; simp only [beq_iff_eq, decide_eq_true_eq, Int.natCast_inj, UInt8.toNat_inj]

theorem byte_is (a : UInt8) (n : Nat) (hn : n < 256) : ((a.toNat : Int) == (n : Int)) = decide (a = UInt8.ofNat n) := by
  rw [Bool.eq_iff_iff]
  simp
  constructor
  · intro h
    apply UInt8.toNat_inj.1
    rw [UInt8.toNat_ofNat']
    omega
  · intro h
    subst h
    rw [UInt8.toNat_ofNat']; omega

def gmS (g s : ByteArray) : Bool := gm g.data.toList s.data.toList

set_option maxHeartbeats 1000000 in
theorem globMatch_any (G S : ByteArray) (w : World) (hG : G.size ≤ 4096) (hS : S.size ≤ 4096) :
    Calls Try.prog 11 #[.string G, .string S] w fun e w' => e = .returned (.bool (gmS G S)) ∧ ∃ n, w' = w.drewN n := by
  go_enter Try.func11, Try.ntmps11
  go_wp2
  go_loopw [5, 6, 7, 8] (fun g i st re wr => ∃ (gN iN : Nat) (a r : Int), g = .int .i64 gN ∧ i = .int .i64 iN ∧ st = .int .i64 a ∧ re = .int .i64 r ∧
      Inv G.data.toList S.data.toList gN iN a r ∧ ∃ n, wr = w.drewN n)
    (fun _ i st re _ => ((G.size - (intOf st + 1).toNat) * 5000 + (S.size - (intOf re).toNat)) * 5000 + (S.size - (intOf i).toNat))
  case atStart => exact ⟨0, 0, -1, 0, rfl, rfl, rfl, rfl, inv_start _ _, 0, rfl⟩
  case round =>
    obtain ⟨gN, iN, a, r, rfl, rfl, rfl, rfl, hinv, n, rfl⟩ := hrel
    have hb := inv_bounds hinv
    have hlG : G.data.toList.length = G.size := by simp
    have hlS : S.data.toList.length = S.size := by simp
    rw [hlG, hlS] at hb
    obtain ⟨hb1, hb2, hb3, hb4, hb5, hb6⟩ := hb
    clear hlG hlS
    by_cases hi : iN < S.size
    · by_cases hg : gN < G.size
      · by_cases h42 : G[gN] = 42
        · have t1 : ((G[gN].toNat : Int) == 42) = true := by rw [h42]; rfl
          have hn := inv_star hinv (by rw [byte_at G gN hg, h42])
          clear hinv h42
          go_wp2
          go_roundw
          case rel => exact ⟨gN + 1, iN, gN, iN, by go_num, rfl, rfl, rfl, hn, n, rfl⟩
          case measure => simp [intOf]; omega
        · have t1 : ((G[gN].toNat : Int) == 42) = false := by rw [show (42 : Int) = ((42 : UInt8).toNat : Int) from rfl, byte_eq]; simp [h42]
          by_cases hm : G[gN] = S[iN]
          · have t2 : ((G[gN].toNat : Int) == (S[iN].toNat : Int)) = true := by rw [byte_eq]; simp [hm]
            have hn := inv_eat hinv (byte_at G gN hg) (by rw [hm]; exact byte_at S iN hi) h42
            clear hinv h42 hm
            go_wp2
            go_quiet (fail)
            go_wp2
            go_roundw
            case rel => exact ⟨gN + 1, iN + 1, a, r, by go_num, by go_num, rfl, rfl, hn, _, rfl⟩
            case measure => simp [intOf]; omega
          · have t2 : ((G[gN].toNat : Int) == (S[iN].toNat : Int)) = false := by rw [byte_eq]; simp [hm]
            have m1 : G.data.toList[gN]? ≠ some 42 := by rw [byte_at G gN hg]; simpa using h42
            have m2 : G.data.toList[gN]? ≠ S.data.toList[iN]? := by rw [byte_at G gN hg, byte_at S iN hi]; simpa using hm
            clear h42 hm
            by_cases hs : 0 ≤ a
            · have hn := inv_back hinv (by simpa using hi) m1 m2 hs
              clear hinv m1 m2
              go_wp2
              go_quiet (fail)
              go_wp2
              go_roundw
              case rel => exact ⟨a.toNat + 1, r.toNat + 1, a, r + 1, by rw [show ((a.toNat + 1 : Nat) : Int) = a + 1 from by omega], by rw [show ((r.toNat + 1 : Nat) : Int) = r + 1 from by omega], rfl, rfl, hn, _, rfl⟩
              case measure => simp [intOf]; omega
            · have hn := inv_lost hinv (by simpa using hi) m1 m2 (by omega)
              have hn' := hide hn
              clear hinv m1 m2 hn
              go_wp2
              go_quiet (fail)
              go_wp2
              go_ret
              exact ⟨ret_bool (by unfold gmS; rw [unhide hn']), _, rfl⟩
      · have t1 : decide ((gN : Int) < (G.size : Int)) = false := by simp; omega
        have m1 : G.data.toList[gN]? ≠ some 42 := by rw [byte_beyond G gN hg]; simp
        have m2 : G.data.toList[gN]? ≠ S.data.toList[iN]? := by rw [byte_beyond G gN hg, byte_at S iN hi]; simp
        by_cases hs : 0 ≤ a
        · have hn := inv_back hinv (by simpa using hi) m1 m2 hs
          clear hinv m1 m2
          go_wp2
          go_quiet (fail)
          go_wp2
          go_roundw
          case rel => exact ⟨a.toNat + 1, r.toNat + 1, a, r + 1, by rw [show ((a.toNat + 1 : Nat) : Int) = a + 1 from by omega], by rw [show ((r.toNat + 1 : Nat) : Int) = r + 1 from by omega], rfl, rfl, hn, _, rfl⟩
          case measure => simp [intOf]; omega
        · have hn := inv_lost hinv (by simpa using hi) m1 m2 (by omega)
          have hn' := hide hn
          clear hinv m1 m2 hn
          go_wp2
          go_quiet (fail)
          go_wp2
          go_ret
          exact ⟨ret_bool (by unfold gmS; rw [unhide hn']), _, rfl⟩
    · have he := hide (inv_end hinv (by simp; omega))
      clear hinv hb3 hb4 hb5 hb6
      go_wp2
      go_loop [5] (fun g => ∃ k : Nat, g = .int .i64 k ∧ k ≤ G.size ∧ gm (G.data.toList.drop gN) [] = gm (G.data.toList.drop k) []) (fun g => G.size - (intOf g).toNat)
      case atStart => exact ⟨gN, rfl, hb1, rfl⟩
      case round =>
        obtain ⟨k, rfl, hk, hkk⟩ := hrel
        have hk' := hide hkk
        clear hkk
        by_cases hg : k < G.size
        · by_cases h42 : G[k] = 42
          · have t1 : ((G[k].toNat : Int) == 42) = true := by rw [h42]; rfl
            have hn := hide (end_star (by rw [byte_at G k hg, h42]))
            clear h42
            go_wp2
            go_round
            case rel => exact ⟨k + 1, by go_num, by omega, by rw [unhide hk', unhide hn]⟩
            case measure => simp [intOf]; omega
          · have t1 : ((G[k].toNat : Int) == 42) = false := by rw [show (42 : Int) = ((42 : UInt8).toNat : Int) from rfl, byte_eq]; simp [h42]
            have hn := hide (end_stop (g := k) (G := G.data.toList) (by simp; omega) (by rw [byte_at G k hg]; simpa using h42))
            clear h42
            have t2 : ((k : Int) == (G.size : Int)) = false := by simp; omega
            go_wp2
            go_ret
            exact ⟨ret_bool (by unfold gmS; rw [unhide he, unhide hk', unhide hn]; simp; omega), _, rfl⟩
        · have hn := hide (end_stop (g := k) (G := G.data.toList) (by simp; omega) (by rw [byte_beyond G k hg]; simp))
          have t2 : ((k : Int) == (G.size : Int)) = true := by simp; omega
          go_wp2
          go_ret
          exact ⟨ret_bool (by unfold gmS; rw [unhide he, unhide hk', unhide hn]; simp; omega), _, rfl⟩
end Go.Proofs.Qxb6627720a
