import Derived.Test.Qxb6616092aModsRows
import Derived.Test.Qxb6616092aModsPhasePlain
import Derived.WalkKit
import Derived.ProofKit
import Derived.Below
namespace Go.Proofs.Qxb6616092aMods.fnPhaseFinalIsLifecycleEnd
open Go.ChangeShapes Go.WideShapes Go.ChangeAt Go.RowKit

/-- a list of bytes as the Go string -/
def str (l : List UInt8) : ByteArray := ⟨l.toArray⟩

theorem str_toList (l : List UInt8) : (str l).toList = l := by rw [ByteArray.toList_eq]; simp [str]

theorem ret_bool {a b : Bool} (h : a = b) : Ending.returned (.bool a) = .returned (.bool b) := by rw [h]

/-! ### THE CALLEES' CONTRACTS -/

/-- the length guard, within the bound -/
theorem bytes_yes (s : ByteArray) (w : World) (h : s.size ≤ 1048576) :
    Calls Trym.prog 10 #[.string s] w fun e w' => e = .returned (.bool true) ∧ w = w' := by
  go_enter Trym.func10, Trym.ntmps10
  go_wp2
  go_ret
  exact ⟨rfl, rfl⟩

/-- the length guard, beyond the bound -/
theorem bytes_no (s : ByteArray) (w : World) (h : 1048576 < s.size) :
    Calls Trym.prog 10 #[.string s] w fun e w' => e = .returned (.bool false) ∧ w = w' := by
  go_enter Trym.func10, Trym.ntmps10
  go_wp2
  go_ret
  exact ⟨rfl, rfl⟩

/-- zzPhaseName -/
theorem phase_at (k : Nat) (w : World) (h : k < 8) :
    Calls Trym.prog 21 #[.int .i64 k] w fun e w' => e = .returned (.string (str (phL k))) ∧ w = w' := by
  match k, h with
  | 0, _ | 1, _ | 2, _ | 3, _ | 4, _ | 5, _ | 6, _ | 7, _ =>
    go_enter Trym.func21, Trym.ntmps21
    go_wp2
    go_ret
    exact ⟨rfl, rfl⟩

/-- zzTransition -/
theorem move_at (k : Nat) (w : World) (h : k < 14) :
    Calls Trym.prog 22 #[.int .i64 k] w fun e w' => e = .returned (.tuple #[.string (str (frL k)), .string (str (toL k))]) ∧ w = w' := by
  match k, h with
  | 0, _ | 1, _ | 2, _ | 3, _ | 4, _ | 5, _ | 6, _ | 7, _ | 8, _ | 9, _ | 10, _ | 11, _ | 12, _ | 13, _ =>
    go_enter Trym.func22, Trym.ntmps22
    go_wp2
    go_ret2
    exact ⟨rfl, rfl⟩

/-- (Phase).Final -/
theorem final_any (s : ByteArray) (w : World) :
    Calls Trym.prog 11 #[.string s] w fun e w' => e = .returned (.bool (finL s.toList)) ∧ w = w' := by
  have HF : Hid (finL s.toList = (s.toList == [67, 97, 110, 99, 101, 108, 101, 100] || (s.toList == [67, 111, 109, 112, 108, 101, 116, 101, 100] || s.toList == [70, 97, 105, 108, 101, 100]))) := rfl
  rcases h1 : (s.toList == [67, 97, 110, 99, 101, 108, 101, 100]) with _ | _
  · rcases h2 : (s.toList == [67, 111, 109, 112, 108, 101, 116, 101, 100]) with _ | _
    · rcases h3 : (s.toList == [70, 97, 105, 108, 101, 100]) with _ | _
      all_goals
        go_enter Trym.func11, Trym.ntmps11
        go_wp2
        go_ret
        exact ⟨ret_bool (by rw [HF.out, h1, h2, h3]; rfl), rfl⟩
    · go_enter Trym.func11, Trym.ntmps11
      go_wp2
      go_ret
      exact ⟨ret_bool (by rw [HF.out, h1, h2]; rfl), rfl⟩
  · go_enter Trym.func11, Trym.ntmps11
    go_wp2
    go_ret
    exact ⟨ret_bool (by rw [HF.out, h1]; rfl), rfl⟩

theorem end_unknown {l : List UInt8} {k : Nat} (hk : k = 8) (h : seen phL l k = false) : endL l = false := by
  subst hk
  unfold endL
  rw [h, Bool.false_and]

theorem end_known {l : List UInt8} {k : Nat} (hk : k = 8) (h : seen phL l k = true) : endL l = (!seen frL l 14 && seen toL l 14) := by
  subst hk
  unfold endL
  rw [h, Bool.true_and]

/-- zzTerminal -/
theorem term_any (s : ByteArray) (w : World) :
    Calls Trym.prog 12 #[.string s] w fun e w' => e = .returned (.bool (endL s.toList)) ∧ w = w' := by
  go_enter Trym.func12, Trym.ntmps12
  go_wp2
  go_loop [3, 4] (fun t i => ∃ k : Nat, k ≤ 8 ∧ i = .int .i64 k ∧ t = .bool (seen phL s.toList k)) (fun _ i => 8 - (intOf i).toNat)
  case atStart => exact ⟨0, Nat.zero_le _, rfl, rfl⟩
  case round =>
    obtain ⟨k, hk, rfl, rfl⟩ := hrel
    by_cases hlt : k < 8
    · rcases hb : ((str (phL k)).toList == s.toList) with _ | _
      · have HB : Hid ((phL k == s.toList) = false) := by rw [str_toList] at hb; exact hb
        go_wp2_with (go_at_call 21; refine (phase_at k _ hlt).mono ?_; rintro e w' ⟨rfl, rfl⟩)
        go_round
        case rel => exact ⟨k + 1, by omega, by go_num, by rw [seen_miss HB.out]⟩
        case measure => simp [intOf]; omega
      · have HB : Hid ((phL k == s.toList) = true) := by rw [str_toList] at hb; exact hb
        go_wp2_with (go_at_call 21; refine (phase_at k _ hlt).mono ?_; rintro e w' ⟨rfl, rfl⟩)
        go_round
        case rel => exact ⟨k + 1, by omega, by go_num, by rw [seen_hit HB.out]⟩
        case measure => simp [intOf]; omega
    · have H8 : Hid (k = 8) := by show k = 8; omega
      rcases hs : seen phL s.toList k with _ | _
      · have HE : Hid (endL s.toList = false) := end_unknown H8.out hs
        go_wp2
        go_ret
        exact ⟨ret_bool HE.out.symm, rfl⟩
      · have HE : Hid (endL s.toList = (!seen frL s.toList 14 && seen toL s.toList 14)) := end_known H8.out hs
        go_wp2
        go_loop [5, 6] (fun r j => ∃ m : Nat, m ≤ 14 ∧ j = .int .i64 m ∧ r = .bool (seen toL s.toList m) ∧ seen frL s.toList m = false) (fun _ j => 14 - (intOf j).toNat)
        case atStart => exact ⟨0, Nat.zero_le _, rfl, rfl, rfl⟩
        case round =>
          obtain ⟨m, hm, rfl, rfl, hfr⟩ := hrel
          have HF : Hid (seen frL s.toList m = false) := hfr
          clear hfr
          by_cases hlm : m < 14
          · rcases hf : ((str (frL m)).toList == s.toList) with _ | _
            · have HG : Hid ((frL m == s.toList) = false) := by rw [str_toList] at hf; exact hf
              rcases ht : ((str (toL m)).toList == s.toList) with _ | _
              · have HT : Hid ((toL m == s.toList) = false) := by rw [str_toList] at ht; exact ht
                go_wp2_with (go_at_call 22; refine (move_at m _ hlm).mono ?_; rintro e w' ⟨rfl, rfl⟩)
                go_round
                case rel => exact ⟨m + 1, by omega, by go_num, by rw [seen_miss HT.out], by rw [seen_miss HG.out, HF.out]⟩
                case measure => simp [intOf]; omega
              · have HT : Hid ((toL m == s.toList) = true) := by rw [str_toList] at ht; exact ht
                go_wp2_with (go_at_call 22; refine (move_at m _ hlm).mono ?_; rintro e w' ⟨rfl, rfl⟩)
                go_round
                case rel => exact ⟨m + 1, by omega, by go_num, by rw [seen_hit HT.out], by rw [seen_miss HG.out, HF.out]⟩
                case measure => simp [intOf]; omega
            · have HG : Hid ((frL m == s.toList) = true) := by rw [str_toList] at hf; exact hf
              go_wp2_with (go_at_call 22; refine (move_at m _ hlm).mono ?_; rintro e w' ⟨rfl, rfl⟩)
              go_ret
              exact ⟨ret_bool (by rw [HE.out, seen_at HG.out hlm]; rfl), rfl⟩
          · have H14 : Hid (m = 14) := by show m = 14; omega
            go_wp2
            go_ret
            exact ⟨ret_bool (by rw [HE.out, ← H14.out, HF.out]; rfl), rfl⟩

end Go.Proofs.Qxb6616092aMods.fnPhaseFinalIsLifecycleEnd
