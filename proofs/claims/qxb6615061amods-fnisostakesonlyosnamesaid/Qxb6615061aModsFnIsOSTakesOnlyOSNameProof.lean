/-
  THE PROOF OF 'Rows.FnIsOSTakesOnlyOSNameSaid': the frame is the given shell's (proof-skeleton.mjs); the walk and the callees' contracts are typed by hand.
-/
import Derived.Test.Qxb6615061aModsRows
import Derived.WalkKit
import Derived.ProofKit
import Derived.OpenShut
import Derived.ShutString
namespace Go.Proofs.Qxb6615061aMods.fnIsOSTakesOnlyOSName
open Go.ChangeShapes Go.WideShapes Go.ChangeAt Go.RowKit
open Go.ChangeMaps (open_string shut_string)
set_option linter.unusedVariables false      -- a walk need not use every 'w<i>' (that an integer argument fits its kind)

theorem own : ownKnob Trym.prog.godebug = none := by kernel_rfl

/-! ### THE CALLEES' CONTRACTS -/

/-- the name that platform.OS writes: a constant of the translated program -/
def osName : ByteArray := ⟨#[108, 105, 110, 117, 120]⟩

/-- the length guard, within the bound -/
theorem bytes_yes (a b : ByteArray) (w : World) (h : a.size + b.size ≤ 1048576) :
    Calls Trym.prog 4 #[.string a, .string b] w fun e w' => e = .returned (.bool true) ∧ w = w' := by
  go_enter Trym.func4, Trym.ntmps4
  go_wp2
  go_ret
  exact ⟨rfl, rfl⟩

/-- the length guard, beyond the bound -/
theorem bytes_no (a b : ByteArray) (w : World) (w0 : a.size ≤ maxLen) (w1 : b.size ≤ maxLen) (h : 1048576 < a.size + b.size) :
    Calls Trym.prog 4 #[.string a, .string b] w fun e w' => e = .returned (.bool false) ∧ w = w' := by
  unfold maxLen at w0 w1
  by_cases h1 : a.size ≤ 1048576
  · by_cases h2 : b.size ≤ 1048576
    · go_enter Trym.func4, Trym.ntmps4
      go_wp2
      go_ret
      exact ⟨rfl, rfl⟩
    · go_enter Trym.func4, Trym.ntmps4
      go_wp2
      go_ret
      exact ⟨rfl, rfl⟩
  · go_enter Trym.func4, Trym.ntmps4
    go_wp2
    go_ret
    exact ⟨rfl, rfl⟩

theorem os_any (w : World) : Calls Trym.prog 5 #[] w fun e w' => e = .returned (.string osName) ∧ w = w' := by
  go_enter Trym.func5, Trym.ntmps5
  go_wp2
  go_ret
  exact ⟨rfl, rfl⟩

theorem isOS_any (a : ByteArray) (w : World) :
    Calls Trym.prog 6 #[.string a] w fun e w' => e = .returned (.tuple #[.bool (a.toList == osName.toList), .nilIface]) ∧ w = w' := by
  go_enter Trym.func6, Trym.ntmps6
  go_wp2_with (first | (go_at_call 5; refine (os_any _).mono ?_; rintro e w' ⟨rfl, rfl⟩) | go_in)
  go_ret2
  exact ⟨rfl, rfl⟩

/-- isOS takes the name 'a' (t = true) or does not (t = false) -/
theorem isOS_is (a : ByteArray) (t : Bool) (w : World) (h : (a.toList == osName.toList) = t) :
    Calls Trym.prog 6 #[.string a] w fun e w' => e = .returned (.tuple #[.bool t, .nilIface]) ∧ w = w' := by
  subst h
  exact isOS_any a w

/-! ### THE PLAIN LAW: two names that are both the OS's name are one -/
theorem one_name {a b : ByteArray} (ha : (a.toList == osName.toList) = true) (hb : (b.toList == osName.toList) = true) : (a.toList == b.toList) = true := by
  rw [beq_iff_eq] at ha hb ⊢
  rw [ha, hb]

theorem ret_bool {a b : Bool} (h : a = b) : Ending.returned (.bool a) = .returned (.bool b) := by rw [h]

theorem walk_long (a b : ByteArray) (w0 : a.size ≤ maxLen) (w1 : b.size ≤ maxLen) (w : World) (h : 1048576 < a.size + b.size) :
    Calls Trym.prog 3 #[.string a, .string b] w fun e w' => e = .returned (.bool true) ∧ w = w' := by
  go_enter Trym.func3, Trym.ntmps3
  go_wp2_with (go_at_call 4; refine (bytes_no _ _ _ w0 w1 h).mono ?_; rintro e w' ⟨rfl, rfl⟩)
  go_ret
  exact ⟨rfl, rfl⟩

theorem walk_at (a b : ByteArray) (ta tb : Bool) (w : World) (h : a.size + b.size ≤ 1048576)
    (ha : (a.toList == osName.toList) = ta) (hb : (b.toList == osName.toList) = tb) (hab : ta = true → tb = true → (a.toList == b.toList) = true) :
    Calls Trym.prog 3 #[.string a, .string b] w fun e w' => e = .returned (.bool true) ∧ w = w' := by
  have HA : Hid ((a.toList == osName.toList) = ta) := ha
  have HB : Hid ((b.toList == osName.toList) = tb) := hb
  have HAB : Hid (ta = true → tb = true → (a.toList == b.toList) = true) := hab
  clear ha hb hab
  go_enter Trym.func3, Trym.ntmps3
  go_wp2_with (first | (go_at_call 4; refine (bytes_yes _ _ _ h).mono ?_; rintro e w' ⟨rfl, rfl⟩) | (go_at_call 5; refine (os_any _).mono ?_; rintro e w' ⟨rfl, rfl⟩))
  refine (isOS_is osName true _ (beq_self_eq_true _)).mono ?_
  rintro e w' ⟨rfl, rfl⟩
  go_wp2_with fail
  refine (isOS_is a ta _ HA.out).mono ?_
  rintro e w' ⟨rfl, rfl⟩
  go_wp2_with fail
  refine (isOS_is b tb _ HB.out).mono ?_
  rintro e w' ⟨rfl, rfl⟩
  go_wp2_with fail
  · go_ret
    exact ⟨ret_bool (HAB.out ‹_› ‹_›), rfl⟩
  · go_ret
    exact ⟨rfl, rfl⟩
  · go_ret
    exact ⟨rfl, rfl⟩

/-! ### STEP 1: THE WALK: the Go text returns true. 'Grown w w'': the world has at most new blocks (Derived/RowKit3.lean). Part the cases AHEAD of 'go_enter' where a test parts the walk; take each callee by a contract of your own. -/
theorem walk (a0 : ByteArray) (a1 : ByteArray) (w0 : a0.size ≤ maxLen) (w1 : a1.size ≤ maxLen) (w : World) :
    Calls Trym.prog 3 #[.string a0, .string a1] w fun e w' => e = .returned (.bool true) ∧ Grown w w' := by
  rcases Nat.lt_or_ge 1048576 (a0.size + a1.size) with h | h
  · refine (walk_long a0 a1 w0 w1 w h).mono ?_
    rintro e w' ⟨rfl, rfl⟩
    exact ⟨rfl, Grown.refl _⟩
  · refine (walk_at a0 a1 _ _ w h rfl rfl (fun ha hb => one_name ha hb)).mono ?_
    rintro e w' ⟨rfl, rfl⟩
    exact ⟨rfl, Grown.refl _⟩

/-! ### THE ROW's STEP: WRITTEN OUT: LEAVE IT -/
set_option maxRecDepth 100000 in
theorem lifted (os : Os) (started : os.Started) (H : Type) (enc : TypeId × Value → H) :
    ReturnsInHanded {} Trym.checked os 3 .any (Rows.fnIsOSTakesOnlyOSNameSpec.pre6 enc Trym.prog Trym.f3 Rows.fnIsOSTakesOnlyOSNameRow.domain false) (Rows.fnIsOSTakesOnlyOSNameSpec.post enc Trym.prog Trym.f3 false true false false) := by
  refine returnsInHanded_of_change (C := Trym.checked) own started (by kernel_rfl) Trym.func3
    (ChangeSpec.witness6 (enc := enc) (C := Trym.checked) false ⟨#[], #[.string ByteArray.empty, .string ByteArray.empty], []⟩ 8 (by kernel_rfl) (by kernel_rfl) (by kernel_rfl) (by kernel_rfl)) ?_
  intro W base args ds gs before hval0 hW hcnd _
  have hval : ∀ (j : Nat) t v, Trym.f3.params[j]? = some t → args[j]? = some v → Value.okWide Trym.prog W .any base t v := hval0
  have hW' := hW
  obtain ⟨p, q, hA0, hV, rfl, hfz, hnd⟩ := hW
  have hA : DataW.TrodAll enc Trym.prog W 0 (fun _ => true) true Trym.f3.params.toList args.toList ds p := hA0
  rw [Trym.params3] at hA hval
  obtain ⟨v0, vs0, d0, ds0, p0, q0, hargs, rfl, rfl, h0, r0⟩ := trodAll_cons hA
  obtain ⟨v1, vs1, d1, ds1, p1, q1, rfl, rfl, rfl, h1, r1⟩ := trodAll_cons r0
  obtain ⟨rfl, rfl, rfl⟩ := trodAll_nil r1
  obtain rfl : args = #[v0, v1] := by cases args; simp_all
  obtain ⟨rfl, rfl⟩ := trodVars_none hV
  obtain ⟨a0, rfl, rfl, rfl, w0⟩ := open_string Trym.underlying9 (hval 0 9 v0 rfl rfl) h0
  obtain ⟨a1, rfl, rfl, rfl, w1⟩ := open_string Trym.underlying9 (hval 1 9 v1 rfl rfl) h1
  clear hA0 hval0
  simp only [List.append_nil] at hW'
  refine (walk a0 a1 w0 w1 W).mono fun e W' ⟨he, hg⟩ => ?_
  subst he
  exact ⟨_, rfl, post_of_same (pa := []) (pv := []) hW' (fun _ _ _ => (trodAll_cons_mk (shut_bool Trym.underlying4 _) trodAll_mk0)) (fun sp _ => (trodAll_cons_mk (shut_string Trym.underlying9 w0) (trodAll_cons_mk (shut_string Trym.underlying9 w1) trodAll_mk0))) (fun _ _ => rfl) rfl
    (hg.frame _) hg.2.1 (ok_one (by kernel_rfl) rfl (okWide_bool_mk Trym.underlying4 _))⟩

theorem over : Rows.fnIsOSTakesOnlyOSNameRow.holds Trym.pinned (OpenSpec.ofChange Rows.fnIsOSTakesOnlyOSNameSpec) :=
  OpenClaim.holds_of_wide 3 Trym.f3 rfl rfl rfl rfl rfl rfl rfl ⟨rfl, rfl, rfl, rfl, rfl⟩ rfl rfl rfl rfl rfl (by kernel_rfl) Trym.func3 (by kernel_rfl)
    (of_decide_eq_true (by kernel_rfl)) (by unfold Func.isWrapper; first | (rw [if_pos (by decide +kernel)]; kernel_rfl) | (rw [if_neg (by decide +kernel)]; exact ⟨rfl, rfl⟩))
    (fun os started H enc _ => lifted os started H enc)

/-- ████ THE STATEMENT ████ -/
theorem proved : Rows.FnIsOSTakesOnlyOSNameSaid :=
  over
#print axioms proved
end Go.Proofs.Qxb6615061aMods.fnIsOSTakesOnlyOSName
