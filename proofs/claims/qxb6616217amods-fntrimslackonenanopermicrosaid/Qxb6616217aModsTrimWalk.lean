import Derived.Test.Qxb6616217aModsTrimParts
namespace Go.Proofs.Qxb6616217aMods.fnTrimSlackOneNanoPerMicro
open Go.ChangeShapes Go.WideShapes Go.ChangeAt Go.RowKit

/-- k out of the law's range -/
theorem walk_out (p k : Int) (w : World) (h : k < 0 ∨ 9223372036854775 < k) :
    Calls Trym.prog 3 #[.int .i64 p, .int .i64 k] w fun e w' => e = .returned (.bool true) ∧ w = w' := by
  rcases h with h | h
  · go_enter Trym.func3, Trym.ntmps3
    go_wp2
    go_ret
    exact ⟨rfl, rfl⟩
  · have h' : 0 ≤ k := by omega
    go_enter Trym.func3, Trym.ntmps3
    go_wp2
    go_ret
    exact ⟨rfl, rfl⟩

/-- the longer period would not fit -/
theorem walk_over (p k : Int) (w : World) (h0 : 0 ≤ k) (h1 : k ≤ 9223372036854775) (h : 9223372036854775807 - 1000 * k < p) :
    Calls Trym.prog 3 #[.int .i64 p, .int .i64 k] w fun e w' => e = .returned (.bool true) ∧ w = w' := by
  go_enter Trym.func3, Trym.ntmps3
  go_wp2
  go_ret
  exact ⟨rfl, rfl⟩

/-- the law's own ground -/
theorem walk_in (p k : Int) (w : World) (h0 : 0 ≤ k) (h1 : k ≤ 9223372036854775) (hp : -9223372036854775808 ≤ p) (h : p ≤ 9223372036854775807 - 1000 * k) :
    Calls Trym.prog 3 #[.int .i64 p, .int .i64 k] w fun e w' => e = .returned (.bool true) ∧ w = w' := by
  have a1 := slack_ge p
  have a2 := slack_le (p := p) (by omega)
  have b1 := slack_mono (p := p) (q := p + 1000 * k) (by omega)
  have b2 := slack_le (p := p + 1000 * k) (by omega)
  have L : p < 1000000001000 → slack p ≤ 1000000000 := fun h => by rw [slack_low h]; omega
  have S : 1000000000000 ≤ p → slack (p + 1000 * k) - slack p = k := fun h => slack_step k h h0
  have HL : Hid (p < 1000000001000 → slack p ≤ 1000000000) := L
  have HS : Hid (1000000000000 ≤ p → slack (p + 1000 * k) - slack p = k) := S
  clear L S
  rcases Int.lt_or_le p 1000000000000 with hc | hc
  · have l := HL.out (by omega)
    have hn : (slack p != 1000000000) = false := by simp; omega
    go_enter Trym.func3, Trym.ntmps3
    go_wp2_with fail
    refine (slack_any _ _ (by omega) (by omega)).mono ?_
    rintro e w' ⟨rfl, rfl⟩
    go_wp2_with fail
    refine (slack_any _ _ (by omega) (by omega)).mono ?_
    rintro e w' ⟨rfl, rfl⟩
    go_wp2_with fail
    go_ret
    exact ⟨rfl, rfl⟩
  · have s := HS.out hc
    have hs1 : slack (p + 1000 * k) - slack p ≤ k := by omega
    have hs2 : k ≤ slack (p + 1000 * k) - slack p := by omega
    have hn : (slack (p + 1000 * k) - slack p != k) = false := by simp; omega
    clear s
    rcases Int.lt_or_le p 1000000001000 with hd | hd
    · have l := HL.out (by omega)
      have hm : (slack p != 1000000000) = false := by simp; omega
      go_enter Trym.func3, Trym.ntmps3
      go_wp2_with fail
      refine (slack_any _ _ (by omega) (by omega)).mono ?_
      rintro e w' ⟨rfl, rfl⟩
      go_wp2_with fail
      refine (slack_any _ _ (by omega) (by omega)).mono ?_
      rintro e w' ⟨rfl, rfl⟩
      go_wp2_with fail
      go_ret
      exact ⟨rfl, rfl⟩
    · go_enter Trym.func3, Trym.ntmps3
      go_wp2_with fail
      refine (slack_any _ _ (by omega) (by omega)).mono ?_
      rintro e w' ⟨rfl, rfl⟩
      go_wp2_with fail
      refine (slack_any _ _ (by omega) (by omega)).mono ?_
      rintro e w' ⟨rfl, rfl⟩
      go_wp2_with fail
      go_ret
      exact ⟨rfl, rfl⟩

end Go.Proofs.Qxb6616217aMods.fnTrimSlackOneNanoPerMicro
