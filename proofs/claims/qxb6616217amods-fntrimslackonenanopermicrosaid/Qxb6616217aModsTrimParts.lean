import Derived.Test.Qxb6616217aModsRows
import Derived.WalkKit
import Derived.ProofKit
import Derived.OpenShut
import Derived.Below
namespace Go.Proofs.Qxb6616217aMods.fnTrimSlackOneNanoPerMicro
open Go.ChangeShapes Go.WideShapes Go.ChangeAt Go.RowKit

/-! ### THE PLAIN LAW -/

/-- what trimSlack computes -/
def slack (p : Int) : Int := if 1000000000 < p.tdiv 1000 then p.tdiv 1000 else 1000000000

theorem slack_big {p : Int} (h : 1000000000 < p.tdiv 1000) : slack p = p.tdiv 1000 := if_pos h

theorem slack_small {p : Int} (h : p.tdiv 1000 ≤ 1000000000) : slack p = 1000000000 := if_neg (by omega)

/-- Go's division, from 0 on -/
theorem quo_pos {p : Int} (h : 0 ≤ p) : p.tdiv 1000 = p / 1000 := Int.tdiv_eq_ediv_of_nonneg h

/-- Go's division of a negative number by a positive one is no more than 0 -/
theorem quo_neg {p : Int} (h : p < 0) : p.tdiv 1000 ≤ 0 := by
  have h1 : p = -(-p) := by omega
  rw [h1, Int.neg_tdiv, Int.tdiv_eq_ediv_of_nonneg (by omega)]
  omega

/-- under 1000 s and 1000 ns: one second -/
theorem slack_low {p : Int} (h : p < 1000000001000) : slack p = 1000000000 := by
  apply slack_small
  rcases Int.lt_or_le p 0 with h0 | h0
  · have := quo_neg h0
    omega
  · rw [quo_pos h0]
    omega

/-- from 1000 s on: a thousandth -/
theorem slack_high {p : Int} (h : 1000000000000 ≤ p) : slack p = p / 1000 := by
  have hq := quo_pos (p := p) (by omega)
  rcases Int.lt_or_le 1000000000 (p.tdiv 1000) with h0 | h0
  · rw [slack_big h0, hq]
  · rw [slack_small h0]
    omega

theorem slack_ge (p : Int) : 1000000000 ≤ slack p := by
  rcases Int.lt_or_le p 1000000001000 with h | h
  · rw [slack_low h]
    omega
  · rw [slack_high (by omega)]
    omega

theorem slack_le {p : Int} (h : p ≤ 9223372036854775807) : slack p ≤ 9223372036854775 := by
  rcases Int.lt_or_le p 1000000001000 with h0 | h0
  · rw [slack_low h0]
    omega
  · rw [slack_high (by omega)]
    omega

/-- the slack never falls as the period grows -/
theorem slack_mono {p q : Int} (h : p ≤ q) : slack p ≤ slack q := by
  rcases Int.lt_or_le p 1000000001000 with h0 | h0
  · rw [slack_low h0]
    exact slack_ge q
  · rw [slack_high (p := p) (by omega), slack_high (p := q) (by omega)]
    omega

/-- from 1000 s on every 1000 ns add 1 ns -/
theorem slack_step {p : Int} (k : Int) (h : 1000000000000 ≤ p) (hk : 0 ≤ k) : slack (p + 1000 * k) - slack p = k := by
  rw [slack_high (p := p) h, slack_high (p := p + 1000 * k) (by omega)]
  omega

/-! ### THE CALLEE's CONTRACT -/

theorem slack_any (p : Int) (w : World) (h1 : -9223372036854775808 ≤ p) (h2 : p ≤ 9223372036854775807) :
    Calls Trym.prog 6 #[.int .i64 p] w fun e w' => e = .returned (.int .i64 (slack p)) ∧ w = w' := by
  rcases Int.lt_or_le 1000000000 (p.tdiv 1000) with h | h
  · have HS : Hid (slack p = p.tdiv 1000) := slack_big h
    go_enter Trym.func6, Trym.ntmps6
    go_wp2
    go_ret
    exact ⟨by rw [HS.out]; rfl, rfl⟩
  · have HS : Hid (slack p = 1000000000) := slack_small h
    go_enter Trym.func6, Trym.ntmps6
    go_wp2
    go_ret
    exact ⟨by rw [HS.out]; rfl, rfl⟩

end Go.Proofs.Qxb6616217aMods.fnTrimSlackOneNanoPerMicro
