import Derived.Test.Qxb6614788aModsSweepParts
namespace Go.Proofs.Qxb6614788aMods.fnFilterValidCountByteSweep
open Go.ChangeShapes Go.WideShapes Go.ChangeAt Go.RowKit

theorem info5 : (Trym.prog.info? 5).map (fun i => (i.zero, i.size, i.bytes)) = some (some (.int .u8 0), 1, 1) := by kernel_rfl

/-- beyond the guards' bounds nothing is done -/
theorem walk_long (a0 : Option Addr) (len0 cap0 : Nat) (w : World) (h : 65536 < len0) :
    Calls Trym.prog 3 #[.slice a0 len0 cap0] w fun e w' => e = .returned (.bool true) ∧ Below w.heap.size w w' := by
  by_cases hb : len0 ≤ 1048576
  · go_enter Trym.func3, Trym.ntmps3
    go_wp2_with (go_at_call 4; refine (bytes_yes _ _ _ _ (by omega)).mono ?_; rintro e w' ⟨rfl, rfl⟩)
    go_ret
    exact ⟨rfl, Below.refl _ _⟩
  · have hb' : 1048576 < len0 := by omega
    go_enter Trym.func3, Trym.ntmps3
    go_wp2_with (go_at_call 4; refine (bytes_no _ _ _ _ (by omega)).mono ?_; rintro e w' ⟨rfl, rfl⟩)
    go_ret
    exact ⟨rfl, Below.refl _ _⟩

/-- what the loops know of the slice that the call made: it is the call's own; nothing older has turned -/
def Mine (w wr : World) (n : Nat) : Prop :=
  ∃ xs, wr.ownsRow w.heap.size 5 1 (.slice (some ⟨w.heap.size, 0, none⟩) (n + 1) (n + 1)) (n + 1) xs ∧ w.heap.size < wr.heap.size ∧ Below w.heap.size w wr

theorem Mine.made {w w1 : World} {n : Nat} {xs : List Value} (h : w1.ownsRow w.heap.size 5 1 (.slice (some ⟨w.heap.size, 0, none⟩) (n + 1) (n + 1)) (n + 1) xs)
    (g : w.grownBy w1 none) : Mine w w1 n := by
  refine ⟨xs, h, ?_, (Below.refl _ _).grown g (Nat.le_refl _) (by simp)⟩
  rcases h.2 with ⟨h', _⟩ | ⟨g', cap', cur, h', _, hg, _⟩
  · simp at h'
  · simp only [Value.slice.injEq, Option.some.injEq, Addr.mk.injEq, and_true, true_and] at h'
    obtain ⟨rfl, rfl⟩ := h'
    exact (Array.getElem?_eq_some_iff.mp hg).1

theorem Mine.below {w wr : World} {n : Nat} (h : Mine w wr n) : Below w.heap.size w wr := by
  obtain ⟨xs, _, _, hb⟩ := h
  exact hb

theorem Mine.cell {w wr : World} {n : Nat} (h : Mine w wr n) (j : Nat) (hj : j ≤ n) : ∃ v, wr.cell? ⟨w.heap.size, j, none⟩ = some v := by
  obtain ⟨xs, ho, _, _⟩ := h
  have hl := ho.1
  exact ⟨xs[j]'(by omega), by rw [ho.cellAt j (by omega)]; exact List.getElem?_eq_getElem _⟩

theorem Mine.free {w wr : World} {n : Nat} (h : Mine w wr n) (j : Nat) : wr.frozen? ⟨w.heap.size, j, none⟩ = false := by
  obtain ⟨xs, ho, _, _⟩ := h
  exact ho.frozenAt j

theorem Mine.store {w wr : World} {n : Nat} (h : Mine w wr n) (j : Nat) (u : Value) : Mine w (wr.setCell ⟨w.heap.size, j, none⟩ u) n := by
  obtain ⟨xs, ho, hs, hb⟩ := h
  exact ⟨_, (ho.stored j u).1, by simpa using hs, hb.setCell (Nat.le_refl _) u⟩

set_option maxRecDepth 20000 in
/-- behind an empty bit array: 256 rounds, none valid -/
theorem walk_empty (a0 : Option Addr) (cap0 : Nat) (w : World) :
    Calls Trym.prog 3 #[.slice a0 0 cap0] w fun e w' => e = .returned (.bool true) ∧ Below w.heap.size w w' := by
  obtain ⟨i0, hi, hz0, hz1, hz2⟩ := info_parts info5
  go_enter Trym.func3, Trym.ntmps3
  go_wp2_with (first | (go_at_call 4; refine (bytes_yes _ _ _ _ (by omega)).mono ?_; rintro e w' ⟨rfl, rfl⟩) | (at_make; refine wpList_make_full _ rfl _ _ 22 rfl w.heap.size 5 i0 (.int .u8 0) 1 Trym.underlying22 hi hz0 hz1 _ _ _ _ 1 rfl rfl (by omega) (by omega) (by omega) (by decide) (by simp) ?_; intro w1 hown hgrow))
  have hM : Mine w w1 0 := Mine.made hown hgrow
  clear hown hgrow
  refine wp_loop_rounds 1 ?_
  rw [rounds_succ]
  go_wp2
  go_loopw [5, 6, 7] (fun c z i wr => ∃ k : Nat, k ≤ 256 ∧ i = .int .i64 k ∧ c = .int .i64 0 ∧ z = .bool false ∧ Mine w wr 0) (fun _ _ i _ => 256 - (intOf i).toNat)
  case atStart => exact ⟨0, Nat.zero_le _, rfl, rfl, rfl, hM⟩
  case round =>
    obtain ⟨k, hk, rfl, rfl, rfl, hMr⟩ := hrel
    obtain ⟨v, hv⟩ := hMr.cell 0 (by omega)
    have hf := hMr.free 0
    by_cases hlt : k < 256
    · go_wp2_with (go_at_call 5; refine (valid_one _ _ _).mono ?_; rintro e w' ⟨rfl, rfl⟩)
      go_roundw
      case rel => exact ⟨k + 1, by omega, by go_num, rfl, rfl, hMr.store 0 _⟩
      case measure => simp [intOf]; omega
    · go_wp2
      go_ret
      exact ⟨rfl, hMr.below⟩

set_option maxRecDepth 20000 in
/-- behind a bit array of n >= 1 bytes: 256 rounds, all but the first valid -/
theorem walk_full (b off n cap0 : Nat) (w : World) (h1 : 1 ≤ n) (h2 : n ≤ 65536)
    (hc : ∀ i, i < n → ∃ z, w.cell? ⟨b, off + i, none⟩ = some (.int .u8 z)) :
    Calls Trym.prog 3 #[.slice (some ⟨b, off, none⟩) n cap0] w fun e w' => e = .returned (.bool true) ∧ Below w.heap.size w w' := by
  obtain ⟨i0, hi, hz0, hz1, hz2⟩ := info_parts info5
  have hbl : b < w.heap.size := by
    obtain ⟨z, hz⟩ := hc 0 h1
    exact World.block_lt_of_cell? w ⟨b, off + 0, none⟩ hz
  have HC : Hid (∀ i, i < n → ∃ z, w.cell? ⟨b, off + i, none⟩ = some (.int .u8 z)) := hc
  clear hc
  go_enter Trym.func3, Trym.ntmps3
  go_wp2_with (first | (go_at_call 4; refine (bytes_yes _ _ _ _ (by omega)).mono ?_; rintro e w' ⟨rfl, rfl⟩) | (at_make; refine wpList_make_full _ rfl _ _ 22 rfl w.heap.size 5 i0 (.int .u8 0) 1 Trym.underlying22 hi hz0 hz1 _ _ _ _ (n + 1) rfl rfl (by omega) (by omega) (by rw [hz2]; omega) (by unfold maxLen; omega) (by simp) ?_; intro w1 hown hgrow))
  have hM : Mine w w1 n := Mine.made hown hgrow
  clear hown hgrow
  go_loopw [4] (fun i wr => ∃ k : Nat, k ≤ n ∧ i = .int .i64 k ∧ Mine w wr n) (fun i _ => n - (intOf i).toNat)
  case atStart => exact ⟨0, Nat.zero_le _, rfl, hM⟩
  case round =>
    obtain ⟨k, hk, rfl, hMr⟩ := hrel
    by_cases hlt : k < n
    · obtain ⟨z, hz⟩ := HC.out k hlt
      have hz' : wr.cell? ⟨b, off + k, none⟩ = some (.int .u8 z) := (hMr.below.cell (by exact hbl)).trans hz
      obtain ⟨v, hv⟩ := hMr.cell k (by omega)
      have hf := hMr.free k
      clear hz hM
      go_wp2
      go_roundw
      case rel => exact ⟨k + 1, by omega, by go_num, hMr.store k _⟩
      case measure => simp [intOf]; omega
    · clear hM
      go_wp2
      go_loopw [5, 6, 7] (fun c z i wr => ∃ k : Nat, k ≤ 256 ∧ i = .int .i64 k ∧ c = .int .i64 ((k - 1 : Nat) : Int) ∧ z = .bool false ∧ Mine w wr n) (fun _ _ i _ => 256 - (intOf i).toNat)
      case atStart => exact ⟨0, Nat.zero_le _, rfl, rfl, rfl, hMr⟩
      case round =>
        clear hMr
        obtain ⟨k, hk, rfl, rfl, rfl, hMr⟩ := hrel
        obtain ⟨v, hv⟩ := hMr.cell n (by omega)
        have hf := hMr.free n
        by_cases hlt : k < 256
        · by_cases hk0 : k = 0
          · subst hk0
            have hst : (wr.setCell ⟨w.heap.size, n, none⟩ (.int .u8 0)).cell? ⟨w.heap.size, n, none⟩ = some (.int .u8 0) := World.cell?_setCell_same' _ _ _ (by rw [hv]; rfl)
            go_wp2_with (go_at_call 5; refine (valid_zero _ _ _ _ h1 h2 hst).mono ?_; rintro e w' ⟨rfl, rfl⟩)
            go_roundw
            case rel => exact ⟨1, by omega, by go_num, rfl, rfl, hMr.store n _⟩
            case measure => simp [intOf]
          · have hpos : 1 ≤ k := by omega
            have hpi : (0 : Int) < (k : Int) := by omega
            have hst : (wr.setCell ⟨w.heap.size, n, none⟩ (.int .u8 (k : Int))).cell? ⟨w.heap.size, n, none⟩ = some (.int .u8 (k : Int)) := World.cell?_setCell_same' _ _ _ (by rw [hv]; rfl)
            go_wp2_with (go_at_call 5; refine (valid_pos _ _ _ _ _ h1 h2 hpi hst).mono ?_; rintro e w' ⟨rfl, rfl⟩)
            go_roundw
            case rel => exact ⟨k + 1, by omega, by go_num, by go_num, rfl, hMr.store n _⟩
            case measure => simp [intOf]; omega
        · have hk256 : ((k - 1 : Nat) : Int) == 255 := by simp; omega
          go_wp2
          go_ret
          exact ⟨rfl, hMr.below⟩

end Go.Proofs.Qxb6614788aMods.fnFilterValidCountByteSweep
