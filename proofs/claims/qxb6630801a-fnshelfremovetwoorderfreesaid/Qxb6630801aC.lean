import Derived.Test.Qxb6630801aB
namespace Go.Proofs.Qxb6630801a
open Go.RowKit

theorem info3 : (Try.prog.info? 3).map (fun i => (i.zero, i.size, i.bytes)) = some (some (.int .i64 0), 1, 8) := by kernel_rfl
theorem info2 : (Try.prog.info? 2).map (fun i => (i.zero, i.size, i.bytes)) = some (some (.int .i64 0), 1, 8) := by kernel_rfl

theorem set_take_succ (xs : List Value) (zs : List Int) (k : Nat) (hk : k < zs.length) (hl : xs.length = zs.length) (h : xs.take k = (zs.take k).map (Value.int .i64)) :
    (xs.set k (.int .i64 zs[k])).take (k + 1) = (zs.take (k + 1)).map (Value.int .i64) := by
  have hk' : k < (xs.set k (.int .i64 zs[k])).length := by simp; omega
  rw [List.take_succ_eq_append_getElem hk', List.take_succ_eq_append_getElem hk, List.map_append, ← h, List.take_set_of_le (Nat.le_refl k)]
  simp

def RowB (B : Nat) (w : World) (v : Value) (zs : List Int) : Prop :=
  ∃ a cap, v = .slice a zs.length cap ∧ zs.length ≤ cap ∧ cap ≤ maxLen ∧ (zs = [] ∨ ∃ b off, a = some ⟨b, off, none⟩ ∧ b < B ∧ ∀ j, j < zs.length → w.cell? ⟨b, off + j, none⟩ = some (.int .i64 (zs.getD j 0)))

theorem RowB.row {B : Nat} {w : World} {v : Value} {zs : List Int} (h : RowB B w v zs) : Row w v zs := by
  obtain ⟨a, cap, h1, h2, h3, h4⟩ := h
  refine ⟨a, cap, h1, h2, h3, ?_⟩
  rcases h4 with h4 | ⟨b, off, h5, h6, h7⟩
  · exact .inl h4
  · exact .inr ⟨b, off, h5, h7⟩

theorem Row.rowB {w : World} {v : Value} {zs : List Int} (h : Row w v zs) : RowB w.heap.size w v zs := by
  obtain ⟨a, cap, h1, h2, h3, h4⟩ := h
  refine ⟨a, cap, h1, h2, h3, ?_⟩
  by_cases h0 : zs = []
  · exact .inl h0
  · obtain ⟨b, off, h5, h7⟩ := h4.resolve_left h0
    exact .inr ⟨b, off, h5, World.block_lt_of_cell? w _ (h7 0 (List.length_pos_iff.2 h0)), h7⟩

theorem RowB.below {B B' : Nat} {w w' : World} {v : Value} {zs : List Int} (h : RowB B w v zs) (hb : Below B' w w') (hB : B ≤ B') : RowB B w' v zs := by
  obtain ⟨a, cap, h1, h2, h3, h4⟩ := h
  refine ⟨a, cap, h1, h2, h3, ?_⟩
  rcases h4 with h4 | ⟨b, off, h5, h6, h7⟩
  · exact .inl h4
  · exact .inr ⟨b, off, h5, h6, fun j hj => (hb.cell (by exact Nat.lt_of_lt_of_le h6 hB)).trans (h7 j hj)⟩

theorem RowB.mono {B B' : Nat} {w : World} {v : Value} {zs : List Int} (h : RowB B w v zs) (hB : B ≤ B') : RowB B' w v zs := by
  obtain ⟨a, cap, h1, h2, h3, h4⟩ := h
  refine ⟨a, cap, h1, h2, h3, ?_⟩
  rcases h4 with h4 | ⟨b, off, h5, h6, h7⟩
  · exact .inl h4
  · exact .inr ⟨b, off, h5, Nat.lt_of_lt_of_le h6 hB, h7⟩

theorem RowB.nil (B : Nat) (w : World) (a : Option Addr) : RowB B w (.slice a 0 0) [] := ⟨a, 0, rfl, Nat.le_refl _, Nat.zero_le _, .inl rfl⟩

theorem RowB.of_owns {w : World} {base : Nat} {e : TypeId} {g : Nat} {zs : List Int} {cap : Nat} (h : w.ownsRow base e 1 (.slice (some ⟨g, 0, none⟩) zs.length cap) zs.length (zs.map (Value.int .i64))) (hm : zs.length ≤ cap ∧ cap ≤ maxLen) (hpos : 0 < zs.length) : RowB w.heap.size w (.slice (some ⟨g, 0, none⟩) zs.length cap) zs := by
  have hc : ∀ j, j < zs.length → w.cell? ⟨g, 0 + j, none⟩ = some (.int .i64 (zs.getD j 0)) := fun j hj => by
    rw [Nat.zero_add, h.cellAt j (by omega)]
    simp [hj]
  exact ⟨_, _, rfl, hm.1, hm.2, .inr ⟨g, 0, rfl, World.block_lt_of_cell? w _ (hc 0 hpos), hc⟩⟩

theorem copy_row (b off c : Nat) (zs : List Int) (w : World) (hbig : zs.length ≤ 4096) (hb : 0 < zs.length → b < w.heap.size) (hc : ∀ j, j < zs.length → w.cell? ⟨b, off + j, none⟩ = some (.int .i64 (zs.getD j 0))) :
    Calls Try.prog 7 #[.slice (some ⟨b, off, none⟩) zs.length c] w fun e w' => e = .returned (.slice (some ⟨w.heap.size, 0, none⟩) zs.length zs.length) ∧ w'.ownsRow w.heap.size 3 1 (.slice (some ⟨w.heap.size, 0, none⟩) zs.length zs.length) zs.length (zs.map (Value.int .i64)) ∧ Below w.heap.size w w' := by
  obtain ⟨i0, hi, hz0, hz1, hz2⟩ := info_parts info3
  have hnil := fun w => Lib.run_eql_slice_nil (P := Try.prog) w 22 3 (some ⟨b, off, none⟩) zs.length c 0 0 Try.underlying22
  go_enter Try.func7, Try.ntmps7
  go_wp2_with (at_make; refine wpList_make_full _ rfl _ _ 22 rfl w.heap.size 3 i0 (.int .i64 0) 1 Try.underlying22 hi hz0 hz1 _ _ _ _ zs.length rfl rfl rfl rfl (by rw [hz2]; omega) (by unfold maxLen; omega) (Nat.le_refl _) ?_; intro w0 hown0 hg0)
  go_loopw [4] (fun i wr => ∃ (k : Nat) (xs : List Value), k ≤ zs.length ∧ i = .int .i64 k ∧ xs.length = zs.length ∧ xs.take k = (zs.take k).map (Value.int .i64) ∧ wr.ownsRow w.heap.size 3 1 (.slice (some ⟨w.heap.size, 0, none⟩) zs.length zs.length) zs.length xs ∧ Below w.heap.size w wr) (fun i _ => zs.length - (intOf i).toNat)
  case atStart => exact ⟨0, _, Nat.zero_le _, rfl, by simpa using hown0.1, by simp, hown0, (Below.refl _ _).grown hg0 (Nat.le_refl _) (fun k h => by cases h)⟩
  case round =>
    obtain ⟨k, xs, hk, rfl, hxl, hxk, hown, hnx⟩ := hrel
    by_cases hlt : k < zs.length
    · have hcell : wr.cell? ⟨b, off + k, none⟩ = some (.int .i64 (zs.getD k 0)) := (hnx.cell (by exact hb (by omega))).trans (hc k hlt)
      have hfr := hown.frozenAt k
      have hold : wr.cell? ⟨w.heap.size, k, none⟩ = some (xs[k]'(by omega)) := by rw [hown.cellAt k (by omega)]; simp
      have hst := hown.stored k (.int .i64 zs[k])
      have hsz := hnx.size
      go_wp2
      go_roundw
      case rel => exact ⟨k + 1, _, by omega, by go_num, by simpa using hxl, set_take_succ xs zs k hlt hxl hxk, hst.1, hnx.setCell (Nat.le_refl _) _⟩
      case measure => simp [intOf]; omega
    · go_wp2
      go_ret
      refine ⟨rfl, ?_, hnx⟩
      rw [List.take_of_length_le (by omega), List.take_of_length_le (by omega)] at hxk
      rw [← hxk]
      exact hown

theorem copy_empty (x : Addr) (c : Nat) (w : World) :
    Calls Try.prog 7 #[.slice (some x) 0 c] w fun e w' => e = .returned (.slice (some ⟨w.heap.size, 0, none⟩) 0 0) ∧ Below w.heap.size w w' := by
  obtain ⟨i0, hi, hz0, hz1, hz2⟩ := info_parts info3
  have hnil := fun w => Lib.run_eql_slice_nil (P := Try.prog) w 22 3 (some x) 0 c 0 0 Try.underlying22
  go_enter Try.func7, Try.ntmps7
  go_wp2_with (at_make; refine wpList_make_full _ rfl _ _ 22 rfl w.heap.size 3 i0 (.int .i64 0) 1 Try.underlying22 hi hz0 hz1 _ _ _ _ 0 rfl rfl rfl rfl (by rw [hz2]; omega) (by unfold maxLen; omega) (Nat.le_refl _) ?_; intro w0 hown0 hg0)
  refine wp_loop_rounds 1 ?_
  rw [rounds_succ]
  go_wp2
  go_ret
  exact ⟨rfl, (Below.refl _ _).grown hg0 (Nat.le_refl _) (fun k h => by cases h)⟩

theorem copy_nil (c : Nat) (w : World) :
    Calls Try.prog 7 #[.slice none 0 c] w fun e w' => e = .returned (.slice none 0 0) ∧ w' = w := by
  have hnil := fun w => Lib.run_eql_slice_nil (P := Try.prog) w 22 3 none 0 c 0 0 Try.underlying22
  go_enter Try.func7, Try.ntmps7
  go_wp2
  go_ret
  exact ⟨rfl, rfl⟩

theorem copy_any (x : Value) (zs : List Int) (w : World) (hx : Row w x zs) (hbig : zs.length ≤ 4096) :
    Calls Try.prog 7 #[x] w fun e w' => ∃ y, e = .returned y ∧ RowB w'.heap.size w' y zs ∧ Below w.heap.size w w' := by
  obtain ⟨a, cap, rfl, _, _, h1⟩ := hx
  by_cases h0 : zs = []
  · subst h0
    cases a with
    | none => exact (copy_nil cap w).mono fun e w' ⟨h1, h2⟩ => ⟨_, h1, RowB.nil _ _ _, h2 ▸ Below.refl _ _⟩
    | some x => exact (copy_empty x cap w).mono fun e w' ⟨h1, h2⟩ => ⟨_, h1, RowB.nil _ _ _, h2⟩
  · obtain ⟨b, off, rfl, hc⟩ := h1.resolve_left h0
    have hpos : 0 < zs.length := List.length_pos_iff.2 h0
    refine (copy_row b off cap zs w hbig (fun h => World.block_lt_of_cell? w _ (hc 0 h)) hc).mono fun e w' ⟨h1, h2, h3⟩ => ⟨_, h1, ?_, h3⟩
    exact RowB.of_owns h2 ⟨Nat.le_refl _, by unfold maxLen; omega⟩ hpos

theorem copyL_row (b off c : Nat) (zs : List Int) (w : World) (hbig : zs.length ≤ 4096) (hb : 0 < zs.length → b < w.heap.size) (hc : ∀ j, j < zs.length → w.cell? ⟨b, off + j, none⟩ = some (.int .i64 (zs.getD j 0))) :
    Calls Try.prog 8 #[.slice (some ⟨b, off, none⟩) zs.length c] w fun e w' => e = .returned (.slice (some ⟨w.heap.size, 0, none⟩) zs.length zs.length) ∧ w'.ownsRow w.heap.size 2 1 (.slice (some ⟨w.heap.size, 0, none⟩) zs.length zs.length) zs.length (zs.map (Value.int .i64)) ∧ Below w.heap.size w w' := by
  obtain ⟨i0, hi, hz0, hz1, hz2⟩ := info_parts info2
  have hnil := fun w => Lib.run_eql_slice_nil (P := Try.prog) w 23 2 (some ⟨b, off, none⟩) zs.length c 0 0 Try.underlying23
  go_enter Try.func8, Try.ntmps8
  go_wp2_with (at_make; refine wpList_make_full _ rfl _ _ 23 rfl w.heap.size 2 i0 (.int .i64 0) 1 Try.underlying23 hi hz0 hz1 _ _ _ _ zs.length rfl rfl rfl rfl (by rw [hz2]; omega) (by unfold maxLen; omega) (Nat.le_refl _) ?_; intro w0 hown0 hg0)
  go_loopw [4] (fun i wr => ∃ (k : Nat) (xs : List Value), k ≤ zs.length ∧ i = .int .i64 k ∧ xs.length = zs.length ∧ xs.take k = (zs.take k).map (Value.int .i64) ∧ wr.ownsRow w.heap.size 2 1 (.slice (some ⟨w.heap.size, 0, none⟩) zs.length zs.length) zs.length xs ∧ Below w.heap.size w wr) (fun i _ => zs.length - (intOf i).toNat)
  case atStart => exact ⟨0, _, Nat.zero_le _, rfl, by simpa using hown0.1, by simp, hown0, (Below.refl _ _).grown hg0 (Nat.le_refl _) (fun k h => by cases h)⟩
  case round =>
    obtain ⟨k, xs, hk, rfl, hxl, hxk, hown, hnx⟩ := hrel
    by_cases hlt : k < zs.length
    · have hcell : wr.cell? ⟨b, off + k, none⟩ = some (.int .i64 (zs.getD k 0)) := (hnx.cell (by exact hb (by omega))).trans (hc k hlt)
      have hfr := hown.frozenAt k
      have hold : wr.cell? ⟨w.heap.size, k, none⟩ = some (xs[k]'(by omega)) := by rw [hown.cellAt k (by omega)]; simp
      have hst := hown.stored k (.int .i64 zs[k])
      have hsz := hnx.size
      go_wp2
      go_roundw
      case rel => exact ⟨k + 1, _, by omega, by go_num, by simpa using hxl, set_take_succ xs zs k hlt hxl hxk, hst.1, hnx.setCell (Nat.le_refl _) _⟩
      case measure => simp [intOf]; omega
    · go_wp2
      go_ret
      refine ⟨rfl, ?_, hnx⟩
      rw [List.take_of_length_le (by omega), List.take_of_length_le (by omega)] at hxk
      rw [← hxk]
      exact hown

theorem copyL_empty (x : Addr) (c : Nat) (w : World) :
    Calls Try.prog 8 #[.slice (some x) 0 c] w fun e w' => e = .returned (.slice (some ⟨w.heap.size, 0, none⟩) 0 0) ∧ Below w.heap.size w w' := by
  obtain ⟨i0, hi, hz0, hz1, hz2⟩ := info_parts info2
  have hnil := fun w => Lib.run_eql_slice_nil (P := Try.prog) w 23 2 (some x) 0 c 0 0 Try.underlying23
  go_enter Try.func8, Try.ntmps8
  go_wp2_with (at_make; refine wpList_make_full _ rfl _ _ 23 rfl w.heap.size 2 i0 (.int .i64 0) 1 Try.underlying23 hi hz0 hz1 _ _ _ _ 0 rfl rfl rfl rfl (by rw [hz2]; omega) (by unfold maxLen; omega) (Nat.le_refl _) ?_; intro w0 hown0 hg0)
  refine wp_loop_rounds 1 ?_
  rw [rounds_succ]
  go_wp2
  go_ret
  exact ⟨rfl, (Below.refl _ _).grown hg0 (Nat.le_refl _) (fun k h => by cases h)⟩

theorem copyL_nil (c : Nat) (w : World) :
    Calls Try.prog 8 #[.slice none 0 c] w fun e w' => e = .returned (.slice none 0 0) ∧ w' = w := by
  have hnil := fun w => Lib.run_eql_slice_nil (P := Try.prog) w 23 2 none 0 c 0 0 Try.underlying23
  go_enter Try.func8, Try.ntmps8
  go_wp2
  go_ret
  exact ⟨rfl, rfl⟩

theorem copyL_any (x : Value) (zs : List Int) (w : World) (hx : Row w x zs) (hbig : zs.length ≤ 4096) :
    Calls Try.prog 8 #[x] w fun e w' => ∃ y, e = .returned y ∧ RowB w'.heap.size w' y zs ∧ Below w.heap.size w w' := by
  obtain ⟨a, cap, rfl, _, _, h1⟩ := hx
  by_cases h0 : zs = []
  · subst h0
    cases a with
    | none => exact (copyL_nil cap w).mono fun e w' ⟨h1, h2⟩ => ⟨_, h1, RowB.nil _ _ _, h2 ▸ Below.refl _ _⟩
    | some x => exact (copyL_empty x cap w).mono fun e w' ⟨h1, h2⟩ => ⟨_, h1, RowB.nil _ _ _, h2⟩
  · obtain ⟨b, off, rfl, hc⟩ := h1.resolve_left h0
    have hpos : 0 < zs.length := List.length_pos_iff.2 h0
    refine (copyL_row b off cap zs w hbig (fun h => World.block_lt_of_cell? w _ (hc 0 h)) hc).mono fun e w' ⟨h1, h2, h3⟩ => ⟨_, h1, ?_, h3⟩
    exact RowB.of_owns h2 ⟨Nat.le_refl _, by unfold maxLen; omega⟩ hpos

end Go.Proofs.Qxb6630801a
