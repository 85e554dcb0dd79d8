import Derived.Test.Qxb6630801aF
import Derived.Deep.RegionWith
namespace Go.Proofs.Qxb6630801a
open Go.RowKit Go.Maps

theorem run_makeMap_hint (n : Int) (w : World) : (Instr.makeMap 35 (some (.int .i64 n))).run Try.prog w = .ok (.map (some w.heap.size)) (w.alloc (.map #[] 0)) := by
  simp [Instr.makeMap, run_underlying Try.underlying35, asInt, asIntOf, Result.andThen]

theorem newKept_any (n : Int) (w : World) : Calls Try.prog 15 #[.int .i64 n] w fun e w' => e = .returned (.pointer (some ⟨w.heap.size, 0, none⟩)) ∧ w' = w.alloc (.cells (keptCells n) 45) := by
  go_enter Try.func15, Try.ntmps15
  go_wp2
  go_ret
  exact ⟨rfl, rfl⟩

theorem newShelf_any (limit bytes : Int) (bm ob n cap : Nat) (w : World) : Calls Try.prog 16 #[.int .i64 limit, .int .i64 bytes, .map (some bm), .slice (some ⟨ob, 0, none⟩) n cap] w fun e w' => e = .returned (.pointer (some ⟨w.heap.size, 0, none⟩)) ∧ w' = w.alloc (.cells (shelfCells limit bytes bm ob n cap) 40) := by
  go_enter Try.func16, Try.ntmps16
  go_wp2
  go_ret
  exact ⟨rfl, rfl⟩

structure BuildP (w wr : World) (zs ys : List Int) (k : Nat) (D : DataW Value) (kb : Int → Nat) (cur : Array Value) : Prop where
  map : wr.ownsMap Try.prog 3 heldElem w.heap.size k D
  at_ : ∀ v : Int, D.atKey (.int .i64 v) (.held (.pointer none)) = .held (ptrAt kb ((zs.zip ys).take k) v)
  has_ : ∀ v : Int, v ∉ zs.take k → Maps.has D (.int .i64 v) = false
  size : Maps.size D = k
  row : wr.heap[w.heap.size + 1]? = some (.cells cur 3 (0, 0))
  rsize : cur.size = zs.length
  holds : cur.toList.take k = (zs.take k).map (Value.int .i64)
  kept : ∀ p ∈ (zs.zip ys).take k, w.heap.size ≤ kb p.1 ∧ kb p.1 < wr.heap.size ∧ wr.heap[kb p.1]? = some (.cells (keptCells p.2) 45 (0, 0))
  below : Below w.heap.size w wr
  two : w.heap.size + 2 ≤ wr.heap.size

def Built (w wr : World) (zs ys : List Int) (k : Nat) : Prop := ∃ D kb cur, BuildP w wr zs ys k D kb cur

theorem zip_take_succ (zs ys : List Int) (k : Nat) (hk : k < zs.length) (hl : ys.length = zs.length) : (zs.zip ys).take (k + 1) = (zs.zip ys).take k ++ [(zs[k], ys[k]'(by omega))] := by
  have h : k < (zs.zip ys).length := by simp; omega
  rw [List.take_succ_eq_append_getElem h, List.getElem_zip]

theorem zip_fst (zs ys : List Int) (k : Nat) (hl : ys.length = zs.length) : ((zs.zip ys).take k).map Prod.fst = zs.take k := by
  rw [List.map_take, List.map_fst_zip (by omega)]

theorem not_mem_take (zs : List Int) (hn : zs.Nodup) (k : Nat) (hk : k < zs.length) : zs[k] ∉ zs.take k := by
  intro h
  obtain ⟨j, hj, e⟩ := List.getElem_of_mem h
  simp only [List.length_take] at hj
  rw [List.getElem_take] at e
  have := (List.getElem_inj hn).1 e
  omega

theorem total_snoc (l : List (Int × Int)) (p : Int × Int) : total (l ++ [p]) = total l + p.2 := by
  simp [total]

theorem build_step {w wr : World} {zs ys : List Int} {k : Nat} (h : Built w wr zs ys k) (hk : k < zs.length) (hl : ys.length = zs.length) (hnd : zs.Nodup) (hbig : zs.length ≤ 4096) (hwf : ∀ z ∈ zs, (Lit.int .i64 z).wf = true) :
    ∃ w1, (Instr.mapUpdate 35 (.map (some w.heap.size)) (.int .i64 zs[k]) (.pointer (some ⟨wr.heap.size, 0, none⟩))).run Try.prog ((wr.alloc (.cells (keptCells (ys[k]'(by omega))) 45)).drew) = .ok () w1 ∧
      (∀ x o, x < w.heap.size → w1.cell? ⟨x, o, none⟩ = w.cell? ⟨x, o, none⟩) ∧ (w1.cell? ⟨w.heap.size + 1, k, none⟩).isSome = true ∧ w1.frozen? ⟨w.heap.size + 1, k, none⟩ = false ∧
      Built w (w1.setCell ⟨w.heap.size + 1, k, none⟩ (.int .i64 zs[k])) zs ys (k + 1) := by
  obtain ⟨D, kb, cur, B⟩ := h
  have hky : k < ys.length := by omega
  have hz := hwf _ (List.getElem_mem hk)
  obtain ⟨w1, hrun, hown, ht⟩ := ((B.map.alloc (.cells (keptCells ys[k]) 45)).drew).store law3 Try.underlying35 (by unfold maxLen; omega) (keyOf_int_mk Try.underlying3 hz) (val := .pointer (some ⟨wr.heap.size, 0, none⟩)) (d := .held (.pointer (some ⟨wr.heap.size, 0, none⟩))) (ps := []) rfl
  have hg := ht.grown
  have hsz : w1.heap.size = wr.heap.size + 1 := by
    obtain ⟨_, _, _, _, _, rfl⟩ := ht
    simp [ChangeMaps.setBlock]
  have two := B.two
  have blk : ∀ x, x < wr.heap.size → x ≠ w.heap.size → w1.heap[x]? = wr.heap[x]? := fun x hx hne => (hg.block x (by simp; omega) (by simp [hne])).trans (Below.heap_alloc wr _ x hx)
  have new : w1.heap[wr.heap.size]? = some (.cells (keptCells ys[k]) 45 (0, 0)) := (hg.block wr.heap.size (by simp) (by simp; omega)).trans (heap_alloc_new wr _)
  have row1 : w1.heap[w.heap.size + 1]? = some (.cells cur 3 (0, 0)) := (blk _ (by omega) (by omega)).trans B.row
  have hn := not_mem_take zs hnd k hk
  have hkc : k < cur.size := by rw [B.rsize]; exact hk
  refine ⟨w1, hrun, fun x o hx => ?_, ?_, free_of row1, ?_⟩
  · exact World.cell?_of_block ((blk x (by omega) (by omega)).trans (B.below.block x hx))
  · rw [cell_of row1 (Array.getElem?_eq_getElem hkc)]
    rfl
  · have k4 : ∀ x, x ≠ w.heap.size + 1 → (w1.setCell ⟨w.heap.size + 1, k, none⟩ (.int .i64 zs[k])).heap[x]? = w1.heap[x]? := fun x hx => heap_setCell_other _ _ _ _ hx
    refine ⟨D.put (.int .i64 zs[k]) (.held (.pointer (some ⟨wr.heap.size, 0, none⟩))), fun v => if v = zs[k] then wr.heap.size else kb v, cur.setIfInBounds k (.int .i64 zs[k]), ?_, ?_, ?_, ?_, ?_, ?_, ?_, ?_, ?_, ?_⟩
    · exact owns_eq hown (k4 _ (by omega))
    · intro v
      by_cases hv : v = zs[k]
      · subst hv
        rw [Maps.atKey_put_same B.map.isMap (law3.key (keyOf_int_mk Try.underlying3 hz)), ptrAt, if_pos (by rw [zip_fst zs ys _ hl, mem_take_succ zs k hk]; exact .inr rfl), if_pos rfl]
      · rw [Maps.atKey_put_other (lit_ne hv), B.at_ v]
        have hi : v ∈ ((zs.zip ys).take (k + 1)).map Prod.fst ↔ v ∈ ((zs.zip ys).take k).map Prod.fst := by
          rw [zip_fst zs ys _ hl, zip_fst zs ys _ hl, mem_take_succ zs k hk]
          exact ⟨fun h => h.resolve_right (fun e => hv e.symm), .inl⟩
        unfold ptrAt
        simp only [hi, hv, if_false]
    · intro v hv
      rw [mem_take_succ zs k hk] at hv
      rw [Maps.has_put_other (lit_ne (fun e => hv (.inr e.symm)))]
      exact B.has_ v (fun h => hv (.inl h))
    · have h1 := Maps.size_put (k := .int .i64 zs[k]) (B.map.tidy law3) (.held (.pointer (some ⟨wr.heap.size, 0, none⟩)))
      have h2 : Maps.has D (.int .i64 zs[k]) = false := B.has_ _ hn
      rw [h1, h2, B.size]
      rfl
    · exact heap_setCell_same w1 _ k cur 3 _ row1
    · simpa using B.rsize
    · rw [Array.toList_setIfInBounds]
      exact set_take_succ _ zs k hk (by simpa using B.rsize) B.holds
    · intro p hp
      rw [zip_take_succ zs ys k hk hl, List.mem_append, List.mem_singleton] at hp
      have hs2 : (w1.setCell ⟨w.heap.size + 1, k, none⟩ (.int .i64 zs[k])).heap.size = wr.heap.size + 1 := by simp [World.setCell, hsz]
      rw [hs2]
      rcases hp with hp | rfl
      · obtain ⟨p1, p2, p3⟩ := B.kept p hp
        have hne : p.1 ≠ zs[k] := fun e => hn (by rw [← zip_fst zs ys k hl, ← e]; exact List.mem_map.2 ⟨p, hp, rfl⟩)
        simp only [hne, if_false]
        refine ⟨p1, by omega, ?_⟩
        rw [k4 _ (cells_ne p3 B.row (by decide)), blk _ p2 (map_ne B.map p3).symm]
        exact p3
      · simp only [if_true]
        refine ⟨by omega, by omega, ?_⟩
        rw [k4 _ (by omega)]
        exact new
    · refine (B.below.trans ?_).setCell (by simp) _
      exact ((Below.refl _ _).alloc (by omega) _).trans ((Below.refl _ _).drew.grown hg (by simp; omega) (fun j hj => by cases hj; exact Nat.le_refl _))
    · simp [World.setCell, hsz]
      omega

theorem total_nil : wrap64 (total []) = 0 := by simp [total, wrap64]

theorem build_start {w w0 : World} (zs ys : List Int) (hown : w0.ownsRow (w.heap.size + 1) 3 1 (.slice (some ⟨(w.alloc (.map #[] 0)).heap.size, 0, none⟩) zs.length zs.length) zs.length (madeCells (Value.int .i64 0).cells (zs.length * 1)).toList) (hg : (w.alloc (.map #[] 0)).grownBy w0 none) : Built w w0 zs ys 0 := by
  rcases hown.2 with ⟨h, _⟩ | ⟨g, cap, cur, hv, hb, hh, _, _, hcs, _⟩
  · cases h
  · simp at hv
    obtain ⟨rfl, rfl⟩ := hv
    have hlt := (Array.getElem?_eq_some_iff.1 hh).1
    exact ⟨.map [], fun _ => 0, cur, (World.ownsMap_made w Try.prog 3 heldElem).kept hg (by simp), fun v => by simp [ptrAt]; rfl, fun v _ => rfl, rfl, hh, by simpa using hcs, by simp, by simp, ((Below.refl _ _).alloc (Nat.le_refl _) _).trans ((Below.refl _ _).grown hg (by simp) (fun k h => by cases h)), by omega⟩

theorem build_row (limit : Int) (b off c b2 off2 c2 : Nat) (zs ys : List Int) (w : World) (hbig : zs.length ≤ 4096) (hl : ys.length = zs.length) (hnd : zs.Nodup) (hwf : ∀ z ∈ zs, (Lit.int .i64 z).wf = true)
    (hb : b < w.heap.size) (hb2 : b2 < w.heap.size)
    (hc : ∀ j, j < zs.length → w.cell? ⟨b, off + j, none⟩ = some (.int .i64 (zs.getD j 0))) (hc2 : ∀ j, j < ys.length → w.cell? ⟨b2, off2 + j, none⟩ = some (.int .i64 (ys.getD j 0))) :
    Calls Try.prog 9 #[.int .i64 limit, .slice (some ⟨b, off, none⟩) zs.length c, .slice (some ⟨b2, off2, none⟩) zs.length c2] w fun e w' =>
      ∃ wr, e = .returned (.pointer (some ⟨wr.heap.size, 0, none⟩)) ∧ Built w wr zs ys zs.length ∧ w' = wr.alloc (.cells (shelfCells limit (wrap64 (total ((zs.zip ys).take zs.length))) w.heap.size (w.heap.size + 1) zs.length zs.length) 40) := by
  obtain ⟨i0, hi, hz0, hz1, hz2⟩ := info_parts info3
  have hmm := run_makeMap_hint
  go_enter Try.func9, Try.ntmps9
  go_wp2_with (first | (at_make; refine wpList_make_full _ rfl _ _ 22 rfl (w.heap.size + 1) 3 i0 (.int .i64 0) 1 Try.underlying22 hi hz0 hz1 _ _ _ _ zs.length rfl rfl rfl rfl (by rw [hz2]; omega) (by unfold maxLen; omega) (by simp) ?_; intro w0 hown0 hg0))
  go_loopw [9, 10] (fun t i wr => ∃ k : Nat, k ≤ zs.length ∧ i = .int .i64 k ∧ t = .int .i64 (wrap64 (total ((zs.zip ys).take k))) ∧ Built w wr zs ys k) (fun _ i _ => zs.length - (intOf i).toNat)
  case atStart => exact ⟨0, Nat.zero_le _, rfl, by rw [List.take_zero, total_nil], build_start zs ys hown0 hg0⟩
  case round =>
    obtain ⟨k, hk, rfl, rfl, hB⟩ := hrel
    by_cases hlt : k < zs.length
    · obtain ⟨w1, hrun, hcw, hsome, hfr, hB'⟩ := build_step hB hlt hl hnd hbig hwf
      obtain ⟨vold, hold⟩ := Option.isSome_iff_exists.1 hsome
      have hky : k < ys.length := by omega
      have g1 : wr.cell? ⟨b, off + k, none⟩ = some (.int .i64 (zs.getD k 0)) := by
        obtain ⟨D, kb, cur, B⟩ := hB
        exact (B.below.cell (by exact hb)).trans (hc k hlt)
      have g2 : wr.cell? ⟨b2, off2 + k, none⟩ = some (.int .i64 (ys.getD k 0)) := by
        obtain ⟨D, kb, cur, B⟩ := hB
        exact (B.below.cell (by exact hb2)).trans (hc2 k hky)
      have g3 : w1.cell? ⟨b, off + k, none⟩ = some (.int .i64 (zs.getD k 0)) := (hcw b _ hb).trans (hc k hlt)
      have g4 : (w1.setCell ⟨w.heap.size + 1, k, none⟩ (.int .i64 zs[k])).cell? ⟨b2, off2 + k, none⟩ = some (.int .i64 (ys.getD k 0)) := (World.cell?_setCell_other _ _ _ _ (by simp)).trans ((hcw b2 _ hb2).trans (hc2 k hky))
      have i1 : (k : Int) < (zs.length : Int) := by omega
      have g5 : ∀ o, (wr.alloc o).cell? ⟨b, off + k, none⟩ = some (.int .i64 (zs.getD k 0)) := fun o => (World.cell?_of_block (Below.heap_alloc wr o b (World.block_lt_of_cell? wr _ g1))).trans g1
      have g6 : ∀ o, (wr.alloc o).cell? ⟨b2, off2 + k, none⟩ = some (.int .i64 (ys.getD k 0)) := fun o => (World.cell?_of_block (Below.heap_alloc wr o b2 (World.block_lt_of_cell? wr _ g2))).trans g2
      clear hcw hsome hc hc2
      go_wp2
      go_region_with (go_at_call 15; refine (newKept_any _ _).mono ?_; rintro e w' ⟨rfl, rfl⟩)
      all_goals
        go_wp2
        go_roundw
        case rel => exact ⟨k + 1, by omega, by go_num, by rw [zip_take_succ zs ys k hlt hl, total_snoc, wrap_add], hB'⟩
        case measure => simp [intOf]; omega
    · have e : k = zs.length := by omega
      go_wp2_with (go_at_call 16; refine (newShelf_any _ _ _ _ _ _ _).mono ?_; rintro e w' ⟨rfl, rfl⟩)
      go_ret
      exact ⟨wr, rfl, e ▸ hB, rfl⟩

theorem build_empty (limit : Int) (a : Option Addr) (c : Nat) (a2 : Option Addr) (c2 : Nat) (w : World) :
    Calls Try.prog 9 #[.int .i64 limit, .slice a 0 c, .slice a2 0 c2] w fun e w' =>
      ∃ wr, e = .returned (.pointer (some ⟨wr.heap.size, 0, none⟩)) ∧ Built w wr [] [] 0 ∧ w' = wr.alloc (.cells (shelfCells limit 0 w.heap.size (w.heap.size + 1) 0 0) 40) := by
  obtain ⟨i0, hi, hz0, hz1, hz2⟩ := info_parts info3
  have hmm := run_makeMap_hint
  go_enter Try.func9, Try.ntmps9
  go_wp2_with (first | (at_make; refine wpList_make_full _ rfl _ _ 22 rfl (w.heap.size + 1) 3 i0 (.int .i64 0) 1 Try.underlying22 hi hz0 hz1 _ _ _ _ 0 rfl rfl rfl rfl (by rw [hz2]; omega) (by unfold maxLen; omega) (by simp) ?_; intro w0 hown0 hg0))
  refine wp_loop_rounds 1 ?_
  rw [rounds_succ]
  go_wp2_with (go_at_call 16; refine (newShelf_any _ _ _ _ _ _ _).mono ?_; rintro e w' ⟨rfl, rfl⟩)
  go_ret
  exact ⟨w0, rfl, build_start [] [] hown0 hg0, rfl⟩

theorem shelf_built {w wr : World} {zs ys : List Int} (limit : Int) (h : Built w wr zs ys zs.length) (hl : ys.length = zs.length) (hnd : zs.Nodup) (hbig : zs.length ≤ 4096) :
    Shelf (wr.alloc (.cells (shelfCells limit (wrap64 (total (zs.zip ys))) w.heap.size (w.heap.size + 1) zs.length zs.length) 40)) w.heap.size (wr.heap.size + 1) wr.heap.size limit (zs.zip ys) := by
  obtain ⟨D, kb, cur, B⟩ := h
  have two := B.two
  have et : (zs.zip ys).take zs.length = zs.zip ys := List.take_of_length_le (by simp; omega)
  have el : (zs.zip ys).length = zs.length := by simp; omega
  have ef : (zs.zip ys).map Prod.fst = zs := List.map_fst_zip (by omega)
  refine ⟨w.heap.size, w.heap.size + 1, zs.length, zs.length, cur, D, kb, ⟨by omega, by omega⟩, ⟨by omega, by omega⟩, ⟨by omega, by omega⟩, ?_, ?_, ?_, ?_, B.map.alloc _, hbig, ?_, ?_, ?_, ?_⟩
  · rw [el]
    exact heap_alloc_new wr _
  · exact (Below.heap_alloc wr _ _ (by omega)).trans B.row
  · exact ⟨by omega, hbig, B.rsize⟩
  · rw [el, ef, B.holds, List.take_of_length_le (Nat.le_refl _)]
  · intro v
    rw [← et]
    exact B.at_ v
  · rw [B.size, el]
  · intro p hp
    rw [← et] at hp
    obtain ⟨p1, p2, p3⟩ := B.kept p hp
    exact ⟨p1, by omega, (Below.heap_alloc wr _ _ p2).trans p3⟩
  · rw [ef]
    exact hnd

theorem build_any (limit : Int) (x y : Value) (zs ys : List Int) (w : World) (hx : RowB w.heap.size w x zs) (hy : RowB w.heap.size w y ys) (hl : ys.length = zs.length) (hnd : zs.Nodup) (hbig : zs.length ≤ 4096) (hwf : ∀ z ∈ zs, (Lit.int .i64 z).wf = true) :
    Calls Try.prog 9 #[.int .i64 limit, x, y] w fun e w' => ∃ sb, e = .returned (.pointer (some ⟨sb, 0, none⟩)) ∧ Shelf w' w.heap.size w'.heap.size sb limit (zs.zip ys) ∧ Below w.heap.size w w' := by
  obtain ⟨a, c, rfl, _, _, h1⟩ := hx
  obtain ⟨a2, c2, rfl, _, _, h2⟩ := hy
  have fin : ∀ wr, Built w wr zs ys zs.length → Shelf (wr.alloc (.cells (shelfCells limit (wrap64 (total (zs.zip ys))) w.heap.size (w.heap.size + 1) zs.length zs.length) 40)) w.heap.size (wr.alloc (.cells (shelfCells limit (wrap64 (total (zs.zip ys))) w.heap.size (w.heap.size + 1) zs.length zs.length) 40)).heap.size wr.heap.size limit (zs.zip ys) ∧ Below w.heap.size w (wr.alloc (.cells (shelfCells limit (wrap64 (total (zs.zip ys))) w.heap.size (w.heap.size + 1) zs.length zs.length) 40)) := fun wr h => by
    refine ⟨by simpa using shelf_built limit h hl hnd hbig, ?_⟩
    obtain ⟨D, kb, cur, B⟩ := h
    exact B.below.alloc B.below.size _
  by_cases h0 : zs = []
  · subst h0
    have e2 : ys = [] := List.eq_nil_of_length_eq_zero (by simpa using hl)
    subst e2
    refine (build_empty limit a c a2 c2 w).mono fun e w' ⟨wr, h1, h2, h3⟩ => ⟨_, h1, ?_⟩
    have := fin wr h2
    rw [h3]
    simpa [total_nil] using this
  · obtain ⟨b, off, rfl, hb, hc⟩ := h1.resolve_left h0
    obtain ⟨b2, off2, rfl, hb2, hc2⟩ := h2.resolve_left (fun e => h0 (List.eq_nil_of_length_eq_zero (by rw [← hl, e]; rfl)))
    rw [hl]
    refine (build_row limit b off c b2 off2 c2 zs ys w hbig hl hnd hwf hb hb2 hc hc2).mono fun e w' ⟨wr, h1, h2, h3⟩ => ⟨_, h1, ?_⟩
    have := fin wr h2
    rw [h3, show (zs.zip ys).take zs.length = zs.zip ys from List.take_of_length_le (by simp; omega)]
    exact this

end Go.Proofs.Qxb6630801a
