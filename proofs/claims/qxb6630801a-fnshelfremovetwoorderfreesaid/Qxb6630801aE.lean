import Derived.Test.Qxb6630801aD
import Derived.RegionTactic
import Derived.BigRegion
import Derived.Laws.IdiomCopy
namespace Go.Proofs.Qxb6630801a
open Go.RowKit Go.Maps

theorem remove_no {w : World} {lo hi sb : Nat} {limit : Int} {l : List (Int × Int)} (h : Shelf w lo hi sb limit l) (v : Int) (hv : (Lit.int .i64 v).wf = true) (hn : v ∉ l.map Prod.fst) :
    Calls Try.prog 10 #[.pointer (some ⟨sb, 0, none⟩), .int .i64 v] w fun e w' => e = .returned (.tuple #[]) ∧ w' = w := by
  obtain ⟨bm, ob, cap, n, cur, D, kb, S⟩ := h
  have c1 := cell_of (o := 2) (v := .map (some bm)) S.shelf rfl
  have hat := S.at_ v
  rw [ptrAt, if_neg hn] at hat
  have hl := look_held S.map hv hat
  clear S hat hn
  go_enter Try.func10, Try.ntmps10
  go_wp2
  exact bodyPost_ret (v := .tuple #[]) (by simp [results, Try.results10, go_sem]) rfl ⟨rfl, rfl⟩

theorem turned_cell {w w' : World} {b : Nat} (h : w.mapTurned w' b) {x : Nat} (hx : x ≠ b) (o : Nat) : w'.cell? ⟨x, o, none⟩ = w.cell? ⟨x, o, none⟩ := by
  by_cases hs : x < w.heap.size
  · exact World.cell?_of_block (h.grown.block x hs (by simp [hx]))
  · have e : w'.heap.size = w.heap.size := by
      obtain ⟨_, _, _, _, _, rfl⟩ := h
      simp [ChangeMaps.setBlock]
    simp [World.cell?, Array.getElem?_eq_none (Nat.le_of_not_lt hs), Array.getElem?_eq_none (e ▸ Nat.le_of_not_lt hs)]

theorem index_at (w : World) (ob cap : Nat) (zs : List Int) (v : Int) (m : Nat) (hm : Lib.idxOf zs v = m) (hbig : zs.length ≤ 4096) (hc : ∀ j, j < zs.length → w.cell? ⟨ob, 0 + j, none⟩ = some (.int .i64 (zs.getD j 0))) :
    Calls Try.prog 17 #[.slice (some ⟨ob, 0, none⟩) zs.length cap, .int .i64 v] w fun e w' => e = .returned (.int .i64 m) ∧ w = w' := by
  refine (Try.slices_Index_int ob 0 zs.length cap zs v w (Nat.le_refl _) (by omega) hc).mono fun e w' ⟨h1, h2⟩ => ⟨?_, h2.symm⟩
  rw [h1, List.take_of_length_le (Nat.le_refl _), hm]

theorem delete_at (w : World) (ob cap : Nat) (zs : List Int) (m : Nat) (hm : m < zs.length) (hcap : zs.length ≤ cap) (hbig : cap ≤ 4096) (hc : ∀ j, j < zs.length → w.cell? ⟨ob, 0 + j, none⟩ = some (.int .i64 (zs.getD j 0))) (hf : ∀ j, j < zs.length → w.frozen? ⟨ob, 0 + j, none⟩ = false) :
    Calls Try.prog 18 #[.slice (some ⟨ob, 0, none⟩) zs.length cap, .int .i64 m, .int .i64 (m + 1)] w fun e w' => e = .returned (.slice (some ⟨ob, 0, none⟩) (zs.length - 1) cap) ∧ ∃ q, w' = (w.drewN q).setCells ob 0 ((zs.take m ++ zs.drop (m + 1) ++ [0]).map (Value.int .i64)) := by
  have h := Try.slices_Delete_int_cells ob 0 zs.length cap m (m + 1) zs w (Nat.le_refl _) hcap (by omega) (by omega) (by omega) hc hf
  rw [List.take_of_length_le (Nat.le_refl _), show m + 1 - m = 1 from by omega] at h
  exact h

theorem remove_yes (w : World) (sb bm ob cap n kbv m : Nat) (limit bytes size v : Int) (D : DataW Value) (zs : List Int) (hv : (Lit.int .i64 v).wf = true)
    (hs : w.heap[sb]? = some (.cells (shelfCells limit bytes bm ob zs.length cap) 40 (0, 0)))
    (hk : w.heap[kbv]? = some (.cells (keptCells size) 45 (0, 0)))
    (hm : w.ownsMap Try.prog 3 heldElem bm n D) (hat : D.atKey (.int .i64 v) (.held (.pointer none)) = .held (.pointer (some ⟨kbv, 0, none⟩)))
    (hbs : bm ≠ sb) (hos : ob ≠ sb) (hom : ob ≠ bm) (hcap : zs.length ≤ cap) (hbig : cap ≤ 4096)
    (hc : ∀ j, j < zs.length → w.cell? ⟨ob, j, none⟩ = some (.int .i64 (zs.getD j 0))) (hf : ∀ j, w.frozen? ⟨ob, j, none⟩ = false) (hmem : Lib.idxOf zs v = m) (hml : m < zs.length) :
    Calls Try.prog 10 #[.pointer (some ⟨sb, 0, none⟩), .int .i64 v] w fun e w' => e = .returned (.tuple #[]) ∧ ∃ q1 q2 w1, ((w.setCell ⟨sb, 1, none⟩ (.int .i64 (wrap64 (bytes - size)))).drewN q1).mapTurned w1 bm ∧ w1.ownsMap Try.prog 3 heldElem bm n (D.del (.int .i64 v)) ∧
      w' = ((w1.drewN q2).setCells ob 0 ((zs.take m ++ zs.drop (m + 1) ++ [0]).map (Value.int .i64))).setCell ⟨sb, 3, none⟩ (.slice (some ⟨ob, 0, none⟩) (zs.length - 1) cap) := by
  have c1 := cell_of (o := 1) (v := .int .i64 bytes) hs rfl
  have c2 := cell_of (o := 2) (v := .map (some bm)) hs rfl
  have c3 := cell_of (o := 3) (v := .slice (some ⟨ob, 0, none⟩) zs.length cap) hs rfl
  have f1 := free_of (o := 1) hs
  have f3 := free_of (o := 3) hs
  have ck := cell_of (o := 3) (v := .int .i64 size) hk rfl
  have hl := look_held hm hv hat
  clear hs hk hat
  go_enter Try.func10, Try.ntmps10
  go_wp2
  go_region
  have hm1 := (hm.setCell (a := ⟨sb, 1, none⟩) hbs (.int .i64 (wrap64 (bytes - size)))).drew
  go_wp2_with (at_delete; refine wpList_delete_own _ rfl _ _ 35 3 rfl 36 law3 Try.underlying35 _ bm n D rfl hm1 _ _ rfl (keyOf_int_mk Try.underlying3 hv) ?_; intro w1 hown1 hturn1; have d3 := (turned_cell hturn1 hbs.symm 3).trans ((World.cell?_setCell_other _ _ _ _ (by simp)).trans c3))
  have e1 : ∀ j, j < zs.length → w1.cell? ⟨ob, 0 + j, none⟩ = some (.int .i64 (zs.getD j 0)) := fun j hj => by
    rw [Nat.zero_add]
    exact (turned_cell hturn1 hom j).trans ((World.cell?_setCell_other _ _ _ _ (by simp)).trans (hc j hj))
  have e2 : ∀ j, j < zs.length → w1.frozen? ⟨ob, 0 + j, none⟩ = false := fun j hj => by
    rw [Nat.zero_add]
    exact (hturn1.frozen _).trans ((World.frozen?_setCell _ _ _ _).trans (hf j))
  have e3 : w1.frozen? ⟨sb, 3, none⟩ = false := (hturn1.frozen _).trans ((World.frozen?_setCell _ _ _ _).trans f3)
  have cI := index_at w1 ob cap zs v m hmem (by omega) e1
  have cD := delete_at w1 ob cap zs m hml hcap (by omega) e1 e2
  refine cI.mono ?_
  rintro e w' ⟨rfl, rfl⟩
  clear cI e1 e2 hc hf c1 c2 c3 f1 f3 ck hl
  go_wp2_with fail
  refine cD.mono ?_
  rintro e w2 ⟨rfl, q, rfl⟩
  have g3 : ((w1.drewN q).setCells ob 0 ((zs.take m ++ zs.drop (m + 1) ++ [0]).map (Value.int .i64))).cell? ⟨sb, 3, none⟩ = some (.slice (some ⟨ob, 0, none⟩) zs.length cap) := (World.cell?_setCells_out ob _ 0 _ _ (fun h => absurd h hos.symm)).trans d3
  have g4 : ((w1.drewN q).setCells ob 0 ((zs.take m ++ zs.drop (m + 1) ++ [0]).map (Value.int .i64))).frozen? ⟨sb, 3, none⟩ = false := (World.frozen?_setCells ob _ 0 _ _).trans e3
  generalize hW : ((w1.drewN q).setCells ob 0 ((zs.take m ++ zs.drop (m + 1) ++ [0]).map (Value.int .i64))) = W at *
  have HW : Hid _ := hW
  clear hW
  go_wp2
  go_end0
  exact ⟨rfl, 1, q, w1, hturn1, hown1, by rw [HW.out]⟩

end Go.Proofs.Qxb6630801a
