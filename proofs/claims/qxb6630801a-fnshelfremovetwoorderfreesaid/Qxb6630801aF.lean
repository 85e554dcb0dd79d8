import Derived.Test.Qxb6630801aE
namespace Go.Proofs.Qxb6630801a
open Go.RowKit Go.Maps

structure Touch (lo hi : Nat) (w w' : World) : Prop where
  os : w'.os = w.os
  tape : w'.tape = w.tape
  output : w'.output = w.output
  size : w'.heap.size = w.heap.size
  block : ∀ k, k < lo ∨ hi ≤ k → w'.heap[k]? = w.heap[k]?

theorem Touch.refl (lo hi : Nat) (w : World) : Touch lo hi w w := ⟨rfl, rfl, rfl, rfl, fun _ _ => rfl⟩
theorem Touch.trans {lo hi : Nat} {a b c : World} (h : Touch lo hi a b) (k : Touch lo hi b c) : Touch lo hi a c :=
  ⟨k.os.trans h.os, k.tape.trans h.tape, k.output.trans h.output, k.size.trans h.size, fun i hi => (k.block i hi).trans (h.block i hi)⟩
theorem Touch.below {lo hi : Nat} {w w' : World} (h : Touch lo hi w w') : Below lo w w' := ⟨h.os, h.tape, h.output, Nat.le_of_eq h.size.symm, fun k hk => h.block k (.inl hk)⟩
theorem Touch.drewN (lo hi : Nat) (w : World) (q : Nat) : Touch lo hi w (w.drewN q) := ⟨rfl, rfl, rfl, rfl, fun _ _ => rfl⟩
theorem Touch.setCell {lo hi : Nat} (w : World) (a : Addr) (u : Value) (h : lo ≤ a.block ∧ a.block < hi) : Touch lo hi w (w.setCell a u) :=
  ⟨rfl, rfl, rfl, by simp [World.setCell], fun k hk => Below.heap_setCell _ _ _ _ (by omega)⟩
theorem Touch.setCells {lo hi b : Nat} (h : lo ≤ b ∧ b < hi) : ∀ (vs : List Value) (o : Nat) (w : World), Touch lo hi w (w.setCells b o vs)
  | [], _, _ => Touch.refl _ _ _
  | v :: r, o, w => (Touch.setCell w ⟨b, o, none⟩ v h).trans (Touch.setCells h r (o + 1) _)
theorem Touch.turned {lo hi b : Nat} {w w' : World} (h : w.mapTurned w' b) (hb : lo ≤ b ∧ b < hi) : Touch lo hi w w' := by
  obtain ⟨es, clock, es', clock', hw, rfl⟩ := h
  refine ⟨rfl, rfl, rfl, by simp [ChangeMaps.setBlock], fun k hk => ChangeMaps.heap_setBlock_other hw _ (by omega)⟩

theorem setCells_same {b : Nat} {t : TypeId} {fr : Nat × Nat} : ∀ (vs : List Value) (o : Nat) (w : World) (cur : Array Value), w.heap[b]? = some (.cells cur t fr) → o + vs.length ≤ cur.size →
    ∃ cur', (w.setCells b o vs).heap[b]? = some (.cells cur' t fr) ∧ cur'.size = cur.size ∧ cur'.toList = cur.toList.take o ++ vs ++ cur.toList.drop (o + vs.length)
  | [], o, w, cur, h, _ => ⟨cur, h, rfl, by simp⟩
  | v :: r, o, w, cur, h, hl => by
    simp only [List.length_cons] at hl
    have h1 : (w.setCell ⟨b, o, none⟩ v).heap[b]? = some (.cells (cur.setIfInBounds o v) t fr) := by
      simp [World.setCell, Array.getElem?_modify, h]
    obtain ⟨cur', e1, e2, e3⟩ := setCells_same r (o + 1) _ _ h1 (by simp; omega)
    refine ⟨cur', e1, by simpa using e2, ?_⟩
    rw [e3]
    have ho : o < (cur.toList.set o v).length := by simp; omega
    rw [Array.toList_setIfInBounds, List.take_succ_eq_append_getElem ho, List.take_set_of_le (Nat.le_refl _)]
    rw [List.drop_set_of_lt (by omega), List.getElem_set_self, List.length_cons, show o + 1 + r.length = o + (r.length + 1) from by omega]
    simp

theorem total_split (a b : List (Int × Int)) (p : Int × Int) : total (a ++ p :: b) = total (a ++ b) + p.2 := by
  simp only [total, List.map_append, List.map_cons, List.sum_append, List.sum_cons]
  omega

theorem wrap_sub (a b : Int) : wrap64 (wrap64 a - b) = wrap64 (a - b) := by unfold wrap64; omega
theorem wrap_add (a b : Int) : wrap64 (wrap64 a + b) = wrap64 (a + b) := by unfold wrap64; omega

theorem idx_split (a b : List Int) (v : Int) (h : v ∉ a) : Lib.idxOf (a ++ v :: b) v = (a.length : Nat) := by
  have := Lib.idxOf_hit (a ++ v :: b) (a ++ v :: b).length a.length v (by simp) (Nat.le_refl _) (by simp) (fun j hj e => h (by
    have e2 : (a ++ v :: b).getD j 0 = a[j] := by simp [List.getD, List.getElem?_append_left hj, hj]
    rw [e2] at e
    exact e ▸ List.getElem_mem _))
  rwa [List.take_of_length_le (Nat.le_refl _)] at this

theorem filter_split (a b : List (Int × Int)) (p : Int × Int) (h : ((a ++ p :: b).map Prod.fst).Nodup) : (a ++ p :: b).filter (fun x => x.1 != p.1) = a ++ b ∧ p.1 ∉ a.map Prod.fst ∧ p.1 ∉ b.map Prod.fst := by
  rw [List.map_append, List.map_cons, List.nodup_append] at h
  obtain ⟨_, h2, h3⟩ := h
  rw [List.nodup_cons] at h2
  have ha : p.1 ∉ a.map Prod.fst := fun hm => h3 _ hm _ (by simp) rfl
  refine ⟨?_, ha, h2.1⟩
  rw [List.filter_append, List.filter_cons]
  simp only [bne_self_eq_false, Bool.false_eq_true, if_false]
  rw [List.filter_eq_self.2 (fun x hx => by simp; intro e; exact ha (List.mem_map.2 ⟨x, hx, e⟩)), List.filter_eq_self.2 (fun x hx => by simp; intro e; exact h2.1 (List.mem_map.2 ⟨x, hx, e⟩))]

theorem owns_eq {w w' : World} {b n : Nat} {D : DataW Value} (h : w.ownsMap Try.prog 3 heldElem b n D) (he : w'.heap[b]? = w.heap[b]?) : w'.ownsMap Try.prog 3 heldElem b n D := by
  obtain ⟨es, clock, hb, r⟩ := h
  exact ⟨es, clock, he.trans hb, r⟩

theorem map_ne {w : World} {b n k : Nat} {D : DataW Value} {cs : Array Value} {t : TypeId} (h : w.ownsMap Try.prog 3 heldElem b n D) (hk : w.heap[k]? = some (.cells cs t (0, 0))) : b ≠ k := by
  rintro rfl
  obtain ⟨es, clock, hb, r⟩ := h
  rw [hb] at hk
  cases hk

theorem cells_ne {w : World} {a b : Nat} {cs cs' : Array Value} {t t' : TypeId} (h : w.heap[a]? = some (.cells cs t (0, 0))) (h' : w.heap[b]? = some (.cells cs' t' (0, 0))) (ht : t ≠ t') : a ≠ b := by
  rintro rfl
  rw [h] at h'
  cases h'
  exact ht rfl

theorem lit_ne {a b : Int} (h : a ≠ b) : Lit.int .i64 a ≠ Lit.int .i64 b := fun e => h (by cases e; rfl)

theorem has_of_at {D : DataW Value} {v : Int} {x : Value} (h : D.atKey (.int .i64 v) (.held (.pointer none)) = .held x) (hx : x ≠ .pointer none) : Maps.has D (.int .i64 v) = true := by
  cases hh : Maps.has D (.int .i64 v)
  · rw [Maps.atKey_of_not_has hh] at h
    cases h
    exact absurd rfl hx
  · rfl

theorem row_at (cur : Array Value) (zs : List Int) (h : cur.toList.take zs.length = zs.map (Value.int .i64)) (j : Nat) (hj : j < zs.length) : cur[j]? = some (.int .i64 (zs.getD j 0)) := by
  have e := congrArg (fun x => x[j]?) h
  simp only [List.getElem?_take, if_pos hj] at e
  rw [← Array.getElem?_toList, e]
  simp [hj]

theorem removed {w w1 : World} {lo hi sb : Nat} {limit : Int} {a b : List (Int × Int)} {p : Int × Int} {bm ob cap n : Nat} {cur : Array Value} {D : DataW Value} {kb : Int → Nat} (S : ShelfP w lo hi sb limit (a ++ p :: b) bm ob cap n cur D kb) (q1 q2 : Nat)
    (ht : ((w.setCell ⟨sb, 1, none⟩ (.int .i64 (wrap64 (wrap64 (total (a ++ p :: b)) - p.2)))).drewN q1).mapTurned w1 bm) (hown : w1.ownsMap Try.prog 3 heldElem bm n (D.del (.int .i64 p.1))) :
    Shelf (((w1.drewN q2).setCells ob 0 ((((a ++ p :: b).map Prod.fst).take a.length ++ ((a ++ p :: b).map Prod.fst).drop (a.length + 1) ++ [0]).map (Value.int .i64))).setCell ⟨sb, 3, none⟩ (.slice (some ⟨ob, 0, none⟩) (((a ++ p :: b).map Prod.fst).length - 1) cap)) lo hi sb limit (a ++ b) := by
  have hbs := map_ne S.map S.shelf
  have hos := cells_ne S.row S.shelf (by decide)
  have hom := (map_ne S.map S.row).symm
  obtain ⟨ef, na, nb⟩ := filter_split a b p S.nodup
  have hp : p ∈ a ++ p :: b := by simp
  obtain ⟨es, clock, es', clock', hw0, hw1⟩ := ht
  have k1 : ∀ k, k ≠ bm → w1.heap[k]? = (w.setCell ⟨sb, 1, none⟩ (.int .i64 (wrap64 (wrap64 (total (a ++ p :: b)) - p.2)))).heap[k]? := fun k hk => by
    rw [hw1]
    exact ChangeMaps.heap_setBlock_other hw0 _ hk
  have k2 : ∀ k, k ≠ bm → k ≠ sb → w1.heap[k]? = w.heap[k]? := fun k hk hs => (k1 k hk).trans (heap_setCell_other _ _ _ _ hs)
  have e1 : ((a ++ p :: b).map Prod.fst).take a.length ++ ((a ++ p :: b).map Prod.fst).drop (a.length + 1) = (a ++ b).map Prod.fst := by
    simp [List.drop_append]
  rw [e1]
  have hrow1 : (w1.drewN q2).heap[ob]? = some (.cells cur 3 (0, 0)) := (k2 ob hom hos).trans S.row
  have hfit := S.fits
  simp only [List.length_append, List.length_cons] at hfit
  obtain ⟨cur', g1, g2, g3⟩ := setCells_same (((a ++ b).map Prod.fst ++ [0]).map (Value.int .i64)) 0 (w1.drewN q2) cur hrow1 (by simp; omega)
  have k3 : ∀ k, k ≠ ob → ((w1.drewN q2).setCells ob 0 (((a ++ b).map Prod.fst ++ [0]).map (Value.int .i64))).heap[k]? = w1.heap[k]? := fun k hk => ((Touch.setCells (lo := ob) (hi := ob + 1) ⟨Nat.le_refl _, Nat.lt_succ_self _⟩ _ 0 (w1.drewN q2)).block k (by omega))
  generalize hW : (w1.drewN q2).setCells ob 0 (((a ++ b).map Prod.fst ++ [0]).map (Value.int .i64)) = W at *
  have hsb1 : W.heap[sb]? = some (.cells ((shelfCells limit (wrap64 (total (a ++ p :: b))) bm ob (a ++ p :: b).length cap).setIfInBounds 1 (.int .i64 (wrap64 (wrap64 (total (a ++ p :: b)) - p.2)))) 40 (0, 0)) :=
    (k3 sb hos.symm).trans ((k1 sb hbs.symm).trans (heap_setCell_same w sb 1 _ 40 _ S.shelf))
  have hsb2 := heap_setCell_same W sb 3 _ 40 (.slice (some ⟨ob, 0, none⟩) (((a ++ p :: b).map Prod.fst).length - 1) cap) hsb1
  have k4 : ∀ k, k ≠ sb → (W.setCell ⟨sb, 3, none⟩ (.slice (some ⟨ob, 0, none⟩) (((a ++ p :: b).map Prod.fst).length - 1) cap)).heap[k]? = W.heap[k]? := fun k hk => heap_setCell_other _ _ _ _ hk
  have hlen : ((a ++ p :: b).map Prod.fst).length - 1 = (a ++ b).length := by simp
  have htot : wrap64 (wrap64 (total (a ++ p :: b)) - p.2) = wrap64 (total (a ++ b)) := by
    rw [wrap_sub, total_split]
    congr 1
    omega
  refine ⟨bm, ob, cap, n, cur', D.del (.int .i64 p.1), kb, S.hsb, S.hbm, S.hob, ?_, ?_, ?_, ?_, ?_, S.few, ?_, ?_, ?_, ?_⟩
  · rw [hsb2, hlen, htot]
    rfl
  · exact (k4 ob hos).trans g1
  · exact ⟨by simp; omega, hfit.2.1, g2.trans hfit.2.2⟩
  · have hl : (a ++ b).length = (((a ++ b).map Prod.fst).map (Value.int .i64)).length := by simp
    rw [g3, List.take_zero, List.nil_append, List.map_append, List.append_assoc, hl, List.take_left]
  · exact owns_eq hown ((k4 bm hbs).trans (k3 bm hom.symm))
  · intro u
    by_cases hu : u = p.1
    · subst hu
      rw [Maps.atKey_del_same, ptrAt, if_neg]
      rw [List.map_append, List.mem_append]
      exact fun h => h.elim na nb
    · rw [Maps.atKey_del_other (lit_ne hu), S.at_ u]
      have hi : (u ∈ (a ++ p :: b).map Prod.fst) ↔ (u ∈ (a ++ b).map Prod.fst) := by
        rw [List.map_append, List.map_append, List.map_cons, List.mem_append, List.mem_append, List.mem_cons]
        exact or_congr Iff.rfl ⟨fun h => h.resolve_left hu, .inr⟩
      unfold ptrAt
      simp only [hi]
  · have h1 := Maps.size_del (k := .int .i64 p.1) (S.map.tidy law3)
    have h2 := S.at_ p.1
    rw [ptrAt, if_pos (List.mem_map.2 ⟨p, hp, rfl⟩)] at h2
    rw [has_of_at h2 (by simp), if_pos rfl, S.size] at h1
    simp at h1 ⊢
    omega
  · intro x hx
    have hx' : x ∈ a ++ p :: b := by
      simp at hx ⊢
      exact hx.elim .inl (fun h => .inr (.inr h))
    obtain ⟨x1, x2, x3⟩ := S.kept x hx'
    have y1 := (map_ne S.map x3).symm
    have y2 := cells_ne x3 S.shelf (by decide)
    have y3 := cells_ne x3 S.row (by decide)
    exact ⟨x1, x2, (k4 _ y2).trans ((k3 _ y3).trans ((k2 _ y1 y2).trans x3))⟩
  · refine S.nodup.sublist ?_
    rw [List.map_append, List.map_append, List.map_cons]
    exact List.Sublist.append_left (List.sublist_cons_self _ _) _

theorem remove_any {w : World} {lo hi sb : Nat} {limit : Int} {l : List (Int × Int)} (h : Shelf w lo hi sb limit l) (v : Int) (hv : (Lit.int .i64 v).wf = true) :
    Calls Try.prog 10 #[.pointer (some ⟨sb, 0, none⟩), .int .i64 v] w fun e w' => e = .returned (.tuple #[]) ∧ Shelf w' lo hi sb limit (l.filter (fun x => x.1 != v)) ∧ Touch lo hi w w' := by
  by_cases hm : v ∈ l.map Prod.fst
  · obtain ⟨p, hp, rfl⟩ := List.mem_map.1 hm
    obtain ⟨bm, ob, cap, n, cur, D, kb, S⟩ := h
    obtain ⟨k1, k2, k3⟩ := S.kept p hp
    have hat := S.at_ p.1
    rw [ptrAt, if_pos hm] at hat
    have hbs := map_ne S.map S.shelf
    have hos := cells_ne S.row S.shelf (by decide)
    have hom := (map_ne S.map S.row).symm
    obtain ⟨a, b, rfl⟩ := List.append_of_mem hp
    obtain ⟨ef, na, nb⟩ := filter_split a b p S.nodup
    rw [ef]
    have hlen : (((a ++ p :: b).map Prod.fst)).length = (a ++ p :: b).length := by simp
    have hrow : ∀ j, j < ((a ++ p :: b).map Prod.fst).length → w.cell? ⟨ob, j, none⟩ = some (.int .i64 (((a ++ p :: b).map Prod.fst).getD j 0)) := fun j hj => by
      refine cell_of S.row (row_at _ _ ?_ j hj)
      rw [hlen]
      exact S.holds
    have R := remove_yes w sb bm ob cap n (kb p.1) a.length limit (wrap64 (total (a ++ p :: b))) p.2 p.1 D ((a ++ p :: b).map Prod.fst) hv (by rw [hlen]; exact S.shelf) k3 S.map hat hbs hos hom (by rw [hlen]; exact S.fits.1) S.fits.2.1 hrow (fun j => free_of S.row)
      (by rw [List.map_append, List.map_cons]; have := idx_split (a.map Prod.fst) (b.map Prod.fst) p.1 na; simpa using this) (by simp)
    refine R.mono fun e w' ⟨he, q1, q2, w1, ht, hown, hw'⟩ => ⟨he, ?_, ?_⟩
    · rw [hw']
      exact removed S q1 q2 ht hown
    · rw [hw']
      exact ((((Touch.setCell w ⟨sb, 1, none⟩ _ S.hsb).trans (Touch.drewN _ _ _ q1)).trans (Touch.turned ht S.hbm)).trans (Touch.drewN _ _ _ q2)).trans ((Touch.setCells S.hob _ _ _).trans (Touch.setCell _ _ _ S.hsb))
  · have ef : l.filter (fun x => x.1 != v) = l := List.filter_eq_self.2 (fun x hx => by simp; intro e; exact hm (List.mem_map.2 ⟨x, hx, e⟩))
    rw [ef]
    exact (remove_no h v hv hm).mono fun e w' ⟨h1, h2⟩ => ⟨h1, h2 ▸ h, h2 ▸ Touch.refl _ _ _⟩

end Go.Proofs.Qxb6630801a
