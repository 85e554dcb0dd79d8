import Derived.Test.Qxb6630801aG
namespace Go.Proofs.Qxb6630801a
open Go.RowKit Go.Maps

theorem flip_same {f : FuncId} {args : Array Value} {w : World} {v : Value} (h : Calls Try.prog f args w fun e w' => e = .returned v ∧ w' = w) : Calls Try.prog f args w fun e w' => e = .returned v ∧ w = w' := h.mono fun _ _ ⟨a, b⟩ => ⟨a, b.symm⟩

theorem is_empty {w : World} {lo hi sb : Nat} {limit : Int} (h : Shelf w lo hi sb limit []) (a : Option Addr) (c : Nat) (a2 : Option Addr) (c2 : Nat) (wb : Int) (hwb : wb = wrap64 (total [])) :
    Calls Try.prog 12 #[.pointer (some ⟨sb, 0, none⟩), .int .i64 limit, .slice a 0 c, .slice a2 0 c2, .int .i64 wb] w fun e w' => e = .returned (.bool true) ∧ w' = w := by
  obtain ⟨bm, ob, cap, n, cur, D, kb, S⟩ := h
  have k1 := flip_same (bytes_any S.shelf)
  have k2 := flip_same (limit_any S.shelf)
  have k3 := flip_same (count_any S.shelf S.map)
  have k4 := flip_same (order_any S.shelf)
  rw [S.size] at k3
  rw [← hwb] at k1
  clear S hwb
  go_enter Try.func12, Try.ntmps12
  go_wp2_with (first | (go_at_call 19; refine k1.mono ?_; rintro e w' ⟨rfl, rfl⟩) | (go_at_call 20; refine k2.mono ?_; rintro e w' ⟨rfl, rfl⟩) | (go_at_call 21; refine k3.mono ?_; rintro e w' ⟨rfl, rfl⟩) | (go_at_call 22; refine k4.mono ?_; rintro e w' ⟨rfl, rfl⟩))
  refine wp_loop_rounds 1 ?_
  rw [rounds_succ]
  go_wp2
  refine wp_loop_rounds 1 ?_
  rw [rounds_succ]
  go_wp2
  go_ret
  exact ⟨rfl, rfl⟩

theorem holds_shelf {w : World} {lo hi sb : Nat} {limit : Int} {l : List (Int × Int)} {bm ob cap n : Nat} {cur : Array Value} {D : DataW Value} {kb : Int → Nat} (S : ShelfP w lo hi sb limit l bm ob cap n cur D kb) (v : Int) (hv : (Lit.int .i64 v).wf = true) :
    Calls Try.prog 13 #[.pointer (some ⟨sb, 0, none⟩), .int .i64 v] w fun e w' => e = .returned (.bool (decide (v ∈ l.map Prod.fst))) ∧ w' = w := by
  obtain ⟨x, hx, hs⟩ := ptrAt_ne kb l v
  have := holds_any S.shelf S.map v hv x (by rw [S.at_ v, hx])
  rw [hs] at this
  exact this

theorem ShelfP.same {w w' : World} {lo hi sb : Nat} {limit : Int} {l : List (Int × Int)} {bm ob cap n : Nat} {cur : Array Value} {D : DataW Value} {kb : Int → Nat} (S : ShelfP w lo hi sb limit l bm ob cap n cur D kb) (h : ∀ k, lo ≤ k → k < hi → w'.heap[k]? = w.heap[k]?) : ShelfP w' lo hi sb limit l bm ob cap n cur D kb :=
  { hsb := S.hsb, hbm := S.hbm, hob := S.hob, shelf := (h _ S.hsb.1 S.hsb.2).trans S.shelf, row := (h _ S.hob.1 S.hob.2).trans S.row, fits := S.fits, holds := S.holds, map := owns_eq S.map (h _ S.hbm.1 S.hbm.2), few := S.few, at_ := S.at_, size := S.size,
    kept := fun p hp => ⟨(S.kept p hp).1, (S.kept p hp).2.1, (h _ (S.kept p hp).1 (S.kept p hp).2.1).trans (S.kept p hp).2.2⟩, nodup := S.nodup }

theorem Shelf.same {w w' : World} {lo hi sb : Nat} {limit : Int} {l : List (Int × Int)} (h : Shelf w lo hi sb limit l) (hs : ∀ k, lo ≤ k → k < hi → w'.heap[k]? = w.heap[k]?) : Shelf w' lo hi sb limit l := by
  obtain ⟨bm, ob, cap, n, cur, D, kb, S⟩ := h
  exact ⟨bm, ob, cap, n, cur, D, kb, S.same hs⟩

theorem is_row {w : World} {lo hi sb : Nat} {limit : Int} {l : List (Int × Int)} (h : Shelf w lo hi sb limit l) (b off c g c2 : Nat) (zs us : List Int) (hus : us = l.map Prod.fst) (wb : Int) (hwb : wb = wrap64 (total l)) (hbig : zs.length ≤ 4096) (hwf : ∀ z ∈ zs, (Lit.int .i64 z).wf = true)
    (hc : ∀ j, j < zs.length → w.cell? ⟨b, off + j, none⟩ = some (.int .i64 (zs.getD j 0))) (hc2 : ∀ j, j < us.length → w.cell? ⟨g, 0 + j, none⟩ = some (.int .i64 (us.getD j 0))) :
    Calls Try.prog 12 #[.pointer (some ⟨sb, 0, none⟩), .int .i64 limit, .slice (some ⟨b, off, none⟩) zs.length c, .slice (some ⟨g, 0, none⟩) us.length c2, .int .i64 wb] w fun e w' => e = .returned (.bool true) ∧ ∃ q, w' = w.drewN q := by
  obtain ⟨bm, ob, cap, n, cur, D, kb, S⟩ := h
  have elen : us.length = l.length := by rw [hus]; simp
  have k1 := flip_same (bytes_any S.shelf)
  have k2 := flip_same (limit_any S.shelf)
  have k3 := flip_same (count_any S.shelf S.map)
  have k4 := flip_same (order_any S.shelf)
  rw [S.size] at k3
  rw [← hwb] at k1
  rw [← elen] at k3 k4
  have hro : ∀ j, j < us.length → w.cell? ⟨ob, j, none⟩ = some (.int .i64 (us.getD j 0)) := fun j hj => cell_of S.row (row_at _ _ (by rw [elen, hus]; exact S.holds) j hj)
  have kh : ∀ (W : World) (_ : W.heap = w.heap) j (hj : j < zs.length), Calls Try.prog 13 #[.pointer (some ⟨sb, 0, none⟩), .int .i64 zs[j]] W fun e w' => e = .returned (.bool (decide (zs[j] ∈ us))) ∧ w' = W := fun W hW j hj => by
    rw [hus]
    exact holds_shelf (S.same (w' := W) (fun _ _ _ => by rw [hW])) _ (hwf _ (List.getElem_mem hj))
  have hub : us.length ≤ 4096 := by have := S.fits; omega
  have ki : ∀ (W : World) (_ : W.heap = w.heap) j (hj : j < zs.length), Calls Try.prog 11 #[.slice (some ⟨g, 0, none⟩) us.length c2, .int .i64 zs[j]] W fun e w' => e = .returned (.bool (decide (zs[j] ∈ us))) ∧ w' = W := fun W hW j hj => in_row g 0 c2 us zs[j] W (by omega) (fun i hi => (World.cell?_of_block (by rw [hW])).trans (hc2 i hi))
  clear S hwb hus elen
  go_enter Try.func12, Try.ntmps12
  go_wp2_with (first | (go_at_call 19; refine k1.mono ?_; rintro e w' ⟨rfl, rfl⟩) | (go_at_call 20; refine k2.mono ?_; rintro e w' ⟨rfl, rfl⟩) | (go_at_call 21; refine k3.mono ?_; rintro e w' ⟨rfl, rfl⟩) | (go_at_call 22; refine k4.mono ?_; rintro e w' ⟨rfl, rfl⟩))
  clear k1 k2 k3 k4
  go_loopw [12] (fun i wr => ∃ k q : Nat, k ≤ us.length ∧ i = .int .i64 k ∧ wr = w.drewN q) (fun i _ => us.length - (intOf i).toNat)
  case atStart => exact ⟨0, 0, Nat.zero_le _, rfl, rfl⟩
  case round =>
    obtain ⟨k, q, hk, rfl, rfl⟩ := hrel
    by_cases hlt : k < us.length
    · have g1 : w.cell? ⟨ob, k, none⟩ = some (.int .i64 (us.getD k 0)) := hro k hlt
      have g2 : w.cell? ⟨g, k, none⟩ = some (.int .i64 (us.getD k 0)) := by simpa using hc2 k hlt
      have i1 : (k : Int) < (us.length : Int) := by omega
      clear hro hc hc2 kh ki
      go_wp2
      go_quiet (fail)
      go_wp2
      go_roundw
      case rel => exact ⟨k + 1, _, by omega, by go_num, rfl⟩
      case measure => simp [intOf]; omega
    · go_wp2
      go_loopw [13] (fun i wr => ∃ k q : Nat, k ≤ zs.length ∧ i = .int .i64 k ∧ wr = w.drewN q) (fun i _ => zs.length - (intOf i).toNat)
      case atStart => exact ⟨0, q, Nat.zero_le _, rfl, rfl⟩
      case round =>
        obtain ⟨m, q2, hm, rfl, rfl⟩ := hrel
        by_cases hlm : m < zs.length
        · have g1 : w.cell? ⟨b, off + m, none⟩ = some (.int .i64 (zs.getD m 0)) := hc m hlm
          have i1 : (m : Int) < (zs.length : Int) := by omega
          clear hro hc hc2
          go_wp2
          go_quiet (first | (go_at_call 13; refine (kh _ (by exact rfl) m hlm).mono ?_; exact fun e w' h => ⟨h.1, _, h.2⟩) | (go_at_call 11; refine (ki _ (by exact rfl) m hlm).mono ?_; exact fun e w' h => ⟨h.1, _, h.2⟩))
          go_wp2
          go_roundw
          case rel => exact ⟨m + 1, _, by omega, by go_num, rfl⟩
          case measure => simp [intOf]; omega
        · go_wp2
          go_ret
          exact ⟨rfl, q2, rfl⟩

end Go.Proofs.Qxb6630801a
