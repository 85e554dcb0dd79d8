import Derived.Test.Qxb6630801aH
namespace Go.Proofs.Qxb6630801a
open Go.RowKit Go.Maps

theorem copy_at (x : Value) (zs : List Int) (w : World) (hx : Row w x zs) (hbig : zs.length ≤ 4096) :
    Calls Try.prog 7 #[x] w fun e w' => ∃ a c, e = .returned (.slice a zs.length c) ∧ RowB w'.heap.size w' (.slice a zs.length c) zs ∧ Below w.heap.size w w' := by
  refine (copy_any x zs w hx hbig).mono fun e w' ⟨y, h1, h2, h3⟩ => ?_
  obtain ⟨a, c, rfl, h⟩ := h2
  exact ⟨a, c, h1, ⟨a, c, rfl, h⟩, h3⟩

theorem copyL_at (x : Value) (zs : List Int) (w : World) (hx : Row w x zs) (hbig : zs.length ≤ 4096) :
    Calls Try.prog 8 #[x] w fun e w' => ∃ a c, e = .returned (.slice a zs.length c) ∧ RowB w'.heap.size w' (.slice a zs.length c) zs ∧ Below w.heap.size w w' := by
  refine (copyL_any x zs w hx hbig).mono fun e w' ⟨y, h1, h2, h3⟩ => ?_
  obtain ⟨a, c, rfl, h⟩ := h2
  exact ⟨a, c, h1, ⟨a, c, rfl, h⟩, h3⟩

theorem Row.heap {w w' : World} {v : Value} {zs : List Int} (h : Row w v zs) (e : w'.heap = w.heap) : Row w' v zs := by
  obtain ⟨a, cap, h1, h2, h3, h4⟩ := h
  refine ⟨a, cap, h1, h2, h3, ?_⟩
  rcases h4 with h4 | ⟨b, off, h5, h7⟩
  · exact .inl h4
  · exact .inr ⟨b, off, h5, fun j hj => (World.cell?_of_block (by rw [e])).trans (h7 j hj)⟩

theorem bdraw {B : Nat} {a w : World} (h : Below B a w) (n : Nat) : Below B a (w.drewN n) := h.trans ⟨rfl, rfl, rfl, Nat.le_refl _, fun _ _ => rfl⟩

def left (l : List (Int × Int)) (vs : List Int) : List (Int × Int) := l.filter (fun p => decide (p.1 ∉ vs))

theorem left_nil (l : List (Int × Int)) : left l [] = l := by simp [left]

theorem left_snoc (l : List (Int × Int)) (vs : List Int) (v : Int) : (left l vs).filter (fun p => p.1 != v) = left l (vs ++ [v]) := by
  unfold left
  rw [List.filter_filter]
  congr 1
  funext p
  by_cases h1 : p.1 ∈ vs <;> by_cases h2 : p.1 = v <;> simp [h1, h2]

theorem left_zip_in (zs ys vs : List Int) (k : Nat) (hk : k < zs.length) (hl : ys.length = zs.length) (h : zs[k] ∈ vs) : left ((zs.zip ys).take (k + 1)) vs = left ((zs.zip ys).take k) vs := by
  rw [zip_take_succ zs ys k hk hl]
  simp [left, h]

theorem left_zip_out (zs ys vs : List Int) (k : Nat) (hk : k < zs.length) (hl : ys.length = zs.length) (h : zs[k] ∉ vs) : left ((zs.zip ys).take (k + 1)) vs = left ((zs.zip ys).take k) vs ++ [(zs[k], ys[k]'(by omega))] := by
  rw [zip_take_succ zs ys k hk hl]
  simp [left, h]

theorem left_len (zs ys vs : List Int) (k : Nat) : (left ((zs.zip ys).take k) vs).length ≤ k := by
  refine Nat.le_trans (List.length_filter_le _ _) (List.length_take_le _ _)

theorem not_left (l : List (Int × Int)) (vs : List Int) (v : Int) (h : v ∈ vs) : v ∉ (left l vs).map Prod.fst := by
  intro hm
  obtain ⟨p, hp, rfl⟩ := List.mem_map.1 hm
  have := (List.mem_filter.1 hp).2
  simp [h] at this

theorem RowB.addr {B : Nat} {w : World} {a : Option Addr} {n c : Nat} {zs : List Int} (h : RowB B w (.slice a n c) zs) (hpos : 0 < zs.length) : ∃ b off, a = some ⟨b, off, none⟩ ∧ b < B ∧ ∀ j, j < zs.length → w.cell? ⟨b, off + j, none⟩ = some (.int .i64 (zs.getD j 0)) := by
  obtain ⟨a', cap, h1, _, _, h4⟩ := h
  cases h1
  exact h4.resolve_left (fun e => by subst e; simp at hpos)

theorem is_any {w : World} {lo hi sb : Nat} {limit : Int} {l : List (Int × Int)} (h : Shelf w lo hi sb limit l) (a : Option Addr) (c g n c2 : Nat) (zs : List Int) (hx : Row w (.slice a zs.length c) zs) (hn : n = l.length) (wb : Int) (hwb : wb = wrap64 (total l)) (hbig : zs.length ≤ 4096) (hwf : ∀ z ∈ zs, (Lit.int .i64 z).wf = true)
    (hc2 : ∀ j, j < n → w.cell? ⟨g, j, none⟩ = some (.int .i64 ((l.map Prod.fst).getD j 0))) (he : zs = [] → l = []) :
    Calls Try.prog 12 #[.pointer (some ⟨sb, 0, none⟩), .int .i64 limit, .slice a zs.length c, .slice (some ⟨g, 0, none⟩) n c2, .int .i64 wb] w fun e w' => e = .returned (.bool true) ∧ ∃ q, w' = w.drewN q := by
  subst hn
  obtain ⟨a', cap, h1, _, _, h4⟩ := hx
  cases h1
  by_cases h0 : zs = []
  · have hl := he h0
    subst h0
    subst hl
    exact (is_empty h a c _ c2 wb hwb).mono fun e w' ⟨h1, h2⟩ => ⟨h1, 0, h2⟩
  · obtain ⟨b, off, rfl, hc⟩ := h4.resolve_left h0
    have := is_row h b off c g c2 zs (l.map Prod.fst) rfl wb hwb hbig hwf hc (fun j hj => by rw [Nat.zero_add]; exact hc2 j (by simpa using hj))
    rw [List.length_map] at this
    exact this

theorem holds_at {w : World} {lo hi sb : Nat} {limit : Int} {l : List (Int × Int)} (h : Shelf w lo hi sb limit l) (v : Int) (hv : (Lit.int .i64 v).wf = true) (hn : v ∉ l.map Prod.fst) :
    Calls Try.prog 13 #[.pointer (some ⟨sb, 0, none⟩), .int .i64 v] w fun e w' => e = .returned (.bool false) ∧ w = w' := by
  obtain ⟨bm, ob, cap, n, cur, D, kb, S⟩ := h
  have := holds_shelf S v hv
  rw [decide_eq_false hn] at this
  exact flip_same this

theorem script_big (limit : Int) (a1 : Option Addr) (n1 c1 : Nat) (a2 : Option Addr) (n2 c2 : Nat) (a3 : Option Addr) (n3 c3 : Nat) (w : World)
    (m1 : n1 ≤ maxLen) (m2 : n2 ≤ maxLen) (m3 : n3 ≤ maxLen) (hb : ¬ (n1 ≤ 4096 ∧ n2 ≤ 4096 ∧ n3 ≤ 4096)) :
    Calls Try.prog 3 #[.int .i64 limit, .slice a1 n1 c1, .slice a2 n2 c2, .slice a3 n3 c3] w fun e w' => e = .returned (.bool true) ∧ Below w.heap.size w w' := by
  have kb := bytes3_any limit a1 n1 c1 a2 n2 c2 a3 n3 c3 w m1 m2 m3
  clear m1 m2 m3
  by_cases h1 : n1 ≤ 4096 <;> by_cases h2 : n2 ≤ 4096 <;> by_cases h3 : n3 ≤ 4096
  all_goals try omega
  all_goals
    clear hb
    go_enter Try.func3, Try.ntmps3
    go_wp2_with fail
    refine kb.mono ?_
    rintro e w' ⟨x, rfl, rfl⟩
    clear kb
    cases x
    all_goals
      go_wp2
      go_ret
      exact ⟨rfl, Below.refl _ _⟩

set_option maxHeartbeats 1000000 in
theorem script_walk (limit : Int) (a1 : Option Addr) (c1 : Nat) (a2 : Option Addr) (c2 : Nat) (a3 : Option Addr) (c3 : Nat) (zs ys vs : List Int) (w : World)
    (h1 : Row w (.slice a1 zs.length c1) zs) (h2 : Row w (.slice a2 ys.length c2) ys) (h3 : Row w (.slice a3 vs.length c3) vs)
    (b1 : zs.length ≤ 4096) (b2 : ys.length ≤ 4096) (b3 : vs.length ≤ 4096) (wz : ∀ z ∈ zs, (Lit.int .i64 z).wf = true) (wv : ∀ z ∈ vs, (Lit.int .i64 z).wf = true) :
    Calls Try.prog 3 #[.int .i64 limit, .slice a1 zs.length c1, .slice a2 ys.length c2, .slice a3 vs.length c3] w fun e w' => e = .returned (.bool true) ∧ Below w.heap.size w w' := by
  have kb := bytes3_any limit a1 zs.length c1 a2 ys.length c2 a3 vs.length c3 w (by unfold maxLen; omega) (by unfold maxLen; omega) (by unfold maxLen; omega)
  have kp := prem_any _ _ zs ys w h1 h2 (by omega)
  go_enter Try.func3, Try.ntmps3
  go_wp2_with fail
  refine kb.mono ?_
  rintro e w' ⟨x, rfl, rfl⟩
  clear kb
  cases x
  · go_wp2
    go_ret
    exact ⟨rfl, Below.refl _ _⟩
  · go_wp2_with fail
    refine kp.mono ?_
    rintro e w1 ⟨x, q, rfl, rfl, hx⟩
    clear kp
    cases x
    · go_wp2
      go_ret
      exact ⟨rfl, bdraw (Below.refl _ _) _⟩
    · obtain ⟨hl0, hnd⟩ := hx rfl
      have HL : Hid (ys.length = zs.length) := hl0
      clear hl0 hx
      have h1' := h1.heap (w' := w'.drewN q) rfl
      have h2' := h2.heap (w' := w'.drewN q) rfl
      have h3' := h3.heap (w' := w'.drewN q) rfl
      clear h1 h2 h3
      go_wp2_with fail
      refine (copy_at _ zs _ h1' b1).mono ?_
      rintro e w1 ⟨a1', c1', rfl, r1, hb1⟩
      go_wp2_with fail
      refine (copyL_at _ ys _ ((h2'.rowB.below hb1 (by exact Nat.le_refl _)).row) b2).mono ?_
      rintro e w2 ⟨a2', c2', rfl, r2, hb2⟩
      go_wp2_with fail
      refine (copy_at _ vs _ (((h3'.rowB.below hb1 (by exact Nat.le_refl _)).below hb2 (by exact hb1.size)).row) b3).mono ?_
      rintro e w3 ⟨a3', c3', rfl, r3, hb3⟩
      have r1' := ((r1.below hb2 (Nat.le_refl _)).below hb3 hb2.size).mono (Nat.le_trans hb2.size hb3.size)
      have r2' := (r2.below hb3 (Nat.le_refl _)).mono hb3.size
      have hw3 : Below w'.heap.size w' w3 := (((bdraw (Below.refl _ w') q).trans hb1).trans (hb2.mono (by exact hb1.size))).trans (hb3.mono (by exact Nat.le_trans hb1.size hb2.size))
      clear h1' h2' h3' r1 r2 hb1 hb2 hb3
      go_wp2_with fail
      refine (build_any limit _ _ zs ys w3 r1' r2' HL.out hnd b1 wz).mono ?_
      rintro e w4 ⟨sb, rfl, hS, hb4⟩
      go_wp2_with fail
      have hS0 : Shelf w4 w3.heap.size w4.heap.size sb limit (left (zs.zip ys) (vs.take 0)) := by rw [List.take_zero, left_nil]; exact hS
      clear hS
      go_loopw [10] (fun i wr => ∃ k : Nat, k ≤ vs.length ∧ i = .int .i64 k ∧ Shelf wr w3.heap.size w4.heap.size sb limit (left (zs.zip ys) (vs.take k)) ∧ Touch w3.heap.size w4.heap.size w4 wr) (fun i _ => vs.length - (intOf i).toNat)
      case atStart => exact ⟨0, Nat.zero_le _, rfl, hS0, Touch.refl _ _ _⟩
      case round =>
        obtain ⟨k, hk, rfl, hS, hT⟩ := hrel
        by_cases hlt : k < vs.length
        · obtain ⟨b, off, rfl, hb, hc⟩ := (r3.below (hb4.trans hT.below) (Nat.le_refl _)).addr (by omega)
          have g1 : wr.cell? ⟨b, off + k, none⟩ = some (.int .i64 (vs.getD k 0)) := hc k hlt
          have kR := remove_any hS vs[k] (wv _ (List.getElem_mem hlt))
          rw [left_snoc, ← List.take_succ_eq_append_getElem hlt] at kR
          clear hc r1' r2' r3 hS0
          go_wp2_with fail
          refine kR.mono ?_
          rintro e w5 ⟨rfl, hS5, hT5⟩
          clear kR g1
          go_wp2
          go_roundw
          case rel => exact ⟨k + 1, by omega, by go_num, hS5, hT.trans hT5⟩
          case measure => simp [intOf]; omega
        · rename World => W5
          have ek : vs.take k = vs := List.take_of_length_le (by omega)
          rw [ek] at hS
          obtain ⟨i0, hi, hz0, hz1, hz2⟩ := info_parts info3
          have hb5 := hb4.trans hT.below
          have q1 := r1'.below hb5 (Nat.le_refl _)
          have q2 := r2'.below hb5 (Nat.le_refl _)
          have q3 := r3.below hb5 (Nat.le_refl _)
          have hsz5 : w4.heap.size = W5.heap.size := hT.size.symm
          have hlo5 : w3.heap.size ≤ W5.heap.size := hb5.size
          have hw5 : Below w'.heap.size w' W5 := hw3.trans (hb5.mono hw3.size)
          rw [hsz5] at hS
          clear hS0 r1' r2' r3 hT hb4 hw3 hsz5 ek hb5
          go_wp2_with (first | (at_make; refine wpList_make_own _ rfl _ _ 22 rfl W5.heap.size 3 i0 (.int .i64 0) 1 Try.underlying22 hi hz0 hz1 _ _ _ zs.length rfl rfl rfl (by rw [hz2]; omega) (by unfold maxLen; omega) (Nat.le_refl _) ?_; intro w6 hown6 hg6))
          have hst : w6.ownsRow W5.heap.size 3 1 (.slice (some ⟨W5.heap.size, 0, none⟩) (left ((zs.zip ys).take 0) vs).length zs.length) (left ((zs.zip ys).take 0) vs).length (((left ((zs.zip ys).take 0) vs).map Prod.fst).map (Value.int .i64)) := hown6
          have hb6 : Below W5.heap.size W5 w6 := (Below.refl _ _).grown hg6 (Nat.le_refl _) (fun k h => by cases h)
          clear hown6 hg6
          go_loopw [11, 12, 13] (fun v t i wx => ∃ m : Nat, m ≤ zs.length ∧ i = .int .i64 m ∧ v = .slice (some ⟨W5.heap.size, 0, none⟩) (left ((zs.zip ys).take m) vs).length zs.length ∧ t = .int .i64 (wrap64 (total (left ((zs.zip ys).take m) vs))) ∧
            wx.ownsRow W5.heap.size 3 1 (.slice (some ⟨W5.heap.size, 0, none⟩) (left ((zs.zip ys).take m) vs).length zs.length) (left ((zs.zip ys).take m) vs).length (((left ((zs.zip ys).take m) vs).map Prod.fst).map (Value.int .i64)) ∧ Below W5.heap.size W5 wx) (fun _ _ i _ => zs.length - (intOf i).toNat)
          case atStart => exact ⟨0, Nat.zero_le _, rfl, rfl, by rw [List.take_zero, show left [] vs = [] from rfl, total_nil], hst, hb6⟩
          case round =>
            obtain ⟨m, hm, rfl, rfl, rfl, hown, hbx⟩ := hrel
            have hlen := left_len zs ys vs m
            by_cases hlm : m < zs.length
            · obtain ⟨b, off, rfl, hb, hc⟩ := (q1.below hbx hlo5).addr (by omega)
              obtain ⟨b2, off2, rfl, hb2, hc2⟩ := (q2.below hbx hlo5).addr (by rw [HL.out]; omega)
              have hmy : m < ys.length := by rw [HL.out]; exact hlm
              have kI := flip_same (in_any _ vs zs[m] wr (q3.below hbx hlo5).row (by omega))
              have g1 : wr.cell? ⟨b, off + m, none⟩ = some (.int .i64 (zs.getD m 0)) := hc m hlm
              have g2 : wr.cell? ⟨b2, off2 + m, none⟩ = some (.int .i64 (ys.getD m 0)) := hc2 m hmy
              have hbw : b < W5.heap.size := by omega
              have hb2w : b2 < W5.heap.size := by omega
              have hwr := hbx.size
              clear hc hc2 q1 q2 q3 hS hst hb6
              by_cases hin : zs[m] ∈ vs
              · have hstep := left_zip_in zs ys vs m hlm HL.out hin
                rw [decide_eq_true hin] at kI
                clear hin
                go_wp2_with fail
                refine kI.mono ?_
                rintro e w7 ⟨rfl, rfl⟩
                clear kI g1 g2
                have HS : Hid (left ((zs.zip ys).take (m + 1)) vs = left ((zs.zip ys).take m) vs) := hstep
                clear hstep
                go_wp2
                go_roundw
                case rel => exact ⟨m + 1, by omega, by go_num, by rw [HS.out], by rw [HS.out], by rw [HS.out]; exact hown, hbx⟩
                case measure => simp [intOf]; omega
              · have hstep := left_zip_out zs ys vs m hlm HL.out hin
                rw [decide_eq_false hin] at kI
                clear hin
                go_wp2_with fail
                refine kI.mono ?_
                rintro e w7 ⟨rfl, rfl⟩
                have HS : Hid (left ((zs.zip ys).take (m + 1)) vs = left ((zs.zip ys).take m) vs ++ [(zs[m], ys[m])]) := hstep
                clear hstep kI
                go_wp2_with (first | (at_builtin; refine wpList_append_fits _ rfl _ _ 22 rfl W5.heap.size 3 i0 1 Try.underlying22 hi hz1 W5.heap.size (left ((zs.zip ys).take m) vs).length zs.length _ rfl (hown.alloc _) ⟨wr.heap.size, 0, none⟩ 1 1 [.int .i64 zs[m]] rfl rfl (cell_one_new _ _ _) (ints_oneCell .i64 [zs[m]]) (by omega) ?_; intro w8 hown8 hg8; have g3 : w8.cell? ⟨b2, off2 + m, none⟩ = some (.int .i64 (ys.getD m 0)) := (hg8.cell ((World.cell?_of_block (Below.heap_alloc wr _ b2 (World.block_lt_of_cell? wr _ g2))).trans g2) (by simp; omega))))
                go_roundw
                case rel => exact ⟨m + 1, by omega, by go_num, by rw [HS.out]; simp, by rw [HS.out, total_snoc, wrap_add], by rw [HS.out]; simpa using hown8, (hbx.alloc hwr _).grown hg8 (by simp; omega) (fun j hj => by cases hj; exact Nat.le_refl _)⟩
                case measure => simp [intOf]; omega
            · have em : (zs.zip ys).take m = zs.zip ys := List.take_of_length_le (by simp; omega)
              rw [em] at hown ⊢
              have hS2 : Shelf wr w3.heap.size W5.heap.size sb limit (left (zs.zip ys) vs) := hS.same (fun k h1 h2 => hbx.block k h2)
              have hcw : ∀ j, j < (left (zs.zip ys) vs).length → wr.cell? ⟨W5.heap.size, j, none⟩ = some (.int .i64 (((left (zs.zip ys) vs).map Prod.fst).getD j 0)) := fun j hj => by
                rw [hown.cellAt j (by omega)]
                simp [List.getD, hj]
              have kS := is_any hS2 _ _ _ _ zs.length zs (q1.below hbx hlo5).row rfl _ rfl b1 wz hcw (fun e => by rw [e]; rfl)
              have q3x := q3.below hbx hlo5
              have hbz : Below w'.heap.size w' wr := hw5.trans (hbx.mono hw5.size)
              clear hS hst hb6 q1 q2 q3 hcw hown em
              go_wp2_with fail
              refine kS.mono ?_
              rintro e w8 ⟨rfl, q8, rfl⟩
              clear kS
              go_wp2_with fail
              rename World => W6
              have hS3 : Shelf (W6.drewN q8) w3.heap.size W5.heap.size sb limit (left (zs.zip ys) vs) := hS2.same (fun _ _ _ => rfl)
              have hbe : Below w'.heap.size w' (W6.drewN q8) := bdraw hbz q8
              clear hS2 hbz
              go_loop [14] (fun i => ∃ j : Nat, j ≤ vs.length ∧ i = .int .i64 j) (fun i => vs.length - (intOf i).toNat)
              case atStart => exact ⟨0, Nat.zero_le _, rfl⟩
              case round =>
                obtain ⟨j, hj, rfl⟩ := hrel
                by_cases hlj : j < vs.length
                · obtain ⟨b, off, rfl, hb, hc⟩ := q3x.addr (by omega)
                  have g1 : W6.cell? ⟨b, off + j, none⟩ = some (.int .i64 (vs.getD j 0)) := hc j hlj
                  have kH := holds_at hS3 vs[j] (wv _ (List.getElem_mem hlj)) (not_left _ _ _ (List.getElem_mem hlj))
                  clear hc hS3
                  go_wp2_with fail
                  refine kH.mono ?_
                  rintro e w9 ⟨rfl, rfl⟩
                  clear kH
                  go_wp2
                  go_round
                  case rel => exact ⟨j + 1, by omega, by go_num⟩
                  case measure => simp [intOf]; omega
                · go_wp2
                  go_ret
                  exact ⟨rfl, hbe⟩

end Go.Proofs.Qxb6630801a
