import Derived.Test.Qxb6630801aI
namespace Go.Proofs.Qxb6630801a
open Go.RowKit Go.Maps

theorem Touch.same {lo hi lo' hi' sb : Nat} {w w' : World} {limit : Int} {l : List (Int × Int)} (h : Touch lo hi w w') (S : Shelf w lo' hi' sb limit l) (ha : hi' ≤ lo ∨ hi ≤ lo') : Shelf w' lo' hi' sb limit l :=
  S.same (fun k h1 h2 => h.block k (by omega))

theorem left_two (l : List (Int × Int)) (a b : Int) : (l.filter (fun x => x.1 != a)).filter (fun x => x.1 != b) = left l [a, b] := by
  have := left_snoc l [a] b
  rw [← List.nil_append [a], ← left_snoc, left_nil] at this
  simpa using this

theorem left_swap (l : List (Int × Int)) (a b : Int) : left l [b, a] = left l [a, b] := by
  unfold left
  congr 1
  funext p
  simp only [List.mem_cons, List.not_mem_nil, or_false]
  congr 1
  rw [eq_iff_iff]
  exact not_congr Or.comm

theorem two_big (limit : Int) (a1 : Option Addr) (n1 c1 : Nat) (a2 : Option Addr) (n2 c2 : Nat) (x y : Int) (w : World)
    (m1 : n1 ≤ maxLen) (m2 : n2 ≤ maxLen) (hb : ¬ (n1 ≤ 4096 ∧ n2 ≤ 4096)) :
    Calls Try.prog 4 #[.int .i64 limit, .slice a1 n1 c1, .slice a2 n2 c2, .int .i64 x, .int .i64 y] w fun e w' => e = .returned (.bool true) ∧ Below w.heap.size w w' := by
  have kb := bytes2_any limit a1 n1 c1 a2 n2 c2 x y w m1 m2
  clear m1 m2
  by_cases h1 : n1 ≤ 4096 <;> by_cases h2 : n2 ≤ 4096
  all_goals try omega
  all_goals
    clear hb
    go_enter Try.func4, Try.ntmps4
    go_wp2_with fail
    refine kb.mono ?_
    rintro e w' ⟨x, rfl, rfl⟩
    clear kb
    cases x
    all_goals
      go_wp2
      go_ret
      exact ⟨rfl, Below.refl _ _⟩

set_option maxHeartbeats 1000000 in
theorem two_walk (limit : Int) (a1 : Option Addr) (c1 : Nat) (a2 : Option Addr) (c2 : Nat) (x y : Int) (zs ys : List Int) (w : World)
    (h1 : Row w (.slice a1 zs.length c1) zs) (h2 : Row w (.slice a2 ys.length c2) ys)
    (b1 : zs.length ≤ 4096) (b2 : ys.length ≤ 4096) (wz : ∀ z ∈ zs, (Lit.int .i64 z).wf = true) (wx : (Lit.int .i64 x).wf = true) (wy : (Lit.int .i64 y).wf = true) :
    Calls Try.prog 4 #[.int .i64 limit, .slice a1 zs.length c1, .slice a2 ys.length c2, .int .i64 x, .int .i64 y] w fun e w' => e = .returned (.bool true) ∧ Below w.heap.size w w' := by
  have kb := bytes2_any limit a1 zs.length c1 a2 ys.length c2 x y w (by unfold maxLen; omega) (by unfold maxLen; omega)
  have kp := prem_any _ _ zs ys w h1 h2 (by omega)
  go_enter Try.func4, Try.ntmps4
  go_wp2_with fail
  refine kb.mono ?_
  rintro e w' ⟨x, rfl, rfl⟩
  clear kb
  cases x
  · go_wp2
    go_ret
    exact ⟨rfl, Below.refl _ _⟩
  · go_wp2_with fail
    refine kp.mono ?_
    rintro e w1 ⟨x, q, rfl, rfl, hx⟩
    clear kp
    cases x
    · go_wp2
      go_ret
      exact ⟨rfl, bdraw (Below.refl _ _) _⟩
    · obtain ⟨hl0, hnd⟩ := hx rfl
      have HL : Hid (ys.length = zs.length) := hl0
      clear hl0 hx
      have h1' := h1.heap (w' := w'.drewN q) rfl
      have h2' := h2.heap (w' := w'.drewN q) rfl
      clear h1 h2
      go_wp2_with fail
      refine (copy_at _ zs _ h1' b1).mono ?_
      rintro e w1 ⟨a1', c1', rfl, r1, hb1⟩
      go_wp2_with fail
      refine (copyL_at _ ys _ ((h2'.rowB.below hb1 (by exact Nat.le_refl _)).row) b2).mono ?_
      rintro e w2 ⟨a2', c2', rfl, r2, hb2⟩
      have r1' := (r1.below hb2 (Nat.le_refl _)).mono hb2.size
      have hw2 : Below w'.heap.size w' w2 := ((bdraw (Below.refl _ w') q).trans hb1).trans (hb2.mono (by exact hb1.size))
      clear h1' h2' r1 hb1 hb2
      go_wp2_with fail
      refine (build_any limit _ _ zs ys w2 r1' r2 HL.out hnd b1 wz).mono ?_
      rintro e w3 ⟨sb, rfl, hS, hb3⟩
      have r1'' := r1'.below hb3 (Nat.le_refl _)
      have r2'' := r2.below hb3 (Nat.le_refl _)
      have hz3 := hb3.size
      have hw3 : Below w'.heap.size w' w3 := hw2.trans (hb3.mono hw2.size)
      clear hb3 r1' r2
      go_wp2_with fail
      refine (build_any limit _ _ zs ys w3 (r1''.mono hz3) (r2''.mono hz3) HL.out hnd b1 wz).mono ?_
      rintro e w4 ⟨sb', rfl, hS', hb4⟩
      have hS4 : Shelf w4 w2.heap.size w3.heap.size sb limit (zs.zip ys) := hS.same (fun k _ h2 => hb4.block k h2)
      have r14 := r1''.below hb4 hz3
      have r24 := r2''.below hb4 hz3
      have hz4 := hb4.size
      have hw4 : Below w'.heap.size w' w4 := hw3.trans (hb4.mono hw3.size)
      clear hb4 r1'' r2'' hS hw3
      go_wp2_with fail
      refine (remove_any hS4 x wx).mono ?_
      rintro e w5 ⟨rfl, hS5, hT5⟩
      go_wp2_with fail
      refine (remove_any hS5 y wy).mono ?_
      rintro e w6 ⟨rfl, hS6, hT6⟩
      have hU6 := (hT5.trans hT6).same hS' (.inr (Nat.le_refl _))
      go_wp2_with fail
      refine (remove_any hU6 y wy).mono ?_
      rintro e w7 ⟨rfl, hU7, hT7⟩
      go_wp2_with fail
      refine (remove_any hU7 x wx).mono ?_
      rintro e w8 ⟨rfl, hU8, hT8⟩
      have hS8 := (hT7.trans hT8).same hS6 (.inl (Nat.le_refl _))
      rw [left_two] at hS8
      rw [left_two, left_swap] at hU8
      have hT56 := hT5.trans hT6
      have hT78 := hT7.trans hT8
      have q1 := (r14.below hT56.below (Nat.le_refl _)).below hT78.below hz3
      have q2 := (r24.below hT56.below (Nat.le_refl _)).below hT78.below hz3
      have hz8 : w4.heap.size = w8.heap.size := by rw [hT78.size, hT56.size]
      have hw8 : Below w'.heap.size w' w8 := (hw4.trans (hT56.below.mono hw2.size)).trans (hT78.below.mono (Nat.le_trans hw2.size hz3))
      rw [hz8] at hU8 hz4
      clear hT5 hT6 hT7 hT8 hS4 hS5 hS6 hU6 hU7 hS' hT56 hT78 r14 r24 hw4 hz8
      obtain ⟨i0, hi, hz0, hz1, hz2⟩ := info_parts info3
      go_wp2_with (first | (at_make; refine wpList_make_own _ rfl _ _ 22 rfl w8.heap.size 3 i0 (.int .i64 0) 1 Try.underlying22 hi hz0 hz1 _ _ _ zs.length rfl rfl rfl (by rw [hz2]; omega) (by unfold maxLen; omega) (Nat.le_refl _) ?_; intro w9 hown9 hg9))
      have hst : w9.ownsRow w8.heap.size 3 1 (.slice (some ⟨w8.heap.size, 0, none⟩) (left ((zs.zip ys).take 0) [x, y]).length zs.length) (left ((zs.zip ys).take 0) [x, y]).length (((left ((zs.zip ys).take 0) [x, y]).map Prod.fst).map (Value.int .i64)) := hown9
      have hb9 : Below w8.heap.size w8 w9 := (Below.refl _ _).grown hg9 (Nat.le_refl _) (fun k h => by cases h)
      have hlo8 : w2.heap.size ≤ w8.heap.size := Nat.le_trans hz3 hz4
      clear hown9 hg9
      go_loopw [13, 14, 15] (fun v t i wx => ∃ m : Nat, m ≤ zs.length ∧ i = .int .i64 m ∧ v = .slice (some ⟨w8.heap.size, 0, none⟩) (left ((zs.zip ys).take m) [x, y]).length zs.length ∧ t = .int .i64 (wrap64 (total (left ((zs.zip ys).take m) [x, y]))) ∧
        wx.ownsRow w8.heap.size 3 1 (.slice (some ⟨w8.heap.size, 0, none⟩) (left ((zs.zip ys).take m) [x, y]).length zs.length) (left ((zs.zip ys).take m) [x, y]).length (((left ((zs.zip ys).take m) [x, y]).map Prod.fst).map (Value.int .i64)) ∧ Below w8.heap.size w8 wx) (fun _ _ i _ => zs.length - (intOf i).toNat)
      case atStart => exact ⟨0, Nat.zero_le _, rfl, rfl, by rw [List.take_zero, show left [] [x, y] = [] from rfl, total_nil], hst, hb9⟩
      case round =>
        obtain ⟨m, hm, rfl, rfl, rfl, hown, hbx⟩ := hrel
        have hlen := left_len zs ys [x, y] m
        by_cases hlm : m < zs.length
        · obtain ⟨b, off, rfl, hb, hc⟩ := (q1.below hbx hlo8).addr (by omega)
          obtain ⟨b2, off2, rfl, hb2, hc2⟩ := (q2.below hbx hlo8).addr (by rw [HL.out]; omega)
          have hmy : m < ys.length := by rw [HL.out]; exact hlm
          have g1 : wr.cell? ⟨b, off + m, none⟩ = some (.int .i64 (zs.getD m 0)) := hc m hlm
          have g2 : wr.cell? ⟨b2, off2 + m, none⟩ = some (.int .i64 (ys.getD m 0)) := hc2 m hmy
          have hbw : b < w8.heap.size := by omega
          have hb2w : b2 < w8.heap.size := by omega
          have hwr := hbx.size
          clear hc hc2 q1 q2 hS8 hU8 hst hb9
          by_cases hin : zs[m] ∈ [x, y]
          · have HS : Hid (left ((zs.zip ys).take (m + 1)) [x, y] = left ((zs.zip ys).take m) [x, y]) := left_zip_in zs ys [x, y] m hlm HL.out hin
            by_cases hx : zs[m] = x
            · have t1 : (zs[m] != x) = false := by simp [hx]
              clear hin hx
              go_wp2
              go_roundw
              case rel => exact ⟨m + 1, by omega, by go_num, by rw [HS.out], by rw [HS.out], by rw [HS.out]; exact hown, hbx⟩
              case measure => simp [intOf]; omega
            · have t1 : (zs[m] != x) = true := by simp [hx]
              have t2 : (zs[m] != y) = false := by simp [hx] at hin; simp [hin]
              clear hin hx
              go_wp2
              go_roundw
              case rel => exact ⟨m + 1, by omega, by go_num, by rw [HS.out], by rw [HS.out], by rw [HS.out]; exact hown, hbx⟩
              case measure => simp [intOf]; omega
          · have HS : Hid (left ((zs.zip ys).take (m + 1)) [x, y] = left ((zs.zip ys).take m) [x, y] ++ [(zs[m], ys[m])]) := left_zip_out zs ys [x, y] m hlm HL.out hin
            have t1 : (zs[m] != x) = true := by simp at hin; simp [hin]
            have t2 : (zs[m] != y) = true := by simp at hin; simp [hin]
            clear hin
            go_wp2_with (first | (at_builtin; refine wpList_append_fits _ rfl _ _ 22 rfl w8.heap.size 3 i0 1 Try.underlying22 hi hz1 w8.heap.size (left ((zs.zip ys).take m) [x, y]).length zs.length _ rfl (hown.alloc _) ⟨wr.heap.size, 0, none⟩ 1 1 [.int .i64 zs[m]] rfl rfl (cell_one_new _ _ _) (ints_oneCell .i64 [zs[m]]) (by omega) ?_; intro wa hown8 hg8; have g3 : wa.cell? ⟨b2, off2 + m, none⟩ = some (.int .i64 (ys.getD m 0)) := (hg8.cell ((World.cell?_of_block (Below.heap_alloc wr _ b2 (World.block_lt_of_cell? wr _ g2))).trans g2) (by simp; omega))))
            go_roundw
            case rel => exact ⟨m + 1, by omega, by go_num, by rw [HS.out]; simp, by rw [HS.out, total_snoc, wrap_add], by rw [HS.out]; simpa using hown8, (hbx.alloc hwr _).grown hg8 (by simp; omega) (fun j hj => by cases hj; exact Nat.le_refl _)⟩
            case measure => simp [intOf]; omega
        · have em : (zs.zip ys).take m = zs.zip ys := List.take_of_length_le (by simp; omega)
          rw [em] at hown ⊢
          have hS9 : Shelf wr w2.heap.size w3.heap.size sb limit (left (zs.zip ys) [x, y]) := hS8.same (fun k h1 h2 => hbx.block k (by omega))
          have hU9 : Shelf wr w3.heap.size w8.heap.size sb' limit (left (zs.zip ys) [x, y]) := hU8.same (fun k h1 h2 => hbx.block k (by omega))
          have hcw : ∀ j, j < (left (zs.zip ys) [x, y]).length → wr.cell? ⟨w8.heap.size, j, none⟩ = some (.int .i64 (((left (zs.zip ys) [x, y]).map Prod.fst).getD j 0)) := fun j hj => by
            rw [hown.cellAt j (by omega)]
            simp [List.getD, hj]
          have q1x := (q1.below hbx hlo8).row
          have kS := is_any hS9 _ _ _ _ zs.length zs q1x rfl _ rfl b1 wz hcw (fun e => by rw [e]; rfl)
          have hbz : Below w'.heap.size w' wr := hw8.trans (hbx.mono hw8.size)
          clear hS8 hU8 hst hb9 q1 q2 hown em
          go_wp2_with fail
          refine kS.mono ?_
          rintro e wa ⟨rfl, qa, rfl⟩
          clear kS
          have hUa : Shelf (wr.drewN qa) w3.heap.size w8.heap.size sb' limit (left (zs.zip ys) [x, y]) := hU9.same (fun _ _ _ => rfl)
          have kU := is_any hUa _ _ _ _ zs.length zs (q1x.heap (w' := wr.drewN qa) rfl) rfl _ rfl b1 wz hcw (fun e => by rw [e]; rfl)
          go_wp2_with fail
          refine kU.mono ?_
          rintro e wb ⟨rfl, qb, rfl⟩
          clear kU
          have hSb : Shelf (wr.drewN (qa + qb)) w2.heap.size w3.heap.size sb limit (left (zs.zip ys) [x, y]) := hS9.same (fun _ _ _ => rfl)
          have hUb : Shelf (wr.drewN (qa + qb)) w3.heap.size w8.heap.size sb' limit (left (zs.zip ys) [x, y]) := hU9.same (fun _ _ _ => rfl)
          have k1 := holds_at hSb x wx (not_left _ _ _ (by simp))
          have k2 := holds_at hSb y wy (not_left _ _ _ (by simp))
          have k3 := holds_at hUb x wx (not_left _ _ _ (by simp))
          have k4 := holds_at hUb y wy (not_left _ _ _ (by simp))
          have hbe : Below w'.heap.size w' (wr.drewN (qa + qb)) := bdraw hbz (qa + qb)
          clear hSb hUb hS9 hU9 hUa hcw q1x hbz
          rw [World.drewN_drewN]
          go_wp2_with fail
          refine k1.mono ?_
          rintro e wc ⟨rfl, rfl⟩
          go_wp2_with fail
          refine k2.mono ?_
          rintro e wc ⟨rfl, rfl⟩
          go_wp2_with fail
          refine k3.mono ?_
          rintro e wc ⟨rfl, rfl⟩
          go_wp2_with fail
          refine k4.mono ?_
          rintro e wc ⟨rfl, rfl⟩
          clear k1 k2 k3 k4
          go_wp2
          go_ret
          exact ⟨rfl, hbe⟩

end Go.Proofs.Qxb6630801a
