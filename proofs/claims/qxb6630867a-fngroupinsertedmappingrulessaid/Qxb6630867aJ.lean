import Derived.Test.Qxb6630867aI
namespace Go.Proofs.Qxb6630867a
open Go.RowKit

set_option maxRecDepth 100000 in
set_option maxHeartbeats 4000000 in
theorem ins_walk (a1 : Option Addr) (c1 : Nat) (a2 : Option Addr) (c2 : Nat) (os ns : List ByteArray) (kk : Int) (o nw p g : ByteArray) (w : World)
    (hO : StrsB w.heap.size w a1 os) (hN : StrsB w.heap.size w a2 ns) (o0 : a1 = none → os = []) (n0 : a2 = none → ns = []) (b1 : os.length ≤ 4096) (b2 : ns.length ≤ 4096) (b3 : o.size ≤ 4096) (b4 : nw.size ≤ 4096) (b5 : p.size ≤ 4096) (b6 : g.size ≤ 4096)
    (hso : ∀ s ∈ os, s.size ≤ maxLen) (hsn : ∀ s ∈ ns, s.size ≤ maxLen) :
    Calls Try.prog 4 #[.slice a1 os.length c1, .slice a2 ns.length c2, .int .i64 kk, .string o, .string nw, .string p, .string g] w fun e w' => e = .returned (.bool true) ∧ Below w.heap.size w w' := by
  have kB := bytes7_any a1 c1 _ a2 c2 _ os ns kk o nw p g w (by unfold maxLen; omega) (by unfold maxLen; omega) (by unfold maxLen; omega) (by unfold maxLen; omega) (by unfold maxLen; omega) (by unfold maxLen; omega) hO hN hso hsn
  have hnil1 := fun w => run_neq_slice_nil_any (P := Try.prog) w 22 9 a1 os.length c1 0 0 Try.underlying22
  have hnil2 := fun w => run_neq_slice_nil_any (P := Try.prog) w 22 9 a2 ns.length c2 0 0 Try.underlying22
  obtain ⟨i0, hi, hz0, hz1, hz2⟩ := info_parts info9
  go_enter Try.func4, Try.ntmps4
  go_wp2_with fail
  refine kB.mono ?_
  rintro e w' ⟨x, rfl, rfl, hx⟩
  clear kB hso hsn
  cases x
  · clear hnil1 hnil2
    go_wp2
    go_ret
    exact ⟨rfl, Below.refl _ _⟩
  · obtain ⟨so, sn⟩ := hx rfl
    clear hx
    go_upto_if 72 with fail
    go_cut [0] (fun v wc => ∃ a' c', v = .slice a' os.length c' ∧ StrsB wc.heap.size wc a' os ∧ Below w.heap.size w wc)
    case first =>
      cases a1 with
      | none =>
        have E0 : Hid (os = []) := o0 rfl
        clear hnil1 hnil2 o0
        go_wp2
        go_meet
        case rel => exact ⟨none, c1, rfl, .inl E0.out, Below.refl _ _⟩
      | some x =>
        clear hnil1 hnil2
        go_wp2_with (first
          | (at_make; refine wpList_make_full _ rfl _ _ 22 rfl w.heap.size 9 i0 (.string ByteArray.empty) 1 Try.underlying22 hi hz0 hz1 _ _ _ _ os.length rfl rfl rfl rfl (by rw [hz2]; omega) (by unfold maxLen; omega) (Nat.le_refl _) ?_; intro w0 hown0 hg0; obtain ⟨cur, hcur, hcs⟩ := own_heap hown0; have hb0 : Below w.heap.size w w0 := (Below.refl _ _).grown hg0 (Nat.le_refl _) (fun k h => by cases h); have hO0 := hO.below hb0 (Nat.le_refl _))
          | (refine wpList_copy_splice rfl (.tmp 76) (.tmp 77) 22 22 rfl 9 Try.underlying22 size9 _ _ _ _ _ _ rfl rfl w.heap.size 0 cur 9 hcur (os.map Value.string) (by show _ = min _ _; simp) (fun hp => ⟨rfl, strs_src hO0 hp⟩) (by simp [hcs]) (strs_one os) w.heap.size w hb0 (Nat.le_refl _) ?_; intro w1 HG1 hb1))
        go_meet
        case rel => exact ⟨_, _, rfl, strs_copied HG1.out hcs, hb1⟩
    case rest =>
      obtain ⟨a1', c1', rfl, hO1, hbA⟩ := hcut
      have hN1 := hN.below hbA (Nat.le_refl _)
      clear hO hN o0 hnil1
      go_upto_if 81 with fail
      rename World => W1
      go_cut [1] (fun v wc => ∃ a' c', v = .slice a' ns.length c' ∧ StrsB wc.heap.size wc a' ns ∧ StrsB wc.heap.size wc a1' os ∧ Below w.heap.size w wc)
      case first =>
        cases a2 with
        | none =>
          have E0 : Hid (ns = []) := n0 rfl
          clear hnil2 n0
          go_wp2
          go_meet
          case rel => exact ⟨none, c2, rfl, .inl E0.out, hO1, hbA⟩
        | some x =>
          clear hnil2
          go_wp2_with (first
            | (at_make; refine wpList_make_full _ rfl _ _ 22 rfl W1.heap.size 9 i0 (.string ByteArray.empty) 1 Try.underlying22 hi hz0 hz1 _ _ _ _ ns.length rfl rfl rfl rfl (by rw [hz2]; omega) (by unfold maxLen; omega) (Nat.le_refl _) ?_; intro w0 hown0 hg0; obtain ⟨cur, hcur, hcs⟩ := own_heap hown0; have hb0 : Below W1.heap.size W1 w0 := (Below.refl _ _).grown hg0 (Nat.le_refl _) (fun k h => by cases h); have hN0 := hN1.below hb0 hbA.size)
            | (refine wpList_copy_splice rfl (.tmp 85) (.tmp 86) 22 22 rfl 9 Try.underlying22 size9 _ _ _ _ _ _ rfl rfl W1.heap.size 0 cur 9 hcur (ns.map Value.string) (by show _ = min _ _; simp) (fun hp => ⟨rfl, strs_src hN0 hp⟩) (by simp [hcs]) (strs_one ns) W1.heap.size W1 hb0 (Nat.le_refl _) ?_; intro w1 HG1 hb1))
          go_meet
          case rel => exact ⟨_, _, rfl, strs_copied HG1.out hcs, (hO1.below hb1 (Nat.le_refl _)).mono hb1.size, hbA.trans (hb1.mono hbA.size)⟩
      case rest =>
        obtain ⟨a2', c2', rfl, hN2, hO2, hbB⟩ := hcut
        clear hO1 hN1 hbA hnil2 n0
        go_wp2_with fail
        rename World => W2
        go_loop [17, 18] (fun z i => ∃ (t : Int) (k : Nat), 0 ≤ t ∧ t ≤ 1048576 ∧ z = .int .i64 t ∧ k ≤ os.length ∧ i = .int .i64 k) (fun _ i => os.length - (intOf i).toNat)
        case atStart => exact ⟨_, 0, by omega, by omega, rfl, Nat.zero_le _, rfl⟩
        case round =>
          obtain ⟨t, k, ht0, ht1, rfl, hk, rfl⟩ := hrel
          by_cases hlt : k < os.length
          · obtain ⟨b, off, rfl, _, hc⟩ := hO2.addr (by omega)
            have g1 : W2.cell? ⟨b, off + k, none⟩ = some (.string (os.getD k ByteArray.empty)) := hc k hlt
            have z1 := so _ (List.getElem_mem hlt)
            clear hc hO2 hN2 so sn
            go_wp2
            · go_ret
              exact ⟨rfl, hbB⟩
            · go_round
              case rel => exact ⟨_, k + 1, by omega, by omega, rfl, by omega, by go_num⟩
              case measure => simp [intOf]; omega
          · go_wp2
            go_loop [17, 19] (fun z i => ∃ (t : Int) (k : Nat), 0 ≤ t ∧ t ≤ 1048576 ∧ z = .int .i64 t ∧ k ≤ ns.length ∧ i = .int .i64 k) (fun _ i => ns.length - (intOf i).toNat)
            case atStart => exact ⟨_, 0, by omega, by omega, rfl, Nat.zero_le _, rfl⟩
            case round =>
              obtain ⟨t2, k2, hu0, hu1, rfl, hk2, rfl⟩ := hrel
              by_cases hlt2 : k2 < ns.length
              · obtain ⟨b, off, rfl, _, hc⟩ := hN2.addr (by omega)
                have g1 : W2.cell? ⟨b, off + k2, none⟩ = some (.string (ns.getD k2 ByteArray.empty)) := hc k2 hlt2
                have z1 := sn _ (List.getElem_mem hlt2)
                clear hc hO2 hN2 so sn
                go_wp2
                · go_ret
                  exact ⟨rfl, hbB⟩
                · go_round
                  case rel => exact ⟨_, k2 + 1, by omega, by omega, rfl, by omega, by go_num⟩
                  case measure => simp [intOf]; omega
              · by_cases hl : ns.length = os.length
                · have hne : ((os.length : Int) != (ns.length : Int)) = false := by simp [hl]
                  have HL : Hid (ns.length = os.length) := hl
                  clear hl
                  by_cases hkk : 0 ≤ kk ∧ kk ≤ os.length
                  · obtain ⟨kn, rfl⟩ : ∃ kn : Nat, kk = kn := ⟨kk.toNat, by omega⟩
                    have hkn : kn ≤ os.length := by omega
                    clear hkk
                    go_wp2_with (first
                      | (at_make; refine wpList_make_own _ rfl (.const (.int .i64 0)) (.tmp 147) 22 rfl W2.heap.size 9 i0 (.string ByteArray.empty) 1 Try.underlying22 hi hz0 hz1 _ _ _ (os.length + 1) rfl rfl (by omega) (by rw [hz2]; omega) (by unfold maxLen; omega) (Nat.le_refl _) ?_; intro w3 hown3 hg3)
                      | (at_make; refine wpList_make_own _ rfl (.const (.int .i64 0)) (.tmp 151) 22 rfl W2.heap.size 9 i0 (.string ByteArray.empty) 1 Try.underlying22 hi hz0 hz1 _ _ _ (ns.length + 1) rfl rfl (by omega) (by rw [hz2]; omega) (by unfold maxLen; omega) hg3.size ?_; intro w4 hown4 hg4))
                    have hG12 : W2.heap.size < w3.heap.size := (hown3.lt _ rfl).2
                    have h3' := hown3.kept hg4 (.inr (by simp [Value.ownBlock]))
                    have hb4 : Below W2.heap.size W2 w4 := ((Below.refl _ _).grown hg3 (Nat.le_refl _) (fun k h => by cases h)).grown hg4 (Nat.le_of_lt hG12) (fun k h => by cases h)
                    clear hown3 hg3 hg4
                    go_loopw [20, 21, 22] (fun v1 v2 i wx => ∃ m : Nat, m ≤ kn ∧ i = .int .i64 m ∧ v1 = .slice (some ⟨W2.heap.size, 0, none⟩) m (os.length + 1) ∧ v2 = .slice (some ⟨w3.heap.size, 0, none⟩) m (ns.length + 1) ∧
                      wx.ownsRow W2.heap.size 9 1 (.slice (some ⟨W2.heap.size, 0, none⟩) m (os.length + 1)) m ((os.take m).map Value.string) ∧ wx.ownsRow W2.heap.size 9 1 (.slice (some ⟨w3.heap.size, 0, none⟩) m (ns.length + 1)) m ((ns.take m).map Value.string) ∧ Below W2.heap.size W2 wx) (fun _ _ i _ => kn - (intOf i).toNat)
                    case atStart => exact ⟨0, Nat.zero_le _, rfl, rfl, rfl, h3', hown4, hb4⟩
                    case round =>
                      obtain ⟨m, hm, rfl, rfl, rfl, hw1, hw2, hbx⟩ := hrel
                      have hsz := hbx.size
                      by_cases hlm : m < kn
                      · have hmo : m < os.length := by omega
                        have hmn : m < ns.length := by rw [HL.out]; exact hmo
                        obtain ⟨b, off, rfl, hb, hc⟩ := (hO2.below hbx (Nat.le_refl _)).addr (by omega)
                        obtain ⟨bb, offb, rfl, hbb, hcb⟩ := (hN2.below hbx (Nat.le_refl _)).addr (by omega)
                        have g1 : wr.cell? ⟨b, off + m, none⟩ = some (.string (os.getD m ByteArray.empty)) := hc m hmo
                        have g2 : wr.cell? ⟨bb, offb + m, none⟩ = some (.string (ns.getD m ByteArray.empty)) := hcb m hmn
                        have HT1 : Hid (os.take (m + 1) = os.take m ++ [os[m]]) := take_next os m hmo
                        have HT2 : Hid (ns.take (m + 1) = ns.take m ++ [ns[m]]) := take_next ns m hmn
                        clear hc hcb hO2 hN2 so sn h3' hown4 hb4
                        go_wp2_with (first
                          | (at_builtin; refine wpList_append_fits _ rfl (.tmp 158) (.tmp 163) 22 rfl W2.heap.size 9 i0 1 Try.underlying22 hi hz1 W2.heap.size m (os.length + 1) _ rfl (hw1.alloc _) ⟨wr.heap.size, 0, none⟩ 1 1 [.string os[m]] rfl rfl (cell_one_new _ _ _) (strs_one [os[m]]) (by omega) ?_; intro wa howna hga; have hza := hga.size; have g3 : wa.cell? ⟨bb, offb + m, none⟩ = some (.string (ns.getD m ByteArray.empty)) := (hga.cell ((World.cell?_of_block (Below.heap_alloc wr _ bb (World.block_lt_of_cell? wr _ g2))).trans g2) (by simp; omega)); have hw2a := (hw2.alloc (.cells #[.string os[m]] 9)).kept hga (.inr (by simp [Value.ownBlock]; omega)))
                          | (at_builtin; refine wpList_append_fits _ rfl (.tmp 165) (.tmp 170) 22 rfl W2.heap.size 9 i0 1 Try.underlying22 hi hz1 w3.heap.size m (ns.length + 1) _ rfl (hw2a.alloc _) ⟨wa.heap.size, 0, none⟩ 1 1 [.string ns[m]] rfl rfl (cell_one_new _ _ _) (strs_one [ns[m]]) (by omega) ?_; intro wb hownb hgb; have hw1b := (howna.alloc (.cells #[.string ns[m]] 9)).kept hgb (.inr (by simp [Value.ownBlock]; omega))))
                        simp at hza
                        go_roundw
                        case rel => exact ⟨m + 1, by omega, by go_num, rfl, rfl, by rw [HT1.out, List.map_append]; exact hw1b, by rw [HT2.out, List.map_append]; exact hownb, (((hbx.alloc hsz _).grown hga (by simp; omega) (fun k h => by cases h; exact Nat.le_refl _)).alloc (by omega) _).grown hgb (by simp; omega) (fun k h => by cases h; omega)⟩
                        case measure => simp [intOf]; omega
                      · obtain rfl : m = kn := by omega
                        have hmn : m ≤ ns.length := by rw [HL.out]; exact hkn
                        rename World => W5
                        go_wp2_with (first
                          | (at_builtin; refine wpList_append_fits _ rfl (.tmp 172) (.tmp 174) 22 rfl W2.heap.size 9 i0 1 Try.underlying22 hi hz1 W2.heap.size m (os.length + 1) _ rfl (hw1.alloc _) ⟨W5.heap.size, 0, none⟩ 1 1 [.string o] rfl rfl (cell_one_new _ _ _) (strs_one [o]) (by omega) ?_; intro wa howna hga; have hza := hga.size; have hw2a := (hw2.alloc (.cells #[.string o] 9)).kept hga (.inr (by simp [Value.ownBlock]; omega)))
                          | (at_builtin; refine wpList_append_fits _ rfl (.tmp 176) (.tmp 178) 22 rfl W2.heap.size 9 i0 1 Try.underlying22 hi hz1 w3.heap.size m (ns.length + 1) _ rfl (hw2a.alloc _) ⟨wa.heap.size, 0, none⟩ 1 1 [.string nw] rfl rfl (cell_one_new _ _ _) (strs_one [nw]) (by omega) ?_; intro wb hownb hgb; have hw1b := (howna.alloc (.cells #[.string nw] 9)).kept hgb (.inr (by simp [Value.ownBlock]; omega))))
                        simp at hza
                        have hbb : Below W2.heap.size W2 wb := (((hbx.alloc hsz _).grown hga (by simp; omega) (fun k h => by cases h; exact Nat.le_refl _)).alloc (by omega) _).grown hgb (by simp; omega) (fun k h => by cases h; omega)
                        have e1 : wb.ownsRow W2.heap.size 9 1 (.slice (some ⟨W2.heap.size, 0, none⟩) (m + 1) (os.length + 1)) (m + 1) ((ins os m o m).map Value.string) := by rw [ins_start, List.map_append]; exact hw1b
                        have e2 : wb.ownsRow W2.heap.size 9 1 (.slice (some ⟨w3.heap.size, 0, none⟩) (m + 1) (ns.length + 1)) (m + 1) ((ins ns m nw m).map Value.string) := by rw [ins_start, List.map_append]; exact hownb
                        clear hw1 hw2 hbx hsz howna hga hza hw2a hownb hgb hw1b h3' hown4 hb4 hlm
                        go_loopw [20, 21, 23] (fun v1 v2 i wx => ∃ j : Nat, m ≤ j ∧ j ≤ os.length ∧ i = .int .i64 j ∧ v1 = .slice (some ⟨W2.heap.size, 0, none⟩) (j + 1) (os.length + 1) ∧ v2 = .slice (some ⟨w3.heap.size, 0, none⟩) (j + 1) (ns.length + 1) ∧
                          wx.ownsRow W2.heap.size 9 1 (.slice (some ⟨W2.heap.size, 0, none⟩) (j + 1) (os.length + 1)) (j + 1) ((ins os m o j).map Value.string) ∧ wx.ownsRow W2.heap.size 9 1 (.slice (some ⟨w3.heap.size, 0, none⟩) (j + 1) (ns.length + 1)) (j + 1) ((ins ns m nw j).map Value.string) ∧ Below W2.heap.size W2 wx) (fun _ _ i _ => os.length - (intOf i).toNat)
                        case atStart => exact ⟨m, Nat.le_refl _, hkn, rfl, rfl, rfl, e1, e2, hbb⟩
                        case round =>
                          obtain ⟨j, hj1, hj2, rfl, rfl, rfl, hw1, hw2, hbx⟩ := hrel
                          have hsz := hbx.size
                          by_cases hlj : j < os.length
                          · have hjn : j < ns.length := by rw [HL.out]; exact hlj
                            obtain ⟨b, off, rfl, hb, hc⟩ := (hO2.below hbx (Nat.le_refl _)).addr (by omega)
                            obtain ⟨bb, offb, rfl, hbb', hcb⟩ := (hN2.below hbx (Nat.le_refl _)).addr (by omega)
                            have g1 : wr.cell? ⟨b, off + j, none⟩ = some (.string (os.getD j ByteArray.empty)) := hc j hlj
                            have g2 : wr.cell? ⟨bb, offb + j, none⟩ = some (.string (ns.getD j ByteArray.empty)) := hcb j hjn
                            have HT1 : Hid (ins os m o (j + 1) = ins os m o j ++ [os[j]]) := ins_step os m o j hj1 hlj
                            have HT2 : Hid (ins ns m nw (j + 1) = ins ns m nw j ++ [ns[j]]) := ins_step ns m nw j hj1 hjn
                            clear hc hcb hO2 hN2 so sn e1 e2 hbb
                            go_wp2_with (first
                              | (at_builtin; refine wpList_append_fits _ rfl (.tmp 187) (.tmp 192) 22 rfl W2.heap.size 9 i0 1 Try.underlying22 hi hz1 W2.heap.size (j + 1) (os.length + 1) _ rfl (hw1.alloc _) ⟨wr.heap.size, 0, none⟩ 1 1 [.string os[j]] rfl rfl (cell_one_new _ _ _) (strs_one [os[j]]) (by omega) ?_; intro wa howna hga; have hza := hga.size; have g3 : wa.cell? ⟨bb, offb + j, none⟩ = some (.string (ns.getD j ByteArray.empty)) := (hga.cell ((World.cell?_of_block (Below.heap_alloc wr _ bb (World.block_lt_of_cell? wr _ g2))).trans g2) (by simp; omega)); have hw2a := (hw2.alloc (.cells #[.string os[j]] 9)).kept hga (.inr (by simp [Value.ownBlock]; omega)))
                              | (at_builtin; refine wpList_append_fits _ rfl (.tmp 194) (.tmp 199) 22 rfl W2.heap.size 9 i0 1 Try.underlying22 hi hz1 w3.heap.size (j + 1) (ns.length + 1) _ rfl (hw2a.alloc _) ⟨wa.heap.size, 0, none⟩ 1 1 [.string ns[j]] rfl rfl (cell_one_new _ _ _) (strs_one [ns[j]]) (by omega) ?_; intro wb hownb hgb; have hw1b := (howna.alloc (.cells #[.string ns[j]] 9)).kept hgb (.inr (by simp [Value.ownBlock]; omega))))
                            simp at hza
                            go_roundw
                            case rel => exact ⟨j + 1, by omega, by omega, by go_num, rfl, rfl, by rw [HT1.out, List.map_append]; exact hw1b, by rw [HT2.out, List.map_append]; exact hownb, (((hbx.alloc hsz _).grown hga (by simp; omega) (fun k h => by cases h; exact Nat.le_refl _)).alloc (by omega) _).grown hgb (by simp; omega) (fun k h => by cases h; omega)⟩
                            case measure => simp [intOf]; omega
                          · obtain rfl : j = os.length := by omega
                            rename World => W7
                            have S1 : StrsB W7.heap.size W7 (some ⟨W2.heap.size, 0, none⟩) (os.take m ++ o :: os.drop m) := owns_strs (by rw [← ins_end]; exact hw1) (len_ins os m o)
                            have S2 : StrsB W7.heap.size W7 (some ⟨w3.heap.size, 0, none⟩) (ns.take m ++ nw :: ns.drop m) := owns_strs (n := os.length + 1) (by rw [← ins_end, HL.out]; rw [HL.out] at hw2; exact hw2) (by rw [len_ins, HL.out])
                            have hO7 := (hO2.below hbx (Nat.le_refl _)).mono hsz
                            have hN7 := (hN2.below hbx (Nat.le_refl _)).mono hsz
                            have hb7 : Below w.heap.size w W7 := hbB.trans (hbx.mono hbB.size)
                            have z1 := small_ins os m o b3 so
                            have z2 := small_ins ns m nw b4 sn
                            have HE : Hid (∀ g, within g (bs o) = false → grp (prs (os.take m ++ o :: os.drop m) (ns.take m ++ nw :: ns.drop m)) g = grp (prs os ns) g) := fun g h => ins_same os ns m o nw g HL.out hkn h
                            have HA : Hid (∀ g, Disj ((os.take m ++ o :: os.drop m).map bs) → within g (bs o) = true → grp (prs (os.take m ++ o :: os.drop m) (ns.take m ++ nw :: ns.drop m)) g = (Lib.trimSuffix g (bs o) ++ bs nw, true)) := fun g hd h => ins_at os ns m o nw g HL.out hkn hd h
                            have l1 := len_ins os m o
                            have l2 : (ns.take m ++ nw :: ns.drop m).length = ns.length + 1 := len_ins ns m nw
                            clear hO2 hN2 hw1 hw2 hbx hsz e1 e2 hbb hbB hG12
                            generalize os.take m ++ o :: os.drop m = os2 at *
                            generalize ns.take m ++ nw :: ns.drop m = ns2 at *
                            have L1 : Hid (os2.length = os.length + 1) := l1
                            have L2 : Hid (ns2.length = ns.length + 1) := l2
                            clear l1 l2
                            have kD := disj_n _ (os.length + 1) _ (os.length + 1) os2 W7 L1.out S1 (by omega) z1
                            go_wp2_with fail
                            refine kD.mono ?_
                            rintro e w8 ⟨x, q, rfl, rfl, hx⟩
                            clear kD
                            cases x
                            · go_wp2
                              go_ret
                              exact ⟨rfl, bdraw hb7 q⟩
                            · have HD : Hid (Disj (os2.map bs)) := hx rfl
                              clear hx
                              have S1' : StrsB (W7.drewN q).heap.size (W7.drewN q) (some ⟨W2.heap.size, 0, none⟩) os2 := S1.heap rfl
                              have S2' : StrsB (W7.drewN q).heap.size (W7.drewN q) (some ⟨w3.heap.size, 0, none⟩) ns2 := S2.heap rfl
                              have hO8 : StrsB (W7.drewN q).heap.size (W7.drewN q) a1' os := hO7.heap rfl
                              have hN8 : StrsB (W7.drewN q).heap.size (W7.drewN q) a2' ns := hN7.heap rfl
                              have hb8 := bdraw hb7 q
                              clear S1 S2 hO7 hN7 hb7
                              generalize W7.drewN q = W8 at *
                              have kN := newMap_n a1' c1' _ a2' c2' _ os.length ns.length os ns W8 rfl rfl HL.out (by omega) hO8 hN8 (Nat.le_refl _) (Nat.le_refl _)
                              go_wp2_with fail
                              refine kN.mono ?_
                              rintro e w9 ⟨rfl, hP9, hb9⟩
                              clear kN
                              have hz9 := hb9.size
                              have hA9 : Below W8.heap.size W8 (w9.alloc (.cells #[.slice (some ⟨W8.heap.size + 1, 0, none⟩) os.length os.length] 29)) := hb9.alloc hz9 _
                              have S1a := S1'.below hA9 (Nat.le_refl _)
                              have S2a := S2'.below hA9 (Nat.le_refl _)
                              have kN2 := newMap_n _ (os.length + 1) _ _ (ns.length + 1) _ (os.length + 1) (os.length + 1) os2 ns2 _ L1.out (by rw [L2.out, HL.out]) rfl (by omega) S1a S2a hA9.size hA9.size
                              clear S1' S2' hO8 hN8
                              go_wp2_with fail
                              refine kN2.mono ?_
                              rintro e w10 ⟨rfl, hP10, hb10⟩
                              clear kN2 S1a S2a
                              have hz10 := hb10.size
                              simp at hP10 hz10
                              have hA10 : Below w9.heap.size w9 (w10.alloc (.cells #[.slice (some ⟨w9.heap.size + 1 + 1, 0, none⟩) (os.length + 1) (os.length + 1)] 29)) := (((Below.refl _ w9).alloc (Nat.le_refl _) _).trans (hb10.mono (by simp))).alloc (by omega) _
                              have m1 : (w10.alloc (.cells #[.slice (some ⟨w9.heap.size + 1 + 1, 0, none⟩) (os.length + 1) (os.length + 1)] 29)).cell? ⟨w9.heap.size, 0, none⟩ = some (.slice (some ⟨W8.heap.size + 1, 0, none⟩) os.length os.length) := by
                                refine below_cell ((hb10.alloc (by simp; omega) _)) (by simp) ?_
                                exact cell_of (heap_alloc_new w9 _) rfl
                              have m2 : (w10.alloc (.cells #[.slice (some ⟨w9.heap.size + 1 + 1, 0, none⟩) (os.length + 1) (os.length + 1)] 29)).cell? ⟨w10.heap.size, 0, none⟩ = some (.slice (some ⟨w9.heap.size + 1 + 1, 0, none⟩) (os.length + 1) (os.length + 1)) := cell_of (heap_alloc_new w10 _) rfl
                              have P1 : PairRow (w10.alloc (.cells #[.slice (some ⟨w9.heap.size + 1 + 1, 0, none⟩) (os.length + 1) (os.length + 1)] 29)) (W8.heap.size + 1) os.length os ns os.length := hP9.below hA10 (pair_lt hP9)
                              have P2 : PairRow (w10.alloc (.cells #[.slice (some ⟨w9.heap.size + 1 + 1, 0, none⟩) (os.length + 1) (os.length + 1)] 29)) (w9.heap.size + 1 + 1) (os.length + 1) os2 ns2 (os.length + 1) := hP10.below ((Below.refl _ w10).alloc (Nat.le_refl _) _) (pair_lt hP10)
                              have hb11 : Below w.heap.size w (w10.alloc (.cells #[.slice (some ⟨w9.heap.size + 1 + 1, 0, none⟩) (os.length + 1) (os.length + 1)] 29)) := (hb8.trans (hb9.mono hb8.size)).trans (hA10.mono (Nat.le_trans hb8.size hz9))
                              have hz11 : w10.heap.size < (w10.alloc (.cells #[.slice (some ⟨w9.heap.size + 1 + 1, 0, none⟩) (os.length + 1) (os.length + 1)] 29)).heap.size := by simp
                              have hz11' : w9.heap.size < (w10.alloc (.cells #[.slice (some ⟨w9.heap.size + 1 + 1, 0, none⟩) (os.length + 1) (os.length + 1)] 29)).heap.size := by simp; omega
                              have L3 : Hid (ns2.length = os.length + 1) := by show _ = _; rw [L2.out, HL.out]
                              have hG1 : Hid (grp (prs os2 ns2) (bs o) = (bs nw, true)) := by
                                show _ = _
                                have h1 := HA.out (bs o) HD.out (within_self _)
                                have h2 : Lib.trimSuffix ([] ++ bs o) (bs o) = [] := trim_app [] (bs o)
                                rw [h1]
                                rw [List.nil_append] at h2
                                rw [h2, List.nil_append]
                              have hG2 : Hid (grp (prs os2 ns2) (bs (p ++ ⟨#[46]⟩ ++ o)) = (bs (p ++ ⟨#[46]⟩ ++ nw), true)) := by
                                show _ = _
                                rw [bs_dotted, bs_dotted, HA.out _ HD.out (within_dot _ _), trim_app]
                              clear hP9 hP10 hA9 hA10 hb8 hb9 hb10 hz9 hz10
                              have kG1 := group_n _ (os.length + 1) os2 ns2 o nw true _ L1.out L3.out (by omega) P2 (by omega) z1 z2 hG1.out
                              go_wp2_with fail
                              refine kG1.mono ?_
                              clear kG1
                              generalize w10.alloc (.cells #[.slice (some ⟨w9.heap.size + 1 + 1, 0, none⟩) (os.length + 1) (os.length + 1)] 29) = W11 at *
                              rintro e w12 ⟨rfl, hb12⟩
                              have m1' := below_cell hb12 hz11' m1
                              have m2' := below_cell hb12 hz11 m2
                              have P1' := P1.below hb12 (pair_lt P1)
                              have P2' := P2.below hb12 (pair_lt P2)
                              have hb12' : Below w.heap.size w w12 := hb11.trans (hb12.mono hb11.size)
                              have hz12 : w10.heap.size < w12.heap.size := Nat.lt_of_lt_of_le hz11 hb12.size
                              have hz12' : w9.heap.size < w12.heap.size := Nat.lt_of_lt_of_le hz11' hb12.size
                              clear m1 m2 P1 P2 hb11 hb12 hz11 hz11'
                              have kG2 := group_n _ (os.length + 1) os2 ns2 (p ++ ⟨#[46]⟩ ++ o) (p ++ ⟨#[46]⟩ ++ nw) true w12 L1.out L3.out (by omega) P2' (by rw [size_dotted]; omega) z1 z2 hG2.out
                              go_wp2_with fail
                              refine kG2.mono ?_
                              clear kG2
                              rintro e w13 ⟨rfl, hb13⟩
                              have n1 := below_cell hb13 hz12' m1'
                              have n2 := below_cell hb13 hz12 m2'
                              have Q1 := P1'.below hb13 (pair_lt P1')
                              have Q2 := P2'.below hb13 (pair_lt P2')
                              have hc13 : Below w.heap.size w w13 := hb12'.trans (hb13.mono hb12'.size)
                              have hz13 : w10.heap.size < w13.heap.size := Nat.lt_of_lt_of_le hz12 hb13.size
                              have hz13' : w9.heap.size < w13.heap.size := Nat.lt_of_lt_of_le hz12' hb13.size
                              clear m1' m2' P1' P2' hb12' hb13 hz12 hz12'
                              have kW := nested_any g o w13 (by omega) (by omega)
                              by_cases hw : within (bs g) (bs o) = true
                              · rw [hw] at kW
                                clear hw
                                go_wp2_with fail
                                refine kW.mono ?_
                                rintro e w14 ⟨rfl, q4, rfl⟩
                                clear kW
                                go_wp2
                                go_ret
                                exact ⟨rfl, bdraw hc13 q4⟩
                              · have hw' : within (bs g) (bs o) = false := by simpa using hw
                                have HX : Hid (grp (prs os2 ns2) (bs g) = grp (prs os ns) (bs g)) := HE.out _ hw'
                                rw [hw'] at kW
                                clear hw hw'
                                go_wp2_with fail
                                refine kW.mono ?_
                                rintro e w14 ⟨rfl, q4, rfl⟩
                                clear kW
                                obtain ⟨R, hR⟩ : ∃ R : ByteArray, bs R = (grp (prs os ns) (bs g)).1 := ⟨⟨(grp (prs os ns) (bs g)).1.toArray⟩, rfl⟩
                                obtain ⟨K, hK⟩ : ∃ K : Bool, K = (grp (prs os ns) (bs g)).2 := ⟨_, rfl⟩
                                have HG : Hid (grp (prs os ns) (bs g) = (bs R, K)) := by show _ = _; rw [hR, hK]
                                clear hR hK
                                have R1 : PairRow (w13.drewN q4) (W8.heap.size + 1) os.length os ns os.length := Q1
                                have R2 : PairRow (w13.drewN q4) (w9.heap.size + 1 + 1) (os.length + 1) os2 ns2 (os.length + 1) := Q2
                                have kG3 := group_n _ (os.length + 1) os2 ns2 g R K (w13.drewN q4) L1.out L3.out (by omega) R2 (by omega) z1 z2 (by rw [HX.out, HG.out])
                                go_wp2_with fail
                                refine kG3.mono ?_
                                clear kG3
                                rintro e w15 ⟨rfl, hb15⟩
                                have n3 : w15.cell? ⟨w9.heap.size, 0, none⟩ = some (.slice (some ⟨W8.heap.size + 1, 0, none⟩) os.length os.length) := below_cell hb15 (by exact hz13') n1
                                have R3 := R1.below hb15 (pair_lt R1)
                                have kG4 := group_n _ os.length os ns g R K w15 rfl HL.out (by omega) R3 (by omega) so sn HG.out
                                have hc15 : Below w.heap.size w w15 := (bdraw hc13 q4).trans (hb15.mono (bdraw hc13 q4).size)
                                clear n1 n2 Q1 Q2 R1 R2 R3 hb15
                                go_wp2_with fail
                                refine kG4.mono ?_
                                clear kG4
                                rintro e w16 ⟨rfl, hb16⟩
                                have hce : Below w.heap.size w w16 := hc15.trans (hb16.mono hc15.size)
                                clear n3 hb16
                                go_wp2
                                go_ret
                                exact ⟨rfl, hce⟩
                  · by_cases h1 : kk < 0
                    · go_wp2
                      go_ret
                      exact ⟨rfl, hbB⟩
                    · go_wp2
                      go_ret
                      exact ⟨rfl, hbB⟩
                · have hne : ((os.length : Int) != (ns.length : Int)) = true := by simp; omega
                  clear hl
                  go_wp2
                  go_ret
                  exact ⟨rfl, hbB⟩

end Go.Proofs.Qxb6630867a
