import Derived.Test.Qxb6631797aJ
namespace Go.Proofs.Qxb6631797a
open Go.RowKit Go.Maps Go.Sort

set_option maxRecDepth 100000 in
set_option maxHeartbeats 4000000 in
theorem model_any (a1 : Option Addr) (c1 : Nat) (a2 : Option Addr) (c2 : Nat) (es fs : List (ByteArray × ByteArray)) (w : World) (hE : Ents w.heap.size w a1 es) (hF : Ents w.heap.size w a2 fs) (h1 : es.length ≤ 4096) (h2 : fs.length ≤ 4096) (hs1 : Small es) (hs2 : Small fs) :
    Calls Try.prog 7 #[.slice a1 es.length c1, .slice a2 fs.length c2] w fun e w' => Diffs (mk es) (mk fs) w e w' := by
  obtain ⟨i0, hi, hz0, hz1, hz2⟩ := info_parts Try.info9
  have hmm := @run_makeMap Try.prog
  have k1 := plain_any a1 c1 _ es w hE (Nat.le_refl _) (by omega) hs1
  go_enter Try.func7, Try.ntmps7
  go_wp2_with fail
  refine k1.mono ?_
  rintro e wA ⟨rfl, hMA, hbA⟩
  have hFA := hF.below hbA (Nat.le_refl _)
  have hEA := hE.below hbA (Nat.le_refl _)
  have k2 := plain_any a2 c2 _ fs wA hFA hbA.size (by omega) hs2
  clear k1 hE hF
  go_wp2_with fail
  refine k2.mono ?_
  rintro e wB ⟨rfl, hMB, hbB⟩
  have HA : Hid (MapIs wB w.heap.size es.length (mk es)) := hMA.below hbB hMA.lt
  have HB : Hid (MapIs wB wA.heap.size fs.length (mk fs)) := hMB
  have HBel : Hid (Below w.heap.size w wB) := hbA.trans (hbB.mono hbA.size)
  have hEB := (hEA.below hbB hbA.size).mono (Nat.le_trans hbA.size hbB.size)
  have hFB := (hFA.below hbB hbA.size).mono (Nat.le_trans hbA.size hbB.size)
  clear k2 hMA hMB hFA hEA hbA hbB
  go_wp2_with (first
    | (at_make; refine wpList_make_own _ rfl _ _ 25 rfl wB.heap.size 9 i0 (.string ⟨#[]⟩) 1 Try.underlying25 hi hz0 hz1 _ _ _ (es.length + fs.length) rfl rfl (by push_cast; rfl) (by rw [hz2]; omega) (by unfold maxLen; omega) (by simp) ?_; intro w1 hrow1 hg1)
    | go_in)
  have HC0 : Coll wB.heap.size wB.heap.size wB w1 (.slice (some ⟨(wB.alloc (.map #[] 0)).heap.size, 0, none⟩) 0 (es.length + fs.length)) 0 [] :=
    ⟨hrow1, by simp, (SeenIs.made wB).kept hg1 (by simp), List.nodup_nil, Nat.le_refl _, (fun _ h => by cases h), ((Below.refl _ _).alloc (Nat.le_refl _) _).grown hg1 (by simp) (fun j hj => by cases hj)⟩
  clear hrow1 hg1
  go_loopw [8, 9] (fun v i wr => ∃ (k : Nat) (ss : List (List UInt8)), k ≤ es.length ∧ i = .int .i64 k ∧ Coll wB.heap.size wB.heap.size wB wr v (k) ss ∧ Mem (fun _ => none) es k ss) (fun _ i _ => es.length - (intOf i).toNat)
  case atStart => exact ⟨0, [], Nat.zero_le _, rfl, by have h := HC0; rw [show (wB.alloc (.map #[] 0)).heap.size = wB.heap.size + 1 by simp] at h; exact h, Mem.start es⟩
  case round =>
    clear HC0
    obtain ⟨k, ss, hk, rfl, HC0, HM0⟩ := hrel
    have HC : Hid (Coll wB.heap.size wB.heap.size wB wr _ (k) ss) := HC0
    have HM : Hid (Mem (fun _ => none) es k ss) := HM0
    clear HC0 HM0
    by_cases hlt : k < es.length
    · obtain ⟨b, off, rfl, hb, hc⟩ := (hEB.below HC.out.2.2.2.2.2.2 (Nat.le_refl _)).addr (by omega)
      obtain ⟨g1, g2⟩ := hc k hlt
      have i1 : (k : Int) < (es.length : Int) := by omega
      obtain ⟨z1, z2⟩ := hs1 _ (List.getElem_mem hlt)
      have HX : Hid (es[k].1.size ≤ 1048576) := z1
      have hlk := HC.out.2.2.1.look (s := es[k].1) (by unfold maxLen; omega)
      by_cases hm : bs es[k].1 ∈ ss
      · rw [decide_eq_true hm] at hlk
        have HM1 := HM.out.skip hlt hm
        clear hm hc g2 z2
        go_wp2
        go_roundw
        case rel => exact ⟨k + 1, ss, by omega, by go_num, HC.out.skip, HM1⟩
        case measure => simp [intOf]; omega
      · rw [decide_eq_false hm] at hlk
        have HM1 := HM.out.add hlt
        have HN : Hid (¬ bs es[k].1 ∈ ss) := hm
        obtain ⟨w2, hrun, hS2, ht2⟩ := HC.out.2.2.1.store (by unfold maxLen; omega) (s := es[k].1) (by unfold maxLen; omega)
        have hrow2 := HC.out.row2 ht2
        have HS2 : Hid (SeenIs w2 wB.heap.size (k + 1) (ss ++ [bs es[k].1]) ∧ wr.mapTurned w2 wB.heap.size) := ⟨hS2, ht2⟩
        have HL : Hid (ss.length ≤ k ∧ wB.heap.size ≤ w2.heap.size) := ⟨HC.out.2.2.2.2.1, by have := HC.out.2.2.2.2.2.2.size; have := ht2.grown.size; omega⟩
        clear hm hc g2 z2 hS2 ht2
        generalize es[k].1 = x at *
        go_wp2_with (first
          | (at_builtin; refine wpList_append_own _ rfl _ _ 25 rfl wB.heap.size 9 i0 (.string ⟨#[]⟩) 1 16 Try.underlying25 hi hz0 hz1 hz2 rfl (by decide) _ _ _ rfl (hrow2.alloc _) ⟨w2.heap.size, 0, none⟩ 1 1 [.string x] rfl rfl (cell_one_new _ _ _) (by simp [Value.oneCell']) (by have := HL.out; unfold maxLen; omega) (by have := HL.out; omega) (by have := HL.out; simp; omega) ?_; intro v' w3 hown' hg3 hnil3; go_frame)
          | go_in)
        have HC3 := HC.out.add (Nat.le_refl _) (Nat.le_refl _) HX.out HN.out HS2.out.1 HS2.out.2 hown' hg3 (fun h => by have := (hnil3.1 h).2; omega)
        go_roundw
        case rel => exact ⟨k + 1, _, by omega, by go_num, HC3, HM1⟩
        case measure => simp [intOf]; omega
    · obtain rfl : k = es.length := by omega
      have HC0 : Coll wB.heap.size wB.heap.size wB wr _ (es.length + 0) ss := HC.out
      have HM1 := HM.out.next (fs := fs)
      clear HC HM hlt hk
      go_wp2
      go_loopw [8, 11] (fun v i wr => ∃ (k : Nat) (ss : List (List UInt8)), k ≤ fs.length ∧ i = .int .i64 k ∧ Coll wB.heap.size wB.heap.size wB wr v (es.length + k) ss ∧ Mem (mk es) fs k ss) (fun _ i _ => fs.length - (intOf i).toNat)
      case atStart => exact ⟨0, _, Nat.zero_le _, rfl, HC0, HM1⟩
      case round =>
        clear HC0
        obtain ⟨k, ss, hk, rfl, HC0, HM0⟩ := hrel
        have HC : Hid (Coll wB.heap.size wB.heap.size wB wr _ (es.length + k) ss) := HC0
        have HM : Hid (Mem (mk es) fs k ss) := HM0
        clear HC0 HM0
        by_cases hlt : k < fs.length
        · obtain ⟨b, off, rfl, hb, hc⟩ := (hFB.below HC.out.2.2.2.2.2.2 (Nat.le_refl _)).addr (by omega)
          obtain ⟨g1, g2⟩ := hc k hlt
          have i1 : (k : Int) < (fs.length : Int) := by omega
          obtain ⟨z1, z2⟩ := hs2 _ (List.getElem_mem hlt)
          have HX : Hid (fs[k].1.size ≤ 1048576) := z1
          have hlk := HC.out.2.2.1.look (s := fs[k].1) (by unfold maxLen; omega)
          by_cases hm : bs fs[k].1 ∈ ss
          · rw [decide_eq_true hm] at hlk
            have HM1 := HM.out.skip hlt hm
            clear hm hc g2 z2
            go_wp2
            go_roundw
            case rel => exact ⟨k + 1, ss, by omega, by go_num, HC.out.skip, HM1⟩
            case measure => simp [intOf]; omega
          · rw [decide_eq_false hm] at hlk
            have HM1 := HM.out.add hlt
            have HN : Hid (¬ bs fs[k].1 ∈ ss) := hm
            obtain ⟨w2, hrun, hS2, ht2⟩ := HC.out.2.2.1.store (by unfold maxLen; omega) (s := fs[k].1) (by unfold maxLen; omega)
            have hrow2 := HC.out.row2 ht2
            have HS2 : Hid (SeenIs w2 wB.heap.size (es.length + k + 1) (ss ++ [bs fs[k].1]) ∧ wr.mapTurned w2 wB.heap.size) := ⟨hS2, ht2⟩
            have HL : Hid (ss.length ≤ es.length + k ∧ wB.heap.size ≤ w2.heap.size) := ⟨HC.out.2.2.2.2.1, by have := HC.out.2.2.2.2.2.2.size; have := ht2.grown.size; omega⟩
            clear hm hc g2 z2 hS2 ht2
            generalize fs[k].1 = x at *
            go_wp2_with (first
              | (at_builtin; refine wpList_append_own _ rfl _ _ 25 rfl wB.heap.size 9 i0 (.string ⟨#[]⟩) 1 16 Try.underlying25 hi hz0 hz1 hz2 rfl (by decide) _ _ _ rfl (hrow2.alloc _) ⟨w2.heap.size, 0, none⟩ 1 1 [.string x] rfl rfl (cell_one_new _ _ _) (by simp [Value.oneCell']) (by have := HL.out; unfold maxLen; omega) (by have := HL.out; omega) (by have := HL.out; simp; omega) ?_; intro v' w3 hown' hg3 hnil3; go_frame)
              | go_in)
            have HC3 := HC.out.add (Nat.le_refl _) (Nat.le_refl _) HX.out HN.out HS2.out.1 HS2.out.2 hown' hg3 (fun h => by have := (hnil3.1 h).2; omega)
            go_roundw
            case rel => exact ⟨k + 1, _, by omega, by go_num, HC3, HM1⟩
            case measure => simp [intOf]; omega
        · obtain rfl : k = fs.length := by omega
          have hsort := sort_any wB.heap.size _ ss wr HC.out.1 HC.out.2.1 (by have := HC.out.2.2.2.2.1; omega)
          have HMd : Hid (∀ x, x ∈ ss ↔ ((mk es x).isSome = true ∨ (mk fs x).isSome = true)) := HM.out.done
          have HZ : Hid (ss.Nodup ∧ ss.length ≤ 8192 ∧ (∀ x ∈ ss, x.length ≤ 1048576) ∧ Below wB.heap.size wB wr) := ⟨HC.out.2.2.2.1, by have := HC.out.2.2.2.2.1; omega, HC.out.2.2.2.2.2.1, HC.out.2.2.2.2.2.2⟩
          clear HC HM hlt hk hEB hFB hs1 hs2
          go_wp2_with fail
          refine hsort.mono ?_
          rintro e wS ⟨rfl, T, hT, hp, hsrt, hbS⟩
          obtain ⟨aT, cT, rfl, hcT⟩ := hT.strs
          have HBS : Hid (Below wB.heap.size wB wS) := HZ.out.2.2.2.trans hbS
          have HAS : Hid (MapIs wS w.heap.size es.length (mk es)) := HA.out.below HBS.out HA.out.lt
          have HBT : Hid (MapIs wS wA.heap.size fs.length (mk fs)) := HB.out.below HBS.out HB.out.lt
          have HP : Hid (T.Perm ss ∧ T.Pairwise (fun x y => x ≤ y) ∧ T.length ≤ 8192 ∧ ∀ x ∈ T, x.length ≤ 1048576) := ⟨hp, hsrt, by rw [hp.length_eq]; exact HZ.out.2.1, fun x hx => HZ.out.2.2.1 x (hp.mem_iff.1 hx)⟩
          have hTl : T.length ≤ 8192 := HP.out.2.2.1
          clear hsort hT hp hsrt hbS HA HB
          go_wp2_with (first
            | (at_make; refine wpList_make_own _ rfl _ _ 25 rfl wS.heap.size 9 i0 (.string ⟨#[]⟩) 1 Try.underlying25 hi hz0 hz1 _ _ _ T.length rfl rfl rfl (by rw [hz2]; omega) (by unfold maxLen; omega) (Nat.le_refl _) ?_; intro w1 hrow1 hg1)
            | go_in)
          have HK0 : Hid (Keys wS.heap.size w1 (.slice (some ⟨wS.heap.size, 0, none⟩) 0 T.length) (flt (mk es) (mk fs) T 0) ∧ Below wS.heap.size wS w1) := ⟨hrow1, (Below.refl _ _).grown hg1 (Nat.le_refl _) (fun j hj => by cases hj)⟩
          clear hrow1 hg1
          go_loopw [13, 14] (fun v i wr => ∃ k : Nat, k ≤ T.length ∧ i = .int .i64 k ∧ Keys wS.heap.size wr v (flt (mk es) (mk fs) T k) ∧ Below wS.heap.size wS wr) (fun _ i _ => T.length - (intOf i).toNat)
          case atStart => exact ⟨0, Nat.zero_le _, rfl, HK0.out⟩
          case round =>
            clear HK0
            obtain ⟨k, hk, rfl, hK, hbx⟩ := hrel
            by_cases hlt : k < T.length
            · have hpT : T ≠ [] := fun e => by subst e; simp at hlt
              obtain ⟨b, off, rfl, hbl, hc⟩ := hcT.resolve_left hpT
              obtain ⟨x, hx, g1⟩ : ∃ x : ByteArray, bs x = T[k] ∧ wr.cell? ⟨b, off + k, none⟩ = some (.string x) := ⟨⟨T[k].toArray⟩, rfl, (hbx.cell (by exact hbl)).trans (hc k hlt)⟩
              have i1 : (k : Int) < (T.length : Int) := by omega
              have HX : Hid (bs x = T[k]) := hx
              have hxs : x.size ≤ 1048576 := by rw [← bs_length, hx]; exact HP.out.2.2.2 _ (List.getElem_mem hlt)
              obtain ⟨d1, l1, e1⟩ := (HAS.out.below hbx HAS.out.lt).look 28 Try.underlying28 (s := x) (by unfold maxLen; omega)
              obtain ⟨d2, l2, e2⟩ := (HBT.out.below hbx HBT.out.lt).look 28 Try.underlying28 (s := x) (by unfold maxLen; omega)
              have HL : Hid ((flt (mk es) (mk fs) T k).length ≤ 8192 ∧ wS.heap.size ≤ wr.heap.size) := ⟨by have := flt_len (mk es) (mk fs) T k; omega, hbx.size⟩
              have W := ways e1 e2
              clear hx e1 e2 hc hcT hpT
              rcases W with ⟨p1, p2, HD⟩ | ⟨p1, p2, HD⟩ | ⟨p1, hd, HD⟩ | ⟨p1, hd, HD⟩
              · rw [p1] at l1
                rw [p2] at l2
                clear p1 p2
                go_wp2_with (first
                  | (at_builtin; refine wpList_append_own _ rfl _ _ 25 rfl wS.heap.size 9 i0 (.string ⟨#[]⟩) 1 16 Try.underlying25 hi hz0 hz1 hz2 rfl (by decide) _ _ _ rfl (World.ownsRow.alloc hK _) ⟨wr.heap.size, 0, none⟩ 1 1 [.string x] rfl rfl (cell_one_new _ _ _) (by simp [Value.oneCell']) (by have := HL.out; unfold maxLen; omega) (by have := HL.out; omega) (by have := HL.out; simp; omega) ?_; intro v' w3 hown' hg3 hnil3; go_frame)
                  | go_in)
                have HD' : mk es T[k] ≠ mk fs T[k] := by rw [← HX.out]; exact HD.out
                go_roundw
                case rel => exact ⟨k + 1, by omega, by go_num, by rw [flt_yes hlt HD', ← HX.out]; simpa [Keys] using hown', (hbx.alloc hbx.size _).grown hg3 (by have := hbx.size; simp; omega) (fun j hj => (World.ownsRow.lt hK j hj).1)⟩
                case measure => simp [intOf]; omega
              · rw [p1] at l1
                rw [p2] at l2
                clear p1 p2
                go_wp2_with (first
                  | (at_builtin; refine wpList_append_own _ rfl _ _ 25 rfl wS.heap.size 9 i0 (.string ⟨#[]⟩) 1 16 Try.underlying25 hi hz0 hz1 hz2 rfl (by decide) _ _ _ rfl (World.ownsRow.alloc hK _) ⟨wr.heap.size, 0, none⟩ 1 1 [.string x] rfl rfl (cell_one_new _ _ _) (by simp [Value.oneCell']) (by have := HL.out; unfold maxLen; omega) (by have := HL.out; omega) (by have := HL.out; simp; omega) ?_; intro v' w3 hown' hg3 hnil3; go_frame)
                  | go_in)
                have HD' : mk es T[k] ≠ mk fs T[k] := by rw [← HX.out]; exact HD.out
                go_roundw
                case rel => exact ⟨k + 1, by omega, by go_num, by rw [flt_yes hlt HD', ← HX.out]; simpa [Keys] using hown', (hbx.alloc hbx.size _).grown hg3 (by have := hbx.size; simp; omega) (fun j hj => (World.ownsRow.lt hK j hj).1)⟩
                case measure => simp [intOf]; omega
              · rw [p1] at l1
                clear p1
                generalize (mk fs (bs x)).isSome = r at l1 l2
                go_wp2
                have HD' : mk es T[k] = mk fs T[k] := by rw [← HX.out]; exact HD.out
                go_roundw
                case rel => exact ⟨k + 1, by omega, by go_num, by rw [flt_no hlt HD']; exact hK, hbx⟩
                case measure => simp [intOf]; omega
              · rw [p1] at l1
                clear p1
                generalize (mk fs (bs x)).isSome = r at l1 l2
                go_wp2_with (first
                  | (at_builtin; refine wpList_append_own _ rfl _ _ 25 rfl wS.heap.size 9 i0 (.string ⟨#[]⟩) 1 16 Try.underlying25 hi hz0 hz1 hz2 rfl (by decide) _ _ _ rfl (World.ownsRow.alloc hK _) ⟨wr.heap.size, 0, none⟩ 1 1 [.string x] rfl rfl (cell_one_new _ _ _) (by simp [Value.oneCell']) (by have := HL.out; unfold maxLen; omega) (by have := HL.out; omega) (by have := HL.out; simp; omega) ?_; intro v' w3 hown' hg3 hnil3; go_frame)
                  | go_in)
                have HD' : mk es T[k] ≠ mk fs T[k] := by rw [← HX.out]; exact HD.out
                go_roundw
                case rel => exact ⟨k + 1, by omega, by go_num, by rw [flt_yes hlt HD', ← HX.out]; simpa [Keys] using hown', (hbx.alloc hbx.size _).grown hg3 (by have := hbx.size; simp; omega) (fun j hj => (World.ownsRow.lt hK j hj).1)⟩
                case measure => simp [intOf]; omega
            · obtain rfl : k = T.length := by omega
              clear hcT
              go_wp2
              go_ret
              have he : flt (mk es) (mk fs) T T.length = T.filter fun x => decide (mk es x ≠ mk fs x) := by unfold flt; rw [List.take_of_length_le (Nat.le_refl _)]
              rw [he] at hK
              obtain ⟨r1, r2, r3⟩ := diff_end HZ.out.1 HMd.out HP.out.1 HP.out.2.1
              have hb1 := HBel.out.trans (HBS.out.mono HBel.out.size)
              exact ⟨_, _, rfl, hK.mono hb1.size, r1, r2, r3, hb1.trans (hbx.mono hb1.size)⟩

end Go.Proofs.Qxb6631797a
