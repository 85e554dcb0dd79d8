import Derived.Test.Qxb6631797aE
namespace Go.Proofs.Qxb6631797a
open Go.RowKit Go.Maps Go.Sort

set_option maxRecDepth 100000 in
set_option maxHeartbeats 4000000 in
theorem one_walk (a : Option Addr) (c B : Nat) (es : List (ByteArray × ByteArray)) (id df : ByteArray) (w : World) (h1 : es.length ≤ 4096) (h2 : id.size ≤ 65536) (h3 : df.size ≤ 65536) (hE : Ents B w a es) (h0 : a = none → es = []) (hB : B ≤ w.heap.size) (hf : Fits es) :
    Calls Try.prog 4 #[.slice a es.length c, .string id, .string df] w fun e w' => e = .returned (.bool true) ∧ Below w.heap.size w w' := by
  have hmm := @run_makeMap Try.prog
  have kB := bytes1_any a c B es id df w (by unfold maxLen; omega) (by unfold maxLen; omega) (by unfold maxLen; omega) hE hf
  have ew : IntKind.i64.wrap ((32 : Int) + (id.size : Int)) = (32 : Int) + (id.size : Int) := IntWalk.i64_in _ (by omega)
  have ew2 : IntKind.i64.wrap ((32 : Int) + (id.size : Int) + (df.size : Int)) = (32 : Int) + (id.size : Int) + (df.size : Int) := IntWalk.i64_in _ (by omega)
  go_enter Try.func4, Try.ntmps4
  go_wp2_with fail
  refine kB.mono ?_
  rintro e w' ⟨x, rfl, rfl, hx⟩
  clear kB hf
  cases x
  · go_wp2
    go_ret
    exact ⟨rfl, Below.refl _ _⟩
  have hs := hx rfl
  clear hx
  have kE := entry_any a c B es ((32 : Int) + (id.size : Int) + (df.size : Int)) w hE (by omega) (by omega) (by omega) hs
  go_wp2_with (go_at_call 6; refine kE.mono ?_; rintro e w' ⟨x, q, rfl, rfl, hx0⟩; clear kE)
  · go_ret
    exact ⟨rfl, bdraw (Below.refl _ _) _⟩
  · clear ew ew2
    have hbW := bdraw (Below.refl w.heap.size w) q
    have hEW := hE.heap (w' := w.drewN q) rfl
    generalize w.drewN q = W at hbW hEW ⊢
    clear hE
    go_loop [8, 9, 10] (fun f o i => ∃ k : Nat, k ≤ es.length ∧ i = .int .i64 k ∧ Found es id k f o) (fun _ _ i => es.length - (intOf i).toNat)
    case atStart => exact ⟨0, Nat.zero_le _, rfl, Found.start _ _ _⟩
    case round =>
      obtain ⟨k, hk, rfl, hF⟩ := hrel
      by_cases hlt : k < es.length
      · obtain ⟨b, off, rfl, hb, hc⟩ := hEW.addr (by omega)
        obtain ⟨g1, g2⟩ := hc k hlt
        have i1 : (k : Int) < (es.length : Int) := by omega
        clear hc hEW hs
        cases hq : (es[k].1.toList == id.toList)
        · have HF := hF.miss hlt hq
          clear hF
          go_wp2
          go_round
          case rel => exact ⟨k + 1, by omega, by go_num, HF⟩
          case measure => simp [intOf]; omega
        · have HF := Found.hit hlt hq
          clear hF
          go_wp2
          go_round
          case rel => exact ⟨k + 1, by omega, by go_num, HF⟩
          case measure => simp [intOf]; omega
      · obtain rfl : k = es.length := by omega
        obtain ⟨fd, d, rfl, rfl, hfd⟩ := hF
        rw [List.take_of_length_le (Nat.le_refl _)] at hfd
        have kS := snap_any a c B es W hEW h0 (by have := hbW.size; omega) (by omega) hs
        have HC : (fd = false ∧ Hid (mk es (bs id) ≠ some (bs df))) ∨ (fd = true ∧ (d.toList == df.toList) = false ∧ Hid (mk es (bs id) ≠ some (bs df))) ∨ (fd = true ∧ (d.toList == df.toList) = true ∧ Hid (mk es (bs id) = some (bs df))) := by
          cases fd
          · exact .inl ⟨rfl, show _ ≠ _ by rw [hfd]; simp⟩
          · cases hq : (d.toList == df.toList)
            · exact .inr (.inl ⟨rfl, rfl, show _ ≠ _ by rw [hfd]; simpa using bne_bs hq⟩)
            · exact .inr (.inr ⟨rfl, rfl, show _ = _ by rw [hfd]; simpa using beq_bs hq⟩)
        clear hfd
        rcases HC with ⟨rfl, HC⟩ | ⟨rfl, hq, HC⟩ | ⟨rfl, hq, HC⟩
        all_goals
          go_wp2_with (go_at_call 9; refine kS.mono ?_; rintro e wS ⟨m, rfl, hS, hbS⟩; clear kS)
          have hbS' := hbW.trans (hbS.mono hbW.size)
          have hES := hEW.below hbS (by have := hbW.size; omega)
          clear hbS hEW
          go_loopw [14] (fun i wr => ∃ k : Nat, k ≤ es.length ∧ i = .int .i64 k ∧ MapIs wr wS.heap.size k (mk (es.take k)) ∧ Below wS.heap.size wS wr) (fun i _ => es.length - (intOf i).toNat)
          case atStart => exact ⟨0, Nat.zero_le _, rfl, MapIs.made wS, (Below.refl _ _).alloc (Nat.le_refl _) _⟩
          case round =>
            obtain ⟨k, hk, rfl, hM, hbx⟩ := hrel
            by_cases hlt : k < es.length
            · obtain ⟨b, off, rfl, hb, hc⟩ := (hES.below hbx (by have := hbS'.size; omega)).addr (by omega)
              obtain ⟨g1, g2⟩ := hc k hlt
              have i1 : (k : Int) < (es.length : Int) := by omega
              obtain ⟨z1, z2⟩ := hs _ (List.getElem_mem hlt)
              have hM' : MapIs wr.drew wS.heap.size k (mk (es.take k)) := hM.heap rfl
              obtain ⟨w1, hrun, hM1, ht1⟩ := hM'.store 29 Try.underlying29 (by unfold maxLen; omega) (s := es[k].1) (v := es[k].2) (by unfold maxLen; omega) (by unfold maxLen; omega)
              have HM : Hid (MapIs w1 wS.heap.size (k + 1) (mk (es.take (k + 1)))) := by rw [mk_step es k hlt]; exact hM1
              have hg1 := ht1.grown
              have hb1 : Below wS.heap.size wS w1 := hbx.drew.grown hg1 (by exact hbx.size) (fun j hj => by cases hj; exact Nat.le_refl _)
              clear hc hES hs hM hM' hM1 ht1 hg1 hbS' hS
              go_wp2
              go_region
              all_goals
                go_wp2
                go_roundw
                case rel => exact ⟨k + 1, by omega, by go_num, HM.out, hb1⟩
                case measure => simp [intOf]; omega
            · obtain rfl : k = es.length := by omega
              rw [List.take_of_length_le (Nat.le_refl _)] at hM
              obtain ⟨w2, hrun, hM2, ht2⟩ := hM.store 29 Try.underlying29 (by unfold maxLen; omega) (s := id) (v := df) (by unfold maxLen; omega) (by unfold maxLen; omega)
              have hb2 : Below wS.heap.size wS w2 := hbx.grown ht2.grown hbx.size (fun j hj => by cases hj; exact Nat.le_refl _)
              have hb2' := hbS'.trans (hb2.mono hbS'.size)
              have hS2 : Snap w2.heap.size w2 m es.length (mk es) := (hS.below hb2 (Nat.le_refl _)).mono hb2.size
              have hA2 : Snap w2.heap.size w2 (some wS.heap.size) (es.length + 1) (upd (mk es) (bs id) (bs df)) := .inr ⟨_, rfl, hM2.lt, hM2⟩
              have k1 := diff_any m (some wS.heap.size) es.length (es.length + 1) _ _ _ w2 hS2 hA2 (Nat.le_refl _) (by omega) (by omega)
              clear hES hS hM hM2 ht2 hb2 hs hbS' hbx hbW h0
              go_wp2_with fail
              refine k1.mono ?_
              rintro e w3 ⟨v1, ss1, rfl, hK1, hn1, hm1, -, hb3⟩
              have HK1 : Hid (Strs w3 v1 ss1 ∧ ss1.Nodup ∧ ∀ k, k ∈ ss1 ↔ mk es k ≠ upd (mk es) (bs id) (bs df) k) := ⟨hK1.strs, hn1, hm1⟩
              have hb3' := hb2'.trans (hb3.mono hb2'.size)
              have k2 := diff_any (some wS.heap.size) m (es.length + 1) es.length _ _ _ w3 (hA2.below hb3 (Nat.le_refl _)) (hS2.below hb3 (Nat.le_refl _)) hb3.size (by omega) (by omega)
              have hA3 := (hA2.below hb3 (Nat.le_refl _))
              have hs3 := hb3.size
              clear k1 hK1 hn1 hm1 hA2 hS2 hb2' hb3
              go_wp2_with fail
              refine k2.mono ?_
              rintro e w4 ⟨v2, ss2, rfl, hK2, hn2, hm2, -, hb4⟩
              have HK2 : Hid (Strs w4 v2 ss2 ∧ ss2.Nodup ∧ (∀ k, k ∈ ss2 ↔ mk es k ≠ upd (mk es) (bs id) (bs df) k) ∧ Below w3.heap.size w3 w4) := ⟨hK2.strs, hn2, flip hm2, hb4⟩
              have hb4' := hb3'.trans (hb4.mono hb3'.size)
              have k3 := diff_any (some wS.heap.size) (some wS.heap.size) (es.length + 1) (es.length + 1) _ _ _ w4 (hA3.below hb4 hs3) (hA3.below hb4 hs3) (by have := hb4.size; omega) (by omega) (by omega)
              clear k2 hK2 hn2 hm2 hA3 hb3' hb4 hs3
              go_wp2_with fail
              refine k3.mono ?_
              rintro e w5 ⟨v3, ss3, rfl, hK3, hn3, hm3, -, hb5⟩
              obtain rfl := got_same hm3
              obtain ⟨a3, c3, rfl⟩ := hK3.strs.nil
              have S1 := (HK1.out.1.below HK2.out.2.2.2).below hb5
              have S2 := HK2.out.1.below hb5
              have hb5' := hb4'.trans (hb5.mono hb4'.size)
              clear k3 hK3 hn3 hm3 hb5 hb4'
              first
                | (have hne : mk es (bs id) ≠ some (bs df) := HC.out
                   obtain rfl := got_yes HK1.out.2.1 HK1.out.2.2 HC.out
                   obtain rfl := got_yes HK2.out.2.1 HK2.out.2.2.1 HC.out
                   obtain ⟨b1, o1, c1, rfl, q1⟩ := S1.one
                   obtain ⟨b2, o2, c2, rfl, q2⟩ := S2.one)
                | (obtain rfl := got_no HK1.out.2.2 HC.out
                   obtain rfl := got_no HK2.out.2.2.1 HC.out
                   obtain ⟨a1, c1, rfl⟩ := S1.nil
                   obtain ⟨a2, c2, rfl⟩ := S2.nil)
              clear HK1 HK2 S1 S2
              go_wp2
              go_ret
              exact ⟨by simp, hb5'⟩

end Go.Proofs.Qxb6631797a
