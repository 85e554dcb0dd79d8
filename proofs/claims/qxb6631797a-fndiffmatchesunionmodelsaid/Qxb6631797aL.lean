import Derived.Test.Qxb6631797aK
namespace Go.Proofs.Qxb6631797a
open Go.RowKit Go.Maps Go.Sort

set_option maxRecDepth 100000 in
set_option maxHeartbeats 1000000 in
theorem union_big (a1 : Option Addr) (c1 : Nat) (a2 : Option Addr) (c2 : Nat) (es fs : List (ByteArray × ByteArray)) (w : World) (m1 : es.length ≤ maxLen) (m2 : fs.length ≤ maxLen)
    (hE : Ents w.heap.size w a1 es) (hF : Ents w.heap.size w a2 fs) (hf1 : Fits es) (hf2 : Fits fs) (hb : ¬ (es.length ≤ 4096 ∧ fs.length ≤ 4096)) :
    Calls Try.prog 3 #[.slice a1 es.length c1, .slice a2 fs.length c2] w fun e w' => e = .returned (.bool true) ∧ Below w.heap.size w w' := by
  have kB := bytes2_any a1 c1 _ es a2 c2 _ fs w m1 m2 hE hF hf1 hf2
  clear m1 m2 hE hF hf1 hf2
  by_cases h1 : es.length ≤ 4096 <;> by_cases h2 : fs.length ≤ 4096
  all_goals try omega
  all_goals
    clear hb
    go_enter Try.func3, Try.ntmps3
    go_wp2_with fail
    refine kB.mono ?_
    rintro e w' ⟨x, rfl, rfl, _⟩
    clear kB
    cases x
    all_goals
      go_wp2
      go_ret
      exact ⟨rfl, Below.refl _ _⟩

set_option maxRecDepth 100000 in
set_option maxHeartbeats 4000000 in
theorem union_walk (a1 : Option Addr) (c1 : Nat) (a2 : Option Addr) (c2 : Nat) (es fs : List (ByteArray × ByteArray)) (w : World) (h1 : es.length ≤ 4096) (h2 : fs.length ≤ 4096)
    (hE : Ents w.heap.size w a1 es) (hF : Ents w.heap.size w a2 fs) (n1 : a1 = none → es = []) (n2 : a2 = none → fs = []) (hf1 : Fits es) (hf2 : Fits fs) :
    Calls Try.prog 3 #[.slice a1 es.length c1, .slice a2 fs.length c2] w fun e w' => e = .returned (.bool true) ∧ Below w.heap.size w w' := by
  have kB := bytes2_any a1 c1 _ es a2 c2 _ fs w (by unfold maxLen; omega) (by unfold maxLen; omega) hE hF hf1 hf2
  go_enter Try.func3, Try.ntmps3
  go_wp2_with fail
  refine kB.mono ?_
  rintro e w' ⟨x, rfl, rfl, hx⟩
  clear kB hf1 hf2
  cases x
  · go_wp2
    go_ret
    exact ⟨rfl, Below.refl _ _⟩
  obtain ⟨s1, s2⟩ := hx rfl
  clear hx
  have kE := entry_any a1 c1 _ es 0 w hE (by omega) (by omega) (by omega) s1
  go_wp2_with fail
  refine kE.mono ?_
  rintro e w' ⟨x, q, rfl, rfl, hx0⟩
  clear kE
  go_wp2_with fail
  · go_ret
    exact ⟨rfl, bdraw (Below.refl _ _) _⟩
  have hx1 : x ≤ 1048576 := by omega
  have kF := entry_any a2 c2 _ fs x (w.drewN q) (hF.heap rfl) hx0 hx1 (by omega) s2
  refine kF.mono ?_
  rintro e w' ⟨x', q', rfl, rfl, hx0'⟩
  clear kF
  go_wp2_with fail
  · go_ret
    exact ⟨rfl, bdraw (Below.refl _ _) _⟩
  have HBW : Hid (Below w.heap.size w (w.drewN (q + q'))) := bdraw (Below.refl w.heap.size w) (q + q')
  have hEW : Ents (w.drewN (q + q')).heap.size (w.drewN (q + q')) a1 es := hE.heap rfl
  have hFW : Ents (w.drewN (q + q')).heap.size (w.drewN (q + q')) a2 fs := hF.heap rfl
  generalize w.drewN (q + q') = W at HBW hEW hFW ⊢
  clear hE hF
  refine (model_any a1 c1 a2 c2 es fs W hEW hFW h1 h2 s1 s2).mono ?_
  rintro e w1 ⟨vM, sM, rfl, hKM, dM, mM, oM, b1⟩
  have HM : Hid (Strs w1 vM sM ∧ sM.length ≤ maxLen ∧ sM.Nodup ∧ (∀ k, k ∈ sM ↔ mk es k ≠ mk fs k) ∧ sM.Pairwise (fun x y => x ≤ y)) := ⟨hKM.strs, hKM.len, dM, mM, oM⟩
  have HB1 : Hid (Below W.heap.size W w1) := b1
  have k := snap_any a1 c1 _ es w1 (hEW.below b1 (Nat.le_refl _)) n1 b1.size (by omega) s1
  clear hKM dM mM oM b1
  go_wp2_with fail
  refine k.mono ?_
  rintro e w2 ⟨p1, rfl, S1, b2⟩
  have HB2 : Hid (Below w1.heap.size w1 w2 ∧ Below W.heap.size W w2) := ⟨b2, HB1.out.trans (b2.mono HB1.out.size)⟩
  clear k b2
  have k := snap_any a2 c2 _ fs w2 (hFW.below HB2.out.2 (Nat.le_refl _)) n2 HB2.out.2.size (by omega) s2
  go_wp2_with fail
  refine k.mono ?_
  rintro e w3 ⟨p2, rfl, S2, b3⟩
  have HB3 : Hid (Below w1.heap.size w1 w3 ∧ Below W.heap.size W w3) := ⟨HB2.out.1.trans (b3.mono HB2.out.1.size), HB2.out.2.trans (b3.mono HB2.out.2.size)⟩
  have S1' := (S1.below b3 (Nat.le_refl _)).mono b3.size
  clear k b3 S1
  have k := diff_any p1 p2 es.length fs.length _ _ _ w3 S1' S2 (Nat.le_refl _) (by omega) (by omega)
  clear S1' S2
  go_wp2_with fail
  refine k.mono ?_
  rintro e w4 ⟨vG, sG, rfl, hKG, dG, mG, oG, b4⟩
  have HG : Hid (Strs w4 vG sM) := by
    have := hKG.strs
    rw [sorted_eq dG HM.out.2.2.1 oG HM.out.2.2.2.2 (fun k => (mG k).trans (HM.out.2.2.2.1 k).symm)] at this
    exact this
  have HB4 : Hid (Below w1.heap.size w1 w4 ∧ Below W.heap.size W w4) := ⟨HB3.out.1.trans (b4.mono HB3.out.1.size), HB3.out.2.trans (b4.mono HB3.out.2.size)⟩
  clear k b4 hKG dG mG oG
  have k := snap_any a2 c2 _ fs w4 (hFW.below HB4.out.2 (Nat.le_refl _)) n2 HB4.out.2.size (by omega) s2
  go_wp2_with fail
  refine k.mono ?_
  rintro e w5 ⟨p3, rfl, S3, b5⟩
  have HB5 : Hid (Below w1.heap.size w1 w5 ∧ Below W.heap.size W w5) := ⟨HB4.out.1.trans (b5.mono HB4.out.1.size), HB4.out.2.trans (b5.mono HB4.out.2.size)⟩
  have HG5 : Hid (Strs w5 vG sM) := HG.out.below b5
  clear k b5 HG
  have k := snap_any a1 c1 _ es w5 (hEW.below HB5.out.2 (Nat.le_refl _)) n1 HB5.out.2.size (by omega) s1
  go_wp2_with fail
  refine k.mono ?_
  rintro e w6 ⟨p4, rfl, S4, b6⟩
  have HB6 : Hid (Below w1.heap.size w1 w6 ∧ Below W.heap.size W w6) := ⟨HB5.out.1.trans (b6.mono HB5.out.1.size), HB5.out.2.trans (b6.mono HB5.out.2.size)⟩
  have HG6 : Hid (Strs w6 vG sM) := HG5.out.below b6
  have S3' := (S3.below b6 (Nat.le_refl _)).mono b6.size
  clear k b6 HG5 S3
  have k := diff_any p3 p4 fs.length es.length _ _ _ w6 S3' S4 (Nat.le_refl _) (by omega) (by omega)
  clear S3' S4
  go_wp2_with fail
  refine k.mono ?_
  rintro e w7 ⟨vB, sB, rfl, hKB, dB, mB, oB, b7⟩
  have HT : Strs w7 vB sM := by
    have := hKB.strs
    rw [sorted_eq dB HM.out.2.2.1 oB HM.out.2.2.2.2 (fun k => (flip mB k).trans (HM.out.2.2.2.1 k).symm)] at this
    exact this
  have HB7 : Hid (Below w.heap.size w w7) := HBW.out.trans ((HB6.out.2.trans (b7.mono HB6.out.2.size)).mono HBW.out.size)
  have HG7 := HG6.out.below b7
  have HM7 := HM.out.1.below (HB6.out.1.trans (b7.mono HB6.out.1.size))
  clear k b7 hKB dB mB oB
  have k1 := same_any vG vM sM w7 HG7 HM7 HM.out.2.1
  clear HG7
  go_wp2_with fail
  refine k1.mono ?_
  rintro e w8 ⟨rfl, q8, rfl⟩
  have b8 := bdraw (Below.refl w7.heap.size w7) q8
  have k2 := same_any vB vM sM _ (HT.below b8) (HM7.below b8) HM.out.2.1
  clear k1 HT HM7 b8
  go_wp2_with (go_at_call 10; refine k2.mono ?_; rintro e w9 ⟨rfl, q9, rfl⟩)
  go_ret
  exact ⟨rfl, bdraw HB7.out _⟩

end Go.Proofs.Qxb6631797a
