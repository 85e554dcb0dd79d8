import Derived.Test.Qxb6630867aF
import Derived.Deep.DeepCutAuto
import Derived.Laws.CopyOwn
namespace Go.Proofs.Qxb6630867a
open Go.RowKit

theorem info9 : (Try.prog.info? 9).map (fun i => (i.zero, i.size, i.bytes)) = some (some (.string ByteArray.empty), 1, 16) := by kernel_rfl
theorem size9 : (Try.prog.info? 9).map (·.size) = some 1 := by kernel_rfl

theorem bdraw {B : Nat} {a w : World} (h : Below B a w) (n : Nat) : Below B a (w.drewN n) := h.trans ⟨rfl, rfl, rfl, Nat.le_refl _, fun _ _ => rfl⟩

theorem own_heap {w : World} {base g n : Nat} {xs : List Value} (h : w.ownsRow base 9 1 (.slice (some ⟨g, 0, none⟩) n n) n xs) : ∃ cur : List Value, w.heap[g]? = some (.cells cur.toArray 9 (0, 0)) ∧ cur.length = n := by
  rcases h.2 with ⟨h', _⟩ | ⟨g', cap, cur, hv, _, hh, _, _, hcs, _⟩
  · cases h'
  · simp at hv
    obtain ⟨rfl, rfl⟩ := hv
    exact ⟨cur.toList, by simpa using hh, by simpa using hcs⟩

theorem strs_copied {w : World} {g : Nat} {cur : List Value} {os : List ByteArray} (h : w.heap[g]? = some (.cells (splice cur 0 (os.map Value.string)).toArray 9 (0, 0))) (hl : cur.length = os.length) : StrsB w.heap.size w (some ⟨g, 0, none⟩) os := by
  have e : splice cur 0 (os.map Value.string) = os.map Value.string := by
    simp [splice]
    omega
  rw [e] at h
  refine .inr ⟨g, 0, rfl, (Array.getElem?_eq_some_iff.1 h).1, fun j hj => ?_⟩
  rw [Nat.zero_add]
  refine cell_of h ?_
  simp [hj]

theorem strs_src {w : World} {B : Nat} {a : Option Addr} {os : List ByteArray} (h : StrsB B w a os) (hp : 0 < (os.map Value.string).length) : ∃ ad, a = some ad ∧ ∀ j v, (os.map Value.string)[j]? = some v → w.cell? (ad.add j) = some v := by
  obtain ⟨b, off, rfl, _, hc⟩ := h.addr (by simpa using hp)
  refine ⟨_, rfl, fun j v hv => ?_⟩
  simp only [List.getElem?_map, Option.map_eq_some_iff] at hv
  obtain ⟨s, hs, rfl⟩ := hv
  obtain ⟨hj, rfl⟩ := List.getElem?_eq_some_iff.1 hs
  rw [WideShapes.add_plain, hc j hj]
  simp [hj]

theorem strs_one (os : List ByteArray) : ∀ v ∈ os.map Value.string, v.oneCell' = true := by
  intro v hv
  obtain ⟨s, _, rfl⟩ := List.mem_map.1 hv
  rfl

theorem bs_inj {a b : ByteArray} (h : bs a = bs b) : a = b := by
  rw [← Lib.mk_data a, ← Lib.mk_data b]
  exact congrArg (fun l : List UInt8 => (⟨l.toArray⟩ : ByteArray)) h

theorem prs_fst (os ns : List ByteArray) (hl : ns.length = os.length) : (prs os ns).map Prod.fst = os.map bs := List.map_fst_zip (by simp; omega)

theorem prs_len (os ns : List ByteArray) (hl : ns.length = os.length) : (prs os ns).length = os.length := by simp [prs]; omega

theorem prs_at (os ns : List ByteArray) (i : Nat) (h1 : i < os.length) (h2 : i < ns.length) (h : i < (prs os ns).length) : (prs os ns)[i] = (bs os[i], bs ns[i]) := by simp [prs]

theorem model_eq {os ns : List ByteArray} {g r : ByteArray} {ok : Bool} (h : Model os ns g r ok) (hl : ns.length = os.length) (hd : Disj (os.map bs)) : grp (prs os ns) (bs g) = (bs r, ok) := by
  rcases h with ⟨rfl, i, hi, hn, h1, h2⟩ | ⟨rfl, rfl, h1⟩
  · have hp : i < (prs os ns).length := by rw [prs_len os ns hl]; exact hi
    have e := prs_at os ns i hi hn hp
    have := grp_at (ps := prs os ns) (by rw [prs_fst os ns hl]; exact hd) hp (g := bs g) (by rw [e]; exact h1)
    rw [this, e, h2]
  · refine grp_none (fun i hi => ?_)
    have h3 : i < os.length := by rw [prs_len os ns hl] at hi; exact hi
    rw [prs_at os ns i h3 (by omega) hi]
    exact h1 i h3

theorem model_size {os ns : List ByteArray} {g r : ByteArray} {ok : Bool} (h : Model os ns g r ok) (hg : g.size ≤ 4096) (hn : ∀ s ∈ ns, s.size ≤ 1048576) : r.size ≤ 3000000 := by
  rcases h with ⟨rfl, i, hi, hn', h1, h2⟩ | ⟨rfl, rfl, h1⟩
  · have h3 := congrArg List.length h2
    have h4 := Lib.trimSuffix_le (bs g) (bs os[i])
    have h5 := hn _ (List.getElem_mem hn')
    rw [List.length_append, bs_len, bs_len] at h3
    rw [bs_len] at h4
    omega
  · omega

theorem undo {os ns : List ByteArray} {g x : List UInt8} (hl : ns.length = os.length) (hdn : Disj (ns.map bs)) (h : grp (prs os ns) g = (x, true)) : grp (prs ns os) x = (g, true) := by
  rcases grp_spec g (prs os ns) with ⟨i, hi, h1, h2⟩ | ⟨_, h2⟩
  · have hio : i < os.length := by rw [prs_len os ns hl] at hi; exact hi
    have hin : i < ns.length := by omega
    rw [prs_at os ns i hio hin hi] at h1 h2
    obtain ⟨q, hq, he⟩ := (within_iff _ _).1 h1
    rw [h] at h2
    have hx : x = q ++ bs ns[i] := by
      have e2 : x = Lib.trimSuffix g (bs os[i]) ++ bs ns[i] := congrArg Prod.fst h2
      have e3 : Lib.trimSuffix (q ++ bs os[i]) (bs os[i]) = q := trim_app _ _
      rw [← (show g = q ++ bs os[i] from hq)] at e3
      rw [e2, e3]
    have hp : i < (prs ns os).length := by rw [prs_len ns os hl.symm]; exact hin
    have e := prs_at ns os i hin hio hp
    have := grp_at (ps := prs ns os) (by rw [prs_fst ns os hl.symm]; exact hdn) hp (g := x) (by rw [e]; exact (within_iff _ _).2 ⟨q, hx, he⟩)
    have e3 : Lib.trimSuffix (q ++ bs ns[i]) (bs ns[i]) = q := trim_app _ _
    rw [this, e, hx]
    show (Lib.trimSuffix (q ++ bs ns[i]) (bs ns[i]) ++ bs os[i], true) = (g, true)
    rw [e3, ← (show g = q ++ bs os[i] from hq)]
  · rw [h] at h2
    cases h2

theorem pair_lt {w : World} {g n : Nat} {os ns : List ByteArray} {k : Nat} (h : PairRow w g n os ns k) : g < w.heap.size := by
  obtain ⟨cur, h1, _⟩ := h
  exact (Array.getElem?_eq_some_iff.1 h1).1

theorem group_at (gb : Nat) (os ns : List ByteArray) (g r : ByteArray) (ok : Bool) (w : World) (hl : ns.length = os.length) (hbig : os.length ≤ 1048576) (hP : PairRow w gb os.length os ns os.length)
    (hg : g.size ≤ 3000000) (ho : ∀ s ∈ os, s.size ≤ 1048576) (hn : ∀ s ∈ ns, s.size ≤ 1048576) (h : grp (prs os ns) (bs g) = (bs r, ok)) :
    Calls Try.prog 9 #[.agg #[.slice (some ⟨gb, 0, none⟩) os.length os.length], .string g] w fun e w' => e = .returned (.tuple #[.string r, .bool ok]) ∧ Below w.heap.size w w' := by
  refine (group_any gb os ns g w hl hbig hP (pair_lt hP) hg ho hn).mono fun e w' ⟨r', h1, h2, h3⟩ => ⟨?_, h3⟩
  rw [h] at h1 h2
  rw [h1, bs_inj (a := r') (b := r) h2]

set_option maxRecDepth 100000 in
set_option maxHeartbeats 1000000 in
theorem ren_walk (a1 : Option Addr) (c1 : Nat) (a2 : Option Addr) (c2 : Nat) (os ns : List ByteArray) (g : ByteArray) (w : World)
    (hO : StrsB w.heap.size w a1 os) (hN : StrsB w.heap.size w a2 ns) (o0 : a1 = none → os = []) (n0 : a2 = none → ns = []) (b1 : os.length ≤ 4096) (b2 : ns.length ≤ 4096) (b3 : g.size ≤ 4096)
    (hso : ∀ s ∈ os, s.size ≤ maxLen) (hsn : ∀ s ∈ ns, s.size ≤ maxLen) :
    Calls Try.prog 3 #[.slice a1 os.length c1, .slice a2 ns.length c2, .string g] w fun e w' => e = .returned (.bool true) ∧ Below w.heap.size w w' := by
  have kB := bytes3_any a1 c1 _ a2 c2 _ os ns g w (by unfold maxLen; omega) (by unfold maxLen; omega) (by unfold maxLen; omega) hO hN hso hsn
  have hnil1 := fun w => run_neq_slice_nil_any (P := Try.prog) w 22 9 a1 os.length c1 0 0 Try.underlying22
  have hnil2 := fun w => run_neq_slice_nil_any (P := Try.prog) w 22 9 a2 ns.length c2 0 0 Try.underlying22
  obtain ⟨i0, hi, hz0, hz1, hz2⟩ := info_parts info9
  go_enter Try.func3, Try.ntmps3
  go_wp2_with fail
  refine kB.mono ?_
  rintro e w' ⟨x, rfl, rfl, hx⟩
  clear kB hso hsn
  cases x
  · clear hnil1 hnil2
    go_wp2
    go_ret
    exact ⟨rfl, Below.refl _ _⟩
  · obtain ⟨so, sn⟩ := hx rfl
    clear hx
    go_upto_if 37 with fail
    go_cut [0] (fun v wc => ∃ a' c', v = .slice a' os.length c' ∧ StrsB wc.heap.size wc a' os ∧ Below w.heap.size w wc)
    case first =>
      cases a1 with
      | none =>
        have E0 : Hid (os = []) := o0 rfl
        clear hnil1 hnil2 o0
        go_wp2
        go_meet
        case rel => exact ⟨none, c1, rfl, .inl E0.out, Below.refl _ _⟩
      | some x =>
        clear hnil1 hnil2
        go_wp2_with (first
          | (at_make; refine wpList_make_full _ rfl _ _ 22 rfl w.heap.size 9 i0 (.string ByteArray.empty) 1 Try.underlying22 hi hz0 hz1 _ _ _ _ os.length rfl rfl rfl rfl (by rw [hz2]; omega) (by unfold maxLen; omega) (Nat.le_refl _) ?_; intro w0 hown0 hg0; obtain ⟨cur, hcur, hcs⟩ := own_heap hown0; have hb0 : Below w.heap.size w w0 := (Below.refl _ _).grown hg0 (Nat.le_refl _) (fun k h => by cases h); have hO0 := hO.below hb0 (Nat.le_refl _))
          | (refine wpList_copy_splice rfl (.tmp 41) (.tmp 42) 22 22 rfl 9 Try.underlying22 size9 _ _ _ _ _ _ rfl rfl w.heap.size 0 cur 9 hcur (os.map Value.string) (by show _ = min _ _; simp) (fun hp => ⟨rfl, strs_src hO0 hp⟩) (by simp [hcs]) (strs_one os) w.heap.size w hb0 (Nat.le_refl _) ?_; intro w1 HG1 hb1))
        go_meet
        case rel => exact ⟨_, _, rfl, strs_copied HG1.out hcs, hb1⟩
    case rest =>
      obtain ⟨a1', c1', rfl, hO1, hbA⟩ := hcut
      have hN1 := hN.below hbA (Nat.le_refl _)
      clear hO hN o0 hnil1
      go_upto_if 46 with fail
      rename World => W1
      go_cut [1] (fun v wc => ∃ a' c', v = .slice a' ns.length c' ∧ StrsB wc.heap.size wc a' ns ∧ StrsB wc.heap.size wc a1' os ∧ Below w.heap.size w wc)
      case first =>
        cases a2 with
        | none =>
          have E0 : Hid (ns = []) := n0 rfl
          clear hnil2 n0
          go_wp2
          go_meet
          case rel => exact ⟨none, c2, rfl, .inl E0.out, hO1, hbA⟩
        | some x =>
          clear hnil2
          go_wp2_with (first
            | (at_make; refine wpList_make_full _ rfl _ _ 22 rfl W1.heap.size 9 i0 (.string ByteArray.empty) 1 Try.underlying22 hi hz0 hz1 _ _ _ _ ns.length rfl rfl rfl rfl (by rw [hz2]; omega) (by unfold maxLen; omega) (Nat.le_refl _) ?_; intro w0 hown0 hg0; obtain ⟨cur, hcur, hcs⟩ := own_heap hown0; have hb0 : Below W1.heap.size W1 w0 := (Below.refl _ _).grown hg0 (Nat.le_refl _) (fun k h => by cases h); have hN0 := hN1.below hb0 hbA.size)
            | (refine wpList_copy_splice rfl (.tmp 50) (.tmp 51) 22 22 rfl 9 Try.underlying22 size9 _ _ _ _ _ _ rfl rfl W1.heap.size 0 cur 9 hcur (ns.map Value.string) (by show _ = min _ _; simp) (fun hp => ⟨rfl, strs_src hN0 hp⟩) (by simp [hcs]) (strs_one ns) W1.heap.size W1 hb0 (Nat.le_refl _) ?_; intro w1 HG1 hb1))
          go_meet
          case rel => exact ⟨_, _, rfl, strs_copied HG1.out hcs, (hO1.below hb1 (Nat.le_refl _)).mono hb1.size, hbA.trans (hb1.mono hbA.size)⟩
      case rest =>
        obtain ⟨a2', c2', rfl, hN2, hO2, hbB⟩ := hcut
        clear hO1 hN1 hbA hnil2 n0
        go_wp2_with fail
        rename World => W2
        go_loop [9, 10] (fun z i => ∃ (t : Int) (k : Nat), 0 ≤ t ∧ t ≤ 1048576 ∧ z = .int .i64 t ∧ k ≤ os.length ∧ i = .int .i64 k) (fun _ i => os.length - (intOf i).toNat)
        case atStart => exact ⟨_, 0, by omega, by omega, rfl, Nat.zero_le _, rfl⟩
        case round =>
          obtain ⟨t, k, ht0, ht1, rfl, hk, rfl⟩ := hrel
          by_cases hlt : k < os.length
          · obtain ⟨b, off, rfl, _, hc⟩ := hO2.addr (by omega)
            have g1 : W2.cell? ⟨b, off + k, none⟩ = some (.string (os.getD k ByteArray.empty)) := hc k hlt
            have z1 := so _ (List.getElem_mem hlt)
            clear hc hO2 hN2 so sn
            go_wp2
            · go_ret
              exact ⟨rfl, hbB⟩
            · go_round
              case rel => exact ⟨_, k + 1, by omega, by omega, rfl, by omega, by go_num⟩
              case measure => simp [intOf]; omega
          · go_wp2
            go_loop [9, 11] (fun z i => ∃ (t : Int) (k : Nat), 0 ≤ t ∧ t ≤ 1048576 ∧ z = .int .i64 t ∧ k ≤ ns.length ∧ i = .int .i64 k) (fun _ i => ns.length - (intOf i).toNat)
            case atStart => exact ⟨_, 0, by omega, by omega, rfl, Nat.zero_le _, rfl⟩
            case round =>
              obtain ⟨t2, k2, hu0, hu1, rfl, hk2, rfl⟩ := hrel
              by_cases hlt2 : k2 < ns.length
              · obtain ⟨b, off, rfl, _, hc⟩ := hN2.addr (by omega)
                have g1 : W2.cell? ⟨b, off + k2, none⟩ = some (.string (ns.getD k2 ByteArray.empty)) := hc k2 hlt2
                have z1 := sn _ (List.getElem_mem hlt2)
                clear hc hO2 hN2 so sn
                go_wp2
                · go_ret
                  exact ⟨rfl, hbB⟩
                · go_round
                  case rel => exact ⟨_, k2 + 1, by omega, by omega, rfl, by omega, by go_num⟩
                  case measure => simp [intOf]; omega
              · by_cases hl : ns.length = os.length
                · have hne : ((os.length : Int) != (ns.length : Int)) = false := by simp [hl]
                  have HL : Hid (ns.length = os.length) := hl
                  clear hl
                  have kD := disj_any a1' c1' _ os W2 hO2 (by omega) so
                  go_wp2_with fail
                  refine kD.mono ?_
                  rintro e w3 ⟨x, q, rfl, rfl, hx⟩
                  clear kD
                  cases x
                  · go_wp2
                    go_ret
                    exact ⟨rfl, bdraw hbB q⟩
                  · have hdo := hx rfl
                    clear hx
                    have kE := disj_any a2' c2' _ ns (W2.drewN q) (hN2.heap rfl) (by omega) sn
                    go_wp2_with fail
                    refine kE.mono ?_
                    rintro e w3 ⟨x, q2, rfl, rfl, hx⟩
                    clear kE
                    cases x
                    · go_wp2
                      go_ret
                      exact ⟨rfl, bdraw hbB (q + q2)⟩
                    · have hdn := hx rfl
                      clear hx
                      rw [World.drewN_drewN]
                      have hO3 : StrsB (W2.drewN (q + q2)).heap.size (W2.drewN (q + q2)) a1' os := hO2.heap rfl
                      have hN3 : StrsB (W2.drewN (q + q2)).heap.size (W2.drewN (q + q2)) a2' ns := hN2.heap rfl
                      have hb3 := bdraw hbB (q + q2)
                      clear hO2 hN2 hbB
                      generalize W2.drewN (q + q2) = W3 at *
                      have kM := model_any a1' c1' _ a2' c2' _ os ns g W3 HL.out (by omega) (by omega) sn hO3 hN3
                      go_wp2_with fail
                      refine kM.mono ?_
                      rintro e w4 ⟨r, ok, q3, rfl, rfl, hM⟩
                      clear kM
                      have hG := model_eq hM HL.out hdo
                      have hrs := model_size hM b3 sn
                      have hO4 : StrsB (W3.drewN q3).heap.size (W3.drewN q3) a1' os := hO3.heap rfl
                      have hN4 : StrsB (W3.drewN q3).heap.size (W3.drewN q3) a2' ns := hN3.heap rfl
                      have hb4 := bdraw hb3 q3
                      clear hO3 hN3 hb3 hM
                      generalize W3.drewN q3 = W4 at *
                      have kN := newMap_any a1' c1' _ a2' c2' _ os ns W4 HL.out (by omega) hO4 hN4 (Nat.le_refl _) (Nat.le_refl _)
                      go_wp2_with fail
                      refine kN.mono ?_
                      rintro e w5 ⟨rfl, hP5, hb5⟩
                      clear kN
                      have kG := group_at (W4.heap.size + 1) os ns g r ok w5 HL.out (by omega) hP5 (by omega) so sn hG
                      go_wp2_with fail
                      refine kG.mono ?_
                      rintro e w6 ⟨rfl, hb6⟩
                      clear kG
                      have hO6 := ((hO4.below hb5 (Nat.le_refl _)).below hb6 hb5.size).mono (Nat.le_trans hb5.size hb6.size)
                      have hN6 := ((hN4.below hb5 (Nat.le_refl _)).below hb6 hb5.size).mono (Nat.le_trans hb5.size hb6.size)
                      have hbz : Below w.heap.size w w6 := (hb4.trans (hb5.mono hb4.size)).trans (hb6.mono (Nat.le_trans hb4.size hb5.size))
                      clear hO4 hN4 hb4 hb5 hb6 hP5
                      cases ok
                      · clear hG
                        go_wp2
                        go_ret
                        exact ⟨rfl, hbz⟩
                      · have hU := undo HL.out hdn hG
                        clear hG
                        have kN := newMap_any a2' c2' _ a1' c1' _ ns os w6 HL.out.symm (by omega) hN6 hO6 (Nat.le_refl _) (Nat.le_refl _)
                        go_wp2_with fail
                        refine kN.mono ?_
                        rintro e w7 ⟨rfl, hP7, hb7⟩
                        clear kN
                        have kG := group_at (w6.heap.size + 1) ns os r g true w7 HL.out.symm (by omega) hP7 hrs sn so hU
                        go_wp2_with fail
                        refine kG.mono ?_
                        rintro e w8 ⟨rfl, hb8⟩
                        clear kG hU
                        have hbe : Below w.heap.size w w8 := (hbz.trans (hb7.mono hbz.size)).trans (hb8.mono (Nat.le_trans hbz.size hb7.size))
                        go_wp2
                        go_ret
                        exact ⟨rfl, hbe⟩
                · have hne : ((os.length : Int) != (ns.length : Int)) = true := by simp; omega
                  clear hl
                  go_wp2
                  go_ret
                  exact ⟨rfl, hbB⟩

end Go.Proofs.Qxb6630867a
