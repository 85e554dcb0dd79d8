import Derived.Test.Qxb6630867aC
import Derived.RegionTactic
import Derived.BigRegion
namespace Go.Proofs.Qxb6630867a
open Go.RowKit

theorem info35 : (Try.prog.info? 35).map (fun i => (i.zero, i.size, i.bytes)) = some (some (.agg #[.string ByteArray.empty, .string ByteArray.empty]), 2, 32) := by kernel_rfl

def PairRow (w : World) (g n : Nat) (os ns : List ByteArray) (k : Nat) : Prop :=
  ∃ cur : Array Value, w.heap[g]? = some (.cells cur 35 (0, 0)) ∧ cur.size = n * 2 ∧ ∀ j, ∀ hj : j < os.length, ∀ hn : j < ns.length, j < k → cur[j * 2]? = some (.string os[j]) ∧ cur[j * 2 + 1]? = some (.string ns[j])

theorem cell_of {w : World} {b o : Nat} {cs : Array Value} {t : TypeId} {v : Value} (h : w.heap[b]? = some (.cells cs t (0, 0))) (hv : cs[o]? = some v) : w.cell? ⟨b, o, none⟩ = some v := by
  simp [World.cell?, h, hv]
theorem free_of {w : World} {b o : Nat} {cs : Array Value} {t : TypeId} (h : w.heap[b]? = some (.cells cs t (0, 0))) : w.frozen? ⟨b, o, none⟩ = false := by
  simp [World.frozen?, h]

theorem pair_step {w : World} {g n : Nat} {os ns : List ByteArray} {k : Nat} (h : PairRow w g n os ns k) (hn : k < n) (hko : k < os.length) (hkn : k < ns.length) :
    PairRow (((w.setCell ⟨g, k * 2, none⟩ (.string os[k])).setCell ⟨g, k * 2 + 1, none⟩ (.string ns[k])).drew) g n os ns (k + 1) := by
  obtain ⟨cur, h1, h2, h3⟩ := h
  have e1 := heap_setCell_same w g (k * 2) cur 35 (.string os[k]) h1
  have e2 := heap_setCell_same _ g (k * 2 + 1) _ 35 (.string ns[k]) e1
  refine ⟨_, e2, by simpa using h2, fun j hj hn' hjk => ?_⟩
  by_cases e : j = k
  · subst e
    constructor
    · rw [Array.getElem?_setIfInBounds_ne (by omega), Array.getElem?_setIfInBounds_self_of_lt (by omega)]
    · rw [Array.getElem?_setIfInBounds_self_of_lt (by simp; omega)]
  · obtain ⟨x1, x2⟩ := h3 j hj hn' (by omega)
    constructor
    · rw [Array.getElem?_setIfInBounds_ne (by omega), Array.getElem?_setIfInBounds_ne (by omega)]
      exact x1
    · rw [Array.getElem?_setIfInBounds_ne (by omega), Array.getElem?_setIfInBounds_ne (by omega)]
      exact x2

theorem pair_cells {w : World} {g n : Nat} {os ns : List ByteArray} {k : Nat} (h : PairRow w g n os ns k) (hn : k < n) :
    ∃ v0 v1, w.cell? ⟨g, k * 2, none⟩ = some v0 ∧ w.cell? ⟨g, k * 2 + 1, none⟩ = some v1 ∧ w.frozen? ⟨g, k * 2, none⟩ = false ∧ w.frozen? ⟨g, k * 2 + 1, none⟩ = false := by
  obtain ⟨cur, h1, h2, _⟩ := h
  have a : k * 2 < cur.size := by omega
  have b : k * 2 + 1 < cur.size := by omega
  exact ⟨cur[k * 2], cur[k * 2 + 1], cell_of h1 (Array.getElem?_eq_getElem a), cell_of h1 (Array.getElem?_eq_getElem b), free_of h1, free_of h1⟩

theorem pair_start {w w0 : World} (n : Nat) (os ns : List ByteArray) (hown : w0.ownsRow (w.heap.size + 1) 35 2 (.slice (some ⟨(w.alloc (.cells #[.slice none 0 0] 29)).heap.size, 0, none⟩) n n) n (madeCells (Value.agg #[.string ByteArray.empty, .string ByteArray.empty]).cells (n * 2)).toList) (hg : (w.alloc (.cells #[.slice none 0 0] 29)).grownBy w0 none) :
    PairRow w0 (w.heap.size + 1) n os ns 0 ∧ w0.heap[w.heap.size]? = some (.cells #[.slice none 0 0] 29 (0, 0)) ∧ Below w.heap.size w w0 := by
  refine ⟨?_, (hg.block w.heap.size (by simp) (by simp)).trans (heap_alloc_new w _), ((Below.refl _ _).alloc (Nat.le_refl _) _).trans ((Below.refl _ _).grown hg (by simp) (fun k h => by cases h))⟩
  rcases hown.2 with ⟨h, _⟩ | ⟨g, cap, cur, hv, hb, hh, _, _, hcs, _⟩
  · cases h
  · simp at hv
    obtain ⟨rfl, rfl⟩ := hv
    exact ⟨cur, hh, hcs, fun j _ _ h => absurd h (Nat.not_lt_zero _)⟩

theorem newMap_any (a : Option Addr) (c B : Nat) (a2 : Option Addr) (c2 B2 : Nat) (os ns : List ByteArray) (w : World) (hl : ns.length = os.length) (hbig : os.length ≤ 1048576)
    (hO : StrsB B w a os) (hN : StrsB B2 w a2 ns) (hB : B ≤ w.heap.size) (hB2 : B2 ≤ w.heap.size) :
    Calls Try.prog 8 #[.slice a os.length c, .slice a2 ns.length c2] w fun e w' => e = .returned (.agg #[.slice (some ⟨w.heap.size + 1, 0, none⟩) os.length os.length]) ∧ PairRow w' (w.heap.size + 1) os.length os ns os.length ∧ Below w.heap.size w w' := by
  obtain ⟨i0, hi, hz0, hz1, hz2⟩ := info_parts info35
  have HL : Hid (ns.length = os.length) := hl
  have hlt : ¬ ((ns.length : Int) < (os.length : Int)) := by omega
  clear hl
  go_enter Try.func8, Try.ntmps8
  go_wp2_with (at_make; refine wpList_make_full _ rfl _ _ 27 rfl (w.heap.size + 1) 35 i0 (.agg #[.string ByteArray.empty, .string ByteArray.empty]) 2 Try.underlying27 hi hz0 hz1 _ _ _ _ os.length rfl rfl rfl rfl (by rw [hz2]; omega) (by unfold maxLen; omega) (by simp) ?_; intro w0 hown0 hg0)
  obtain ⟨hst, hres, hb0⟩ := pair_start os.length os ns hown0 hg0
  clear hown0 hg0
  go_loopw [7] (fun i wr => ∃ k : Nat, k ≤ os.length ∧ i = .int .i64 k ∧ PairRow wr (w.heap.size + 1) os.length os ns k ∧ wr.heap[w.heap.size]? = some (.cells #[.slice none 0 0] 29 (0, 0)) ∧ Below w.heap.size w wr) (fun i _ => os.length - (intOf i).toNat)
  case atStart => exact ⟨0, Nat.zero_le _, rfl, hst, hres, hb0⟩
  case round =>
    obtain ⟨k, hk, rfl, hP, hR, hbx⟩ := hrel
    by_cases hkl : k < os.length
    · have hkn : k < ns.length := by rw [HL.out]; exact hkl
      obtain ⟨b, off, rfl, hb, hc⟩ := (hO.below hbx hB).addr (by omega)
      obtain ⟨b2, off2, rfl, hb2, hc2⟩ := (hN.below hbx hB2).addr (by omega)
      have g1 : wr.cell? ⟨b, off + k, none⟩ = some (.string (os.getD k ByteArray.empty)) := hc k hkl
      have g2 : wr.cell? ⟨b2, off2 + k, none⟩ = some (.string (ns.getD k ByteArray.empty)) := hc2 k hkn
      have i1 : (k : Int) < (os.length : Int) := by omega
      have i2 : (k : Int) < (ns.length : Int) := by omega
      obtain ⟨v0, v1, f0, f1, f2, f3⟩ := pair_cells hP hkl
      have hP' := pair_step hP hkl hkl hkn
      have hR' : ((wr.setCell ⟨w.heap.size + 1, k * 2, none⟩ (.string os[k])).setCell ⟨w.heap.size + 1, k * 2 + 1, none⟩ (.string ns[k])).heap[w.heap.size]? = some (.cells #[.slice none 0 0] 29 (0, 0)) := by
        rw [heap_setCell_other _ _ _ _ (by simp), heap_setCell_other _ _ _ _ (by simp)]
        exact hR
      have HR : Hid _ := hR'
      have HP : Hid _ := hP'
      clear hc hc2 hO hN hP hR hP' hR' hst hres hb0
      go_wp2
      go_region
      go_wp2
      go_roundw
      case rel => exact ⟨k + 1, by omega, by go_num, HP.out, HR.out, ((hbx.setCell (by simp) _).setCell (by simp) _).drew⟩
      case measure => simp [intOf]; omega
    · have ek : k = os.length := by omega
      have r1 := cell_of (o := 0) (v := .slice none 0 0) hR rfl
      have r2 := free_of (o := 0) hR
      have HR : Hid _ := hR
      clear hst hres hb0 hR
      go_wp2
      refine bodyPost_ret (v := .agg #[.slice (some ⟨w.heap.size + 1, 0, none⟩) os.length os.length]) ?_ rfl ⟨rfl, ?_, hbx.setCell (by simp) _⟩
      · have q0 : (wr.setCell ⟨w.heap.size, 0, none⟩ (.slice (some ⟨w.heap.size + 1, 0, none⟩) os.length os.length)).cell? ⟨w.heap.size, 0, none⟩ = some (.slice (some ⟨w.heap.size + 1, 0, none⟩) os.length os.length) :=
          cell_of (heap_setCell_same wr w.heap.size 0 _ 29 _ HR.out) rfl
        simp [results, Try.results8, go_sem, q0]
      · obtain ⟨cur, h1, h2, h3⟩ := hP
        refine ⟨cur, (heap_setCell_other _ _ _ _ (by simp)).trans h1, h2, fun j h4 h5 h6 => h3 j h4 h5 (by omega)⟩

end Go.Proofs.Qxb6630867a
