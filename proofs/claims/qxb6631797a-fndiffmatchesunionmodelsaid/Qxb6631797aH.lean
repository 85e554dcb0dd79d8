import Derived.Test.Qxb6631797aG
import Derived.Sort.Walk0
namespace Go.Proofs.Qxb6631797a
open Go.RowKit Go.Maps Go.Sort

theorem sorted_eq {ss ts : List (List UInt8)} (h1 : ss.Nodup) (h2 : ts.Nodup) (s1 : ss.Pairwise (fun x y => x ≤ y)) (s2 : ts.Pairwise (fun x y => x ≤ y)) (hm : ∀ k, k ∈ ss ↔ k ∈ ts) : ss = ts :=
  List.Perm.eq_of_pairwise (fun _ _ _ _ h h' => List.le_antisymm h h') s1 s2 ((List.perm_ext_iff_of_nodup h1 h2).2 hm)

theorem swp_perm : ∀ (L : List (List UInt8)) (i : Nat), i + 1 < L.length → ((L.set (i + 1) (L.getD i [])).set i (L.getD (i + 1) [])).Perm L
  | [], _, h => by simp at h
  | [_], _, h => by simp at h
  | x :: y :: B, 0, _ => List.Perm.swap x y B
  | x :: T, i + 1, h => by
    simp only [List.set_cons_succ, List.getD_cons_succ]
    exact (swp_perm T i (by simpa using h)).cons x

def SrtF (f : Nat → List UInt8) (i j : Nat) : Prop := ∀ a b, a < b → b ≤ i → b ≠ j → f a ≤ f b

theorem srt_swap {f g : Nat → List UInt8} {i j : Nat} (h : SrtF f i (j + 1)) (hj : j + 1 ≤ i) (hlt : f (j + 1) < f j) (g1 : g (j + 1) = f j) (g2 : g j = f (j + 1)) (g3 : ∀ a, a ≠ j → a ≠ j + 1 → g a = f a) : SrtF g i j := by
  intro a b hab hb hne
  by_cases e : b = j + 1
  · subst e
    rw [g1]
    by_cases e2 : a = j
    · subst e2
      rw [g2]
      exact List.le_of_lt hlt
    · rw [g3 a e2 (by omega)]
      exact h a j (by omega) (by omega) (by omega)
  · rw [g3 b hne e]
    by_cases e2 : a = j
    · subst e2
      rw [g2]
      exact h (a + 1) b (by omega) hb e
    · by_cases e3 : a = j + 1
      · subst e3
        rw [g1]
        exact h j b (by omega) hb e
      · rw [g3 a e2 e3]
        exact h a b hab hb e

theorem srt_end {f : Nat → List UInt8} {i j : Nat} (h : SrtF f i j) (hj : j = 0 ∨ ∃ q, j = q + 1 ∧ ¬ f (q + 1) < f q) : ∀ a b, a < b → b < i + 1 → f a ≤ f b := by
  intro a b hab hb
  by_cases e : b = j
  · subst e
    rcases hj with rfl | ⟨q, rfl, hq⟩
    · omega
    · by_cases e2 : a = q
      · subst e2; exact List.not_lt.1 hq
      · exact List.le_trans (h a q (by omega) (by omega) (by omega)) (List.not_lt.1 hq)
  · exact h a b hab (by omega) e

def Row (w : World) (g cap : Nat) (L : List (List UInt8)) : Prop := ∃ cur : Array Value, w.heap[g]? = some (.cells cur 9 (0, 0)) ∧ cur.size = cap ∧ L.length ≤ cap ∧ ∀ j, j < L.length → cur[j]? = some (encStr (L.getD j []))

theorem cell_of {w : World} {b o : Nat} {cs : Array Value} {t : TypeId} {v : Value} (h : w.heap[b]? = some (.cells cs t (0, 0))) (hv : cs[o]? = some v) : w.cell? ⟨b, o, none⟩ = some v := by
  simp [World.cell?, h, hv]
theorem free_of {w : World} {b o : Nat} {cs : Array Value} {t : TypeId} (h : w.heap[b]? = some (.cells cs t (0, 0))) : w.frozen? ⟨b, o, none⟩ = false := by
  simp [World.frozen?, h]

theorem Row.cell {w : World} {g cap : Nat} {L : List (List UInt8)} (h : Row w g cap L) {j : Nat} (hj : j < L.length) : ∃ x : ByteArray, bs x = L.getD j [] ∧ w.cell? ⟨g, j, none⟩ = some (.string x) ∧ w.frozen? ⟨g, j, none⟩ = false := by
  obtain ⟨cur, h1, h2, h3, h4⟩ := h
  exact ⟨⟨(L.getD j []).toArray⟩, rfl, cell_of h1 (h4 j hj), free_of h1⟩

theorem Row.heap {w w' : World} {g cap : Nat} {L : List (List UInt8)} (h : Row w g cap L) (e : w'.heap = w.heap) : Row w' g cap L := by
  obtain ⟨cur, h1, h⟩ := h
  exact ⟨cur, by rw [e]; exact h1, h⟩

theorem Row.swap {w : World} {g cap : Nat} {L : List (List UInt8)} (h : Row w g cap L) {j : Nat} (hj : j + 1 < L.length) {x y : ByteArray} (hx : bs x = L.getD (j + 1) []) (hy : bs y = L.getD j []) :
    Row ((w.setCell ⟨g, j + 1, none⟩ (.string y)).setCell ⟨g, j, none⟩ (.string x)) g cap ((L.set (j + 1) (L.getD j [])).set j (L.getD (j + 1) [])) := by
  obtain ⟨cur, h1, h2, h3, h4⟩ := h
  have e1 := heap_setCell_same w g (j + 1) cur 9 (.string y) h1
  have e2 := heap_setCell_same _ g j _ 9 (.string x) e1
  refine ⟨_, e2, by simpa using h2, by simpa using h3, fun k hk => ?_⟩
  have hx' : Value.string x = encStr (L.getD (j + 1) []) := by rw [← hx]
  have hy' : Value.string y = encStr (L.getD j []) := by rw [← hy]
  have hk' : k < L.length := by simpa using hk
  by_cases e : k = j
  · subst e
    rw [Array.getElem?_setIfInBounds_self_of_lt (by simp; omega), hx']
    simp [List.getD, hk']
  · rw [Array.getElem?_setIfInBounds_ne (by omega)]
    by_cases e3 : k = j + 1
    · subst e3
      rw [Array.getElem?_setIfInBounds_self_of_lt (by omega), hy']
      simp [List.getD, hk']
    · rw [Array.getElem?_setIfInBounds_ne (by omega), h4 k hk']
      simp [List.getD, List.getElem?_set_ne (show j ≠ k by omega), List.getElem?_set_ne (show j + 1 ≠ k by omega)]

theorem swp_at (L : List (List UInt8)) (j : Nat) (hj : j + 1 < L.length) :
    ((L.set (j + 1) (L.getD j [])).set j (L.getD (j + 1) [])).getD (j + 1) [] = L.getD j [] ∧ ((L.set (j + 1) (L.getD j [])).set j (L.getD (j + 1) [])).getD j [] = L.getD (j + 1) [] ∧ ∀ a, a ≠ j → a ≠ j + 1 → ((L.set (j + 1) (L.getD j [])).set j (L.getD (j + 1) [])).getD a [] = L.getD a [] := by
  refine ⟨?_, ?_, fun a h1 h2 => ?_⟩
  · simp [List.getD, hj]
  · simp [List.getD, show j < L.length by omega]
  · simp [List.getD, List.getElem?_set_ne (show j ≠ a by omega), List.getElem?_set_ne (show j + 1 ≠ a by omega)]

theorem Keys.row {B : Nat} {w : World} {g n c : Nat} {L : List (List UInt8)} (h : Keys B w (.slice (some ⟨g, 0, none⟩) n c) L) : Row w g c L ∧ n = L.length ∧ B ≤ g ∧ c ≤ maxLen := by
  rcases h.2 with ⟨h', _⟩ | ⟨g', cap, cur, hv, hb, hg, h1, h2, h3, h4⟩
  · cases h'
  · simp at hv
    obtain ⟨rfl, rfl, rfl⟩ := hv
    refine ⟨⟨cur, hg, by omega, h1, fun j hj => ?_⟩, rfl, hb, h2⟩
    have h5 : (cur.toList.take (L.length * 1))[j]? = (L.map encStr)[j]? := by rw [h4]
    rw [List.getElem?_take_of_lt (by omega)] at h5
    rw [← Array.getElem?_toList, h5]
    simp [List.getD, hj]

theorem Row.keys {B : Nat} {w : World} {g c : Nat} {L : List (List UInt8)} (h : Row w g c L) (hB : B ≤ g) (hc : c ≤ maxLen) : Keys B w (.slice (some ⟨g, 0, none⟩) L.length c) L := by
  obtain ⟨cur, h1, h2, h3, h4⟩ := h
  refine ⟨by simp, .inr ⟨g, c, cur, rfl, hB, h1, h3, hc, by omega, ?_⟩⟩
  apply List.ext_getElem?
  intro j
  by_cases hj : j < L.length
  · rw [List.getElem?_take_of_lt (by omega), Array.getElem?_toList, h4 j hj]
    simp [List.getD, hj]
  · rw [List.getElem?_take_eq_none (by omega), List.getElem?_eq_none (by simp; omega)]

theorem less_yes {x y : ByteArray} {a b : List UInt8} (hx : bs x = a) (hy : bs y = b) (h : a < b) : Op.bytesLess x.toList y.toList = true := by
  rw [bytesLess_eq, Lib.toList_data, Lib.toList_data, show x.data.toList = a from hx, show y.data.toList = b from hy]
  exact decide_eq_true h
theorem less_no {x y : ByteArray} {a b : List UInt8} (hx : bs x = a) (hy : bs y = b) (h : ¬ a < b) : Op.bytesLess x.toList y.toList = false := by
  rw [bytesLess_eq, Lib.toList_data, Lib.toList_data, show x.data.toList = a from hx, show y.data.toList = b from hy]
  exact decide_eq_false h

end Go.Proofs.Qxb6631797a
