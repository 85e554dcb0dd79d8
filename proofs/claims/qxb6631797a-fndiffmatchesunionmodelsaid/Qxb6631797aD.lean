import Derived.Test.Qxb6631797aC
namespace Go.Proofs.Qxb6631797a
open Go.RowKit Go.Maps Go.Sort

def Got1 (E A : Fn) (left : List UInt8 → Bool) (ss : List (List UInt8)) : Prop := ss.Nodup ∧ ∀ k, k ∈ ss ↔ ((E k).isSome = true ∧ left k = false ∧ A k ≠ E k)
def Got2 (E A : Fn) (left : List UInt8 → Bool) (ss : List (List UInt8)) : Prop := ss.Nodup ∧ ∀ k, k ∈ ss ↔ ((E k).isSome = true ∧ A k ≠ E k) ∨ ((A k).isSome = true ∧ left k = false ∧ E k = none)

theorem Got1.start (E A : Fn) : Got1 E A (fun k => (E k).isSome) [] := ⟨List.nodup_nil, fun k => by
  constructor
  · intro h; cases h
  · rintro ⟨h1, h2, _⟩; simp only [h1] at h2; cases h2⟩

theorem Got1.add {E A : Fn} {left : List UInt8 → Bool} {ss : List (List UInt8)} (h : Got1 E A left ss) {x : List UInt8} (hx : left x = true) (hE : (E x).isSome = true) (hne : A x ≠ E x) : Got1 E A (fun z => left z && !decide (z = x)) (ss ++ [x]) := by
  refine ⟨List.nodup_append.2 ⟨h.1, by simp, ?_⟩, fun k => ?_⟩
  · intro a ha b hb
    simp at hb
    subst hb
    rintro rfl
    have := ((h.2 _).1 ha).2.1
    rw [hx] at this
    cases this
  · rw [List.mem_append, h.2 k]
    by_cases e : k = x
    · subst e; simp [hE, hne]
    · simp [e]

theorem Got1.skip {E A : Fn} {left : List UInt8 → Bool} {ss : List (List UInt8)} (h : Got1 E A left ss) {x : List UInt8} (hne : A x = E x) : Got1 E A (fun z => left z && !decide (z = x)) ss := by
  refine ⟨h.1, fun k => ?_⟩
  rw [h.2 k]
  by_cases e : k = x
  · subst e; simp [hne]
  · simp [e]

theorem Got1.done {E A : Fn} {left : List UInt8 → Bool} {ss : List (List UInt8)} (h : Got1 E A left ss) (hl : ∀ k, left k = false) : Got2 E A (fun k => (A k).isSome) ss := ⟨h.1, fun k => by
  rw [h.2 k]
  constructor
  · rintro ⟨h1, _, h3⟩; exact .inl ⟨h1, h3⟩
  · rintro (⟨h1, h3⟩ | ⟨h1, h2, _⟩)
    · exact ⟨h1, hl k, h3⟩
    · simp only [h1] at h2; cases h2⟩

theorem Got2.add {E A : Fn} {left : List UInt8 → Bool} {ss : List (List UInt8)} (h : Got2 E A left ss) {x : List UInt8} (hx : left x = true) (hA : (A x).isSome = true) (hE : E x = none) : Got2 E A (fun z => left z && !decide (z = x)) (ss ++ [x]) := by
  refine ⟨List.nodup_append.2 ⟨h.1, by simp, ?_⟩, fun k => ?_⟩
  · intro a ha b hb
    simp at hb
    subst hb
    rintro rfl
    rcases (h.2 _).1 ha with h1 | h1
    · rw [hE] at h1; cases h1.1
    · rw [hx] at h1; cases h1.2.1
  · rw [List.mem_append, h.2 k]
    by_cases e : k = x
    · subst e; simp [hE, hA]
    · simp [e]

theorem Got2.skip {E A : Fn} {left : List UInt8 → Bool} {ss : List (List UInt8)} (h : Got2 E A left ss) {x : List UInt8} (hE : (E x).isSome = true) : Got2 E A (fun z => left z && !decide (z = x)) ss := by
  refine ⟨h.1, fun k => ?_⟩
  rw [h.2 k]
  by_cases e : k = x
  · subst e
    have : E k ≠ none := fun e => by rw [e] at hE; cases hE
    simp [this]
  · simp [e]

theorem Got2.done {E A : Fn} {left : List UInt8 → Bool} {ss : List (List UInt8)} (h : Got2 E A left ss) (hl : ∀ k, left k = false) (k : List UInt8) : k ∈ ss ↔ E k ≠ A k := by
  rw [h.2 k]
  cases hE : E k <;> cases hA : A k <;> simp [hl]
  exact ⟨fun h e => h e.symm, fun h e => h e.symm⟩

def Keys (B : Nat) (w : World) (v : Value) (ss : List (List UInt8)) : Prop := w.ownsRow B 9 1 v ss.length (ss.map encStr)

def Diffs (E A : Fn) (w : World) (e : Ending) (w' : World) : Prop := ∃ v ss, e = .returned v ∧ Keys w.heap.size w' v ss ∧ ss.Nodup ∧ (∀ k, k ∈ ss ↔ E k ≠ A k) ∧ ss.Pairwise (fun x y => x ≤ y) ∧ Below w.heap.size w w'

theorem sorted_le (ss : List (List UInt8)) : (ss.mergeSort fun x y => decide (x ≤ y)).Pairwise (fun x y => x ≤ y) := by
  have := List.pairwise_mergeSort (le := fun x y : List UInt8 => decide (x ≤ y)) (fun a b c h1 h2 => by simp at *; exact List.le_trans h1 h2) (fun a b => by simp; exact List.le_total a b) ss
  simpa using this

theorem str_enc (x : ByteArray) : Value.string x = encStr (bs x) := rfl

set_option maxRecDepth 100000 in
set_option maxHeartbeats 2000000 in
theorem diff_any (m1 m2 : Option Nat) (n1 n2 B : Nat) (E A : Fn) (w : World) (h1 : Snap B w m1 n1 E) (h2 : Snap B w m2 n2 A) (hB : B ≤ w.heap.size) (hn1 : n1 ≤ 2097152) (hn2 : n2 ≤ 2097152) :
    Calls Try.prog 8 #[.map m1, .map m2] w fun e w' => Diffs E A w e w' := by
  obtain ⟨i0, hi, hz0, hz1, hz2⟩ := info_parts Try.info9
  have lo1 : ∀ b, m1 = some b → b < w.heap.size := fun b e => by
    rcases h1 with ⟨h, _⟩ | ⟨b', h, h', _⟩
    · rw [h] at e; cases e
    · rw [h] at e; cases e; omega
  have lo2 : ∀ b, m2 = some b → b < w.heap.size := fun b e => by
    rcases h2 with ⟨h, _⟩ | ⟨b', h, h', _⟩
    · rw [h] at e; cases e
    · rw [h] at e; cases e; omega
  go_enter Try.func8, Try.ntmps8
  go_wp2_with (first
    | (at_range; refine wpList_range_snap _ rfl _ rfl B m1 n1 E rfl h1 ?_; intro w0 cnt0 hrg0 hc0 hg0 hs0)
    | go_in)
  go_frame
  go_loopw [5] (fun v wr => ∃ (left : List UInt8 → Bool) (cnt : Nat) (ss : List (List UInt8)), Rng wr m1 w.heap.size n1 E left cnt ∧ ss.length + cnt ≤ n1 ∧ Keys w.heap.size wr v ss ∧ Got1 E A left ss ∧ Below w.heap.size w wr)
    (fun _ wr => rl wr m1 w.heap.size)
  case atStart =>
    exact ⟨_, cnt0, [], hrg0, by simpa using hc0, ⟨rfl, .inl ⟨rfl, rfl⟩⟩, Got1.start E A, (Below.refl _ _).grown hg0 (Nat.le_refl _) (fun j hj => by cases hj)⟩
  case round =>
    clear hg0 hs0 hrg0 hc0
    obtain ⟨left, cnt, ss, hrg, hcs, hrow, hG, hnx⟩ := hrel
    go_wp2_with (first
      | (at_next; refine wpList_next_rng _ rfl _ rfl m1 w.heap.size n1 E left cnt rfl hrg ?_ ?_)
      | go_in)
    · intro _ hl0
      rename World => w9
      have hG2 := hG.done hl0
      have HN : Hid (ss.length ≤ n1) := (by omega : ss.length ≤ n1)
      have HW : Hid (w.heap.size ≤ w9.heap.size) := hnx.size
      clear hG hcs hrg hl0
      go_wp2_with (first
        | (at_range; refine wpList_range_snap _ rfl _ rfl B m2 n2 A rfl (h2.below hnx hB) ?_; intro w0 cnt0 hrg0 hc0 hg0 hs0)
        | go_in)
      go_frame
      go_loopw [5] (fun v wr' => ∃ (left : List UInt8 → Bool) (cnt : Nat) (ss : List (List UInt8)), Rng wr' m2 w9.heap.size n2 A left cnt ∧ ss.length + cnt ≤ n1 + n2 ∧ Keys w.heap.size wr' v ss ∧ Got2 E A left ss ∧ Below w.heap.size w wr')
        (fun _ wr' => rl wr' m2 w9.heap.size)
      case atStart =>
        exact ⟨_, cnt0, ss, hrg0, by have := HN.out; omega, World.ownsRow.kept hrow hg0 (by cases Value.ownBlock _ <;> simp), hG2, hnx.grown hg0 hnx.size (fun j hj => by cases hj)⟩
      case round =>
        clear hg0 hs0 hrg0 hc0 hrow hnx hG2 HN
        obtain ⟨left, cnt, ss, hrg, hcs, hrow, hG, hnx⟩ := hrel
        go_wp2_with (first
          | (at_next; refine wpList_next_rng _ rfl _ rfl m2 w9.heap.size n2 A left cnt rfl hrg ?_ ?_)
          | go_in)
        · intro _ hl0
          have hD := hG.done hl0
          have hnd := hG.1
          rcases hrow.2 with ⟨rfl, hl⟩ | ⟨g, cap, cur, rfl, hbase, hb, k1, k2, k3, k4⟩
          · obtain rfl : ss = [] := List.eq_nil_of_length_eq_zero hl
            have hc := Try.slices_Sort_string_none none 0
            go_wp2_with (go_at_call 14; refine (hc _).mono ?_; rintro e w' ⟨rfl, rfl⟩)
            go_ret
            exact ⟨_, [], rfl, hrow, hnd, hD, List.Pairwise.nil, hnx⟩
          · have hH : Holds encStr wr g 0 ss.toArray := holds_of_block hb (by simpa using k4)
            have hgl := (Array.getElem?_eq_some_iff.1 hb).1
            have hc := Try.slices_Sort_string g 0 cap ss _ hH hgl (by omega)
            go_wp2_with (go_at_call 14; refine hc.mono ?_; rintro e w' ⟨rfl, nn, os, rfl⟩)
            go_ret
            have hp := List.mergeSort_perm ss (fun x y => decide (x ≤ y))
            refine ⟨_, ss.mergeSort (fun x y => decide (x ≤ y)), rfl, ?_, hp.nodup_iff.2 hnd, fun k => hp.mem_iff.trans (hD k), sorted_le ss, hnx.grown (grownBy_sorted _) hnx.size (fun j hj => by cases hj; exact hbase)⟩
            have := ownsRow_sorted (n := nn) (os := os) (ss := ss) (ts := ss.mergeSort (fun x y => decide (x ≤ y))) (by simp) hbase hb k1 k2 k3
            simpa [Keys] using this
        · intro x c w1 cnt1 hx hc hlx hAx hrg1 hlt hg1 hs1 hen
          clear hs1
          have hrow1 : Keys w.heap.size w1 _ ss := World.ownsRow.kept hrow hg1 (Or.inr (hrg.ne hrow).symm)
          have hnx1 := hnx.grown hg1 hnx.size (fun j hj => by cases hj; exact HW.out)
          obtain ⟨d, hlook, hd⟩ := (h1.below hnx1 hB).look hx
          have hA1 : (A (bs x)).isSome = true := by rw [hAx]; rfl
          have HC : Hid (ss.length + 1 ≤ n1 + n2 ∧ n1 ≤ 2097152 ∧ n2 ≤ 2097152 ∧ w.heap.size ≤ w1.heap.size) := ⟨by omega, hn1, hn2, hnx1.size⟩
          cases hE : E (bs x) with
          | none =>
            rw [hE] at hlook
            simp only [Option.isSome_none] at hlook
            clear hAx hd
            have HE : Hid (E (bs x) = none) := hE
            clear hE
            go_wp2_with (first
              | (at_builtin; refine wpList_append_own _ rfl _ _ 25 rfl w.heap.size 9 i0 (.string ⟨#[]⟩) 1 16 Try.underlying25 hi hz0 hz1 hz2 rfl (by decide) _ _ _ rfl (hrow1.alloc _) ⟨w1.heap.size, 0, none⟩ 1 1 [.string x] rfl rfl (cell_one_new _ _ _) (by simp [Value.oneCell']) (by have := HC.out; unfold maxLen; omega) (by have := HC.out; omega) (by have := HC.out; simp; omega) ?_; intro v' w3 hown' hg3 hnil3; go_frame)
              | go_in)
            have hrg3 := (hrg1.alloc _).kept hg3 (fun b hb => row_ne_low hrow1 (lo2 b hb)) (hrg1.ne hrow1)
            go_roundw
            case rel =>
              refine ⟨_, cnt1, ss ++ [bs x], hrg3, by simp; omega, by simpa [Keys] using hown', hG.add hlx hA1 HE.out, ?_⟩
              exact (hnx1.alloc hnx1.size _).grown hg3 (by have := hnx1.size; simp; omega) (fun j hj => (hrow1.lt j hj).1)
            case measure => rw [hrg3.left_eq, hrg.left_eq]; exact hlt
          | some y =>
            rw [hE] at hlook
            simp only [Option.isSome_some] at hlook
            have hE1 : (E (bs x)).isSome = true := by rw [hE]; rfl
            clear hE hAx hd
            go_wp2
            go_roundw
            case rel => exact ⟨_, cnt1, ss, hrg1, by omega, hrow1, hG.skip hE1, hnx1⟩
            case measure => rw [hrg1.left_eq, hrg.left_eq]; exact hlt
    · intro x c w1 cnt1 hx hc hlx hEx hrg1 hlt hg1 hs1 hen
      clear hs1
      have hrow1 : Keys w.heap.size w1 _ ss := World.ownsRow.kept hrow hg1 (Or.inr (hrg.ne hrow).symm)
      have hnx1 := hnx.grown hg1 hnx.size (fun j hj => by cases hj; exact Nat.le_refl _)
      obtain ⟨d, hlook, hd⟩ := (h2.below hnx1 hB).look hx
      have hE1 : (E (bs x)).isSome = true := by rw [hEx]; rfl
      have HC : Hid (ss.length + 1 ≤ n1 ∧ n1 ≤ 2097152 ∧ w.heap.size ≤ w1.heap.size) := ⟨by omega, hn1, hnx1.size⟩
      cases hA : A (bs x) with
      | none =>
        rw [hA] at hlook
        simp only [Option.isSome_none] at hlook
        have hne : A (bs x) ≠ E (bs x) := by rw [hA, hEx]; simp
        clear hA hEx hd
        go_wp2_with (first
          | (at_builtin; refine wpList_append_own _ rfl _ _ 25 rfl w.heap.size 9 i0 (.string ⟨#[]⟩) 1 16 Try.underlying25 hi hz0 hz1 hz2 rfl (by decide) _ _ _ rfl (hrow1.alloc _) ⟨w1.heap.size, 0, none⟩ 1 1 [.string x] rfl rfl (cell_one_new _ _ _) (by simp [Value.oneCell']) (by have := HC.out; unfold maxLen; omega) (by have := HC.out; omega) (by have := HC.out; simp; omega) ?_; intro v' w3 hown' hg3 hnil3; go_frame)
          | go_in)
        have hrg3 := (hrg1.alloc _).kept hg3 (fun b hb => row_ne_low hrow1 (lo1 b hb)) (hrg1.ne hrow1)
        go_roundw
        case rel =>
          refine ⟨_, cnt1, ss ++ [bs x], hrg3, by simp; omega, by simpa [Keys] using hown', hG.add hlx hE1 hne, ?_⟩
          exact (hnx1.alloc hnx1.size _).grown hg3 (by have := hnx1.size; simp; omega) (fun j hj => (hrow1.lt j hj).1)
        case measure => rw [hrg3.left_eq, hrg.left_eq]; exact hlt
      | some y =>
        rw [hA] at hlook
        simp only [Option.isSome_some] at hlook
        rw [hA] at hd
        simp only [Option.getD_some] at hd
        subst hd
        by_cases hdc : (d.toList == c.toList) = true
        · have heq : A (bs x) = E (bs x) := hA.trans ((congrArg some ((Lib.toList_data d).symm.trans ((eq_of_beq hdc).trans (Lib.toList_data c)))).trans hEx.symm)
          clear hA hEx
          go_wp2
          go_roundw
          case rel => exact ⟨_, cnt1, ss, hrg1, by omega, hrow1, hG.skip heq, hnx1⟩
          case measure => rw [hrg1.left_eq, hrg.left_eq]; exact hlt
        · have hdc' : (d.toList == c.toList) = false := by simpa using hdc
          have hne : A (bs x) ≠ E (bs x) := by
            rw [hA, hEx]
            intro e
            have e' := Option.some.inj e
            exact hdc (by rw [Lib.toList_data, Lib.toList_data, show d.data.toList = c.data.toList from e']; simp)
          clear hA hEx hdc
          go_wp2_with (first
            | (at_builtin; refine wpList_append_own _ rfl _ _ 25 rfl w.heap.size 9 i0 (.string ⟨#[]⟩) 1 16 Try.underlying25 hi hz0 hz1 hz2 rfl (by decide) _ _ _ rfl (hrow1.alloc _) ⟨w1.heap.size, 0, none⟩ 1 1 [.string x] rfl rfl (cell_one_new _ _ _) (by simp [Value.oneCell']) (by have := HC.out; unfold maxLen; omega) (by have := HC.out; omega) (by have := HC.out; simp; omega) ?_; intro v' w3 hown' hg3 hnil3; go_frame)
            | go_in)
          have hrg3 := (hrg1.alloc _).kept hg3 (fun b hb => row_ne_low hrow1 (lo1 b hb)) (hrg1.ne hrow1)
          go_roundw
          case rel =>
            refine ⟨_, cnt1, ss ++ [bs x], hrg3, by simp; omega, by simpa [Keys] using hown', hG.add hlx hE1 hne, ?_⟩
            exact (hnx1.alloc hnx1.size _).grown hg3 (by have := hnx1.size; simp; omega) (fun j hj => (hrow1.lt j hj).1)
          case measure => rw [hrg3.left_eq, hrg.left_eq]; exact hlt

end Go.Proofs.Qxb6631797a
