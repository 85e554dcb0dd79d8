import Derived.Test.Qxb6631797aI
namespace Go.Proofs.Qxb6631797a
open Go.RowKit Go.Maps Go.Sort

def SeenIs (w : World) (b n : Nat) (ss : List (List UInt8)) : Prop :=
  ∃ D : DataW Unit, w.ownsMap Try.prog 9 (plainElem Try.prog 4) b n D ∧ ∀ k, D.atKey (.string k) (.lit (.bool false)) = .lit (.bool (decide (k ∈ ss)))

theorem zero4 (w : World) : (zeroValue 4).run Try.prog w = .ok (.bool false) w := by kernel_rfl

theorem SeenIs.made (w : World) : SeenIs (w.alloc (.map #[] 0)) w.heap.size 0 [] := ⟨.map [], World.ownsMap_made _ _ _ _, fun _ => rfl⟩

theorem SeenIs.mono {w : World} {b n n' : Nat} {ss : List (List UInt8)} (h : SeenIs w b n ss) (hn : n ≤ n') : SeenIs w b n' ss := by
  obtain ⟨D, ⟨es, clock, h1, h2, h3, h4⟩, hf⟩ := h
  exact ⟨D, ⟨es, clock, h1, h2, Nat.le_trans h3 hn, h4⟩, hf⟩

theorem SeenIs.store {w : World} {b n : Nat} {ss : List (List UInt8)} (h : SeenIs w b n ss) (hn : n < maxLen) {s : ByteArray} (hs : s.size ≤ maxLen) :
    ∃ w', (Instr.mapUpdate 36 (.map (some b)) (.string s) (.bool true)).run Try.prog w = .ok () w' ∧ SeenIs w' b (n + 1) (ss ++ [bs s]) ∧ w.mapTurned w' b := by
  obtain ⟨D, hD, hf⟩ := h
  obtain ⟨w', h1, h2, h3⟩ := hD.store law9 Try.underlying36 hn (keyOf_str hs) (plainElem_bool Try.underlying4 true)
  refine ⟨w', h1, ⟨_, h2, fun k => ?_⟩, h3⟩
  by_cases hk : k = bs s
  · subst hk
    rw [Maps.atKey_put_same hD.isMap (law9.key (keyOf_str hs))]
    simp
  · rw [Maps.atKey_put_other (str_ne hk), hf k]
    simp [hk]

theorem SeenIs.look {w : World} {b n : Nat} {ss : List (List UInt8)} (h : SeenIs w b n ss) {s : ByteArray} (hs : s.size ≤ maxLen) :
    (Instr.lookup 36 (.map (some b)) (.string s) false).run Try.prog w = .ok (.bool (decide (bs s ∈ ss))) w := by
  obtain ⟨D, hD, hf⟩ := h
  obtain ⟨v, ps, h1, h2⟩ := hD.lookup law9 Try.underlying36 (zero4 w) (zd := .lit (.bool false)) (zp := []) (plainElem_bool Try.underlying4 false) (keyOf_str hs)
  rw [hf (bs s)] at h2
  rw [h1]
  unfold plainElem at h2
  rw [Try.underlying4] at h2
  cases v <;> simp at h2
  rw [h2.1]

theorem SeenIs.kept {w w' : World} {b n : Nat} {ss : List (List UInt8)} {row : Option Nat} (h : SeenIs w b n ss) (hg : w.grownBy w' row) (hne : some b ≠ row) : SeenIs w' b n ss := by
  obtain ⟨D, hD, hf⟩ := h
  exact ⟨D, hD.kept hg hne, hf⟩

theorem SeenIs.ne {w : World} {b n : Nat} {ss : List (List UInt8)} {base : Nat} {e : TypeId} {size : Nat} {v : Value} {q : Nat} {xs : List Value} (hs : SeenIs w b n ss) (h : w.ownsRow base e size v q xs) : some b ≠ v.ownBlock := by
  obtain ⟨D, ⟨es, clock, h1, _⟩, _⟩ := hs
  rcases h.2 with ⟨rfl, _⟩ | ⟨g, cap, cur, rfl, _, hb, _⟩
  · simp [Value.ownBlock]
  · intro e1
    have : b = g := by simpa [Value.ownBlock] using e1
    subst this
    rw [h1] at hb
    cases hb

theorem Keys.mono {B B' : Nat} {w : World} {v : Value} {ss : List (List UInt8)} (h : Keys B w v ss) (hB : B' ≤ B) : Keys B' w v ss := by
  refine ⟨h.1, ?_⟩
  rcases h.2 with h | ⟨g, cap, cur, rfl, hb, h⟩
  · exact .inl h
  · exact .inr ⟨g, cap, cur, rfl, by omega, h⟩

def Coll (B b : Nat) (w wr : World) (v : Value) (n : Nat) (ss : List (List UInt8)) : Prop :=
  Keys B wr v ss ∧ v ≠ .slice none 0 0 ∧ SeenIs wr b n ss ∧ ss.Nodup ∧ ss.length ≤ n ∧ (∀ x ∈ ss, x.length ≤ 1048576) ∧ Below B w wr

def Mem (f : Fn) (es : List (ByteArray × ByteArray)) (k : Nat) (ss : List (List UInt8)) : Prop := ∀ x, x ∈ ss ↔ ((f x).isSome = true ∨ (mk (es.take k) x).isSome = true)

theorem Mem.add {f : Fn} {es : List (ByteArray × ByteArray)} {k : Nat} {ss : List (List UInt8)} (h : Mem f es k ss) (hk : k < es.length) : Mem f es (k + 1) (ss ++ [bs es[k].1]) := fun x => by
  rw [List.mem_append, h x, mk_step es k hk]
  unfold upd
  by_cases e : x = bs es[k].1
  · simp [e]
  · simp [e]

theorem Mem.skip {f : Fn} {es : List (ByteArray × ByteArray)} {k : Nat} {ss : List (List UInt8)} (h : Mem f es k ss) (hk : k < es.length) (hm : bs es[k].1 ∈ ss) : Mem f es (k + 1) ss := fun x => by
  rw [mk_step es k hk]
  unfold upd
  by_cases e : x = bs es[k].1
  · subst e; simp [hm]
  · simp only [e, if_false]; exact h x

theorem snoc_nodup {ss : List (List UInt8)} {x : List UInt8} (h : ss.Nodup) (hx : x ∉ ss) : (ss ++ [x]).Nodup := by
  refine List.nodup_append.2 ⟨h, by simp, ?_⟩
  intro a ha b hb
  simp at hb
  subst hb
  rintro rfl
  exact hx ha

theorem bs_length (x : ByteArray) : (bs x).length = x.size := Array.length_toList

theorem Coll.row2 {B b : Nat} {w wr : World} {v : Value} {n : Nat} {ss : List (List UInt8)} (h : Coll B b w wr v n ss) {w2 : World} (ht : wr.mapTurned w2 b) : Keys B w2 v ss :=
  World.ownsRow.kept h.1 ht.grown (Or.inr (h.2.2.1.ne h.1).symm)

theorem Coll.skip {B b : Nat} {w wr : World} {v : Value} {n : Nat} {ss : List (List UInt8)} (h : Coll B b w wr v n ss) : Coll B b w wr v (n + 1) ss :=
  ⟨h.1, h.2.1, h.2.2.1.mono (Nat.le_succ _), h.2.2.2.1, Nat.le_succ_of_le h.2.2.2.2.1, h.2.2.2.2.2⟩

theorem Coll.add {B b : Nat} {w wr : World} {v : Value} {n : Nat} {ss : List (List UInt8)} (h : Coll B b w wr v n ss) (hBw : B ≤ w.heap.size) (hb : B ≤ b) {x : ByteArray} (hx : x.size ≤ 1048576) (hm : bs x ∉ ss)
    {w2 : World} (hS2 : SeenIs w2 b (n + 1) (ss ++ [bs x])) (ht : wr.mapTurned w2 b) {o : Obj} {v' : Value} {w3 : World} (hown : w3.ownsRow B 9 1 v' (ss.length + 1) (ss.map encStr ++ [.string x])) (hg3 : (w2.alloc o).grownBy w3 v.ownBlock) (hnil : v' ≠ .slice none 0 0) :
    Coll B b w w3 v' (n + 1) (ss ++ [bs x]) := by
  have hrow2 := h.row2 ht
  obtain ⟨k1, k2, k3, k4, k5, k6, k7⟩ := h
  have hb2 : Below B w w2 := k7.grown ht.grown (Nat.le_trans hBw k7.size) (fun j hj => by cases hj; exact hb)
  refine ⟨by simpa [Keys] using hown, hnil, (hS2.kept (World.grownBy_alloc w2 o none) (by simp)).kept hg3 (hS2.ne hrow2), snoc_nodup k4 hm, by simp; omega, ?_, ?_⟩
  · intro y hy
    rcases List.mem_append.1 hy with hy | hy
    · exact k6 y hy
    · simp at hy
      rw [hy, bs_length]
      exact hx
  · exact (hb2.alloc (Nat.le_trans hBw hb2.size) _).grown hg3 (by have := hb2.size; simp; omega) (fun j hj => (hrow2.lt j hj).1)

theorem Mem.start (es : List (ByteArray × ByteArray)) : Mem (fun _ => none) es 0 [] := fun x => by simp [mk]

theorem Mem.next {es fs : List (ByteArray × ByteArray)} {ss : List (List UInt8)} (h : Mem (fun _ => none) es es.length ss) : Mem (mk es) fs 0 ss := fun x => by
  rw [h x, List.take_of_length_le (Nat.le_refl _)]
  simp [mk]

theorem Mem.done {es fs : List (ByteArray × ByteArray)} {ss : List (List UInt8)} (h : Mem (mk es) fs fs.length ss) : ∀ x, x ∈ ss ↔ ((mk es x).isSome = true ∨ (mk fs x).isSome = true) := fun x => by
  rw [h x, List.take_of_length_le (Nat.le_refl _)]

theorem diff_end {E A : Fn} {ss T : List (List UInt8)} (hn : ss.Nodup) (hm : ∀ x, x ∈ ss ↔ ((E x).isSome = true ∨ (A x).isSome = true)) (hp : T.Perm ss) (hs : T.Pairwise (fun x y => x ≤ y)) :
    (T.filter fun x => decide (E x ≠ A x)).Nodup ∧ (∀ k, k ∈ (T.filter fun x => decide (E x ≠ A x)) ↔ E k ≠ A k) ∧ (T.filter fun x => decide (E x ≠ A x)).Pairwise (fun x y => x ≤ y) := by
  refine ⟨(hp.nodup_iff.2 hn).filter _, fun k => ?_, hs.filter _⟩
  rw [List.mem_filter, hp.mem_iff, hm k]
  constructor
  · rintro ⟨_, h⟩; simpa using h
  · intro h
    refine ⟨?_, by simpa using h⟩
    cases hE : E k with
    | some _ => exact .inl rfl
    | none =>
      cases hA : A k with
      | some _ => exact .inr rfl
      | none => rw [hE, hA] at h; exact absurd rfl h

theorem beq_of {d1 d2 : ByteArray} (h : bs d1 = bs d2) : (d1.toList == d2.toList) = true := by
  rw [Lib.toList_data, Lib.toList_data, show d1.data.toList = d2.data.toList from h]
  simp
theorem bne_of {d1 d2 : ByteArray} (h : bs d1 ≠ bs d2) : (d1.toList == d2.toList) = false := by
  cases hq : (d1.toList == d2.toList)
  · rfl
  · exact absurd (beq_bs hq) h

theorem ways {E A : Fn} {k : List UInt8} {d1 d2 : ByteArray} (e1 : bs d1 = (E k).getD []) (e2 : bs d2 = (A k).getD []) :
    ((E k).isSome = true ∧ (A k).isSome = false ∧ Hid (E k ≠ A k)) ∨ ((E k).isSome = false ∧ (A k).isSome = true ∧ Hid (E k ≠ A k)) ∨
    ((E k).isSome = (A k).isSome ∧ (d1.toList == d2.toList) = true ∧ Hid (E k = A k)) ∨ ((E k).isSome = (A k).isSome ∧ (d1.toList == d2.toList) = false ∧ Hid (E k ≠ A k)) := by
  cases hE : E k with
  | none =>
    cases hA : A k with
    | none =>
      rw [hE] at e1
      rw [hA] at e2
      exact .inr (.inr (.inl ⟨rfl, beq_of (e1.trans e2.symm), rfl⟩))
    | some q => exact .inr (.inl ⟨rfl, rfl, show (none : Option (List UInt8)) ≠ some q by simp⟩)
  | some p =>
    cases hA : A k with
    | none => exact .inl ⟨rfl, rfl, show some p ≠ (none : Option (List UInt8)) by simp⟩
    | some q =>
      rw [hE] at e1
      rw [hA] at e2
      simp only [Option.getD_some] at e1 e2
      by_cases h : p = q
      · subst h
        exact .inr (.inr (.inl ⟨rfl, beq_of (e1.trans e2.symm), rfl⟩))
      · exact .inr (.inr (.inr ⟨rfl, bne_of (by rw [e1, e2]; exact h), show some p ≠ some q by simpa using h⟩))

def flt (E A : Fn) (T : List (List UInt8)) (k : Nat) : List (List UInt8) := (T.take k).filter fun x => decide (E x ≠ A x)

theorem flt_yes {E A : Fn} {T : List (List UInt8)} {k : Nat} (hk : k < T.length) (h : E T[k] ≠ A T[k]) : flt E A T (k + 1) = flt E A T k ++ [T[k]] := by
  unfold flt
  rw [List.take_succ_eq_append_getElem hk, List.filter_append]
  simp [h]
theorem flt_no {E A : Fn} {T : List (List UInt8)} {k : Nat} (hk : k < T.length) (h : E T[k] = A T[k]) : flt E A T (k + 1) = flt E A T k := by
  unfold flt
  rw [List.take_succ_eq_append_getElem hk, List.filter_append]
  simp [h]
theorem flt_len (E A : Fn) (T : List (List UInt8)) (k : Nat) : (flt E A T k).length ≤ k := by
  refine Nat.le_trans (List.length_filter_le _ _) ?_
  simp
  omega

end Go.Proofs.Qxb6631797a
