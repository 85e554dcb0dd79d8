import Derived.Test.Qxb6631797aD
namespace Go.Proofs.Qxb6631797a
open Go.RowKit Go.Maps Go.Sort

theorem bdraw {B : Nat} {a w : World} (h : Below B a w) (n : Nat) : Below B a (w.drewN n) := h.trans ⟨rfl, rfl, rfl, Nat.le_refl _, fun _ _ => rfl⟩

def Strs (w : World) (v : Value) (ss : List (List UInt8)) : Prop :=
  ∃ a c, v = .slice a ss.length c ∧ (ss = [] ∨ ∃ b off, a = some ⟨b, off, none⟩ ∧ b < w.heap.size ∧ ∀ j, ∀ hj : j < ss.length, w.cell? ⟨b, off + j, none⟩ = some (encStr ss[j]))

theorem Keys.strs {B : Nat} {w : World} {v : Value} {ss : List (List UInt8)} (h : Keys B w v ss) : Strs w v ss := by
  have h' := h
  rcases h.2 with ⟨rfl, hl⟩ | ⟨g, cap, cur, rfl, hb, hg, h1, h2, h3, h4⟩
  · obtain rfl : ss = [] := List.eq_nil_of_length_eq_zero hl
    exact ⟨none, 0, rfl, .inl rfl⟩
  · refine ⟨_, _, rfl, .inr ⟨g, 0, rfl, (Array.getElem?_eq_some_iff.1 hg).1, fun j hj => ?_⟩⟩
    rw [Nat.zero_add, h'.cellAt j (by omega)]
    simp [hj]

theorem Strs.below {w w' : World} {v : Value} {ss : List (List UInt8)} (h : Strs w v ss) (hb : Below w.heap.size w w') : Strs w' v ss := by
  obtain ⟨a, c, rfl, h⟩ := h
  refine ⟨a, c, rfl, ?_⟩
  rcases h with h | ⟨b, off, h1, h2, h3⟩
  · exact .inl h
  · exact .inr ⟨b, off, h1, Nat.lt_of_lt_of_le h2 hb.size, fun j hj => (hb.cell (by exact h2)).trans (h3 j hj)⟩

theorem Strs.one {w : World} {v : Value} {id : ByteArray} (h : Strs w v [bs id]) : ∃ b off c, v = .slice (some ⟨b, off, none⟩) 1 c ∧ w.cell? ⟨b, off, none⟩ = some (.string id) := by
  obtain ⟨a, c, rfl, h⟩ := h
  rcases h with h | ⟨b, off, rfl, _, h3⟩
  · cases h
  · exact ⟨b, off, c, rfl, h3 0 (by simp)⟩

theorem Strs.nil {w : World} {v : Value} (h : Strs w v []) : ∃ a c, v = .slice a 0 c := by
  obtain ⟨a, c, rfl, _⟩ := h
  exact ⟨a, c, rfl⟩

theorem one_of {ss : List (List UInt8)} {x : List UInt8} (h : ss.Nodup) (hm : ∀ k, k ∈ ss ↔ k = x) : ss = [x] := by
  cases ss with
  | nil => exact absurd ((hm x).2 rfl) (by simp)
  | cons a r =>
    obtain rfl : a = x := (hm a).1 (by simp)
    cases r with
    | nil => rfl
    | cons b r =>
      obtain rfl : b = a := (hm b).1 (by simp)
      simp at h

theorem none_of {ss : List (List UInt8)} (hm : ∀ k, ¬ k ∈ ss) : ss = [] := List.eq_nil_iff_forall_not_mem.2 hm

theorem upd_ne (f : Fn) (x v k : List UInt8) : f k ≠ upd f x v k ↔ (k = x ∧ f x ≠ some v) := by
  unfold upd
  by_cases e : k = x
  · subst e; simp
  · simp [e]

theorem got_yes {f : Fn} {x v : List UInt8} {ss : List (List UInt8)} (hn : ss.Nodup) (hm : ∀ k, k ∈ ss ↔ f k ≠ upd f x v k) (h : f x ≠ some v) : ss = [x] := one_of hn fun k => by
  rw [hm k, upd_ne]
  exact ⟨fun h => h.1, fun e => ⟨e, h⟩⟩
theorem got_no {f : Fn} {x v : List UInt8} {ss : List (List UInt8)} (hm : ∀ k, k ∈ ss ↔ f k ≠ upd f x v k) (h : f x = some v) : ss = [] := none_of fun k => by
  rw [hm k, upd_ne]
  exact fun e => e.2 h
theorem flip {f g : Fn} {ss : List (List UInt8)} (hm : ∀ k, k ∈ ss ↔ g k ≠ f k) (k : List UInt8) : k ∈ ss ↔ f k ≠ g k := (hm k).trans ⟨Ne.symm, Ne.symm⟩
theorem got_same {f : Fn} {ss : List (List UInt8)} (hm : ∀ k, k ∈ ss ↔ f k ≠ f k) : ss = [] := none_of fun k => by rw [hm k]; simp

def Found (es : List (ByteArray × ByteArray)) (id : ByteArray) (k : Nat) (f o : Value) : Prop := ∃ (fd : Bool) (d : ByteArray), f = .bool fd ∧ o = .string d ∧ mk (es.take k) (bs id) = if fd then some (bs d) else none

theorem Found.start (es : List (ByteArray × ByteArray)) (id : ByteArray) (d : ByteArray) : Found es id 0 (.bool false) (.string d) := ⟨false, d, rfl, rfl, rfl⟩

theorem beq_bs {a b : ByteArray} (h : (a.toList == b.toList) = true) : bs a = bs b := (Lib.toList_data a).symm.trans ((eq_of_beq h).trans (Lib.toList_data b))
theorem bne_bs {a b : ByteArray} (h : (a.toList == b.toList) = false) : bs a ≠ bs b := fun e => by
  rw [Lib.toList_data, Lib.toList_data, show a.data.toList = b.data.toList from e] at h
  simp at h

theorem Found.hit {es : List (ByteArray × ByteArray)} {id : ByteArray} {k : Nat} (hk : k < es.length) (h : (es[k].1.toList == id.toList) = true) : Found es id (k + 1) (.bool true) (.string es[k].2) :=
  ⟨true, _, rfl, rfl, by rw [mk_step es k hk]; simp [upd, (beq_bs h).symm]⟩

theorem Found.miss {es : List (ByteArray × ByteArray)} {id : ByteArray} {k : Nat} {f o : Value} (hF : Found es id k f o) (hk : k < es.length) (h : (es[k].1.toList == id.toList) = false) : Found es id (k + 1) f o := by
  obtain ⟨fd, d, h1, h2, h3⟩ := hF
  exact ⟨fd, d, h1, h2, by rw [mk_step es k hk]; simp only [upd]; rw [if_neg (fun e => bne_bs h e.symm)]; exact h3⟩

set_option maxRecDepth 100000 in
set_option maxHeartbeats 1000000 in
theorem one_big (a : Option Addr) (c B : Nat) (es : List (ByteArray × ByteArray)) (id df : ByteArray) (w : World) (h1 : es.length ≤ maxLen) (h2 : id.size ≤ maxLen) (h3 : df.size ≤ maxLen) (hE : Ents B w a es) (hf : Fits es)
    (hb : ¬ (es.length ≤ 4096 ∧ id.size ≤ 65536 ∧ df.size ≤ 65536)) :
    Calls Try.prog 4 #[.slice a es.length c, .string id, .string df] w fun e w' => e = .returned (.bool true) ∧ Below w.heap.size w w' := by
  have kB := bytes1_any a c B es id df w h1 h2 h3 hE hf
  clear h1 h2 h3 hE hf
  by_cases h1 : es.length ≤ 4096 <;> by_cases h2 : id.size ≤ 65536 <;> by_cases h3 : df.size ≤ 65536
  all_goals try omega
  all_goals
    clear hb
    go_enter Try.func4, Try.ntmps4
    go_wp2_with fail
    refine kB.mono ?_
    rintro e w' ⟨x, rfl, rfl, _⟩
    clear kB
    cases x
    all_goals
      go_wp2
      go_ret
      exact ⟨rfl, Below.refl _ _⟩

end Go.Proofs.Qxb6631797a
