import Derived.Test.Qxb6631797aB
import Derived.Test.Qxb6631797aShelf
import Derived.Sort.OwnSorted
import Derived.Sort.KeysCollected
import Derived.Maps.AppendAt
import Derived.Maps.RangeWalk
import Derived.OwnWalk
import Derived.LoopN
import Derived.Laws.IdiomRangeMap
namespace Go.Proofs.Qxb6631797a
open Go.RowKit Go.Maps Go.Sort

theorem Try.info9 : (Try.prog.info? 9).map (fun i => (i.zero, i.size, i.bytes)) = some (some (.string ⟨#[]⟩), 1, 16) := by kernel_rfl

theorem Snap.look {B : Nat} {w : World} {m : Option Nat} {n : Nat} {f : Fn} (h : Snap B w m n f) {s : ByteArray} (hs : s.size ≤ maxLen) :
    ∃ v : ByteArray, (Instr.lookup 29 (.map m) (.string s) true).run Try.prog w = .ok (.tuple #[.string v, .bool (f (bs s)).isSome]) w ∧ bs v = (f (bs s)).getD [] := by
  rcases h with ⟨rfl, rfl⟩ | ⟨b, rfl, _, h⟩
  · exact ⟨ByteArray.empty, Maps.look_nil true law9 Try.underlying29 (zero9 w) (keyOf_str hs), rfl⟩
  · exact h.look 29 Try.underlying29 hs

def Rng (w : World) (m : Option Nat) (r n : Nat) (f : Fn) (left : List UInt8 → Bool) (cnt : Nat) : Prop :=
  (m = none ∧ cnt = 0 ∧ (∀ k, left k = false) ∧ w.heap[r]? = some (.mapIter none 0 #[] 0)) ∨
  ∃ (b : Nat) (D : DataW Unit) (lf : Lit → Bool), m = some b ∧ w.ranges Try.prog 9 (plainElem Try.prog 9) b r n D lf cnt ∧ (∀ k, D.atKey (.string k) (.lit (.string [])) = .lit (.string ((f k).getD []))) ∧ (∀ k, left k = lf (.string k)) ∧ ∀ k, left k = true → (f k).isSome = true

def rl (w : World) (m : Option Nat) (r : Nat) : Nat := match m with | none => 0 | some b => w.rangeLeft b r

theorem Rng.left_eq {w : World} {m : Option Nat} {r n : Nat} {f : Fn} {left : List UInt8 → Bool} {cnt : Nat} (h : Rng w m r n f left cnt) : rl w m r = cnt := by
  rcases h with ⟨rfl, rfl, _⟩ | ⟨b, D, lf, rfl, h, _⟩
  · rfl
  · exact h.left_eq

theorem Rng.lt {w : World} {m : Option Nat} {r n : Nat} {f : Fn} {left : List UInt8 → Bool} {cnt : Nat} (h : Rng w m r n f left cnt) : r < w.heap.size := by
  rcases h with ⟨rfl, rfl, _, h⟩ | ⟨b, D, lf, rfl, h, _⟩
  · exact (Array.getElem?_eq_some_iff.1 h).1
  · exact h.lt

theorem Rng.kept {w w' : World} {m : Option Nat} {r n : Nat} {f : Fn} {left : List UInt8 → Bool} {cnt : Nat} {row : Option Nat} (h : Rng w m r n f left cnt) (hg : w.grownBy w' row) (hm : ∀ b, m = some b → some b ≠ row) (hr : some r ≠ row) : Rng w' m r n f left cnt := by
  have hlt := h.lt
  rcases h with ⟨rfl, rfl, hl, h⟩ | ⟨b, D, lf, rfl, h, h'⟩
  · exact .inl ⟨rfl, rfl, hl, (hg.block r hlt hr).trans h⟩
  · exact .inr ⟨b, D, lf, rfl, h.kept hg (hm b rfl) hr, h'⟩

theorem Rng.alloc {w : World} {m : Option Nat} {r n : Nat} {f : Fn} {left : List UInt8 → Bool} {cnt : Nat} (h : Rng w m r n f left cnt) (o : Obj) : Rng (w.alloc o) m r n f left cnt := h.kept (World.grownBy_alloc w o none) (by simp) (by simp)

theorem Rng.ne {w : World} {m : Option Nat} {r n : Nat} {f : Fn} {left : List UInt8 → Bool} {cnt base : Nat} {e : TypeId} {size : Nat} {v : Value} {q : Nat} {xs : List Value} (hr : Rng w m r n f left cnt) (h : w.ownsRow base e size v q xs) : some r ≠ v.ownBlock := by
  rcases hr with ⟨rfl, rfl, hl, hit⟩ | ⟨b, D, lf, rfl, hr, h'⟩
  · rcases h.2 with ⟨rfl, _⟩ | ⟨g, cap, cur, rfl, _, hb, _⟩
    · simp [Value.ownBlock]
    · intro e1
      have : r = g := by simpa [Value.ownBlock] using e1
      subst this
      rw [hit] at hb
      cases hb
  · exact row_ne_iter h hr

theorem Snap.range {B : Nat} {w : World} {m : Option Nat} {n : Nat} {f : Fn} (h : Snap B w m n f) :
    ∃ w' cnt, (Instr.range 29 (.map m)).run Try.prog w = .ok (.pointer (some ⟨w.heap.size, 0, none⟩)) w' ∧ Rng w' m w.heap.size n f (fun k => (f k).isSome) cnt ∧ cnt ≤ n ∧ w.grownBy w' none ∧ w'.heap.size = w.heap.size + 1 := by
  rcases h with ⟨rfl, rfl⟩ | ⟨b, rfl, _, D, hD, hf⟩
  · exact ⟨_, 0, run_range_nilMap w 29 9 9 Try.underlying29, .inl ⟨rfl, rfl, fun _ => rfl, Go.heap_alloc_new w _⟩, Nat.zero_le _, World.grownBy_alloc w _ none, by simp⟩
  · obtain ⟨w', h1, h2, h3, h4⟩ := hD.range law9 Try.underlying29
    refine ⟨w', Maps.size D, h1, .inr ⟨b, D, _, rfl, h2, fun k => (hf k).2, fun k => (hf k).1.symm, fun k h => h⟩, ?_, h3, h4⟩
    obtain ⟨es, clock, _, _, hs, rfl⟩ := hD
    simp [Maps.size, length_sorted]
    exact hs

theorem Rng.next {w : World} {m : Option Nat} {r n : Nat} {f : Fn} {left : List UInt8 → Bool} {cnt : Nat} (h : Rng w m r n f left cnt) (ty : TypeId) :
    (cnt = 0 ∧ (∀ k, left k = false) ∧ (Instr.next (.pointer (some ⟨r, 0, none⟩)) false ty).run Try.prog w = .ok (.tuple #[.bool false]) w) ∨
    ∃ (x c : ByteArray) (w' : World) (cnt' : Nat), x.size ≤ maxLen ∧ c.size ≤ maxLen ∧ left (bs x) = true ∧ f (bs x) = some (bs c) ∧ (Instr.next (.pointer (some ⟨r, 0, none⟩)) false ty).run Try.prog w = .ok (.tuple #[.bool true, .string x, .string c]) w' ∧
      Rng w' m r n f (fun z => left z && !decide (z = bs x)) cnt' ∧ cnt' < cnt ∧ w.grownBy w' (some r) ∧ w'.heap.size = w.heap.size ∧ (Instr.entry (.pointer (some ⟨r, 0, none⟩))).run Try.prog w' = .ok (.tuple #[.string x, .string c]) w' := by
  rcases h with ⟨rfl, rfl, hl, hit⟩ | ⟨b, D, lf, rfl, hr, hf, hlf, hsome⟩
  · refine .inl ⟨rfl, hl, ?_⟩
    simp only [Instr.next, getObj, Sem.run_bind, Sem.run, hit, Result.andThen]
    rfl
  · rcases hr.next law9 ty with ⟨h0, hl, hrun⟩ | ⟨key, v, kl, y, w', cnt', hkey, hlk, hv, hat, hrun, hrg, hlt, hgr, hsz, hen⟩
    · exact .inl ⟨h0, fun k => (hlf k).trans (hl _), hrun⟩
    · obtain ⟨x, rfl, rfl, hx⟩ := Maps.keyOf_str Try.underlying9 hkey
      obtain ⟨c, rfl, rfl, hc⟩ := plainElem_string_inv Try.underlying9 hv
      have hl1 : left x = true := (hlf x).trans hlk
      refine .inr ⟨⟨x.toArray⟩, c, w', cnt', by simpa [ByteArray.size] using hx, hc, by simpa [bs] using hl1, ?_, hrun, .inr ⟨b, D, _, rfl, hrg, hf, fun k => ?_, fun k hk => hsome k (by simpa using (Bool.and_eq_true _ _ ▸ hk : _ ∧ _).1)⟩, hlt, hgr, hsz, hen⟩
      · have h1 := (hf x).symm.trans (hat _)
        have h2 := hsome x hl1
        obtain ⟨y, hy⟩ := Option.isSome_iff_exists.1 h2
        rw [hy] at h1
        simp at h1
        simp [bs, hy, h1]
      · show (left k && !decide (k = x)) = (lf (.string k) && !(Lit.string k).sameKey (.string x))
        rw [hlf k]
        congr 1
        by_cases e : k = x
        · subst e; simp [Lit.sameKey]
        · have : (Lit.string k).sameKey (.string x) = false := by
            cases hs : (Lit.string k).sameKey (.string x)
            · rfl
            · exact absurd (WideAt.sameKey_eq hs) (str_ne e)
          simp [this, e]

section
variable (w : World) {ops : Array Oper} {rest : List Oper} {o : Oper} {a : Act} {Q : Exit → Act → World → Prop}

theorem wpList_range_snap (hg : o.guard = none) (x : Operand) (hop : o.op = Op.range 29 x) (B : Nat) (m : Option Nat) (n : Nat) (f : Fn) (hm : a.eval x = .map m) (h : Snap B w m n f)
    (hK : ∀ w' cnt, Rng w' m w.heap.size n f (fun k => (f k).isSome) cnt → cnt ≤ n → w.grownBy w' none → w'.heap.size = w.heap.size + 1 → wpList Try.prog ops Q rest (a.put o.dst (.pointer (some ⟨w.heap.size, 0, none⟩))) w') :
    wpList Try.prog ops Q (o :: rest) a w := by
  refine wpList_plain hg fun K' hK' => ?_
  obtain ⟨w', cnt, hrun, r1, r2, r3, r4⟩ := h.range
  unfold Oper.wp
  simp [execOp, hop, hm, hrun, Result.andThen]
  exact hK' _ _ (hK w' cnt r1 r2 r3 r4)

theorem wpList_next_rng (hg : o.guard = none) (it : Operand) (hop : o.op = Op.next it false) (m : Option Nat) (r n : Nat) (f : Fn) (left : List UInt8 → Bool) (cnt : Nat)
    (hit : a.eval it = .pointer (some ⟨r, 0, none⟩)) (h : Rng w m r n f left cnt)
    (hDone : cnt = 0 → (∀ k, left k = false) → wpList Try.prog ops Q rest (a.put o.dst (.tuple #[.bool false])) w)
    (hMore : ∀ (x c : ByteArray) (w' : World) (cnt' : Nat), x.size ≤ maxLen → c.size ≤ maxLen → left (bs x) = true → f (bs x) = some (bs c) → Rng w' m r n f (fun z => left z && !decide (z = bs x)) cnt' → cnt' < cnt → w.grownBy w' (some r) → w'.heap.size = w.heap.size → (Instr.entry (.pointer (some ⟨r, 0, none⟩))).run Try.prog w' = .ok (.tuple #[.string x, .string c]) w' →
      wpList Try.prog ops Q rest (a.put o.dst (.tuple #[.bool true, .string x, .string c])) w') :
    wpList Try.prog ops Q (o :: rest) a w := by
  refine wpList_plain hg fun K' hK' => ?_
  unfold Oper.wp
  rcases h.next o.type with ⟨h0, hl, hrun⟩ | ⟨x, c, w', cnt', h1, h2, h3, h4, hrun, h5, h6, h7, h8, h9⟩
  · simp [execOp, hop, hit, hrun, Result.andThen]
    exact hK' _ _ (hDone h0 hl)
  · simp [execOp, hop, hit, hrun, Result.andThen]
    exact hK' _ _ (hMore x c w' cnt' h1 h2 h3 h4 h5 h6 h7 h8 h9)
end

end Go.Proofs.Qxb6631797a
