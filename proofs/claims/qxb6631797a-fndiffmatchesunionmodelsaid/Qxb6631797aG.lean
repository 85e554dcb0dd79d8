import Derived.Test.Qxb6631797aF
import Derived.Deep.SlicePairs
import Derived.OpenShut
import Derived.ShutString
import Derived.ChangeArms
namespace Go.Proofs.Qxb6631797a
open Go.RowKit Go.ChangeShapes Go.WideShapes

def IsPairs (w : World) (a : Option Addr) (len : Nat) (zs : List (ByteArray × ByteArray)) : Prop := zs.length = len ∧ len ≤ maxLen ∧ Fits zs ∧ Ents w.heap.size w a zs ∧ (a = none → zs = [])

theorem open_pairs {H : Type} {enc : TypeId × Value → H} {w : World} {base : Nat} {spare : Nat → Bool} {held : Bool} {fuel : Nat} {a : Option Addr} {len cap : Nat} {x : DataW H × List MemPlace}
    (h : DataW.trod enc Try.prog w base spare held fuel 22 [.slice a len cap] = some x) : ∃ zs, IsPairs w a len zs := by
  rcases Go.Deep.open_slice_pairs Try.underlying22 Try.underlying34 (by kernel_rfl) rfl rfl (by kernel_rfl) (by kernel_rfl) h with ⟨hcs, _⟩ | ⟨ad, l, c, m, n, V0, V1, D0, D1, P0, P1, hcs, hb, hl, hc, hm, _, hi⟩
  · simp at hcs
    obtain ⟨rfl, rfl, rfl⟩ := hcs
    exact ⟨[], rfl, Nat.zero_le _, (fun _ h => by cases h), .inl rfl, fun _ => rfl⟩
  · simp at hcs
    obtain ⟨rfl, rfl, rfl⟩ := hcs
    have hlm : len ≤ m := by rw [hm]; split <;> omega
    have each : ∀ i, i < len → ∃ q : ByteArray × ByteArray, V0 i = .string q.1 ∧ V1 i = .string q.2 ∧ q.1.size ≤ maxLen ∧ q.2.size ≤ maxLen := fun i hi' => by
      obtain ⟨_, _, t0, t1⟩ := hi i (by omega)
      obtain ⟨s0, e0, _, z0⟩ := DataW.trod_string Try.underlying9 t0
      obtain ⟨s1, e1, _, z1⟩ := DataW.trod_string Try.underlying9 t1
      simp at e0 e1
      exact ⟨(s0, s1), e0, e1, z0, z1⟩
    obtain ⟨q, hq⟩ := Go.Deep.choose_lt each
    refine ⟨(List.range len).map q, by simp, by omega, ?_, ?_, fun h => by cases h⟩
    · intro p hp
      obtain ⟨i, hi', rfl⟩ := List.mem_map.1 hp
      exact (hq i (List.mem_range.1 hi')).2.2
    · by_cases h0 : len = 0
      · subst h0; exact .inl rfl
      · obtain ⟨b, off, spot⟩ := ad
        have hs : spot = none := by simpa [Addr.add] using World.cell?_spot (hi 0 (by omega)).1
        subst hs
        refine .inr ⟨b, off, rfl, World.block_lt_of_cell? w _ (hi 0 (by omega)).1, fun j hj => ?_⟩
        simp at hj
        obtain ⟨g0, g1, _, _⟩ := hi j (by omega)
        rw [add_plain] at g0 g1
        simp only [List.getElem_map, List.getElem_range]
        exact ⟨by rw [g0, (hq j hj).1], by rw [Nat.add_assoc, g1, (hq j hj).2.1]⟩

end Go.Proofs.Qxb6631797a
