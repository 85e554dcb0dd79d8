import Derived.Test.Qxb6630833aRows
import Derived.WalkKit
import Derived.WalkLawsBesides
import Derived.Laws.Cover2
namespace Go.Proofs.Qxb6630833a
open Go.RowKit

theorem order_self (d : Ieee.Datum) : Ieee.Datum.order d d = none ∨ Ieee.Datum.order d d = some .eq := by
  cases d <;> simp [Ieee.Datum.order]

theorem compare_swap_nat (a b : Nat) : compare b a = (compare a b).swap := Std.OrientedCmp.eq_swap
theorem compare_swap_int (a b : Int) : compare b a = (compare a b).swap := Std.OrientedCmp.eq_swap

theorem order_two (d e : Ieee.Datum) : (Ieee.Datum.order d e = none ∧ Ieee.Datum.order e d = none ∧ (Ieee.Datum.order d d = none ∨ Ieee.Datum.order e e = none)) ∨
    (∃ o, Ieee.Datum.order d e = some o ∧ Ieee.Datum.order e d = some o.swap ∧ Ieee.Datum.order d d = some .eq ∧ Ieee.Datum.order e e = some .eq) := by
  cases d <;> cases e <;> simp [Ieee.Datum.order]
  · rw [Int.min_comm]
    exact compare_swap_int _ _
  · split <;> rfl
  · split <;> rfl
  · exact compare_swap_nat _ _

theorem order_cases (a b : Nat) :
    (FloatKind.f64.format.order a b = none ∧ FloatKind.f64.format.order b a = none ∧ ((FloatKind.f64.format.order a a != some .eq) = true ∨ (FloatKind.f64.format.order b b != some .eq) = true)) ∨
    (FloatKind.f64.format.order a b = some .lt ∧ FloatKind.f64.format.order b a = some .gt ∧ FloatKind.f64.format.order a a = some .eq ∧ FloatKind.f64.format.order b b = some .eq) ∨
    (FloatKind.f64.format.order a b = some .eq ∧ FloatKind.f64.format.order b a = some .eq ∧ FloatKind.f64.format.order a a = some .eq ∧ FloatKind.f64.format.order b b = some .eq) ∨
    (FloatKind.f64.format.order a b = some .gt ∧ FloatKind.f64.format.order b a = some .lt ∧ FloatKind.f64.format.order a a = some .eq ∧ FloatKind.f64.format.order b b = some .eq) := by
  rcases order_two (FloatKind.f64.format.read a) (FloatKind.f64.format.read b) with ⟨h1, h2, h3⟩ | ⟨o, h1, h2, h3, h4⟩
  · refine .inl ⟨h1, h2, ?_⟩
    rcases h3 with h | h
    · exact .inl (by unfold Ieee.Format.order; rw [h]; rfl)
    · exact .inr (by unfold Ieee.Format.order; rw [h]; rfl)
  · cases o
    · exact .inr (.inl ⟨h1, h2, h3, h4⟩)
    · exact .inr (.inr (.inl ⟨h1, h2, h3, h4⟩))
    · exact .inr (.inr (.inr ⟨h1, h2, h3, h4⟩))

theorem gap_walk (b r : Nat) (w : World) :
    Calls Try.prog 4 #[.float .f64 b, .float .f64 r] w fun e w' => e = .returned (.bool true) ∧ Below w.heap.size w w' := by
  rcases order_cases r b with ⟨h1, h2, _⟩ | ⟨h1, h2, _⟩ | ⟨h1, h2, _⟩ | ⟨h1, h2, _⟩
  all_goals
    go_enter Try.func4, Try.ntmps4
    go_wp2
    go_ret
    exact ⟨rfl, ((Below.refl _ w).alloc (Nat.le_refl _) _).alloc (by simp) _⟩

set_option maxHeartbeats 400000 in
theorem dual_ord (b : Nat) (s : Bool) (r : Nat) (w : World) (h3 : FloatKind.f64.format.order r r = some .eq) (h4 : FloatKind.f64.format.order b b = some .eq)
    (h : (FloatKind.f64.format.order r b = some .lt ∧ FloatKind.f64.format.order b r = some .gt) ∨ (FloatKind.f64.format.order r b = some .eq ∧ FloatKind.f64.format.order b r = some .eq) ∨ (FloatKind.f64.format.order r b = some .gt ∧ FloatKind.f64.format.order b r = some .lt)) :
    Calls Try.prog 3 #[.float .f64 b, .bool s, .float .f64 r] w fun e w' => e = .returned (.bool true) ∧ Below w.heap.size w w' := by
  cases s
  all_goals
    rcases h with ⟨h1, h2⟩ | ⟨h1, h2⟩ | ⟨h1, h2⟩
    all_goals
      go_enter Try.func3, Try.ntmps3
      go_wp2
      go_ret
      exact ⟨rfl, ((Below.refl _ w).alloc (Nat.le_refl _) _).alloc (by simp) _⟩

set_option maxHeartbeats 400000 in
theorem dual_nan (b : Nat) (s : Bool) (r : Nat) (w : World) (h1 : FloatKind.f64.format.order r b = none) (h2 : FloatKind.f64.format.order b r = none) (h3 : (FloatKind.f64.format.order b b != some .eq) = true ∨ (FloatKind.f64.format.order b b != some .eq) = false ∧ (FloatKind.f64.format.order r r != some .eq) = true) :
    Calls Try.prog 3 #[.float .f64 b, .bool s, .float .f64 r] w fun e w' => e = .returned (.bool true) ∧ Below w.heap.size w w' := by
  cases s
  all_goals
    rcases h3 with h3 | ⟨h3, h4⟩
    all_goals
      go_enter Try.func3, Try.ntmps3
      go_wp2
      go_ret
      exact ⟨rfl, ((Below.refl _ w).alloc (Nat.le_refl _) _).alloc (by simp) _⟩

theorem dual_walk (b : Nat) (s : Bool) (r : Nat) (w : World) :
    Calls Try.prog 3 #[.float .f64 b, .bool s, .float .f64 r] w fun e w' => e = .returned (.bool true) ∧ Below w.heap.size w w' := by
  rcases order_cases r b with ⟨h1, h2, h3⟩ | ⟨h1, h2, h3, h4⟩ | ⟨h1, h2, h3, h4⟩ | ⟨h1, h2, h3, h4⟩
  · refine dual_nan b s r w h1 h2 ?_
    cases hb : (FloatKind.f64.format.order b b != some .eq)
    · exact .inr ⟨rfl, h3.resolve_right (by rw [hb]; simp)⟩
    · exact .inl rfl
  · exact dual_ord b s r w h3 h4 (.inl ⟨h1, h2⟩)
  · exact dual_ord b s r w h3 h4 (.inr (.inl ⟨h1, h2⟩))
  · exact dual_ord b s r w h3 h4 (.inr (.inr ⟨h1, h2⟩))

end Go.Proofs.Qxb6630833a
