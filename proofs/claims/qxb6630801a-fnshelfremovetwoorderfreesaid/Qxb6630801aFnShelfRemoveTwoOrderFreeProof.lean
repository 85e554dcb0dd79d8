import Derived.Test.Qxb6630801aRows
import Derived.Test.Qxb6630801aJ
import Derived.WalkKit
import Derived.ProofKit
import Derived.OpenShut
import Derived.ShutString
import Derived.ChangeOld
import Derived.Below
namespace Go.Proofs.Qxb6630801a.fnShelfRemoveTwoOrderFree
open Go.ChangeShapes Go.WideShapes Go.ChangeAt Go.RowKit
open Go.ChangeMaps (open_string shut_string)
set_option linter.unusedVariables false

theorem own : ownKnob Try.prog.godebug = none := by kernel_rfl
theorem laidOut : laidOutB Try.prog = true := by kernel_rfl

def IsRow (k : IntKind) (w : World) (a : Option Addr) (len cap : Nat) (zs : List Int) : Prop :=
  (a = none ∧ len = 0 ∧ cap = 0 ∧ zs = []) ∨
  ∃ x, a = some x ∧ len ≤ cap ∧ cap ≤ maxLen ∧ zs.length = cap ∧ (∀ i, i < zs.length → w.cell? (x.add i) = some (.int k (zs.getD i 0))) ∧ ∀ n ∈ zs, (Lit.int k n).wf = true

theorem len_of {k : IntKind} {w : World} {a : Option Addr} {len cap : Nat} {zs : List Int} (h : IsRow k w a len cap zs) : (zs.take len).length = len ∧ len ≤ maxLen := by
  rcases h with ⟨_, rfl, _, rfl⟩ | ⟨x, _, h1, h2, h3, _, _⟩
  · exact ⟨rfl, Nat.zero_le _⟩
  · exact ⟨by simp; omega, by omega⟩

theorem wf_of {k : IntKind} {w : World} {a : Option Addr} {len cap : Nat} {zs : List Int} (h : IsRow k w a len cap zs) : ∀ n ∈ zs, (Lit.int k n).wf = true := by
  rcases h with ⟨_, _, _, rfl⟩ | ⟨x, _, _, _, _, _, h⟩
  · simp
  · exact h

theorem row_of {w : World} {a : Option Addr} {len cap : Nat} {zs : List Int} (h : IsRow .i64 w a len cap zs) : Row w (.slice a len cap) (zs.take len) := by
  have hl := (len_of h).1
  rcases h with ⟨rfl, rfl, rfl, rfl⟩ | ⟨x, rfl, h1, h2, h3, h4, _⟩
  · exact ⟨none, 0, rfl, Nat.le_refl _, Nat.zero_le _, .inl rfl⟩
  · refine ⟨some x, cap, by rw [hl], by omega, h2, ?_⟩
    by_cases h0 : zs.take len = []
    · exact .inl h0
    · obtain ⟨b, off, spot⟩ := x
      have hpos : 0 < len := by rw [← hl]; exact List.length_pos_iff.2 h0
      have hs : spot = none := by simpa [Addr.add] using World.cell?_spot (h4 0 (by omega))
      subst hs
      refine .inr ⟨b, off, rfl, fun j hj => ?_⟩
      rw [hl] at hj
      rw [← add_plain, h4 j (by omega)]
      simp [List.getD, hj]

theorem walk (a0 : Int) (a1 : Option Addr) (len1 cap1 : Nat) (z1 : List Int) (a2 : Option Addr) (len2 cap2 : Nat) (z2 : List Int) (a3 : Int) (a4 : Int) (w : World) (w0 : (Lit.int .i64 a0).wf = true) (w1 : IsRow .i64 w a1 len1 cap1 z1) (w2 : IsRow .i64 w a2 len2 cap2 z2) (w3 : (Lit.int .i64 a3).wf = true) (w4 : (Lit.int .i64 a4).wf = true) :
    Calls Try.prog 4 #[.int .i64 a0, .slice a1 len1 cap1, .slice a2 len2 cap2, .int .i64 a3, .int .i64 a4] w fun e w' => e = .returned (.bool true) ∧ Below w.heap.size w w' := by
  have r1 := row_of w1
  have r2 := row_of w2
  have l1 := len_of w1
  have l2 := len_of w2
  by_cases hb : len1 ≤ 4096 ∧ len2 ≤ 4096
  · have := two_walk a0 a1 cap1 a2 cap2 a3 a4 (z1.take len1) (z2.take len2) w (by rw [l1.1]; exact r1) (by rw [l2.1]; exact r2) (by omega) (by omega)
      (fun z hz => wf_of w1 z (List.mem_of_mem_take hz)) w3 w4
    rw [l1.1, l2.1] at this
    exact this
  · exact two_big a0 a1 len1 cap1 a2 len2 cap2 a3 a4 w l1.2 l2.2 hb

set_option maxRecDepth 100000 in
theorem lifted (os : Os) (started : os.Started) (H : Type) (enc : TypeId × Value → H) :
    ReturnsInHanded {} Try.checked os 4 .any (Rows.fnShelfRemoveTwoOrderFreeSpec.pre6 enc Try.prog Try.f4 Rows.fnShelfRemoveTwoOrderFreeRow.domain false) (Rows.fnShelfRemoveTwoOrderFreeSpec.post enc Try.prog Try.f4 false true false false) := by
  refine returnsInHanded_of_change (C := Try.checked) own started (by kernel_rfl) Try.func4
    (ChangeSpec.witness6 (enc := enc) (C := Try.checked) false ⟨#[], #[.int .i64 0, .slice none 0 0, .slice none 0 0, .int .i64 0, .int .i64 0], []⟩ 8 (by kernel_rfl) (by kernel_rfl) (by kernel_rfl) (by kernel_rfl)) ?_
  intro W base args ds gs before hval0 hW hcnd _
  have hval : ∀ (j : Nat) t v, Try.f4.params[j]? = some t → args[j]? = some v → Value.okWide Try.prog W .any base t v := hval0
  have hW' := hW
  obtain ⟨p, q, hA0, hV, rfl, hfz, hnd⟩ := hW
  have hA : DataW.TrodAll enc Try.prog W 0 (fun _ => true) true Try.f4.params.toList args.toList ds p := hA0
  rw [Try.params4] at hA hval
  obtain ⟨v0, vs0, d0, ds0, p0, q0, hargs, rfl, rfl, h0, r0⟩ := trodAll_cons hA
  obtain ⟨v1, vs1, d1, ds1, p1, q1, rfl, rfl, rfl, h1, r1⟩ := trodAll_cons r0
  obtain ⟨v2, vs2, d2, ds2, p2, q2, rfl, rfl, rfl, h2, r2⟩ := trodAll_cons r1
  obtain ⟨v3, vs3, d3, ds3, p3, q3, rfl, rfl, rfl, h3, r3⟩ := trodAll_cons r2
  obtain ⟨v4, vs4, d4, ds4, p4, q4, rfl, rfl, rfl, h4, r4⟩ := trodAll_cons r3
  obtain ⟨rfl, rfl, rfl⟩ := trodAll_nil r4
  obtain rfl : args = #[v0, v1, v2, v3, v4] := by cases args; simp_all
  obtain ⟨rfl, rfl⟩ := trodVars_none hV
  obtain ⟨a0, rfl, rfl, rfl, w0⟩ := open_int Try.underlying2 (hval 0 2 v0 rfl rfl) h0
  obtain ⟨a1, len1, cap1, rfl⟩ := okWide_slice Try.underlying22 (hval 1 22 v1 rfl rfl)
  have k1 := h1
  have lt1 : ∀ x ∈ p1, x.block < W.heap.size := by obtain ⟨m, hm⟩ := k1; exact DataW.trod_lt m _ _ _ hm
  obtain ⟨z1, w1⟩ : ∃ zs, IsRow .i64 W a1 len1 cap1 zs := by
    obtain ⟨fuel, hf⟩ := h1
    rcases open_ints Try.underlying22 Try.underlying3 (by kernel_rfl) hf with ⟨hcs, _⟩ | ⟨x, l, c, zs, hcs, _, hl, hm, hz, _, hcell, hwz⟩
    · simp [Value.cells] at hcs
      obtain ⟨rfl, rfl, rfl⟩ := hcs
      exact ⟨[], .inl ⟨rfl, rfl, rfl, rfl⟩⟩
    · simp [Value.cells] at hcs
      obtain ⟨rfl, rfl, rfl⟩ := hcs
      exact ⟨zs, .inr ⟨_, rfl, hl, hm, by simpa using hz, hcell, hwz⟩⟩
  obtain ⟨a2, len2, cap2, rfl⟩ := okWide_slice Try.underlying23 (hval 2 23 v2 rfl rfl)
  have k2 := h2
  have lt2 : ∀ x ∈ p2, x.block < W.heap.size := by obtain ⟨m, hm⟩ := k2; exact DataW.trod_lt m _ _ _ hm
  obtain ⟨z2, w2⟩ : ∃ zs, IsRow .i64 W a2 len2 cap2 zs := by
    obtain ⟨fuel, hf⟩ := h2
    rcases open_ints Try.underlying23 Try.underlying2 (by kernel_rfl) hf with ⟨hcs, _⟩ | ⟨x, l, c, zs, hcs, _, hl, hm, hz, _, hcell, hwz⟩
    · simp [Value.cells] at hcs
      obtain ⟨rfl, rfl, rfl⟩ := hcs
      exact ⟨[], .inl ⟨rfl, rfl, rfl, rfl⟩⟩
    · simp [Value.cells] at hcs
      obtain ⟨rfl, rfl, rfl⟩ := hcs
      exact ⟨zs, .inr ⟨_, rfl, hl, hm, by simpa using hz, hcell, hwz⟩⟩
  obtain ⟨a3, rfl, rfl, rfl, w3⟩ := open_int Try.underlying3 (hval 3 3 v3 rfl rfl) h3
  obtain ⟨a4, rfl, rfl, rfl, w4⟩ := open_int Try.underlying3 (hval 4 3 v4 rfl rfl) h4
  clear hA0 hval0
  refine (walk a0 a1 len1 cap1 z1 a2 len2 cap2 z2 a3 a4 W w0 w1 w2 w3 w4).mono fun e W' ⟨he, bel⟩ => ?_
  subst he
  exact ⟨_, rfl, _, _, _, [], _, [], hW', trodAll_mk1 (shut_bool Try.underlying4 _), (trodAll_cons_mk (shut_int Try.underlying2 w0) (trodAll_cons_mk (Below.trod laidOut (by kernel_rfl) (of_decide_eq_true (by kernel_rfl)) k1 bel lt1) (trodAll_cons_mk (Below.trod laidOut (by kernel_rfl) (of_decide_eq_true (by kernel_rfl)) k2 bel lt2) (trodAll_cons_mk (shut_int Try.underlying3 w3) (trodAll_cons_mk (shut_int Try.underlying3 w4) trodAll_mk0))))), rfl, bel.frame _, fun h => by cases h⟩

theorem over : Rows.fnShelfRemoveTwoOrderFreeRow.holds Try.pinned (OpenSpec.ofChange Rows.fnShelfRemoveTwoOrderFreeSpec) :=
  OpenClaim.holds_of_wide 4 Try.f4 rfl rfl rfl rfl rfl rfl rfl ⟨rfl, rfl, rfl, rfl, rfl⟩ rfl rfl rfl rfl rfl (by kernel_rfl) Try.func4 (by kernel_rfl)
    (of_decide_eq_true (by kernel_rfl)) (by unfold Func.isWrapper; first | (rw [if_pos (by decide +kernel)]; kernel_rfl) | (rw [if_neg (by decide +kernel)]; exact ⟨rfl, rfl⟩))
    (fun os started H enc _ => lifted os started H enc)

theorem proved : Rows.FnShelfRemoveTwoOrderFreeSaid := over
#print axioms proved
end Go.Proofs.Qxb6630801a.fnShelfRemoveTwoOrderFree
