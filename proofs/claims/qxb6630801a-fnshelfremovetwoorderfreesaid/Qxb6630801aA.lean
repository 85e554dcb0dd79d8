import Derived.Test.Qxb6630801aShelf
import Derived.WalkKit
import Derived.WalkSpells
namespace Go.Proofs.Qxb6630801a
open Go.RowKit

def Row (w : World) (v : Value) (zs : List Int) : Prop :=
  ∃ a cap, v = .slice a zs.length cap ∧ zs.length ≤ cap ∧ cap ≤ maxLen ∧ (zs = [] ∨ ∃ b off, a = some ⟨b, off, none⟩ ∧ ∀ j, j < zs.length → w.cell? ⟨b, off + j, none⟩ = some (.int .i64 (zs.getD j 0)))

theorem ret_bool {a b : Bool} (h : a = b) : Ending.returned (.bool a) = .returned (.bool b) := by rw [h]

theorem mem_take_succ (zs : List Int) (k : Nat) (h : k < zs.length) (v : Int) : v ∈ zs.take (k + 1) ↔ v ∈ zs.take k ∨ zs[k] = v := by
  rw [List.take_succ_eq_append_getElem h, List.mem_append, List.mem_singleton]
  exact or_congr Iff.rfl ⟨Eq.symm, Eq.symm⟩

theorem in_row (b off cap : Nat) (zs : List Int) (v : Int) (w : World) (hbig : zs.length ≤ 1048576) (hc : ∀ j, j < zs.length → w.cell? ⟨b, off + j, none⟩ = some (.int .i64 (zs.getD j 0))) :
    Calls Try.prog 11 #[.slice (some ⟨b, off, none⟩) zs.length cap, .int .i64 v] w fun e w' => e = .returned (.bool (decide (v ∈ zs))) ∧ w' = w := by
  go_enter Try.func11, Try.ntmps11
  go_wp2
  go_loop [5] (fun i => ∃ k : Nat, k ≤ zs.length ∧ i = .int .i64 k ∧ v ∉ zs.take k) (fun i => zs.length - (intOf i).toNat)
  case atStart => exact ⟨0, Nat.zero_le _, rfl, by simp⟩
  case round =>
    obtain ⟨k, hk, rfl, hn⟩ := hrel
    have hcell : k < zs.length → w.cell? ⟨b, off + k, none⟩ = some (.int .i64 (zs.getD k 0)) := fun h => hc k h
    go_wp2
    · have hlt : k < zs.length := by assumption
      have he : (zs[k] == v) = true := by assumption
      go_ret
      exact ⟨ret_bool (by rw [← beq_iff_eq.1 he]; simp), rfl⟩
    · have hlt : k < zs.length := by assumption
      have he : (zs[k] == v) = false := by assumption
      go_round
      case rel => exact ⟨k + 1, by omega, by go_num, by rw [mem_take_succ zs k hlt]; simp_all⟩
      case measure => simp [intOf]; omega
    · have hge : ¬ k < zs.length := by assumption
      go_ret
      refine ⟨ret_bool ?_, rfl⟩
      rw [List.take_of_length_le (by omega)] at hn
      simp [hn]

theorem in_empty (a : Option Addr) (cap : Nat) (v : Int) (w : World) :
    Calls Try.prog 11 #[.slice a 0 cap, .int .i64 v] w fun e w' => e = .returned (.bool false) ∧ w' = w := by
  go_enter Try.func11, Try.ntmps11
  go_wp2
  refine wp_loop_rounds 1 ?_
  rw [rounds_succ]
  go_wp2
  go_ret
  exact ⟨rfl, rfl⟩

theorem in_any (x : Value) (zs : List Int) (v : Int) (w : World) (hx : Row w x zs) (hbig : zs.length ≤ 1048576) :
    Calls Try.prog 11 #[x, .int .i64 v] w fun e w' => e = .returned (.bool (decide (v ∈ zs))) ∧ w' = w := by
  obtain ⟨a, cap, rfl, _, _, rfl | ⟨b, off, rfl, hc⟩⟩ := hx
  · exact (in_empty a cap v w).mono fun e w' ⟨h1, h2⟩ => ⟨by rw [h1]; simp, h2⟩
  · exact in_row b off cap zs v w hbig hc

theorem bytes3_any (l : Int) (a1 : Option Addr) (n1 c1 : Nat) (a2 : Option Addr) (n2 c2 : Nat) (a3 : Option Addr) (n3 c3 : Nat) (w : World) (h1 : n1 ≤ maxLen) (h2 : n2 ≤ maxLen) (h3 : n3 ≤ maxLen) :
    Calls Try.prog 5 #[.int .i64 l, .slice a1 n1 c1, .slice a2 n2 c2, .slice a3 n3 c3] w fun e w' => ∃ x : Bool, e = .returned (.bool x) ∧ w' = w := by
  unfold maxLen at h1 h2 h3
  go_enter Try.func5, Try.ntmps5
  go_wp2
  all_goals (go_ret; exact ⟨_, rfl, rfl⟩)

theorem bytes2_any (l : Int) (a1 : Option Addr) (n1 c1 : Nat) (a2 : Option Addr) (n2 c2 : Nat) (x y : Int) (w : World) (h1 : n1 ≤ maxLen) (h2 : n2 ≤ maxLen) :
    Calls Try.prog 14 #[.int .i64 l, .slice a1 n1 c1, .slice a2 n2 c2, .int .i64 x, .int .i64 y] w fun e w' => ∃ x : Bool, e = .returned (.bool x) ∧ w' = w := by
  unfold maxLen at h1 h2
  go_enter Try.func14, Try.ntmps14
  go_wp2
  all_goals (go_ret; exact ⟨_, rfl, rfl⟩)

end Go.Proofs.Qxb6630801a
