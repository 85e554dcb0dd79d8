import Derived.Test.Qxb6630801aA
import Derived.Deep.QuietTactic
import Derived.BigQuiet
namespace Go.Proofs.Qxb6630801a
open Go.RowKit

theorem nodup_take_succ (zs : List Int) (k : Nat) (h : k < zs.length) (hn : (zs.take k).Nodup) (hm : zs[k] ∉ zs.take k) : (zs.take (k + 1)).Nodup := by
  rw [List.take_succ_eq_append_getElem h, List.nodup_append]
  refine ⟨hn, by simp, fun a ha b hb e => ?_⟩
  simp at hb
  subst hb
  exact hm (e ▸ ha)

theorem nodup_take_succ' (zs : List Int) (k m : Nat) (h : k < zs.length) (hn : (zs.take k).Nodup) (e : m = k) (hm : zs[k] ∉ zs.take m) : (zs.take (k + 1)).Nodup := by
  subst e
  exact nodup_take_succ zs m h hn hm

theorem prem_no (a1 : Option Addr) (n1 c1 : Nat) (a2 : Option Addr) (n2 c2 : Nat) (w : World) (hne : ((n2 : Int) != (n1 : Int)) = true) :
    Calls Try.prog 6 #[.slice a1 n1 c1, .slice a2 n2 c2] w fun e w' => e = .returned (.bool false) ∧ w' = w := by
  go_enter Try.func6, Try.ntmps6
  go_wp2
  go_ret
  exact ⟨rfl, rfl⟩

theorem prem_empty (a1 : Option Addr) (c1 : Nat) (a2 : Option Addr) (c2 : Nat) (w : World) :
    Calls Try.prog 6 #[.slice a1 0 c1, .slice a2 0 c2] w fun e w' => e = .returned (.bool true) ∧ w' = w := by
  go_enter Try.func6, Try.ntmps6
  go_wp2
  refine wp_loop_rounds 1 ?_
  rw [rounds_succ]
  go_wp2
  go_ret
  exact ⟨rfl, rfl⟩

theorem prem_row (b off c b2 off2 c2 : Nat) (zs ys : List Int) (w : World) (hbig : zs.length ≤ 1048576) (hl : ys.length = zs.length)
    (hc : ∀ j, j < zs.length → w.cell? ⟨b, off + j, none⟩ = some (.int .i64 (zs.getD j 0))) (hc2 : ∀ j, j < ys.length → w.cell? ⟨b2, off2 + j, none⟩ = some (.int .i64 (ys.getD j 0))) :
    Calls Try.prog 6 #[.slice (some ⟨b, off, none⟩) zs.length c, .slice (some ⟨b2, off2, none⟩) zs.length c2] w fun e w' => ∃ x : Bool, ∃ q, e = .returned (.bool x) ∧ w' = w.drewN q ∧ (x = true → zs.Nodup) := by
  go_enter Try.func6, Try.ntmps6
  go_wp2
  go_loopw [5] (fun i wr => ∃ k q : Nat, k ≤ zs.length ∧ i = .int .i64 k ∧ wr = w.drewN q ∧ (zs.take k).Nodup) (fun i _ => zs.length - (intOf i).toNat)
  case atStart => exact ⟨0, 0, Nat.zero_le _, rfl, rfl, by simp⟩
  case round =>
    obtain ⟨k, q, hk, rfl, rfl, hn⟩ := hrel
    by_cases hlt : k < zs.length
    · have hcell : w.cell? ⟨b2, off2 + k, none⟩ = some (.int .i64 (ys.getD k 0)) := hc2 k (by omega)
      go_wp2
      · go_ret
        exact ⟨false, q, rfl, rfl, by simp⟩
      · go_loopw [6] (fun i wr => ∃ m q : Nat, m ≤ k ∧ i = .int .i64 m ∧ wr = w.drewN q ∧ zs[k] ∉ zs.take m) (fun i _ => k - (intOf i).toNat)
        case atStart => exact ⟨0, q, Nat.zero_le _, rfl, rfl, by simp⟩
        case round =>
          obtain ⟨m, q2, hm, rfl, rfl, hnm⟩ := hrel
          by_cases hlm : m < k
          · have g1 : w.cell? ⟨b, off + k, none⟩ = some (.int .i64 (zs.getD k 0)) := hc k hlt
            have g2 : w.cell? ⟨b, off + m, none⟩ = some (.int .i64 (zs.getD m 0)) := hc m (by omega)
            have i1 : (k : Int) < (zs.length : Int) := by omega
            have i2 : (m : Int) < (zs.length : Int) := by omega
            have hml : m < zs.length := by omega
            go_wp2
            go_quiet (fail)
            go_wp2
            · go_ret
              exact ⟨false, _, rfl, World.drewN_drewN _ _ _, by simp⟩
            · have he : (zs[m] == zs[k]) = false := by assumption
              go_roundw
              case rel => exact ⟨m + 1, _, by omega, by go_num, rfl, by rw [mem_take_succ zs m hml]; simp_all⟩
              case measure => simp [intOf]; omega
          · go_wp2
            have hnk := nodup_take_succ' zs k m hlt hn (by omega) hnm
            go_roundw
            case rel => exact ⟨k + 1, _, by omega, by go_num, rfl, hnk⟩
            case measure => simp [intOf]; omega
    · go_wp2
      go_ret
      exact ⟨true, _, rfl, rfl, fun _ => by rw [List.take_of_length_le (by omega)] at hn; exact hn⟩

theorem prem_any (x y : Value) (zs ys : List Int) (w : World) (hx : Row w x zs) (hy : Row w y ys) (hbig : zs.length ≤ 1048576) :
    Calls Try.prog 6 #[x, y] w fun e w' => ∃ x : Bool, ∃ q, e = .returned (.bool x) ∧ w' = w.drewN q ∧ (x = true → ys.length = zs.length ∧ zs.Nodup) := by
  obtain ⟨a, cap, rfl, _, _, h1⟩ := hx
  obtain ⟨a2, cap2, rfl, _, _, h2⟩ := hy
  by_cases hl : ys.length = zs.length
  · by_cases h0 : zs.length = 0
    · rw [hl, h0]
      refine (prem_empty a cap a2 cap2 w).mono fun e w' ⟨h1, h2⟩ => ⟨true, 0, h1, h2, fun _ => ⟨rfl, ?_⟩⟩
      rw [List.eq_nil_of_length_eq_zero h0]
      simp
    · obtain ⟨b, off, rfl, hc⟩ := h1.resolve_left (fun e => h0 (by rw [e]; rfl))
      obtain ⟨b2, off2, rfl, hc2⟩ := h2.resolve_left (fun e => h0 (by rw [← hl, e]; rfl))
      rw [hl]
      exact (prem_row b off cap b2 off2 cap2 zs ys w hbig hl hc hc2).mono fun e w' ⟨x, q, h1, h2, h3⟩ => ⟨x, q, h1, h2, fun h => ⟨rfl, h3 h⟩⟩
  · refine (prem_no a zs.length cap a2 ys.length cap2 w ?_).mono fun e w' ⟨h1, h2⟩ => ⟨false, 0, h1, h2, by simp⟩
    simp
    omega

end Go.Proofs.Qxb6630801a
