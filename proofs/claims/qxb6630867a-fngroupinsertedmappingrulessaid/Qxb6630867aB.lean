import Derived.Test.Qxb6630867aA
namespace Go.Proofs.Qxb6630867a
open Go.RowKit

def StrsB (B : Nat) (w : World) (a : Option Addr) (ss : List ByteArray) : Prop :=
  ss = [] ∨ ∃ b off, a = some ⟨b, off, none⟩ ∧ b < B ∧ ∀ j, j < ss.length → w.cell? ⟨b, off + j, none⟩ = some (.string (ss.getD j ByteArray.empty))

theorem StrsB.addr {B : Nat} {w : World} {a : Option Addr} {ss : List ByteArray} (h : StrsB B w a ss) (hp : 0 < ss.length) : ∃ b off, a = some ⟨b, off, none⟩ ∧ b < B ∧ ∀ j, j < ss.length → w.cell? ⟨b, off + j, none⟩ = some (.string (ss.getD j ByteArray.empty)) :=
  h.resolve_left (fun e => by subst e; simp at hp)

theorem StrsB.below {B B' : Nat} {w w' : World} {a : Option Addr} {ss : List ByteArray} (h : StrsB B w a ss) (hb : Below B' w w') (hB : B ≤ B') : StrsB B w' a ss := by
  rcases h with h | ⟨b, off, h1, h2, h3⟩
  · exact .inl h
  · exact .inr ⟨b, off, h1, h2, fun j hj => (hb.cell (by exact Nat.lt_of_lt_of_le h2 hB)).trans (h3 j hj)⟩

theorem StrsB.mono {B B' : Nat} {w : World} {a : Option Addr} {ss : List ByteArray} (h : StrsB B w a ss) (hB : B ≤ B') : StrsB B' w a ss := by
  rcases h with h | ⟨b, off, h1, h2, h3⟩
  · exact .inl h
  · exact .inr ⟨b, off, h1, Nat.lt_of_lt_of_le h2 hB, h3⟩

theorem StrsB.heap {B : Nat} {w w' : World} {a : Option Addr} {ss : List ByteArray} (h : StrsB B w a ss) (e : w'.heap = w.heap) : StrsB B w' a ss := by
  rcases h with h | ⟨b, off, h1, h2, h3⟩
  · exact .inl h
  · exact .inr ⟨b, off, h1, h2, fun j hj => (World.cell?_of_block (by rw [e])).trans (h3 j hj)⟩

theorem nest_quiet (a b : ByteArray) (w : World) (q n : Nat) (x : Bool) (hx : within (bs a) (bs b) = x) (ha : a.size ≤ 1048576) (hb : b.size ≤ 1048576) :
    Calls Try.prog 11 #[.string a, .string b] (w.drewN (q + n)) fun e w' => e = .returned (.bool x) ∧ ∃ m, w' = w.drewN (q + m) := by
  refine (nested_any a b (w.drewN (q + n)) ha hb).mono fun e w' ⟨h1, m, h2⟩ => ⟨by rw [h1, hx], n + m, ?_⟩
  rw [h2, World.drewN_drewN, Nat.add_assoc]

theorem disj_empty (a : Option Addr) (c : Nat) (w : World) : Calls Try.prog 6 #[.slice a 0 c] w fun e w' => e = .returned (.bool true) ∧ w' = w := by
  go_enter Try.func6, Try.ntmps6
  go_wp2
  refine wp_loop_rounds 1 ?_
  rw [rounds_succ]
  go_wp2
  go_ret
  exact ⟨rfl, rfl⟩

def DisjTo (ss : List ByteArray) (n : Nat) : Prop := ∀ i j, i < n → i < j → ∀ (hj : j < ss.length) (hi : i < ss.length), within (bs ss[i]) (bs ss[j]) = false ∧ within (bs ss[j]) (bs ss[i]) = false

set_option maxHeartbeats 400000 in
theorem disj_row (b off c : Nat) (ss : List ByteArray) (w : World) (hbig : ss.length ≤ 1048576) (hsz : ∀ s ∈ ss, s.size ≤ 1048576) (hc : ∀ j, j < ss.length → w.cell? ⟨b, off + j, none⟩ = some (.string (ss.getD j ByteArray.empty))) :
    Calls Try.prog 6 #[.slice (some ⟨b, off, none⟩) ss.length c] w fun e w' => ∃ x : Bool, ∃ q, e = .returned (.bool x) ∧ w' = w.drewN q ∧ (x = true → DisjTo ss ss.length) := by
  go_enter Try.func6, Try.ntmps6
  go_wp2
  go_loopw [3] (fun i wr => ∃ k q : Nat, k ≤ ss.length ∧ i = .int .i64 k ∧ wr = w.drewN q ∧ DisjTo ss k) (fun i _ => ss.length - (intOf i).toNat)
  case atStart => exact ⟨0, 0, Nat.zero_le _, rfl, rfl, fun i j h => absurd h (Nat.not_lt_zero _)⟩
  case round =>
    obtain ⟨k, q, hk, rfl, rfl, hD⟩ := hrel
    by_cases hlt : k < ss.length
    · go_wp2
      go_loopw [4] (fun i wr => ∃ m q : Nat, k + 1 ≤ m ∧ m ≤ ss.length ∧ i = .int .i64 m ∧ wr = w.drewN q ∧ ∀ j, k < j → j < m → ∀ (hj : j < ss.length), within (bs ss[k]) (bs ss[j]) = false ∧ within (bs ss[j]) (bs ss[k]) = false) (fun i _ => ss.length - (intOf i).toNat)
      case atStart => exact ⟨k + 1, q, Nat.le_refl _, by omega, by go_num, rfl, fun j h1 h2 => by omega⟩
      case round =>
        obtain ⟨m, q2, hm1, hm2, rfl, rfl, hN⟩ := hrel
        by_cases hlm : m < ss.length
        · have g1 : w.cell? ⟨b, off + k, none⟩ = some (.string (ss.getD k ByteArray.empty)) := hc k hlt
          have g2 : w.cell? ⟨b, off + m, none⟩ = some (.string (ss.getD m ByteArray.empty)) := hc m hlm
          have i1 : (k : Int) < (ss.length : Int) := by omega
          have i2 : (m : Int) < (ss.length : Int) := by omega
          have z1 := hsz _ (List.getElem_mem hlt)
          have z2 := hsz _ (List.getElem_mem hlm)
          clear hc hsz
          by_cases h1 : within (bs ss[k]) (bs ss[m]) = true
          · have k1 := fun n => nest_quiet ss[k] ss[m] w q2 n true h1 z1 z2
            clear h1
            go_wp2
            go_quiet (first | (go_at_call 11; exact k1 _))
            go_wp2
            go_ret
            exact ⟨false, _, rfl, World.drewN_drewN _ _ _, by simp⟩
          · have h1' : within (bs ss[k]) (bs ss[m]) = false := by simpa using h1
            have k1 := fun n => nest_quiet ss[k] ss[m] w q2 n false h1' z1 z2
            by_cases h2 : within (bs ss[m]) (bs ss[k]) = true
            · have k2 := fun n => nest_quiet ss[m] ss[k] w q2 n true h2 z2 z1
              clear h1 h1' h2
              go_wp2
              refine wp_region_quiet_lit (by kernel_rfl) (by kernel_rfl) ?_
              repeat (go_big_quiet_step (fail))
              go_big_quiet_step (exact k1 _)
              repeat (go_big_quiet_step (fail))
              go_big_quiet_step (exact k2 _)
              repeat (go_big_quiet_step (fail))
              refine wpQuiet_nil ?_
              intro _ hw'
              obtain ⟨nq, hw''⟩ := hw'
              subst hw''
              go_wp2
              go_ret
              exact ⟨false, _, rfl, World.drewN_drewN _ _ _, by simp⟩
            · have h2' : within (bs ss[m]) (bs ss[k]) = false := by simpa using h2
              have k2 := fun n => nest_quiet ss[m] ss[k] w q2 n false h2' z2 z1
              have HN : Hid (∀ j, k < j → j < m + 1 → ∀ (hj : j < ss.length), within (bs ss[k]) (bs ss[j]) = false ∧ within (bs ss[j]) (bs ss[k]) = false) := by
                intro j hj1 hj2 hj
                by_cases e : j = m
                · subst e; exact ⟨h1', h2'⟩
                · exact hN j hj1 (by omega) hj
              clear h1 h1' h2 h2' hN
              go_wp2
              refine wp_region_quiet_lit (by kernel_rfl) (by kernel_rfl) ?_
              repeat (go_big_quiet_step (fail))
              go_big_quiet_step (exact k1 _)
              repeat (go_big_quiet_step (fail))
              go_big_quiet_step (exact k2 _)
              repeat (go_big_quiet_step (fail))
              refine wpQuiet_nil ?_
              intro _ hw'
              obtain ⟨nq, hw''⟩ := hw'
              subst hw''
              go_wp2
              go_roundw
              case rel => exact ⟨m + 1, _, by omega, by omega, by go_num, rfl, HN.out⟩
              case measure => simp [intOf]; omega
        · have HN : Hid (DisjTo ss (k + 1)) := by
            intro i j hi hij hj hi'
            by_cases e : i = k
            · subst e; exact hN j hij (by omega) hj
            · exact hD i j (by omega) hij hj hi'
          clear hN hD
          go_wp2
          go_roundw
          case rel => exact ⟨k + 1, _, by omega, by go_num, rfl, HN.out⟩
          case measure => simp [intOf]; omega
    · have ek : k = ss.length := by omega
      subst ek
      go_wp2
      go_ret
      exact ⟨true, _, rfl, rfl, fun _ => hD⟩

theorem disj_any (a : Option Addr) (c B : Nat) (ss : List ByteArray) (w : World) (hS : StrsB B w a ss) (hbig : ss.length ≤ 1048576) (hsz : ∀ s ∈ ss, s.size ≤ 1048576) :
    Calls Try.prog 6 #[.slice a ss.length c] w fun e w' => ∃ x : Bool, ∃ q, e = .returned (.bool x) ∧ w' = w.drewN q ∧ (x = true → Disj (ss.map bs)) := by
  have fin : DisjTo ss ss.length → Disj (ss.map bs) := fun h i j hij hj hi => by
    simp only [List.length_map] at hi hj
    simpa using h i j hi hij hj hi
  rcases hS with rfl | ⟨b, off, rfl, _, hc⟩
  · exact (disj_empty a c w).mono fun e w' ⟨h1, h2⟩ => ⟨true, 0, h1, h2, fun _ => fin (fun i j h => absurd h (Nat.not_lt_zero _))⟩
  · exact (disj_row b off c ss w hbig hsz hc).mono fun e w' ⟨x, q, h1, h2, h3⟩ => ⟨x, q, h1, h2, fun h => fin (h3 h)⟩

end Go.Proofs.Qxb6630867a
