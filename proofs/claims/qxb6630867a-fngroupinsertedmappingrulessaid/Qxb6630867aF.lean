import Derived.Test.Qxb6630867aE
namespace Go.Proofs.Qxb6630867a
open Go.RowKit

def Small (ss : List ByteArray) (k : Nat) : Prop := ∀ j, ∀ hj : j < ss.length, j < k → ss[j].size ≤ 1048576

theorem small_step {ss : List ByteArray} {k : Nat} (h : Small ss k) (hk : k < ss.length) (hs : ss[k].size ≤ 1048576) : Small ss (k + 1) := fun j hj hjk => by
  by_cases e : j = k
  · subst e; exact hs
  · exact h j hj (by omega)

theorem small_all {ss : List ByteArray} {k : Nat} (h : Small ss k) (hk : ss.length ≤ k) : ∀ s ∈ ss, s.size ≤ 1048576 := fun s hs => by
  obtain ⟨j, hj, rfl⟩ := List.getElem_of_mem hs
  exact h j hj (by omega)

def Says (Q : Prop) (w : World) (e : Ending) (w' : World) : Prop := ∃ x : Bool, e = .returned (.bool x) ∧ w = w' ∧ (x = true → Q)
theorem says_no {Q : Prop} {w : World} : Says Q w (.returned (.bool false)) w := ⟨false, rfl, rfl, by simp⟩
theorem says_yes {Q : Prop} {w : World} (h : Q) : Says Q w (.returned (.bool true)) w := ⟨true, rfl, rfl, fun _ => h⟩

set_option maxHeartbeats 1000000 in
theorem bytes3_any (a : Option Addr) (c B : Nat) (a2 : Option Addr) (c2 B2 : Nat) (os ns : List ByteArray) (g : ByteArray) (w : World) (h1 : os.length ≤ maxLen) (h2 : ns.length ≤ maxLen) (h3 : g.size ≤ maxLen) (hO : StrsB B w a os) (hN : StrsB B2 w a2 ns) (hso : ∀ s ∈ os, s.size ≤ maxLen) (hsn : ∀ s ∈ ns, s.size ≤ maxLen) :
    Calls Try.prog 5 #[.slice a os.length c, .slice a2 ns.length c2, .string g] w fun e w' => Says ((∀ s ∈ os, s.size ≤ 1048576) ∧ (∀ s ∈ ns, s.size ≤ 1048576)) w e w' := by
  unfold maxLen at *
  go_enter Try.func5, Try.ntmps5
  go_wp2
  · go_ret
    exact says_no
  · go_loop [7, 8] (fun z i => ∃ (t : Int) (k : Nat), 0 ≤ t ∧ t ≤ 1048576 ∧ z = .int .i64 t ∧ k ≤ os.length ∧ i = .int .i64 k ∧ Small os k) (fun _ i => os.length - (intOf i).toNat)
    case atStart => exact ⟨_, 0, by omega, by omega, rfl, Nat.zero_le _, rfl, fun j _ h => absurd h (Nat.not_lt_zero _)⟩
    case round =>
      obtain ⟨t, k, ht0, ht1, rfl, hk, rfl, hS⟩ := hrel
      by_cases hlt : k < os.length
      · obtain ⟨b, off, rfl, _, hc⟩ := hO.addr (by omega)
        have g1 : w.cell? ⟨b, off + k, none⟩ = some (.string (os.getD k ByteArray.empty)) := hc k hlt
        have z1 := hso _ (List.getElem_mem hlt)
        clear hc hO hN hso hsn
        go_wp2
        · go_ret
          exact says_no
        · go_ret
          exact says_no
        · have hz : ((os[k].size : Nat) : Int) ≤ 1048576 := by assumption
          go_round
          case rel => exact ⟨_, k + 1, by omega, by omega, rfl, by omega, by go_num, small_step hS hlt (by omega)⟩
          case measure => simp [intOf]; omega
      · have hAll := small_all hS (by omega)
        clear hS hO hso
        go_wp2
        · go_ret
          exact says_no
        · go_ret
          exact says_no
        · go_loop [7, 9] (fun z i => ∃ (t : Int) (k : Nat), 0 ≤ t ∧ t ≤ 1048576 ∧ z = .int .i64 t ∧ k ≤ ns.length ∧ i = .int .i64 k ∧ Small ns k) (fun _ i => ns.length - (intOf i).toNat)
          case atStart => exact ⟨_, 0, by omega, by omega, rfl, Nat.zero_le _, rfl, fun j _ h => absurd h (Nat.not_lt_zero _)⟩
          case round =>
            obtain ⟨t2, k2, hu0, hu1, rfl, hk2, rfl, hS2⟩ := hrel
            by_cases hlt2 : k2 < ns.length
            · obtain ⟨b, off, rfl, _, hc⟩ := hN.addr (by omega)
              have g1 : w.cell? ⟨b, off + k2, none⟩ = some (.string (ns.getD k2 ByteArray.empty)) := hc k2 hlt2
              have z1 := hsn _ (List.getElem_mem hlt2)
              clear hc hN hsn
              go_wp2
              · go_ret
                exact says_no
              · go_ret
                exact says_no
              · have hz : ((ns[k2].size : Nat) : Int) ≤ 1048576 := by assumption
                go_round
                case rel => exact ⟨_, k2 + 1, by omega, by omega, rfl, by omega, by go_num, small_step hS2 hlt2 (by omega)⟩
                case measure => simp [intOf]; omega
            · have hAll2 := small_all hS2 (by omega)
              clear hS2 hN hsn
              go_wp2
              all_goals (go_ret; first | exact says_no | exact says_yes ⟨hAll, hAll2⟩)

set_option maxHeartbeats 1000000 in
theorem bytes7_any (a : Option Addr) (c B : Nat) (a2 : Option Addr) (c2 B2 : Nat) (os ns : List ByteArray) (kk : Int) (o nw p g : ByteArray) (w : World) (h1 : os.length ≤ maxLen) (h2 : ns.length ≤ maxLen) (h3 : o.size ≤ maxLen) (h4 : nw.size ≤ maxLen) (h5 : p.size ≤ maxLen) (h6 : g.size ≤ maxLen) (hO : StrsB B w a os) (hN : StrsB B2 w a2 ns) (hso : ∀ s ∈ os, s.size ≤ maxLen) (hsn : ∀ s ∈ ns, s.size ≤ maxLen) :
    Calls Try.prog 10 #[.slice a os.length c, .slice a2 ns.length c2, .int .i64 kk, .string o, .string nw, .string p, .string g] w fun e w' => Says ((∀ s ∈ os, s.size ≤ 1048576) ∧ (∀ s ∈ ns, s.size ≤ 1048576)) w e w' := by
  unfold maxLen at *
  go_enter Try.func10, Try.ntmps10
  go_wp2
  · go_ret
    exact says_no
  · go_loop [15, 16] (fun z i => ∃ (t : Int) (k : Nat), 0 ≤ t ∧ t ≤ 1048576 ∧ z = .int .i64 t ∧ k ≤ os.length ∧ i = .int .i64 k ∧ Small os k) (fun _ i => os.length - (intOf i).toNat)
    case atStart => exact ⟨_, 0, by omega, by omega, rfl, Nat.zero_le _, rfl, fun j _ h => absurd h (Nat.not_lt_zero _)⟩
    case round =>
      obtain ⟨t, k, ht0, ht1, rfl, hk, rfl, hS⟩ := hrel
      by_cases hlt : k < os.length
      · obtain ⟨b, off, rfl, _, hc⟩ := hO.addr (by omega)
        have g1 : w.cell? ⟨b, off + k, none⟩ = some (.string (os.getD k ByteArray.empty)) := hc k hlt
        have z1 := hso _ (List.getElem_mem hlt)
        clear hc hO hN hso hsn
        go_wp2
        · go_ret
          exact says_no
        · go_ret
          exact says_no
        · have hz : ((os[k].size : Nat) : Int) ≤ 1048576 := by assumption
          go_round
          case rel => exact ⟨_, k + 1, by omega, by omega, rfl, by omega, by go_num, small_step hS hlt (by omega)⟩
          case measure => simp [intOf]; omega
      · have hAll := small_all hS (by omega)
        clear hS hO hso
        go_wp2
        · go_ret
          exact says_no
        · go_ret
          exact says_no
        · go_loop [15, 17] (fun z i => ∃ (t : Int) (k : Nat), 0 ≤ t ∧ t ≤ 1048576 ∧ z = .int .i64 t ∧ k ≤ ns.length ∧ i = .int .i64 k ∧ Small ns k) (fun _ i => ns.length - (intOf i).toNat)
          case atStart => exact ⟨_, 0, by omega, by omega, rfl, Nat.zero_le _, rfl, fun j _ h => absurd h (Nat.not_lt_zero _)⟩
          case round =>
            obtain ⟨t2, k2, hu0, hu1, rfl, hk2, rfl, hS2⟩ := hrel
            by_cases hlt2 : k2 < ns.length
            · obtain ⟨b, off, rfl, _, hc⟩ := hN.addr (by omega)
              have g1 : w.cell? ⟨b, off + k2, none⟩ = some (.string (ns.getD k2 ByteArray.empty)) := hc k2 hlt2
              have z1 := hsn _ (List.getElem_mem hlt2)
              clear hc hN hsn
              go_wp2
              · go_ret
                exact says_no
              · go_ret
                exact says_no
              · have hz : ((ns[k2].size : Nat) : Int) ≤ 1048576 := by assumption
                go_round
                case rel => exact ⟨_, k2 + 1, by omega, by omega, rfl, by omega, by go_num, small_step hS2 hlt2 (by omega)⟩
                case measure => simp [intOf]; omega
            · have hAll2 := small_all hS2 (by omega)
              clear hS2 hN hsn
              go_wp2
              all_goals (go_ret; first | exact says_no | exact says_yes ⟨hAll, hAll2⟩)

end Go.Proofs.Qxb6630867a
