import Derived.Test.Qxb6631797aA
namespace Go.Proofs.Qxb6631797a
open Go.RowKit Go.Maps

def SmallTo (es : List (ByteArray × ByteArray)) (k : Nat) : Prop := ∀ j, ∀ hj : j < es.length, j < k → es[j].1.size ≤ 1048576 ∧ es[j].2.size ≤ 1048576

theorem small_step {es : List (ByteArray × ByteArray)} {k : Nat} (h : SmallTo es k) (hk : k < es.length) (hs : es[k].1.size ≤ 1048576 ∧ es[k].2.size ≤ 1048576) : SmallTo es (k + 1) := fun j hj hjk => by
  by_cases e : j = k
  · subst e; exact hs
  · exact h j hj (by omega)

theorem small_all {es : List (ByteArray × ByteArray)} {k : Nat} (h : SmallTo es k) (hk : es.length ≤ k) : Small es := fun s hs => by
  obtain ⟨j, hj, rfl⟩ := List.getElem_of_mem hs
  exact h j hj (by omega)

def Says (Q : Prop) (w : World) (e : Ending) (w' : World) : Prop := ∃ x : Bool, e = .returned (.bool x) ∧ w = w' ∧ (x = true → Q)
theorem says_no {Q : Prop} {w : World} : Says Q w (.returned (.bool false)) w := ⟨false, rfl, rfl, by simp⟩
theorem says_yes {Q : Prop} {w : World} (h : Q) : Says Q w (.returned (.bool true)) w := ⟨true, rfl, rfl, fun _ => h⟩

def Fits (es : List (ByteArray × ByteArray)) : Prop := ∀ p ∈ es, p.1.size ≤ maxLen ∧ p.2.size ≤ maxLen

set_option maxHeartbeats 1000000 in
theorem bytes1_any (a : Option Addr) (c B : Nat) (es : List (ByteArray × ByteArray)) (id df : ByteArray) (w : World) (h1 : es.length ≤ maxLen) (h2 : id.size ≤ maxLen) (h3 : df.size ≤ maxLen) (hE : Ents B w a es) (hf : Fits es) :
    Calls Try.prog 11 #[.slice a es.length c, .string id, .string df] w fun e w' => Says (Small es) w e w' := by
  unfold Fits at hf
  unfold maxLen at *
  go_enter Try.func11, Try.ntmps11
  go_wp2
  · go_ret
    exact says_no
  · go_loop [7, 8] (fun z i => ∃ (t : Int) (k : Nat), 0 ≤ t ∧ t ≤ 1048576 ∧ z = .int .i64 t ∧ k ≤ es.length ∧ i = .int .i64 k ∧ SmallTo es k) (fun _ i => es.length - (intOf i).toNat)
    case atStart => exact ⟨_, 0, by omega, by omega, rfl, Nat.zero_le _, rfl, fun j _ h => absurd h (Nat.not_lt_zero _)⟩
    case round =>
      obtain ⟨t, k, ht0, ht1, rfl, hk, rfl, hS⟩ := hrel
      by_cases hlt : k < es.length
      · obtain ⟨b, off, rfl, _, hc⟩ := hE.addr (by omega)
        obtain ⟨g1, g2⟩ := hc k hlt
        obtain ⟨z1, z2⟩ := hf _ (List.getElem_mem hlt)
        clear hc hE hf
        go_wp2
        all_goals first
          | (go_ret; exact says_no)
          | (have hz1 : ((es[k].1.size : Nat) : Int) ≤ 1048576 := by assumption
             have hz2 : ((es[k].2.size : Nat) : Int) ≤ 1048576 := by assumption
             go_round
             case rel => exact ⟨_, k + 1, by omega, by omega, rfl, by omega, by go_num, small_step hS hlt ⟨by omega, by omega⟩⟩
             case measure => simp [intOf]; omega)
      · have hAll := small_all hS (by omega)
        clear hS hE hf
        go_wp2
        all_goals (go_ret; first | exact says_no | exact says_yes hAll | exact says_yes trivial)

set_option maxHeartbeats 1000000 in
theorem bytes2_any (a : Option Addr) (c B : Nat) (es : List (ByteArray × ByteArray)) (a2 : Option Addr) (c2 B2 : Nat) (fs : List (ByteArray × ByteArray)) (w : World) (h1 : es.length ≤ maxLen) (h2 : fs.length ≤ maxLen) (hE : Ents B w a es) (hF : Ents B2 w a2 fs) (hf : Fits es) (hg : Fits fs) :
    Calls Try.prog 5 #[.slice a es.length c, .slice a2 fs.length c2] w fun e w' => Says (Small es ∧ Small fs) w e w' := by
  unfold Fits at hf hg
  unfold maxLen at *
  go_enter Try.func5, Try.ntmps5
  go_wp2
  · go_ret
    exact says_no
  · go_loop [5, 6] (fun z i => ∃ (t : Int) (k : Nat), 0 ≤ t ∧ t ≤ 1048576 ∧ z = .int .i64 t ∧ k ≤ es.length ∧ i = .int .i64 k ∧ SmallTo es k) (fun _ i => es.length - (intOf i).toNat)
    case atStart => exact ⟨_, 0, by omega, by omega, rfl, Nat.zero_le _, rfl, fun j _ h => absurd h (Nat.not_lt_zero _)⟩
    case round =>
      obtain ⟨t, k, ht0, ht1, rfl, hk, rfl, hS⟩ := hrel
      by_cases hlt : k < es.length
      · obtain ⟨b, off, rfl, _, hc⟩ := hE.addr (by omega)
        obtain ⟨g1, g2⟩ := hc k hlt
        obtain ⟨z1, z2⟩ := hf _ (List.getElem_mem hlt)
        clear hc hE hF hf hg
        go_wp2
        all_goals first
          | (go_ret; exact says_no)
          | (have hz1 : ((es[k].1.size : Nat) : Int) ≤ 1048576 := by assumption
             have hz2 : ((es[k].2.size : Nat) : Int) ≤ 1048576 := by assumption
             go_round
             case rel => exact ⟨_, k + 1, by omega, by omega, rfl, by omega, by go_num, small_step hS hlt ⟨by omega, by omega⟩⟩
             case measure => simp [intOf]; omega)
      · have hAll := small_all hS (by omega)
        clear hS hE hf
        go_wp2
        · go_ret
          exact says_no
        · go_ret
          exact says_no
        · go_loop [5, 7] (fun z i => ∃ (t : Int) (k : Nat), 0 ≤ t ∧ t ≤ 1048576 ∧ z = .int .i64 t ∧ k ≤ fs.length ∧ i = .int .i64 k ∧ SmallTo fs k) (fun _ i => fs.length - (intOf i).toNat)
          case atStart => exact ⟨_, 0, by omega, by omega, rfl, Nat.zero_le _, rfl, fun j _ h => absurd h (Nat.not_lt_zero _)⟩
          case round =>
            obtain ⟨t2, k2, hu0, hu1, rfl, hk2, rfl, hS2⟩ := hrel
            by_cases hlt2 : k2 < fs.length
            · obtain ⟨b, off, rfl, _, hc⟩ := hF.addr (by omega)
              obtain ⟨g1, g2⟩ := hc k2 hlt2
              obtain ⟨z1, z2⟩ := hg _ (List.getElem_mem hlt2)
              clear hc hF hg
              go_wp2
              all_goals first
                | (go_ret; exact says_no)
                | (have hz1 : ((fs[k2].1.size : Nat) : Int) ≤ 1048576 := by assumption
                   have hz2 : ((fs[k2].2.size : Nat) : Int) ≤ 1048576 := by assumption
                   go_round
                   case rel => exact ⟨_, k2 + 1, by omega, by omega, rfl, by omega, by go_num, small_step hS2 hlt2 ⟨by omega, by omega⟩⟩
                   case measure => simp [intOf]; omega)
            · have hAll2 := small_all hS2 (by omega)
              clear hS2 hF hg
              go_wp2
              all_goals (go_ret; first | exact says_no | exact says_yes ⟨hAll, hAll2⟩ | exact says_yes trivial)

end Go.Proofs.Qxb6631797a
