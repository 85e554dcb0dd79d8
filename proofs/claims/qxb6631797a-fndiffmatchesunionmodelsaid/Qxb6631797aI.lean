import Derived.Test.Qxb6631797aH
namespace Go.Proofs.Qxb6631797a
open Go.RowKit Go.Maps Go.Sort

theorem Keys.len {B : Nat} {w : World} {v : Value} {ss : List (List UInt8)} (h : Keys B w v ss) : ss.length ≤ maxLen := by
  rcases h.2 with ⟨_, hl⟩ | ⟨g, cap, cur, _, _, _, h1, h2, _⟩
  · rw [hl]; exact Nat.zero_le _
  · omega

theorem same_any (v1 v2 : Value) (ss : List (List UInt8)) (w : World) (h1 : Strs w v1 ss) (h2 : Strs w v2 ss) (hbig : ss.length ≤ maxLen) :
    Calls Try.prog 10 #[v1, v2] w fun e w' => e = .returned (.bool true) ∧ ∃ q, w' = w.drewN q := by
  obtain ⟨a1, c1, rfl, h1⟩ := h1
  obtain ⟨a2, c2, rfl, h2⟩ := h2
  unfold maxLen at hbig
  go_enter Try.func10, Try.ntmps10
  go_wp2
  go_loopw [5] (fun i wr => ∃ k q : Nat, k ≤ ss.length ∧ i = .int .i64 k ∧ wr = w.drewN q) (fun i _ => ss.length - (intOf i).toNat)
  case atStart => exact ⟨0, 0, Nat.zero_le _, rfl, rfl⟩
  case round =>
    obtain ⟨k, q, hk, rfl, rfl⟩ := hrel
    by_cases hlt : k < ss.length
    · have hp : ss ≠ [] := fun e => by subst e; simp at hlt
      obtain ⟨b1, o1, rfl, _, q1⟩ := h1.resolve_left hp
      obtain ⟨b2, o2, rfl, _, q2⟩ := h2.resolve_left hp
      have g1 := q1 k hlt
      have g2 := q2 k hlt
      have i1 : (k : Int) < (ss.length : Int) := by omega
      clear q1 q2 h1 h2
      generalize (⟨ss[k].toArray⟩ : ByteArray) = x at g1 g2
      go_wp2
      go_quiet (fail)
      go_wp2
      go_roundw
      case rel => exact ⟨k + 1, _, by omega, by go_num, rfl⟩
      case measure => simp [intOf]; omega
    · clear h1 h2
      go_wp2
      go_ret
      exact ⟨rfl, q, rfl⟩

def Mid (B : Nat) (w : World) (g cap : Nat) (L0 : List (List UInt8)) (wr : World) (L : List (List UInt8)) : Prop := Row wr g cap L ∧ L.Perm L0 ∧ Below B w wr

theorem sort_walk (B g cap : Nat) (L0 : List (List UInt8)) (w : World) (hR : Row w g cap L0) (hB : B ≤ g) (hbig : L0.length ≤ 4194304) :
    Calls Try.prog 13 #[.slice (some ⟨g, 0, none⟩) L0.length cap] w fun e w' => e = .returned (.tuple #[]) ∧ ∃ L, Mid B w g cap L0 w' L ∧ L.Pairwise (fun x y => x ≤ y) := by
  have HB : Hid (B ≤ g) := hB
  clear hB
  go_enter Try.func13, Try.ntmps13
  go_wp2
  go_loopw [2] (fun i wr => ∃ k : Nat, 1 ≤ k ∧ k ≤ L0.length + 1 ∧ i = .int .i64 k ∧ ∃ L, Mid B w g cap L0 wr L ∧ ∀ a b, a < b → b < k → b < L.length → L.getD a [] ≤ L.getD b []) (fun i _ => L0.length + 1 - (intOf i).toNat)
  case atStart => exact ⟨1, Nat.le_refl _, by omega, rfl, L0, ⟨hR, List.Perm.refl _, Below.refl _ _⟩, fun a b h1 h2 => by omega⟩
  case round =>
    obtain ⟨k, hk1, hk2, rfl, L, hM, hS⟩ := hrel
    clear hR
    have hll := hM.2.1.length_eq
    by_cases hlt : k < L0.length
    · have HS : Hid (SrtF (fun a => L.getD a []) k k) := fun a b h1 h2 h3 => hS a b h1 (by omega) (by omega)
      have HL : Hid (L.length = L0.length) := hll
      clear hS hll
      go_wp2
      go_loopw [3] (fun j wr => ∃ q : Nat, q ≤ k ∧ j = .int .i64 q ∧ ∃ L, Mid B w g cap L0 wr L ∧ SrtF (fun a => L.getD a []) k q) (fun j _ => (intOf j).toNat)
      case atStart => exact ⟨k, Nat.le_refl _, rfl, L, hM, HS.out⟩
      case round =>
        clear hM HS HL
        obtain ⟨q, hq, rfl, L, hM, hS⟩ := hrel
        have HS : Hid (SrtF (fun a => L.getD a []) k q) := hS
        have HL : Hid (L.length = L0.length) := hM.2.1.length_eq
        clear hS
        cases q with
        | zero =>
          go_wp2
          go_quiet (fail)
          go_wp2
          go_roundw
          case rel => exact ⟨k + 1, by omega, by omega, by go_num, L, ⟨hM.1.heap rfl, hM.2.1, bdraw hM.2.2 _⟩, fun a b h1 h2 _ => srt_end HS.out (.inl rfl) a b h1 h2⟩
          case measure => simp [intOf]; omega
        | succ q =>
          obtain ⟨x, hx, c1, f1⟩ := hM.1.cell (j := q + 1) (by have := HL.out; omega)
          obtain ⟨y, hy, c2, f2⟩ := hM.1.cell (j := q) (by have := HL.out; omega)
          have e1 : IntKind.i64.wrap ((q : Int) + 1 - 1) = (q : Int) := by rw [IntWalk.i64_in _ (by omega)]; omega
          have i1 : (q : Int) + 1 < (L0.length : Int) := by omega
          have i2 : (q : Int) < (L0.length : Int) := by omega
          have HX : Hid (bs x = L.getD (q + 1) [] ∧ bs y = L.getD q []) := ⟨hx, hy⟩
          by_cases hd : L.getD (q + 1) [] < L.getD q []
          · have hbl := less_yes hx hy hd
            have HD : Hid (L.getD (q + 1) [] < L.getD q []) := hd
            clear hx hy hd
            go_wp2
            go_quiet (fail)
            go_wp2
            have hjl : q + 1 < L.length := by have := HL.out; omega
            obtain ⟨p1, p2, p3⟩ := swp_at L q hjl
            have hR' := (hM.1.heap (w' := wr.drewN nq) rfl).swap hjl HX.out.1 HX.out.2
            go_roundw
            case rel => exact ⟨q, by omega, rfl, _, ⟨hR', (swp_perm L q hjl).trans hM.2.1, ((bdraw hM.2.2 _).setCell (by exact HB.out) _).setCell (by exact HB.out) _⟩, srt_swap HS.out hq HD.out p1 p2 p3⟩
            case measure => simp [intOf]
          · have hbl := less_no hx hy hd
            have HD : Hid (¬ L.getD (q + 1) [] < L.getD q []) := hd
            clear hx hy hd
            go_wp2
            go_quiet (fail)
            go_wp2
            go_roundw
            case rel => exact ⟨k + 1, by omega, by omega, by go_num, L, ⟨hM.1.heap rfl, hM.2.1, bdraw hM.2.2 _⟩, fun a b h1 h2 _ => srt_end HS.out (.inr ⟨q, rfl, HD.out⟩) a b h1 h2⟩
            case measure => simp [intOf]; omega
    · have HL : Hid (L.length = L0.length) := hll
      have HS : Hid (∀ a b, a < b → b < k → b < L.length → L.getD a [] ≤ L.getD b []) := hS
      clear hll hS
      go_wp2
      go_end0
      refine ⟨rfl, L, hM, List.pairwise_iff_getElem.2 fun a b ha hb hab => ?_⟩
      have := HS.out a b hab (by have := HL.out; omega) hb
      simpa [List.getD, ha, hb] using this

theorem sort_any (B : Nat) (v : Value) (L : List (List UInt8)) (w : World) (hK : Keys B w v L) (hn : v ≠ .slice none 0 0) (hbig : L.length ≤ 4194304) :
    Calls Try.prog 13 #[v] w fun e w' => e = .returned (.tuple #[]) ∧ ∃ T, Keys B w' v T ∧ T.Perm L ∧ T.Pairwise (fun x y => x ≤ y) ∧ Below B w w' := by
  have hK' := hK
  rcases hK.2 with ⟨h, _⟩ | ⟨g, cap, cur, rfl, _⟩
  · exact absurd h hn
  · obtain ⟨hR, _, hB, hc⟩ := hK'.row
    refine (sort_walk B g cap L w hR hB hbig).mono fun e w' ⟨h1, T, ⟨h2, h3, h4⟩, h5⟩ => ⟨h1, T, ?_, h3, h5, h4⟩
    have := h2.keys hB hc
    rw [h3.length_eq] at this
    exact this

end Go.Proofs.Qxb6631797a
