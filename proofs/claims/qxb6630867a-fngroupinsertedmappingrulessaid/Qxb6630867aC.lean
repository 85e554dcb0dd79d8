import Derived.Test.Qxb6630867aB
namespace Go.Proofs.Qxb6630867a
open Go.RowKit

def Cut (g : ByteArray) (k : Nat) : Prop := k = 0 ∨ ∃ h : k - 1 < g.size, g[k - 1] = 46

def Model (os ns : List ByteArray) (g r : ByteArray) (ok : Bool) : Prop :=
  (ok = true ∧ ∃ i, ∃ hi : i < os.length, ∃ hn : i < ns.length, within (bs g) (bs os[i]) = true ∧ bs r = Lib.trimSuffix (bs g) (bs os[i]) ++ bs ns[i]) ∨
  (ok = false ∧ r = g ∧ ∀ i, ∀ hi : i < os.length, within (bs g) (bs os[i]) = false)

theorem bs_from (g : ByteArray) (k : Nat) : bs (g.extract k g.size) = (bs g).drop k := by
  have := Lib.extract_toList g k g.size
  rw [Lib.toList_data] at this
  rw [bs, this, List.take_of_length_le (by rw [List.length_drop, bs_len]; exact Nat.le_refl _)]

theorem bs_to (g : ByteArray) (k : Nat) : bs (g.extract 0 k) = (bs g).take k := by
  have := Lib.extract_toList g 0 k
  rw [Lib.toList_data] at this
  rw [bs, this]
  simp

theorem bs_app (a b : ByteArray) : bs (a ++ b) = bs a ++ bs b := by simp [bs]

theorem cut_ends {g : ByteArray} {k : Nat} (hk : k ≤ g.size) (h : Cut g k) : Ends ((bs g).take k) := by
  rcases h with rfl | ⟨h1, h2⟩
  · exact .inl rfl
  · by_cases h0 : k = 0
    · subst h0; exact .inl rfl
    · refine .inr ⟨(bs g).take (k - 1), ?_⟩
      have := take_bs g (k - 1) h1
      rw [show k - 1 + 1 = k from by omega, h2] at this
      exact this

theorem model_hit (os ns : List ByteArray) (g : ByteArray) (k m : Nat) (h1 : m < os.length) (h2 : m < ns.length) (hk : k ≤ g.size) (hc : Cut g k) (he : bs os[m] = (bs g).drop k) (r : ByteArray) (hr : bs r = (bs g).take k ++ bs ns[m]) : Model os ns g r true := by
  have hg : bs g = (bs g).take k ++ bs os[m] := by rw [he, List.take_append_drop]
  refine .inl ⟨rfl, m, h1, h2, (within_iff _ _).2 ⟨_, hg, cut_ends hk hc⟩, ?_⟩
  rw [hr]
  congr 1
  have e : Lib.trimSuffix ((bs g).take k ++ bs os[m]) (bs os[m]) = (bs g).take k := trim_app _ _
  rw [← hg] at e
  exact e.symm

theorem model_miss (os ns : List ByteArray) (g : ByteArray) (k : Nat) (hk : g.size < k) (h : ∀ k', k' < k → Cut g k' → ∀ i, ∀ hi : i < os.length, bs os[i] ≠ (bs g).drop k') : Model os ns g g false := by
  refine .inr ⟨rfl, rfl, fun i hi => ?_⟩
  cases hw : within (bs g) (bs os[i])
  · rfl
  · obtain ⟨q, h1, h2⟩ := (within_iff _ _).1 hw
    have hl := congrArg List.length h1
    rw [List.length_append, bs_len, bs_len] at hl
    refine absurd ?_ (h q.length (by omega) ?_ i hi)
    · rw [h1]; simp
    · rcases h2 with rfl | ⟨r, rfl⟩
      · exact .inl rfl
      · have hi2 : (r ++ [46]).length - 1 < g.size := by simp at hl ⊢; omega
        refine .inr ⟨hi2, ?_⟩
        have e : g[(r ++ [(46 : UInt8)]).length - 1] = (bs g)[(r ++ [(46 : UInt8)]).length - 1]'(by rw [bs_len]; exact hi2) := rfl
        rw [e]
        simp only [h1]
        simp

set_option maxHeartbeats 1000000 in
theorem model_any (a : Option Addr) (c B : Nat) (a2 : Option Addr) (c2 B2 : Nat) (os ns : List ByteArray) (g : ByteArray) (w : World) (hl : ns.length = os.length) (hbig : os.length ≤ 1048576) (hg : g.size ≤ 1048576) (hsz : ∀ s ∈ ns, s.size ≤ 1048576)
    (hO : StrsB B w a os) (hN : StrsB B2 w a2 ns) :
    Calls Try.prog 7 #[.slice a os.length c, .slice a2 ns.length c2, .string g] w fun e w' => ∃ r ok q, e = .returned (.tuple #[.string r, .bool ok]) ∧ w' = w.drewN q ∧ Model os ns g r ok := by
  have HL : Hid (ns.length = os.length) := hl
  clear hl
  go_enter Try.func7, Try.ntmps7
  go_wp2
  go_loopw [8] (fun i wr => ∃ k q : Nat, k ≤ g.size + 1 ∧ i = .int .i64 k ∧ wr = w.drewN q ∧ ∀ k', k' < k → Cut g k' → ∀ i, ∀ hi : i < os.length, bs os[i] ≠ (bs g).drop k') (fun i _ => g.size + 1 - (intOf i).toNat)
  case atStart => exact ⟨0, 0, Nat.zero_le _, rfl, rfl, fun k' h => absurd h (Nat.not_lt_zero _)⟩
  case round =>
    obtain ⟨k, q, hk, rfl, rfl, hno⟩ := hrel
    by_cases hlt : k ≤ g.size
    · by_cases hcut : Cut g k
      · have hpre : k = 0 ∨ k ≠ 0 := by omega
        rcases hpre with h0 | h0
        · have HT : Hid (bs g = (bs g).drop k) := by rw [h0]; rfl
          go_wp2
          go_loopw [10] (fun i wr => ∃ m q : Nat, m ≤ os.length ∧ i = .int .i64 m ∧ wr = w.drewN q ∧ ∀ i, i < m → ∀ hi : i < os.length, bs os[i] ≠ (bs g).drop k) (fun i _ => os.length - (intOf i).toNat)
          case atStart => exact ⟨0, q, Nat.zero_le _, rfl, rfl, fun i h => absurd h (Nat.not_lt_zero _)⟩
          case round =>
            obtain ⟨m, q2, hm, rfl, rfl, hne⟩ := hrel
            by_cases hlm : m < os.length
            · have hmn : m < ns.length := by rw [HL.out]; exact hlm
              obtain ⟨b, off, rfl, _, hc⟩ := hO.addr (by omega)
              obtain ⟨b2, off2, rfl, _, hc2⟩ := hN.addr (by omega)
              have i2 : (m : Int) < (ns.length : Int) := by omega
              have g1 : w.cell? ⟨b, off + m, none⟩ = some (.string (os.getD m ByteArray.empty)) := hc m hlm
              have g2 : w.cell? ⟨b2, off2 + m, none⟩ = some (.string (ns.getD m ByteArray.empty)) := hc2 m hmn
              have i1 : (m : Int) < (os.length : Int) := by omega
              have z2 := hsz _ (List.getElem_mem hmn)
              by_cases he : (os[m].toList == (g).toList) = true
              · have HF : Hid (Model os ns g ns[m] true) := model_hit os ns g k m hlm hmn hlt hcut (by rw [eq_bs he]; exact HT.out) _ (by rw [h0]; rfl)
                clear hno hne hc hc2 hsz
                go_wp2
                go_quiet (fail)
                go_wp2
                go_ret2
                exact ⟨_, true, _, rfl, World.drewN_drewN _ _ _, HF.out⟩
              · have he' : (os[m].toList == (g).toList) = false := by simpa using he
                have HF : Hid (∀ i, i < m + 1 → ∀ hi : i < os.length, bs os[i] ≠ (bs g).drop k) := by
                  intro i h1 hi
                  by_cases e : i = m
                  · subst e; rw [← HT.out]; exact ne_bs he'
                  · exact hne i (by omega) hi
                clear hno hne hc hc2 hsz he
                go_wp2
                go_roundw
                case rel => exact ⟨m + 1, _, by omega, by go_num, rfl, HF.out⟩
                case measure => simp [intOf]; omega
            · have HF : Hid (∀ k', k' < k + 1 → Cut g k' → ∀ i, ∀ hi : i < os.length, bs os[i] ≠ (bs g).drop k') := by
                intro k' h1 h2 i hi
                by_cases e : k' = k
                · subst e; exact hne i (by omega) hi
                · exact hno k' (by omega) h2 i hi
              clear hno hne hsz
              go_wp2
              go_roundw
              case rel => exact ⟨k + 1, _, by omega, by go_num, rfl, HF.out⟩
              case measure => simp [intOf]; omega
        · have hk1 : k - 1 < g.size := by omega
          have hdot : g[k - 1] = 46 := by
            rcases hcut with h | ⟨h, h'⟩
            · exact absurd h h0
            · exact h'
          have hdi : ((g[k - 1].toNat : Int) == 46) = true := by rw [hdot]; rfl
          clear hdot
          have HT : Hid (bs (g.extract k g.size) = (bs g).drop k) := bs_from g k
          go_wp2
          go_loopw [10] (fun i wr => ∃ m q : Nat, m ≤ os.length ∧ i = .int .i64 m ∧ wr = w.drewN q ∧ ∀ i, i < m → ∀ hi : i < os.length, bs os[i] ≠ (bs g).drop k) (fun i _ => os.length - (intOf i).toNat)
          case atStart => exact ⟨0, q, Nat.zero_le _, rfl, rfl, fun i h => absurd h (Nat.not_lt_zero _)⟩
          case round =>
            obtain ⟨m, q2, hm, rfl, rfl, hne⟩ := hrel
            by_cases hlm : m < os.length
            · have hmn : m < ns.length := by rw [HL.out]; exact hlm
              obtain ⟨b, off, rfl, _, hc⟩ := hO.addr (by omega)
              obtain ⟨b2, off2, rfl, _, hc2⟩ := hN.addr (by omega)
              have i2 : (m : Int) < (ns.length : Int) := by omega
              have g1 : w.cell? ⟨b, off + m, none⟩ = some (.string (os.getD m ByteArray.empty)) := hc m hlm
              have g2 : w.cell? ⟨b2, off2 + m, none⟩ = some (.string (ns.getD m ByteArray.empty)) := hc2 m hmn
              have i1 : (m : Int) < (os.length : Int) := by omega
              have z2 := hsz _ (List.getElem_mem hmn)
              by_cases he : (os[m].toList == (g.extract k g.size).toList) = true
              · have HF : Hid (Model os ns g (g.extract 0 k ++ ns[m]) true) := model_hit os ns g k m hlm hmn hlt hcut (by rw [eq_bs he]; exact HT.out) _ (by rw [bs_app, bs_to])
                clear hno hne hc hc2 hsz
                go_wp2
                go_quiet (fail)
                go_wp2
                go_ret2
                exact ⟨_, true, _, rfl, World.drewN_drewN _ _ _, HF.out⟩
              · have he' : (os[m].toList == (g.extract k g.size).toList) = false := by simpa using he
                have HF : Hid (∀ i, i < m + 1 → ∀ hi : i < os.length, bs os[i] ≠ (bs g).drop k) := by
                  intro i h1 hi
                  by_cases e : i = m
                  · subst e; rw [← HT.out]; exact ne_bs he'
                  · exact hne i (by omega) hi
                clear hno hne hc hc2 hsz he
                go_wp2
                go_roundw
                case rel => exact ⟨m + 1, _, by omega, by go_num, rfl, HF.out⟩
                case measure => simp [intOf]; omega
            · have HF : Hid (∀ k', k' < k + 1 → Cut g k' → ∀ i, ∀ hi : i < os.length, bs os[i] ≠ (bs g).drop k') := by
                intro k' h1 h2 i hi
                by_cases e : k' = k
                · subst e; exact hne i (by omega) hi
                · exact hno k' (by omega) h2 i hi
              clear hno hne hsz
              go_wp2
              go_roundw
              case rel => exact ⟨k + 1, _, by omega, by go_num, rfl, HF.out⟩
              case measure => simp [intOf]; omega
      · have hk0 : k ≠ 0 := fun e => hcut (.inl e)
        have hk1 : k - 1 < g.size := by omega
        have hdi : ((g[k - 1].toNat : Int) == 46) = false := by
          cases hb : ((g[k - 1].toNat : Int) == 46)
          · rfl
          · exact absurd (.inr ⟨hk1, UInt8.toNat_inj.1 (by have := beq_iff_eq.1 hb; simpa using (by omega : g[k - 1].toNat = 46))⟩) hcut
        have HF : Hid (∀ k', k' < k + 1 → Cut g k' → ∀ i, ∀ hi : i < os.length, bs os[i] ≠ (bs g).drop k') := by
          intro k' h1 h2 i hi
          by_cases e : k' = k
          · subst e; exact absurd h2 hcut
          · exact hno k' (by omega) h2 i hi
        clear hno hcut
        go_wp2
        go_roundw
        case rel => exact ⟨k + 1, _, by omega, by go_num, rfl, HF.out⟩
        case measure => simp [intOf]; omega
    · have HF : Hid (Model os ns g g false) := model_miss os ns g k (by omega) hno
      clear hno
      go_wp2
      go_ret2
      exact ⟨g, false, _, rfl, rfl, HF.out⟩

end Go.Proofs.Qxb6630867a
