import Derived.Test.Qxb6630867aShelf
import Derived.Test.Qxb6630867aP
import Derived.WalkKit
import Derived.WalkSpells
import Derived.WalkLawsBesides
import Derived.Deep.QuietTactic
import Derived.BigQuiet
namespace Go.Proofs.Qxb6630867a
open Go.RowKit

abbrev bs (s : ByteArray) : List UInt8 := s.data.toList

theorem bs_len (s : ByteArray) : (bs s).length = s.size := by simp [bs]

theorem take_bs (s : ByteArray) (k : Nat) (h : k < s.size) : (bs s).take (k + 1) = (bs s).take k ++ [s[k]] := by
  rw [List.take_succ_eq_append_getElem (by rw [bs_len]; exact h)]
  rfl

theorem take_drop_bs (s : ByteArray) (d k : Nat) (h : d + k < s.size) : ((bs s).drop d).take (k + 1) = ((bs s).drop d).take k ++ [s[d + k]] := by
  rw [List.take_succ_eq_append_getElem (by rw [List.length_drop, bs_len]; omega)]
  congr 2
  rw [List.getElem_drop]
  rfl

theorem byte_eq {a b : UInt8} (h : ((a.toNat : Int) != (b.toNat : Int)) = false) : a = b := by
  simp at h
  exact UInt8.toNat_inj.1 (by omega)

theorem byte_ne {a b : UInt8} (h : ((a.toNat : Int) != (b.toNat : Int)) = true) : a ≠ b := by
  rintro rfl
  simp at h

theorem suf_miss (s p : ByteArray) (d k : Nat) (hd : d = s.size - p.size) (hk : k < p.size) (h1 : d + k < s.size) (hne : s[d + k] ≠ p[k]) : Lib.hasSuffix (bs s) (bs p) = false := by
  rw [← Lib.hasSuffix_of_drop, bs_len, bs_len, ← hd]
  cases hb : ((bs s).drop d == bs p)
  · simp
  · have e := beq_iff_eq.1 hb
    have e2 := congrArg (fun l => l[k]?) e
    simp only [List.getElem?_drop] at e2
    rw [List.getElem?_eq_getElem (by rw [bs_len]; exact h1), List.getElem?_eq_getElem (by rw [bs_len]; exact hk)] at e2
    exact absurd (Option.some.inj e2) hne

theorem suf_hit (s p : ByteArray) (d : Nat) (hd : d = s.size - p.size) (hle : p.size ≤ s.size) (h : ((bs s).drop d).take p.size = (bs p).take p.size) : Lib.hasSuffix (bs s) (bs p) = true := by
  rw [← Lib.hasSuffix_of_drop, bs_len, bs_len, ← hd]
  rw [List.take_of_length_le (by rw [List.length_drop, bs_len]; omega), List.take_of_length_le (by rw [bs_len]; omega)] at h
  simp [h, hle]

theorem suf_long (s p : ByteArray) (h : ¬ p.size ≤ s.size) : Lib.hasSuffix (bs s) (bs p) = false := by
  rw [← Lib.hasSuffix_of_drop, bs_len, bs_len]
  simp [h]

theorem ret_bool {a b : Bool} (h : a = b) : Ending.returned (.bool a) = .returned (.bool b) := by rw [h]

theorem hasSuffix_any (s p : ByteArray) (w : World) (hs : s.size ≤ 1048576) (hp : p.size ≤ 1048576) :
    Calls Try.prog 14 #[.string s, .string p] w fun e w' => e = .returned (.bool (Lib.hasSuffix (bs s) (bs p))) ∧ ∃ q, w' = w.drewN q := by
  by_cases hle : p.size ≤ s.size
  · obtain ⟨d, hd⟩ : ∃ d : Nat, d = s.size - p.size := ⟨_, rfl⟩
    have hdi : (s.size : Int) - (p.size : Int) = (d : Int) := by omega
    have hdb : d + p.size ≤ s.size := by omega
    have HD : Hid (d = s.size - p.size) := hd
    clear hd
    go_enter Try.func14, Try.ntmps14
    go_wp2
    go_loopw [6] (fun i wr => ∃ k q : Nat, k ≤ p.size ∧ i = .int .i64 k ∧ wr = w.drewN q ∧ ((bs s).drop d).take k = (bs p).take k) (fun i _ => p.size - (intOf i).toNat)
    case atStart => exact ⟨0, 0, Nat.zero_le _, rfl, rfl, rfl⟩
    case round =>
      obtain ⟨k, q, hk, rfl, rfl, hrel⟩ := hrel
      by_cases hlt : k < p.size
      · have i1 : (k : Int) < (p.size : Int) := by omega
        have i2 : d + k < s.size := by omega
        have i3 : ((d : Int) + (k : Int)) < (s.size : Int) := by omega
        have i4 : (0 : Int) ≤ (d : Int) + (k : Int) := by omega
        have i5 : IntKind.i64.wrap ((d : Int) + (k : Int)) = (d : Int) + (k : Int) := IntWalk.i64_in _ (by omega)
        go_wp2
        go_quiet (fail)
        go_wp2
        · have hne : ((s[d + k].toNat : Int) != (p[k].toNat : Int)) = true := by assumption
          go_ret
          exact ⟨ret_bool (suf_miss s p d k HD.out hlt i2 (byte_ne hne)).symm, _, World.drewN_drewN _ _ _⟩
        · have heq : ((s[d + k].toNat : Int) != (p[k].toNat : Int)) = false := by assumption
          have hst : ((bs s).drop d).take (k + 1) = (bs p).take (k + 1) := by rw [take_drop_bs s d k i2, take_bs p k hlt, hrel, byte_eq heq]
          go_roundw
          case rel => exact ⟨k + 1, _, by omega, by go_num, rfl, hst⟩
          case measure => simp [intOf]; omega
      · have ek : k = p.size := by omega
        subst ek
        go_wp2
        go_ret
        exact ⟨ret_bool (suf_hit s p d HD.out hle hrel).symm, _, rfl⟩
  · go_enter Try.func14, Try.ntmps14
    go_wp2
    go_ret
    exact ⟨ret_bool (suf_long s p hle).symm, 0, rfl⟩

theorem eq_bs {a b : ByteArray} (h : (a.toList == b.toList) = true) : bs a = bs b := by
  rw [Lib.toList_data, Lib.toList_data] at h
  exact beq_iff_eq.1 h

theorem ne_bs {a b : ByteArray} (h : (a.toList == b.toList) = false) : bs a ≠ bs b := by
  rw [Lib.toList_data, Lib.toList_data] at h
  intro e
  simp [e] at h

theorem nest_eq {a b : ByteArray} (h : (a.toList == b.toList) = true) : within (bs a) (bs b) = true := by
  rw [eq_bs h]
  exact within_self _

theorem nest_short {a b : ByteArray} (h : (a.toList == b.toList) = false) (hl : a.size ≤ b.size) : within (bs a) (bs b) = false := by
  cases hw : within (bs a) (bs b)
  · rfl
  · obtain ⟨q, h1, _⟩ := (within_iff _ _).1 hw
    have h2 := congrArg List.length h1
    rw [List.length_append, bs_len, bs_len] at h2
    have : q = [] := List.eq_nil_of_length_eq_zero (by omega)
    subst this
    exact absurd h1 (ne_bs h)

theorem nest_last {a b : ByteArray} {q : List UInt8} (hl : ¬ a.size ≤ b.size) (h1 : bs a = q ++ bs b) (hi : a.size - b.size - 1 < a.size) : ∃ r, q = r ++ [a[a.size - b.size - 1]] := by
  have h2 := congrArg List.length h1
  rw [List.length_append, bs_len, bs_len] at h2
  have hq : q.length - 1 < q.length := by omega
  refine ⟨q.take (q.length - 1), ?_⟩
  have e1 : (bs a)[a.size - b.size - 1]'(by rw [bs_len]; exact hi) = q[q.length - 1] := by
    have : a.size - b.size - 1 = q.length - 1 := by omega
    simp only [h1, this]
    rw [List.getElem_append_left hq]
  have e2 : a[a.size - b.size - 1] = q[q.length - 1] := e1
  rw [e2]
  have := List.take_succ_eq_append_getElem hq
  rw [show q.length - 1 + 1 = q.length from by omega, List.take_of_length_le (Nat.le_refl _)] at this
  exact this

theorem nest_nodot {a b : ByteArray} (hl : ¬ a.size ≤ b.size) (hi : a.size - b.size - 1 < a.size) (hd : ((a[a.size - b.size - 1].toNat : Int) != 46) = true) : within (bs a) (bs b) = false := by
  cases hw : within (bs a) (bs b)
  · rfl
  · obtain ⟨q, h1, h2⟩ := (within_iff _ _).1 hw
    obtain ⟨r, rfl⟩ := nest_last hl h1 hi
    rcases h2 with h2 | ⟨r', h2⟩
    · simp at h2
    · have := List.append_inj_right' h2 rfl
      simp at this
      rw [this] at hd
      simp at hd

theorem nest_dot {a b : ByteArray} (hl : ¬ a.size ≤ b.size) (hi : a.size - b.size - 1 < a.size) (hd : ((a[a.size - b.size - 1].toNat : Int) != 46) = false) : within (bs a) (bs b) = Lib.hasSuffix (bs a) (bs b) := by
  cases hs : Lib.hasSuffix (bs a) (bs b)
  · cases hw : within (bs a) (bs b)
    · rfl
    · obtain ⟨q, h1, h2⟩ := (within_iff _ _).1 hw
      rw [h1, suffix_of_app] at hs
      cases hs
  · unfold Lib.hasSuffix at hs
    rw [List.isSuffixOf_iff_suffix] at hs
    obtain ⟨q, h1⟩ := hs
    obtain ⟨r, rfl⟩ := nest_last hl h1.symm hi
    refine (within_iff _ _).2 ⟨_, h1.symm, .inr ⟨r, ?_⟩⟩
    have : a[a.size - b.size - 1] = 46 := by
      simp at hd
      exact UInt8.toNat_inj.1 (by simpa using (by omega : a[a.size - b.size - 1].toNat = 46))
    rw [this]

theorem nested_any (a b : ByteArray) (w : World) (ha : a.size ≤ 1048576) (hb : b.size ≤ 1048576) :
    Calls Try.prog 11 #[.string a, .string b] w fun e w' => e = .returned (.bool (within (bs a) (bs b))) ∧ ∃ q, w' = w.drewN q := by
  have kS := hasSuffix_any a b w ha hb
  go_enter Try.func11, Try.ntmps11
  go_wp2_with (go_at_call 14; refine kS.mono ?_; rintro e w' ⟨rfl, q, rfl⟩)
  · have h1 : (a.toList == b.toList) = true := by assumption
    go_ret
    exact ⟨ret_bool (nest_eq h1).symm, 0, rfl⟩
  · have h1 : (a.toList == b.toList) = false := by assumption
    have h2 : a.size ≤ b.size := by assumption
    go_ret
    exact ⟨ret_bool (nest_short h1 h2).symm, 0, rfl⟩
  · have h2 : ¬ a.size ≤ b.size := by assumption
    have h3 : ((a[a.size - b.size - 1].toNat : Int) != 46) = true := by assumption
    go_ret
    exact ⟨ret_bool (nest_nodot h2 (by omega) h3).symm, 0, rfl⟩
  · have h2 : ¬ a.size ≤ b.size := by assumption
    have h3 : ((a[a.size - b.size - 1].toNat : Int) != 46) = false := by assumption
    go_ret
    exact ⟨ret_bool (nest_dot h2 (by omega) h3).symm, _, rfl⟩

theorem within_any (a b : ByteArray) (w : World) (ha : a.size ≤ 9000000) (hb : b.size ≤ 9000000) :
    Calls Try.prog 12 #[.string a, .string b] w fun e w' => e = .returned (.bool (within (bs a) (bs b))) ∧ w' = w := by
  go_enter Try.func12, Try.ntmps12
  go_wp2_with (go_at_call 15; refine (Try.strings_HasSuffix _ _ _ (by omega)).mono ?_; rintro e w' ⟨rfl, rfl⟩)
  · have h1 : a.toList = b.toList := by assumption
    go_ret
    exact ⟨ret_bool (nest_eq (beq_iff_eq.2 h1)).symm, rfl⟩
  · go_ret
    refine ⟨ret_bool ?_, rfl⟩
    rw [Lib.toList_data, Lib.toList_data]
    rfl

end Go.Proofs.Qxb6630867a
