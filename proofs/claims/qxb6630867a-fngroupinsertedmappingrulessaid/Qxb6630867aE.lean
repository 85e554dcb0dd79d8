import Derived.Test.Qxb6630867aD
namespace Go.Proofs.Qxb6630867a
open Go.RowKit

def prs (os ns : List ByteArray) : List (List UInt8 × List UInt8) := (os.map bs).zip (ns.map bs)

theorem prs_drop (os ns : List ByteArray) (k : Nat) (h1 : k < os.length) (h2 : k < ns.length) : (prs os ns).drop k = (bs os[k], bs ns[k]) :: (prs os ns).drop (k + 1) := by
  have h : k < (prs os ns).length := by simp [prs]; omega
  rw [List.drop_eq_getElem_cons h]
  congr 1
  simp [prs]

set_option maxHeartbeats 400000 in
theorem group_any (gb : Nat) (os ns : List ByteArray) (g : ByteArray) (w : World) (hl : ns.length = os.length) (hbig : os.length ≤ 1048576) (hP : PairRow w gb os.length os ns os.length) (hgb : gb < w.heap.size)
    (hg : g.size ≤ 3000000) (ho : ∀ s ∈ os, s.size ≤ 1048576) (hn : ∀ s ∈ ns, s.size ≤ 1048576) :
    Calls Try.prog 9 #[.agg #[.slice (some ⟨gb, 0, none⟩) os.length os.length], .string g] w fun e w' => ∃ r, e = .returned (.tuple #[.string r, .bool (grp (prs os ns) (bs g)).2]) ∧ bs r = (grp (prs os ns) (bs g)).1 ∧ Below w.heap.size w w' := by
  have HL : Hid (ns.length = os.length) := hl
  clear hl
  go_enter Try.func9, Try.ntmps9
  go_wp2
  go_loopw [11] (fun i wr => ∃ k : Nat, k ≤ os.length ∧ i = .int .i64 k ∧ Hid (grp ((prs os ns).drop k) (bs g) = grp (prs os ns) (bs g)) ∧ Below w.heap.size w wr ∧ w.heap.size < wr.heap.size) (fun i _ => os.length - (intOf i).toNat)
  case atStart => exact ⟨0, Nat.zero_le _, rfl, rfl, (Below.refl _ _).alloc (Nat.le_refl _) _, by simp⟩
  case round =>
    obtain ⟨k, hk, rfl, HG, hbx, hsz⟩ := hrel
    by_cases hlt : k < os.length
    · have hkn : k < ns.length := by rw [HL.out]; exact hlt
      have hdr := prs_drop os ns k hlt hkn
      obtain ⟨c0, c1⟩ : wr.cell? ⟨gb, k * 2, none⟩ = some (.string os[k]) ∧ wr.cell? ⟨gb, k * 2 + 1, none⟩ = some (.string ns[k]) := by
        obtain ⟨cur, h1, h2, h3⟩ := hP
        have h4 := (hbx.block gb hgb).trans h1
        exact ⟨cell_of h4 (h3 k hlt hkn hlt).1, cell_of h4 (h3 k hlt hkn hlt).2⟩
      have z0 := ho _ (List.getElem_mem hlt)
      have z1 := hn _ (List.getElem_mem hkn)
      clear hP ho hn
      by_cases hw : within (bs g) (bs os[k]) = true
      · have HE : Hid (grp (prs os ns) (bs g) = (Lib.trimSuffix (bs g) (bs os[k]) ++ bs ns[k], true)) := by
          show _ = _
          rw [← HG.out, hdr]
          simp [grp, hw]
        have kW : ∀ W, Calls Try.prog 12 #[.string g, .string os[k]] W fun e w' => e = .returned (.bool true) ∧ W = w' := fun W => (within_any g os[k] W (by omega) (by omega)).mono fun e w' ⟨h1, h2⟩ => ⟨by rw [h1, hw], h2.symm⟩
        clear hdr HG hw
        go_wp2_with (go_at_call 12; refine (kW _).mono ?_; rintro e w' ⟨rfl, rfl⟩)
        obtain ⟨T, hT⟩ : ∃ T : ByteArray, T = ⟨(Lib.trimSuffix (bs g) (bs os[k])).toArray⟩ := ⟨_, rfl⟩
        have HT : Hid (bs T = Lib.trimSuffix (bs g) (bs os[k])) := by show _ = _; rw [hT]
        have hTs : T.size ≤ 3000000 := by
          have h1 := Lib.trimSuffix_le (bs g) (bs os[k])
          rw [← HT.out, bs_len, bs_len] at h1
          omega
        have kT : ∀ W, Calls Try.prog 13 #[.string g, .string os[k]] W fun e w' => e = .returned (.string T) ∧ w' = W := fun W => by
          rw [hT]
          exact Try.strings_TrimSuffix g os[k] W (by omega)
        clear hT
        go_quiet ((go_at_call 13; exact Calls.quiet_of_same (kT _)))
        go_wp2
        go_ret2
        refine ⟨T ++ ns[k], ?_, ?_, ?_⟩
        · rw [HE.out]
          rfl
        · rw [HE.out, bs_app, HT.out]
        · exact (hbx.alloc (by omega) _).trans ⟨rfl, rfl, rfl, Nat.le_refl _, fun _ _ => rfl⟩
      · have hw' : within (bs g) (bs os[k]) = false := by simpa using hw
        have HE : Hid (grp ((prs os ns).drop (k + 1)) (bs g) = grp (prs os ns) (bs g)) := by
          show _ = _
          rw [← HG.out, hdr]
          simp [grp, hw']
        have kW : ∀ W, Calls Try.prog 12 #[.string g, .string os[k]] W fun e w' => e = .returned (.bool false) ∧ W = w' := fun W => (within_any g os[k] W (by omega) (by omega)).mono fun e w' ⟨h1, h2⟩ => ⟨by rw [h1, hw'], h2.symm⟩
        clear hdr HG hw hw'
        go_wp2_with (go_at_call 12; refine (kW _).mono ?_; rintro e w' ⟨rfl, rfl⟩)
        go_roundw
        case rel => exact ⟨k + 1, by omega, by go_num, HE, hbx.alloc (by omega) _, by simp; omega⟩
        case measure => simp [intOf]; omega
    · have HE : Hid (grp (prs os ns) (bs g) = (bs g, false)) := by
        show _ = _
        rw [← HG.out, List.drop_of_length_le (by simp [prs]; omega)]
        rfl
      clear HG
      go_wp2
      go_ret2
      refine ⟨g, ?_, ?_, hbx⟩
      · rw [HE.out]
        rfl
      · rw [HE.out]

end Go.Proofs.Qxb6630867a
