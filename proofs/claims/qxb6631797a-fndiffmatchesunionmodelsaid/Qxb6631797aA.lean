import Derived.Test.Qxb6631797aProg
import Derived.WalkKit
import Derived.WalkSpells
import Derived.WalkLawsBesides
import Derived.Deep.QuietTactic
import Derived.BigQuiet
import Derived.RegionTactic
import Derived.BigRegion
import Derived.Maps.StringElems
import Derived.Lib.Strings
namespace Go.Proofs.Qxb6631797a
open Go.RowKit Go.Maps

abbrev bs (s : ByteArray) : List UInt8 := s.data.toList

theorem bs_inj {a b : ByteArray} (h : bs a = bs b) : a = b := by
  rw [← Lib.mk_data a, ← Lib.mk_data b]
  exact congrArg (fun l : List UInt8 => (⟨l.toArray⟩ : ByteArray)) h

theorem law9 : Keyed Try.prog 9 := string_keyed Try.underlying9
theorem zero9 (w : World) : (zeroValue 9).run Try.prog w = .ok (.string ByteArray.empty) w := by kernel_rfl

abbrev Fn := List UInt8 → Option (List UInt8)

def upd (f : Fn) (k v : List UInt8) : Fn := fun x => if x = k then some v else f x

def MapIs (w : World) (b n : Nat) (f : Fn) : Prop :=
  ∃ D : DataW Unit, w.ownsMap Try.prog 9 (plainElem Try.prog 9) b n D ∧ ∀ k, Maps.has D (.string k) = (f k).isSome ∧ D.atKey (.string k) (.lit (.string [])) = .lit (.string ((f k).getD []))

theorem keyOf_str {s : ByteArray} (h : s.size ≤ maxLen) : keyOf Try.prog 9 (.string s) = some (.string (bs s)) := WideMaps.keyOf_string_mk Try.underlying9 h

theorem str_ne {a b : List UInt8} (h : a ≠ b) : Lit.string a ≠ Lit.string b := fun e => h (by cases e; rfl)

theorem MapIs.made (w : World) : MapIs (w.alloc (.map #[] 0)) w.heap.size 0 (fun _ => none) := ⟨.map [], World.ownsMap_made _ _ _ _, fun _ => ⟨rfl, rfl⟩⟩

theorem MapIs.store {w : World} {b n : Nat} {f : Fn} (h : MapIs w b n f) (t : TypeId) (ht : Try.prog.underlying t = some (.map 9 9)) (hn : n < maxLen) {s v : ByteArray} (hs : s.size ≤ maxLen) (hv : v.size ≤ maxLen) :
    ∃ w', (Instr.mapUpdate t (.map (some b)) (.string s) (.string v)).run Try.prog w = .ok () w' ∧ MapIs w' b (n + 1) (upd f (bs s) (bs v)) ∧ w.mapTurned w' b := by
  obtain ⟨D, hD, hf⟩ := h
  obtain ⟨w', h1, h2, h3⟩ := hD.store law9 ht hn (keyOf_str hs) (plainElem_string Try.underlying9 hv)
  refine ⟨w', h1, ⟨_, h2, fun k => ?_⟩, h3⟩
  by_cases hk : k = bs s
  · subst hk
    rw [Maps.has_put_same hD.isMap (law9.key (keyOf_str hs)), Maps.atKey_put_same hD.isMap (law9.key (keyOf_str hs))]
    simp [upd]
  · rw [Maps.has_put_other (str_ne hk), Maps.atKey_put_other (str_ne hk)]
    simpa [upd, hk] using hf k

theorem MapIs.look {w : World} {b n : Nat} {f : Fn} (h : MapIs w b n f) (t : TypeId) (ht : Try.prog.underlying t = some (.map 9 9)) {s : ByteArray} (hs : s.size ≤ maxLen) :
    ∃ v : ByteArray, (Instr.lookup t (.map (some b)) (.string s) true).run Try.prog w = .ok (.tuple #[.string v, .bool (f (bs s)).isSome]) w ∧ bs v = (f (bs s)).getD [] := by
  obtain ⟨D, hD, hf⟩ := h
  obtain ⟨v, ps, h1, h2⟩ := hD.look_ok law9 ht (zero9 w) (zd := .lit (.string [])) (zp := []) (plainElem_string Try.underlying9 (Nat.zero_le _)) (keyOf_str hs)
  rw [(hf (bs s)).1] at h1
  rw [(hf (bs s)).2] at h2
  obtain ⟨u, rfl, h3, _⟩ := plainElem_string_inv Try.underlying9 h2
  refine ⟨u, h1, ?_⟩
  simp at h3
  exact h3.1.symm

theorem MapIs.kept {w w' : World} {b n : Nat} {f : Fn} {row : Option Nat} (h : MapIs w b n f) (hg : w.grownBy w' row) (hne : some b ≠ row) : MapIs w' b n f := by
  obtain ⟨D, hD, hf⟩ := h
  exact ⟨D, hD.kept hg hne, hf⟩

theorem MapIs.lt {w : World} {b n : Nat} {f : Fn} (h : MapIs w b n f) : b < w.heap.size := by
  obtain ⟨D, hD, hf⟩ := h
  exact hD.lt

theorem MapIs.heap {w w' : World} {b n : Nat} {f : Fn} (h : MapIs w b n f) (e : w'.heap[b]? = w.heap[b]?) : MapIs w' b n f := by
  obtain ⟨D, ⟨es, clock, h1, h2⟩, hf⟩ := h
  exact ⟨D, ⟨es, clock, e.trans h1, h2⟩, hf⟩

theorem MapIs.below {B : Nat} {w w' : World} {b n : Nat} {f : Fn} (h : MapIs w b n f) (hb : Below B w w') (hB : b < B) : MapIs w' b n f := h.heap (hb.block b hB)

def mk (es : List (ByteArray × ByteArray)) : Fn := es.foldl (fun f p => upd f (bs p.1) (bs p.2)) (fun _ => none)

theorem mk_snoc (es : List (ByteArray × ByteArray)) (p : ByteArray × ByteArray) : mk (es ++ [p]) = upd (mk es) (bs p.1) (bs p.2) := by simp [mk]

theorem mk_step (es : List (ByteArray × ByteArray)) (k : Nat) (h : k < es.length) : mk (es.take (k + 1)) = upd (mk (es.take k)) (bs es[k].1) (bs es[k].2) := by
  rw [List.take_succ_eq_append_getElem h, mk_snoc]

def Ents (B : Nat) (w : World) (a : Option Addr) (es : List (ByteArray × ByteArray)) : Prop :=
  es = [] ∨ ∃ b off, a = some ⟨b, off, none⟩ ∧ b < B ∧ ∀ j, ∀ hj : j < es.length, w.cell? ⟨b, off + j * 2, none⟩ = some (.string es[j].1) ∧ w.cell? ⟨b, off + j * 2 + 1, none⟩ = some (.string es[j].2)

theorem Ents.addr {B : Nat} {w : World} {a : Option Addr} {es : List (ByteArray × ByteArray)} (h : Ents B w a es) (hp : 0 < es.length) : ∃ b off, a = some ⟨b, off, none⟩ ∧ b < B ∧ ∀ j, ∀ hj : j < es.length, w.cell? ⟨b, off + j * 2, none⟩ = some (.string es[j].1) ∧ w.cell? ⟨b, off + j * 2 + 1, none⟩ = some (.string es[j].2) :=
  h.resolve_left (fun e => by subst e; simp at hp)

theorem Ents.below {B B' : Nat} {w w' : World} {a : Option Addr} {es : List (ByteArray × ByteArray)} (h : Ents B w a es) (hb : Below B' w w') (hB : B ≤ B') : Ents B w' a es := by
  rcases h with h | ⟨b, off, h1, h2, h3⟩
  · exact .inl h
  · exact .inr ⟨b, off, h1, h2, fun j hj => ⟨(hb.cell (by exact Nat.lt_of_lt_of_le h2 hB)).trans (h3 j hj).1, (hb.cell (by exact Nat.lt_of_lt_of_le h2 hB)).trans (h3 j hj).2⟩⟩

theorem Ents.mono {B B' : Nat} {w : World} {a : Option Addr} {es : List (ByteArray × ByteArray)} (h : Ents B w a es) (hB : B ≤ B') : Ents B' w a es := by
  rcases h with h | ⟨b, off, h1, h2, h3⟩
  · exact .inl h
  · exact .inr ⟨b, off, h1, Nat.lt_of_lt_of_le h2 hB, h3⟩

theorem Ents.heap {B : Nat} {w w' : World} {a : Option Addr} {es : List (ByteArray × ByteArray)} (h : Ents B w a es) (e : w'.heap = w.heap) : Ents B w' a es := by
  rcases h with h | ⟨b, off, h1, h2, h3⟩
  · exact .inl h
  · exact .inr ⟨b, off, h1, h2, fun j hj => ⟨(World.cell?_of_block (by rw [e])).trans (h3 j hj).1, (World.cell?_of_block (by rw [e])).trans (h3 j hj).2⟩⟩

def Small (es : List (ByteArray × ByteArray)) : Prop := ∀ p ∈ es, p.1.size ≤ 1048576 ∧ p.2.size ≤ 1048576

theorem plain_any (a : Option Addr) (c B : Nat) (es : List (ByteArray × ByteArray)) (w : World) (hE : Ents B w a es) (hB : B ≤ w.heap.size) (hbig : es.length ≤ 1048576) (hs : Small es) :
    Calls Try.prog 12 #[.slice a es.length c] w fun e w' => e = .returned (.map (some w.heap.size)) ∧ MapIs w' w.heap.size es.length (mk es) ∧ Below w.heap.size w w' := by
  have hmm := @run_makeMap Try.prog
  go_enter Try.func12, Try.ntmps12
  go_wp2
  go_loopw [4] (fun i wr => ∃ k : Nat, k ≤ es.length ∧ i = .int .i64 k ∧ MapIs wr w.heap.size k (mk (es.take k)) ∧ Below w.heap.size w wr) (fun i _ => es.length - (intOf i).toNat)
  case atStart => exact ⟨0, Nat.zero_le _, rfl, MapIs.made w, (Below.refl _ _).alloc (Nat.le_refl _) _⟩
  case round =>
    obtain ⟨k, hk, rfl, hM, hbx⟩ := hrel
    by_cases hlt : k < es.length
    · obtain ⟨b, off, rfl, hb, hc⟩ := (hE.below hbx hB).addr (by omega)
      obtain ⟨g1, g2⟩ := hc k hlt
      have i1 : (k : Int) < (es.length : Int) := by omega
      obtain ⟨z1, z2⟩ := hs _ (List.getElem_mem hlt)
      have hM' : MapIs wr.drew w.heap.size k (mk (es.take k)) := hM.heap rfl
      obtain ⟨w1, hrun, hM1, ht1⟩ := hM'.store 28 Try.underlying28 (by unfold maxLen; omega) (s := es[k].1) (v := es[k].2) (by unfold maxLen; omega) (by unfold maxLen; omega)
      have HM : Hid (MapIs w1 w.heap.size (k + 1) (mk (es.take (k + 1)))) := by rw [mk_step es k hlt]; exact hM1
      have hg1 := ht1.grown
      have hb1 : Below w.heap.size w w1 := hbx.drew.grown hg1 (by exact hbx.size) (fun j hj => by cases hj; exact Nat.le_refl _)
      clear hc hE hs hM hM' hM1 ht1 hg1
      go_wp2
      go_region
      all_goals
        go_wp2
        go_roundw
        case rel => exact ⟨k + 1, by omega, by go_num, HM.out, hb1⟩
        case measure => simp [intOf]; omega
    · obtain rfl : k = es.length := by omega
      go_wp2
      go_ret
      exact ⟨rfl, by rw [List.take_of_length_le (Nat.le_refl _)] at hM; exact hM, hbx⟩

theorem snap_some (x : Addr) (c B : Nat) (es : List (ByteArray × ByteArray)) (w : World) (hE : Ents B w (some x) es) (hB : B ≤ w.heap.size) (hbig : es.length ≤ 1048576) (hs : Small es) :
    Calls Try.prog 9 #[.slice (some x) es.length c] w fun e w' => e = .returned (.map (some w.heap.size)) ∧ MapIs w' w.heap.size es.length (mk es) ∧ Below w.heap.size w w' := by
  have hmm := @run_makeMap Try.prog
  have hnil := fun w => Lib.run_eql_slice_nil (P := Try.prog) w 22 34 (some x) es.length c 0 0 Try.underlying22
  go_enter Try.func9, Try.ntmps9
  go_wp2
  go_loopw [4] (fun i wr => ∃ k : Nat, k ≤ es.length ∧ i = .int .i64 k ∧ MapIs wr w.heap.size k (mk (es.take k)) ∧ Below w.heap.size w wr) (fun i _ => es.length - (intOf i).toNat)
  case atStart => exact ⟨0, Nat.zero_le _, rfl, MapIs.made w, (Below.refl _ _).alloc (Nat.le_refl _) _⟩
  case round =>
    obtain ⟨k, hk, rfl, hM, hbx⟩ := hrel
    by_cases hlt : k < es.length
    · obtain ⟨b, off, hx, hb, hc⟩ := (hE.below hbx hB).addr (by omega)
      cases hx
      clear hnil
      obtain ⟨g1, g2⟩ := hc k hlt
      have i1 : (k : Int) < (es.length : Int) := by omega
      obtain ⟨z1, z2⟩ := hs _ (List.getElem_mem hlt)
      have hM' : MapIs wr.drew w.heap.size k (mk (es.take k)) := hM.heap rfl
      obtain ⟨w1, hrun, hM1, ht1⟩ := hM'.store 29 Try.underlying29 (by unfold maxLen; omega) (s := es[k].1) (v := es[k].2) (by unfold maxLen; omega) (by unfold maxLen; omega)
      have HM : Hid (MapIs w1 w.heap.size (k + 1) (mk (es.take (k + 1)))) := by rw [mk_step es k hlt]; exact hM1
      have hg1 := ht1.grown
      have hb1 : Below w.heap.size w w1 := hbx.drew.grown hg1 (by exact hbx.size) (fun j hj => by cases hj; exact Nat.le_refl _)
      clear hc hE hs hM hM' hM1 ht1 hg1
      go_wp2
      go_region
      all_goals
        go_wp2
        go_roundw
        case rel => exact ⟨k + 1, by omega, by go_num, HM.out, hb1⟩
        case measure => simp [intOf]; omega
    · obtain rfl : k = es.length := by omega
      go_wp2
      go_ret
      exact ⟨rfl, by rw [List.take_of_length_le (Nat.le_refl _)] at hM; exact hM, hbx⟩

theorem snap_nil (c : Nat) (w : World) : Calls Try.prog 9 #[.slice none 0 c] w fun e w' => e = .returned (.map none) ∧ w' = w := by
  have hnil := fun w => Lib.run_eql_slice_nil (P := Try.prog) w 22 34 none 0 c 0 0 Try.underlying22
  go_enter Try.func9, Try.ntmps9
  go_wp2
  go_ret
  exact ⟨rfl, rfl⟩

def Snap (B : Nat) (w : World) (m : Option Nat) (n : Nat) (f : Fn) : Prop := (m = none ∧ f = fun _ => none) ∨ ∃ b, m = some b ∧ b < B ∧ MapIs w b n f

theorem Snap.below {B B' : Nat} {w w' : World} {m : Option Nat} {n : Nat} {f : Fn} (h : Snap B w m n f) (hb : Below B' w w') (hB : B ≤ B') : Snap B w' m n f := by
  rcases h with h | ⟨b, h1, h2, h3⟩
  · exact .inl h
  · exact .inr ⟨b, h1, h2, h3.below hb (Nat.lt_of_lt_of_le h2 hB)⟩

theorem Snap.mono {B B' : Nat} {w : World} {m : Option Nat} {n : Nat} {f : Fn} (h : Snap B w m n f) (hB : B ≤ B') : Snap B' w m n f := by
  rcases h with h | ⟨b, h1, h2, h3⟩
  · exact .inl h
  · exact .inr ⟨b, h1, Nat.lt_of_lt_of_le h2 hB, h3⟩

theorem snap_any (a : Option Addr) (c B : Nat) (es : List (ByteArray × ByteArray)) (w : World) (hE : Ents B w a es) (h0 : a = none → es = []) (hB : B ≤ w.heap.size) (hbig : es.length ≤ 1048576) (hs : Small es) :
    Calls Try.prog 9 #[.slice a es.length c] w fun e w' => ∃ m, e = .returned (.map m) ∧ Snap w'.heap.size w' m es.length (mk es) ∧ Below w.heap.size w w' := by
  cases a with
  | none =>
    obtain rfl := h0 rfl
    exact (snap_nil c w).mono fun e w' ⟨h1, h2⟩ => ⟨none, h1, .inl ⟨rfl, rfl⟩, h2 ▸ Below.refl _ _⟩
  | some x => exact (snap_some x c B es w hE hB hbig hs).mono fun e w' ⟨h1, h2, h3⟩ => ⟨_, h1, .inr ⟨_, rfl, h2.lt, h2⟩, h3⟩

theorem entry_any (a : Option Addr) (c B : Nat) (es : List (ByteArray × ByteArray)) (t : Int) (w : World) (hE : Ents B w a es) (ht0 : 0 ≤ t) (ht1 : t ≤ 1048576) (hbig : es.length ≤ 1048576) (hs : Small es) :
    Calls Try.prog 6 #[.slice a es.length c, .int .i64 t] w fun e w' => ∃ (x : Int) (q : Nat), e = .returned (.int .i64 x) ∧ w' = w.drewN q ∧ 0 ≤ x := by
  go_enter Try.func6, Try.ntmps6
  go_wp2
  go_loopw [1, 5] (fun z i wr => ∃ (t : Int) (k q : Nat), 0 ≤ t ∧ t ≤ 1048576 ∧ z = .int .i64 t ∧ k ≤ es.length ∧ i = .int .i64 k ∧ wr = w.drewN q) (fun _ i _ => es.length - (intOf i).toNat)
  case atStart => exact ⟨t, 0, 0, ht0, ht1, rfl, Nat.zero_le _, rfl, rfl⟩
  case round =>
    obtain ⟨u, k, q, hu0, hu1, rfl, hk, rfl, rfl⟩ := hrel
    by_cases hlt : k < es.length
    · obtain ⟨b, off, rfl, hb, hc⟩ := hE.addr (by omega)
      obtain ⟨g1, g2⟩ := hc k hlt
      have i1 : (k : Int) < (es.length : Int) := by omega
      obtain ⟨z1, z2⟩ := hs _ (List.getElem_mem hlt)
      have e1 : IntKind.i64.wrap ((32 : Int) + (es[k].1.size : Int)) = (32 : Int) + (es[k].1.size : Int) := IntWalk.i64_in _ (by omega)
      have e2 : IntKind.i64.wrap ((32 : Int) + (es[k].1.size : Int) + (es[k].2.size : Int)) = (32 : Int) + (es[k].1.size : Int) + (es[k].2.size : Int) := IntWalk.i64_in _ (by omega)
      have e3 : IntKind.i64.wrap (u + ((32 : Int) + (es[k].1.size : Int) + (es[k].2.size : Int))) = u + ((32 : Int) + (es[k].1.size : Int) + (es[k].2.size : Int)) := IntWalk.i64_in _ (by omega)
      clear hc hE hs
      go_wp2
      go_quiet (fail)
      go_wp2
      · go_ret
        exact ⟨_, _, rfl, rfl, by omega⟩
      · go_roundw
        case rel => exact ⟨_, k + 1, _, by omega, by omega, rfl, by omega, by go_num, rfl⟩
        case measure => simp [intOf]; omega
    · go_wp2
      go_ret
      exact ⟨_, q, rfl, rfl, hu0⟩

end Go.Proofs.Qxb6631797a
