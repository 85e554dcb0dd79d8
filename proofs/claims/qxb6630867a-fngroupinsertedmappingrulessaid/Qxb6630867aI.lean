import Derived.Test.Qxb6630867aH
import Derived.Maps.AppendAt
namespace Go.Proofs.Qxb6630867a
open Go.RowKit

def ins (os : List ByteArray) (k : Nat) (o : ByteArray) (j : Nat) : List ByteArray := os.take k ++ o :: (os.drop k).take (j - k)

theorem ins_start (os : List ByteArray) (k : Nat) (o : ByteArray) : ins os k o k = os.take k ++ [o] := by simp [ins]

theorem ins_step (os : List ByteArray) (k : Nat) (o : ByteArray) (j : Nat) (h1 : k ≤ j) (h2 : j < os.length) : ins os k o (j + 1) = ins os k o j ++ [os[j]] := by
  unfold ins
  have h : j - k < (os.drop k).length := by simp; omega
  rw [show j + 1 - k = (j - k) + 1 from by omega, List.take_succ_eq_append_getElem h]
  simp only [List.append_assoc, List.cons_append]
  congr 3
  rw [List.getElem_drop]
  simp [show k + (j - k) = j from by omega]

theorem ins_end (os : List ByteArray) (k : Nat) (o : ByteArray) : ins os k o os.length = os.take k ++ o :: os.drop k := by
  have h : (os.drop k).take (os.length - k) = os.drop k := List.take_of_length_le (by simp)
  unfold ins
  rw [h]

theorem ins_len (os : List ByteArray) (k : Nat) (o : ByteArray) (j : Nat) (h1 : k ≤ j) (h2 : j ≤ os.length) : (ins os k o j).length = j + 1 := by
  simp [ins]
  omega

theorem take_len (os : List ByteArray) (m : Nat) (h : m ≤ os.length) : (os.take m).length = m := by simp; omega

theorem take_next (os : List ByteArray) (m : Nat) (h : m < os.length) : os.take (m + 1) = os.take m ++ [os[m]] := List.take_succ_eq_append_getElem h

theorem prs_ins (os ns : List ByteArray) (k : Nat) (o nw : ByteArray) (hl : ns.length = os.length) (hk : k ≤ os.length) :
    prs (os.take k ++ o :: os.drop k) (ns.take k ++ nw :: ns.drop k) = (prs os ns).take k ++ (bs o, bs nw) :: (prs os ns).drop k := by
  unfold prs
  rw [List.map_append, List.map_append, List.map_cons, List.map_cons, List.zip_append (by simp; omega)]
  rw [List.zip_cons_cons, List.map_take, List.map_take, List.map_drop, List.map_drop]
  simp only [List.zip, List.take_zipWith, List.drop_zipWith]

theorem ins_same (os ns : List ByteArray) (k : Nat) (o nw : ByteArray) (g : List UInt8) (hl : ns.length = os.length) (hk : k ≤ os.length) (h : within g (bs o) = false) :
    grp (prs (os.take k ++ o :: os.drop k) (ns.take k ++ nw :: ns.drop k)) g = grp (prs os ns) g := by
  rw [prs_ins os ns k o nw hl hk, grp_skip _ _ _ h, List.take_append_drop]

theorem ins_at (os ns : List ByteArray) (k : Nat) (o nw : ByteArray) (g : List UInt8) (hl : ns.length = os.length) (hk : k ≤ os.length) (hd : Disj ((os.take k ++ o :: os.drop k).map bs)) (h : within g (bs o) = true) :
    grp (prs (os.take k ++ o :: os.drop k) (ns.take k ++ nw :: ns.drop k)) g = (Lib.trimSuffix g (bs o) ++ bs nw, true) := by
  have hl2 : (ns.take k ++ nw :: ns.drop k).length = (os.take k ++ o :: os.drop k).length := by simp; omega
  have hp : k < (prs (os.take k ++ o :: os.drop k) (ns.take k ++ nw :: ns.drop k)).length := by rw [prs_len _ _ hl2]; simp; omega
  have e : (prs (os.take k ++ o :: os.drop k) (ns.take k ++ nw :: ns.drop k))[k] = (bs o, bs nw) := by
    simp only [prs_ins os ns k o nw hl hk]
    rw [List.getElem_append_right (by rw [List.length_take]; omega)]
    simp [prs_len os ns hl, Nat.min_eq_left hk]
  have := grp_at (ps := prs (os.take k ++ o :: os.drop k) (ns.take k ++ nw :: ns.drop k)) (by rw [prs_fst _ _ hl2]; exact hd) hp (g := g) (by rw [e]; exact h)
  rw [this, e]

theorem owns_strs {w : World} {base g n c : Nat} {ss : List ByteArray} (h : w.ownsRow base 9 1 (.slice (some ⟨g, 0, none⟩) n c) n (ss.map Value.string)) (hn : ss.length = n) : StrsB w.heap.size w (some ⟨g, 0, none⟩) ss := by
  by_cases h0 : ss = []
  · exact .inl h0
  · have hp : 0 < ss.length := List.length_pos_iff.2 h0
    have hc : ∀ j, j < ss.length → w.cell? ⟨g, 0 + j, none⟩ = some (.string (ss.getD j ByteArray.empty)) := fun j hj => by
      rw [Nat.zero_add, h.cellAt j (by omega)]
      simp [hj]
    exact .inr ⟨g, 0, rfl, World.block_lt_of_cell? w _ (hc 0 hp), hc⟩

theorem disj_n (a : Option Addr) (c B n : Nat) (ss : List ByteArray) (w : World) (hn : ss.length = n) (hS : StrsB B w a ss) (hbig : n ≤ 1048576) (hsz : ∀ s ∈ ss, s.size ≤ 1048576) :
    Calls Try.prog 6 #[.slice a n c] w fun e w' => ∃ x : Bool, ∃ q, e = .returned (.bool x) ∧ w' = w.drewN q ∧ (x = true → Disj (ss.map bs)) := by
  subst hn
  exact disj_any a c B ss w hS hbig hsz

theorem newMap_n (a : Option Addr) (c B : Nat) (a2 : Option Addr) (c2 B2 n n2 : Nat) (os ns : List ByteArray) (w : World) (hn : os.length = n) (hn2 : ns.length = n2) (hl : n2 = n) (hbig : n ≤ 1048576)
    (hO : StrsB B w a os) (hN : StrsB B2 w a2 ns) (hB : B ≤ w.heap.size) (hB2 : B2 ≤ w.heap.size) :
    Calls Try.prog 8 #[.slice a n c, .slice a2 n2 c2] w fun e w' => e = .returned (.agg #[.slice (some ⟨w.heap.size + 1, 0, none⟩) n n]) ∧ PairRow w' (w.heap.size + 1) n os ns n ∧ Below w.heap.size w w' := by
  subst hn
  subst hn2
  exact newMap_any a c B a2 c2 B2 os ns w hl hbig hO hN hB hB2

theorem group_n (gb n : Nat) (os ns : List ByteArray) (g r : ByteArray) (ok : Bool) (w : World) (hn : os.length = n) (hl : ns.length = n) (hbig : n ≤ 1048576) (hP : PairRow w gb n os ns n)
    (hg : g.size ≤ 3000000) (ho : ∀ s ∈ os, s.size ≤ 1048576) (hns : ∀ s ∈ ns, s.size ≤ 1048576) (h : grp (prs os ns) (bs g) = (bs r, ok)) :
    Calls Try.prog 9 #[.agg #[.slice (some ⟨gb, 0, none⟩) n n], .string g] w fun e w' => e = .returned (.tuple #[.string r, .bool ok]) ∧ Below w.heap.size w w' := by
  subst hn
  exact group_at gb os ns g r ok w hl hbig hP hg ho hns h

theorem PairRow.below {w w' : World} {g n B : Nat} {os ns : List ByteArray} {k : Nat} (h : PairRow w g n os ns k) (hb : Below B w w') (hg : g < B) : PairRow w' g n os ns k := by
  obtain ⟨cur, h1, h2⟩ := h
  exact ⟨cur, (hb.block g hg).trans h1, h2⟩

theorem small_ins (os : List ByteArray) (k : Nat) (o : ByteArray) (ho : o.size ≤ 4096) (h : ∀ s ∈ os, s.size ≤ 1048576) : ∀ s ∈ os.take k ++ o :: os.drop k, s.size ≤ 1048576 := by
  intro s hs
  rw [List.mem_append, List.mem_cons] at hs
  rcases hs with hs | rfl | hs
  · exact h s (List.mem_of_mem_take hs)
  · omega
  · exact h s (List.mem_of_mem_drop hs)

theorem len_ins (os : List ByteArray) (k : Nat) (o : ByteArray) : (os.take k ++ o :: os.drop k).length = os.length + 1 := by
  simp
  omega

theorem bs_dotted (p o : ByteArray) : bs (p ++ ⟨#[46]⟩ ++ o) = bs p ++ [46] ++ bs o := by
  rw [bs_app, bs_app]

theorem size_dotted (p o : ByteArray) : (p ++ ⟨#[46]⟩ ++ o).size = p.size + 1 + o.size := by
  rw [← bs_len, bs_dotted, List.length_append, List.length_append, bs_len, bs_len]
  rfl

theorem below_cell {B : Nat} {w w' : World} (h : Below B w w') {b : Nat} (hb : b < B) {v : Value} {o : Nat} (hc : w.cell? ⟨b, o, none⟩ = some v) : w'.cell? ⟨b, o, none⟩ = some v := (h.cell (by exact hb)).trans hc

end Go.Proofs.Qxb6630867a
