import Derived.Test.Qxb6630801aC
import Derived.Maps.OwnSet
namespace Go.Proofs.Qxb6630801a
open Go.RowKit Go.Maps

def heldElem (v : Value) : Option (DataW Value × List MemPlace) := some (.held v, [])

theorem law3 : Keyed Try.prog 3 := int_keyed Try.underlying3
theorem zero36 (w : World) : (zeroValue 36).run Try.prog w = .ok (.pointer none) w := by kernel_rfl

def ptrAt (kb : Int → Nat) (l : List (Int × Int)) (v : Int) : Value := if v ∈ l.map Prod.fst then .pointer (some ⟨kb v, 0, none⟩) else .pointer none

def keptCells (n : Int) : Array Value := #[.pointer none, .int .i64 0, .slice none 0 0, .int .i64 n]
def shelfCells (limit bytes : Int) (bm ob n cap : Nat) : Array Value := #[.int .i64 limit, .int .i64 bytes, .map (some bm), .slice (some ⟨ob, 0, none⟩) n cap]

def total (l : List (Int × Int)) : Int := (l.map Prod.snd).sum

structure ShelfP (w : World) (lo hi sb : Nat) (limit : Int) (l : List (Int × Int)) (bm ob cap n : Nat) (cur : Array Value) (D : DataW Value) (kb : Int → Nat) : Prop where
  hsb : lo ≤ sb ∧ sb < hi
  hbm : lo ≤ bm ∧ bm < hi
  hob : lo ≤ ob ∧ ob < hi
  shelf : w.heap[sb]? = some (.cells (shelfCells limit (wrap64 (total l)) bm ob l.length cap) 40 (0, 0))
  row : w.heap[ob]? = some (.cells cur 3 (0, 0))
  fits : l.length ≤ cap ∧ cap ≤ 4096 ∧ cur.size = cap
  holds : cur.toList.take l.length = (l.map Prod.fst).map (Value.int .i64)
  map : w.ownsMap Try.prog 3 heldElem bm n D
  few : n ≤ 4096
  at_ : ∀ v : Int, D.atKey (.int .i64 v) (.held (.pointer none)) = .held (ptrAt kb l v)
  size : Maps.size D = l.length
  kept : ∀ p ∈ l, lo ≤ kb p.1 ∧ kb p.1 < hi ∧ w.heap[kb p.1]? = some (.cells (keptCells p.2) 45 (0, 0))
  nodup : (l.map Prod.fst).Nodup

def Shelf (w : World) (lo hi sb : Nat) (limit : Int) (l : List (Int × Int)) : Prop := ∃ bm ob cap n cur D kb, ShelfP w lo hi sb limit l bm ob cap n cur D kb

theorem cell_of {w : World} {b o : Nat} {cs : Array Value} {t : TypeId} {v : Value} (h : w.heap[b]? = some (.cells cs t (0, 0))) (hv : cs[o]? = some v) : w.cell? ⟨b, o, none⟩ = some v := by
  simp [World.cell?, h, hv]
theorem free_of {w : World} {b o : Nat} {cs : Array Value} {t : TypeId} (h : w.heap[b]? = some (.cells cs t (0, 0))) : w.frozen? ⟨b, o, none⟩ = false := by
  simp [World.frozen?, h]

theorem ptrAt_ne (kb : Int → Nat) (l : List (Int × Int)) (v : Int) : ∃ x, ptrAt kb l v = .pointer x ∧ (x.isSome = decide (v ∈ l.map Prod.fst)) := by
  unfold ptrAt
  split <;> rename_i h
  · exact ⟨_, rfl, by simp [h]⟩
  · exact ⟨_, rfl, by simp [h]⟩

theorem bytes_any {w : World} {sb : Nat} {limit bytes : Int} {bm ob n cap : Nat} (hs : w.heap[sb]? = some (.cells (shelfCells limit bytes bm ob n cap) 40 (0, 0))) :
    Calls Try.prog 19 #[.pointer (some ⟨sb, 0, none⟩)] w fun e w' => e = .returned (.int .i64 bytes) ∧ w' = w := by
  have c1 := cell_of (o := 1) (v := .int .i64 bytes) hs rfl
  clear hs
  go_enter Try.func19, Try.ntmps19
  go_wp2
  go_ret
  exact ⟨rfl, rfl⟩

theorem limit_any {w : World} {sb : Nat} {limit bytes : Int} {bm ob n cap : Nat} (hs : w.heap[sb]? = some (.cells (shelfCells limit bytes bm ob n cap) 40 (0, 0))) :
    Calls Try.prog 20 #[.pointer (some ⟨sb, 0, none⟩)] w fun e w' => e = .returned (.int .i64 limit) ∧ w' = w := by
  have c1 := cell_of (o := 0) (v := .int .i64 limit) hs rfl
  clear hs
  go_enter Try.func20, Try.ntmps20
  go_wp2
  go_ret
  exact ⟨rfl, rfl⟩

theorem order_any {w : World} {sb : Nat} {limit bytes : Int} {bm ob n cap : Nat} (hs : w.heap[sb]? = some (.cells (shelfCells limit bytes bm ob n cap) 40 (0, 0))) :
    Calls Try.prog 22 #[.pointer (some ⟨sb, 0, none⟩)] w fun e w' => e = .returned (.slice (some ⟨ob, 0, none⟩) n cap) ∧ w' = w := by
  have c1 := cell_of (o := 3) (v := .slice (some ⟨ob, 0, none⟩) n cap) hs rfl
  clear hs
  go_enter Try.func22, Try.ntmps22
  go_wp2
  go_ret
  exact ⟨rfl, rfl⟩

theorem count_any {w : World} {sb : Nat} {limit bytes : Int} {bm ob n cap m : Nat} {D : DataW Value} (hs : w.heap[sb]? = some (.cells (shelfCells limit bytes bm ob n cap) 40 (0, 0))) (hm : w.ownsMap Try.prog 3 heldElem bm m D) :
    Calls Try.prog 21 #[.pointer (some ⟨sb, 0, none⟩)] w fun e w' => e = .returned (.int .i64 (Maps.size D)) ∧ w' = w := by
  have c1 := cell_of (o := 2) (v := .map (some bm)) hs rfl
  have hl := hm.len (t := 35) Try.underlying35
  clear hs
  go_enter Try.func21, Try.ntmps21
  go_wp2
  go_ret
  exact ⟨rfl, rfl⟩

theorem look_held {w : World} {b n : Nat} {D : DataW Value} (h : w.ownsMap Try.prog 3 heldElem b n D) {v : Int} (hv : (Lit.int .i64 v).wf = true) {x : Value} (hx : D.atKey (.int .i64 v) (.held (.pointer none)) = .held x) :
    (Instr.lookup 35 (.map (some b)) (.int .i64 v) false).run Try.prog w = .ok x w := by
  obtain ⟨u, ps, hr, hu⟩ := h.lookup law3 Try.underlying35 (zero36 w) (zd := .held (.pointer none)) (zp := []) rfl (keyOf_int_mk Try.underlying3 hv)
  simp [heldElem, hx] at hu
  rw [hr, hu.1]

theorem holds_any {w : World} {sb : Nat} {limit bytes : Int} {bm ob n cap m : Nat} {D : DataW Value} (hs : w.heap[sb]? = some (.cells (shelfCells limit bytes bm ob n cap) 40 (0, 0))) (hm : w.ownsMap Try.prog 3 heldElem bm m D)
    (v : Int) (hv : (Lit.int .i64 v).wf = true) (x : Option Addr) (hx : D.atKey (.int .i64 v) (.held (.pointer none)) = .held (.pointer x)) :
    Calls Try.prog 13 #[.pointer (some ⟨sb, 0, none⟩), .int .i64 v] w fun e w' => e = .returned (.bool x.isSome) ∧ w' = w := by
  have c1 := cell_of (o := 2) (v := .map (some bm)) hs rfl
  have hl := look_held hm hv hx
  clear hs
  cases x
  all_goals
    go_enter Try.func13, Try.ntmps13
    go_wp2
    go_ret
    exact ⟨rfl, rfl⟩

end Go.Proofs.Qxb6630801a
