import Derived.Test.Qxb6630867aJ
namespace Go.Proofs.Qxb6630867a
open Go.RowKit

set_option maxRecDepth 100000 in
set_option maxHeartbeats 4000000 in
theorem ins_big (a1 : Option Addr) (c1 : Nat) (a2 : Option Addr) (c2 : Nat) (os ns : List ByteArray) (kk : Int) (o nw p g : ByteArray) (w : World)
    (m1 : os.length ≤ maxLen) (m2 : ns.length ≤ maxLen) (m3 : o.size ≤ maxLen) (m4 : nw.size ≤ maxLen) (m5 : p.size ≤ maxLen) (m6 : g.size ≤ maxLen) (hO : StrsB w.heap.size w a1 os) (hN : StrsB w.heap.size w a2 ns)
    (hso : ∀ s ∈ os, s.size ≤ maxLen) (hsn : ∀ s ∈ ns, s.size ≤ maxLen) (hb : ¬ (os.length ≤ 4096 ∧ ns.length ≤ 4096 ∧ o.size ≤ 4096 ∧ nw.size ≤ 4096 ∧ p.size ≤ 4096 ∧ g.size ≤ 4096)) :
    Calls Try.prog 4 #[.slice a1 os.length c1, .slice a2 ns.length c2, .int .i64 kk, .string o, .string nw, .string p, .string g] w fun e w' => e = .returned (.bool true) ∧ Below w.heap.size w w' := by
  have kB := bytes7_any a1 c1 _ a2 c2 _ os ns kk o nw p g w m1 m2 m3 m4 m5 m6 hO hN hso hsn
  clear m1 m2 m3 m4 m5 m6 hO hN hso hsn
  have hb' : 4096 < os.length ∨ (os.length ≤ 4096 ∧ 4096 < ns.length) ∨ (os.length ≤ 4096 ∧ ns.length ≤ 4096 ∧ 4096 < o.size) ∨ (os.length ≤ 4096 ∧ ns.length ≤ 4096 ∧ o.size ≤ 4096 ∧ 4096 < nw.size) ∨ (os.length ≤ 4096 ∧ ns.length ≤ 4096 ∧ o.size ≤ 4096 ∧ nw.size ≤ 4096 ∧ 4096 < p.size) ∨ (os.length ≤ 4096 ∧ ns.length ≤ 4096 ∧ o.size ≤ 4096 ∧ nw.size ≤ 4096 ∧ p.size ≤ 4096 ∧ 4096 < g.size) := by omega
  clear hb
  rcases hb' with h1 | ⟨h1, h2⟩ | ⟨h1, h2, h3⟩ | ⟨h1, h2, h3, h4⟩ | ⟨h1, h2, h3, h4, h5⟩ | ⟨h1, h2, h3, h4, h5, h6⟩
  all_goals
    go_enter Try.func4, Try.ntmps4
    go_wp2_with fail
    refine kB.mono ?_
    rintro e w' ⟨x, rfl, rfl, _⟩
    clear kB
    cases x
    all_goals
      go_wp2
      go_ret
      exact ⟨rfl, Below.refl _ _⟩

end Go.Proofs.Qxb6630867a
