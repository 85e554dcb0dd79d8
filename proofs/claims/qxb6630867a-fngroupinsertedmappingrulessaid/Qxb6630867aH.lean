import Derived.Test.Qxb6630867aG
namespace Go.Proofs.Qxb6630867a
open Go.RowKit

set_option maxRecDepth 100000 in
set_option maxHeartbeats 1000000 in
theorem ren_big (a1 : Option Addr) (c1 : Nat) (a2 : Option Addr) (c2 : Nat) (os ns : List ByteArray) (g : ByteArray) (w : World)
    (m1 : os.length ≤ maxLen) (m2 : ns.length ≤ maxLen) (m3 : g.size ≤ maxLen) (hO : StrsB w.heap.size w a1 os) (hN : StrsB w.heap.size w a2 ns)
    (hso : ∀ s ∈ os, s.size ≤ maxLen) (hsn : ∀ s ∈ ns, s.size ≤ maxLen) (hb : ¬ (os.length ≤ 4096 ∧ ns.length ≤ 4096 ∧ g.size ≤ 4096)) :
    Calls Try.prog 3 #[.slice a1 os.length c1, .slice a2 ns.length c2, .string g] w fun e w' => e = .returned (.bool true) ∧ Below w.heap.size w w' := by
  have kB := bytes3_any a1 c1 _ a2 c2 _ os ns g w m1 m2 m3 hO hN hso hsn
  clear m1 m2 m3 hO hN hso hsn
  by_cases h1 : os.length ≤ 4096 <;> by_cases h2 : ns.length ≤ 4096 <;> by_cases h3 : g.size ≤ 4096
  all_goals try omega
  all_goals
    clear hb
    go_enter Try.func3, Try.ntmps3
    go_wp2_with fail
    refine kB.mono ?_
    rintro e w' ⟨x, rfl, rfl, _⟩
    clear kB
    cases x
    all_goals
      go_wp2
      go_ret
      exact ⟨rfl, Below.refl _ _⟩

end Go.Proofs.Qxb6630867a
