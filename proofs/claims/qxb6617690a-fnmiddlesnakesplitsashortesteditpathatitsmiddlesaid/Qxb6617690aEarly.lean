import Derived.Test.Qxb6617690aSmall
namespace Go.Proofs.Qxb6617690a
open Go.RowKit Plain

/-- The inputs at which both laws answer at once. -/
def Early (n0 n1 n2 n3 n4 n5 : Nat) (i0 i1 i2 i3 : Int) : Prop :=
  4096 < n0 ∨ (n0 ≤ 4096 ∧ 4096 < n1) ∨ (n0 ≤ 4096 ∧ n1 ≤ 4096 ∧ 65536 < n2) ∨ (n0 ≤ 4096 ∧ n1 ≤ 4096 ∧ n2 ≤ 65536 ∧ 65536 < n3) ∨
  (n0 ≤ 4096 ∧ n1 ≤ 4096 ∧ n2 ≤ 65536 ∧ n3 ≤ 65536 ∧ 32768 < n4) ∨ (n0 ≤ 4096 ∧ n1 ≤ 4096 ∧ n2 ≤ 65536 ∧ n3 ≤ 65536 ∧ n4 ≤ 32768 ∧ 32768 < n5) ∨
  (n0 ≤ 4096 ∧ n1 ≤ 4096 ∧ n2 ≤ 65536 ∧ n3 ≤ 65536 ∧ n4 ≤ 32768 ∧ n5 ≤ 32768 ∧ i0 < 0) ∨ (n0 ≤ 4096 ∧ n1 ≤ 4096 ∧ n2 ≤ 65536 ∧ n3 ≤ 65536 ∧ n4 ≤ 32768 ∧ n5 ≤ 32768 ∧ 0 ≤ i0 ∧ i1 < i0) ∨
  (n0 ≤ 4096 ∧ n1 ≤ 4096 ∧ n2 ≤ 65536 ∧ n3 ≤ 65536 ∧ n4 ≤ 32768 ∧ n5 ≤ 32768 ∧ 0 ≤ i0 ∧ i0 ≤ i1 ∧ (n0 : Int) < i1) ∨
  (n0 ≤ 4096 ∧ n1 ≤ 4096 ∧ n2 ≤ 65536 ∧ n3 ≤ 65536 ∧ n4 ≤ 32768 ∧ n5 ≤ 32768 ∧ 0 ≤ i0 ∧ i0 ≤ i1 ∧ i1 ≤ (n0 : Int) ∧ i2 < 0) ∨
  (n0 ≤ 4096 ∧ n1 ≤ 4096 ∧ n2 ≤ 65536 ∧ n3 ≤ 65536 ∧ n4 ≤ 32768 ∧ n5 ≤ 32768 ∧ 0 ≤ i0 ∧ i0 ≤ i1 ∧ i1 ≤ (n0 : Int) ∧ 0 ≤ i2 ∧ i3 < i2) ∨
  (n0 ≤ 4096 ∧ n1 ≤ 4096 ∧ n2 ≤ 65536 ∧ n3 ≤ 65536 ∧ n4 ≤ 32768 ∧ n5 ≤ 32768 ∧ 0 ≤ i0 ∧ i0 ≤ i1 ∧ i1 ≤ (n0 : Int) ∧ 0 ≤ i2 ∧ i2 ≤ i3 ∧ (n1 : Int) < i3)

set_option maxRecDepth 100000 in
set_option maxHeartbeats 4000000 in
theorem early4 (o0 o1 o2 o3 o4 o5 : Option Addr) (n0 n1 n2 n3 n4 n5 c0 c1 c2 c3 c4 c5 : Nat) (i0 i1 i2 i3 : Int) (w : World) (h : Early n0 n1 n2 n3 n4 n5 i0 i1 i2 i3) :
    Calls Try.prog 4 #[.slice o0 n0 c0, .slice o1 n1 c1, .slice o2 n2 c2, .slice o3 n3 c3, .slice o4 n4 c4, .slice o5 n5 c5, .int .i64 i0, .int .i64 i1, .int .i64 i2, .int .i64 i3] w fun e w' => e = .returned (.bool true) ∧ Below w.heap.size w w' := by
  rcases h with h | h | h | h | h | h | h | h | h | h | h | h
  all_goals
    go_enter Try.func4, Try.ntmps4
    go_wp2_with fail
    refine (bytes9 o0 o1 o2 o3 o4 o5 n0 n1 n2 n3 n4 n5 c0 c1 c2 c3 c4 c5 i0 i1 i2 i3 _).mono ?_
    rintro e w' ⟨b, rfl, rfl⟩
    cases b
  all_goals
    go_wp2
    go_ret
    exact ⟨rfl, Below.refl _ _⟩

set_option maxRecDepth 100000 in
set_option maxHeartbeats 4000000 in
theorem early3 (o0 o1 o2 o3 o4 o5 : Option Addr) (n0 n1 n2 n3 n4 n5 c0 c1 c2 c3 c4 c5 : Nat) (i0 i1 i2 i3 : Int) (w : World) (h : Early n0 n1 n2 n3 n4 n5 i0 i1 i2 i3) :
    Calls Try.prog 3 #[.slice o0 n0 c0, .slice o1 n1 c1, .slice o2 n2 c2, .slice o3 n3 c3, .slice o4 n4 c4, .slice o5 n5 c5, .int .i64 i0, .int .i64 i1, .int .i64 i2, .int .i64 i3] w fun e w' => e = .returned (.bool true) ∧ Below w.heap.size w w' := by
  rcases h with h | h | h | h | h | h | h | h | h | h | h | h
  all_goals
    go_enter Try.func3, Try.ntmps3
    go_wp2_with fail
    refine (bytes5 o0 o1 o2 o3 o4 o5 n0 n1 n2 n3 n4 n5 c0 c1 c2 c3 c4 c5 i0 i1 i2 i3 _).mono ?_
    rintro e w' ⟨b, rfl, rfl⟩
    cases b
  all_goals
    go_wp2
    go_ret
    exact ⟨rfl, Below.refl _ _⟩

end Go.Proofs.Qxb6617690a
