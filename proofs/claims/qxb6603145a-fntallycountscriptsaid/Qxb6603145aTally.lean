import Derived.Test.Qxb6603145aCopy
namespace Go.Proofs.Qxb6603145a
open Go.RowKit

/-- 'm & bit != 0', as the Go text asks for it. -/
def flag (m bit : Int) : Bool := bits .and .u8 m bit != 0

/-- A counter behind one count: raised where the flag is set. -/
def addIf (b : Bool) (x d : Int) : Int := if b = true then wrap64 (x + d) else x

set_option maxRecDepth 100000 in
set_option maxHeartbeats 400000 in
theorem tally_any (c f s m d : Int) (w : World) :
    Calls Try.prog 5 #[.int .i64 c, .int .i64 f, .int .i64 s, .int .u8 m, .int .i64 d] w fun e w' =>
      e = .returned (.tuple #[.int .i64 (wrap64 (c + d)), .int .i64 (addIf (flag m 1) f d), .int .i64 (addIf (flag m 2) s d)]) ∧ Below w.heap.size w w' := by
  have t : ∀ x, addIf true x d = wrap64 (x + d) := fun x => rfl
  have f' : ∀ x, addIf false x d = x := fun x => rfl
  cases h1 : flag m 1 <;> cases h2 : flag m 2
  all_goals
    simp only [t, f']
    clear t f'
    unfold flag at h1 h2
    go_enter Try.func5, Try.ntmps5
    go_wp2_with (go_at_call 9; go_in)
    go_end0
    go_wp2_with fail
    go_quiet (fail)
    go_wp2_with fail
    go_ret3
    exact ⟨rfl, below_drewN ((Below.refl _ _).alloc (Nat.le_refl _) _) _⟩
end Go.Proofs.Qxb6603145a
