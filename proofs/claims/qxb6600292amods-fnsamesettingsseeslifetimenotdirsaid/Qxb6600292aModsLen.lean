import Derived.Test.Qxb6600292aModsMid
namespace Go.Proofs.Qxb6600292aMods
open Go.RowKit
set_option linter.unusedVariables false
set_option linter.unusedSimpArgs false

set_option maxHeartbeats 400000 in
theorem volLen_any (acc : Int) (d n s p a : ByteArray) (pe pf pr : Option Addr) (w : World) :
    Calls Trym.prog 7 #[.int .i64 acc, .agg #[.string d, .string n, .string s, .string p, .string a, .pointer pe, .pointer pf, .pointer pr]] w fun e w' => RetInt e ∧ Below w.heap.size w w' := by
  go_enter Trym.func7, Trym.ntmps7
  go_wp2_with (go_at_call 14; refine (addLen_any _ _ _).mono ?_; rintro e w' ⟨⟨m, rfl⟩, rfl⟩)
  go_ret
  exact ⟨⟨_, rfl⟩, (Below.refl _ _).alloc (Nat.le_refl _) _⟩
end Go.Proofs.Qxb6600292aMods
