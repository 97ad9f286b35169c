import Derived.Test.Qxb6600292aModsMid
namespace Go.Proofs.Qxb6600292aMods
open Go.RowKit
set_option linter.unusedVariables false
set_option linter.unusedSimpArgs false

set_option maxHeartbeats 1000000 in
theorem bytes13_any (d n s p a : ByteArray) (pe pf pr : Option Addr) (d' n' s' p' a' : ByteArray) (pe' pf' pr' : Option Addr) (dir : ByteArray) (w : World) :
    Calls Trym.prog 13 #[.agg #[.string d, .string n, .string s, .string p, .string a, .pointer pe, .pointer pf, .pointer pr], .agg #[.string d', .string n', .string s', .string p', .string a', .pointer pe', .pointer pf', .pointer pr'], .string dir] w fun e w' => RetBool e ∧ Below w.heap.size w w' := by
  go_enter Trym.func13, Trym.ntmps13
  go_wp2
  all_goals go_ret
  all_goals exact ⟨⟨_, rfl⟩, ((Below.refl _ _).alloc (Nat.le_refl _) _).alloc (by simp) _⟩

set_option maxRecDepth 100000 in
set_option maxHeartbeats 1000000 in
theorem bytes12_any (d n s p a : ByteArray) (pe pf pr : Option Addr) (d' n' s' p' a' : ByteArray) (pe' pf' pr' : Option Addr) (d2 n2 s2 p2 a2 : ByteArray) (pe2 pf2 pr2 : Option Addr) (w : World) :
    Calls Trym.prog 12 #[.agg #[.string d, .string n, .string s, .string p, .string a, .pointer pe, .pointer pf, .pointer pr], .agg #[.string d', .string n', .string s', .string p', .string a', .pointer pe', .pointer pf', .pointer pr'], .agg #[.string d2, .string n2, .string s2, .string p2, .string a2, .pointer pe2, .pointer pf2, .pointer pr2]] w fun e w' => RetBool e ∧ Below w.heap.size w w' := by
  go_enter Trym.func12, Trym.ntmps12
  go_wp2
  all_goals go_ret
  all_goals exact ⟨⟨_, rfl⟩, (((Below.refl _ _).alloc (Nat.le_refl _) _).alloc (by simp) _).alloc (by simp; omega) _⟩
end Go.Proofs.Qxb6600292aMods
