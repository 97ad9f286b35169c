import Derived.Test.Qxb6600534aModsEq
namespace Go.Proofs.Qxb6600534aMods
open Go.RowKit
set_option linter.unusedVariables false
set_option linter.unusedSimpArgs false

/-- An empty content, no carriage return. -/
theorem law_no0 (a : Option Addr) (c : Nat) (w : World)
    (hcl : Hid (Calls Trym.prog 9 #[.slice a 0 c] w fun e w' => RetSrc 0 (fun _ => 0) e w' ∧ Below w.heap.size w w')) :
    Calls Trym.prog 3 #[.slice a 0 c, .bool false] w fun e w' => e = .returned (.bool true) ∧ Below w.heap.size w w' := by
  go_enter Trym.func3, Trym.ntmps3
  go_wp2_with fail
  refine (bytes_short _ 0 c false _ (Nat.zero_le _)).mono ?_
  rintro e w' ⟨rfl, rfl⟩
  go_wp2_with fail
  refine hcl.out.mono ?_
  rintro e w1 ⟨⟨a1, rfl, hs1⟩, hb1⟩
  clear hs1
  go_wp2_with fail
  refine (join_any a1 0 0 none 0 0 (fun _ => 0) (fun _ => 0) _ (Nat.zero_le _) (Nat.zero_le _) (.inl rfl) (.inl rfl)).mono ?_
  rintro e w2 ⟨⟨g, hg, rfl, hd⟩, hb2⟩
  have hbw2 := hb1.trans (hb2.mono hb1.size)
  clear hd hb2 hb1
  go_wp2_with fail
  refine (zzTrim_any g 0 0 (fun _ => 0) (fun j hj => by omega) (Nat.zero_le _) (Nat.le_refl _) _ (fun j hj => by omega)).mono ?_
  rintro e w3 ⟨he, hb3⟩
  have hz : min (trimLen 0 (fun _ => 0)) 4096 = 0 := rfl
  rw [hz] at he
  subst he
  have hbw3 := hbw2.trans (hb3.mono hbw2.size)
  clear hb3 hbw2 hg hz
  go_wp2_with fail
  refine (eq_true _ a1 0 0 0 (fun _ => 0) _ (Nat.zero_le _) (.inl rfl) (.inl rfl)).mono ?_
  rintro e w4 ⟨rfl, hb4⟩
  go_wp2_with fail
  go_ret
  exact ⟨rfl, hbw3.trans (hb4.mono hbw3.size)⟩
end Go.Proofs.Qxb6600534aMods
