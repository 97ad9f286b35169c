import Derived.Test.Qxb6600292aModsSetF
import Derived.Test.Qxb6600292aModsSetG
import Derived.Test.Qxb6600292aModsSetH
namespace Go.Proofs.Qxb6600292aMods
open Go.RowKit
set_option linter.unusedVariables false
set_option linter.unusedSimpArgs false

theorem sameSettings_any (d n s p a : ByteArray) (pe pf pr : Option Addr) (xe xf xr : Option Int) (d' n' s' p' a' : ByteArray) (pe' pf' pr' : Option Addr) (xe' xf' xr' : Option Int) (w : World)
    (he : PtrIs w pe xe) (hf : PtrIs w pf xf) (hr : PtrIs w pr xr) (he' : PtrIs w pe' xe') (hf' : PtrIs w pf' xf') (hr' : PtrIs w pr' xr') :
    Calls Trym.prog 17 #[.agg #[.string d, .string n, .string s, .string p, .string a, .pointer pe, .pointer pf, .pointer pr], .agg #[.string d', .string n', .string s', .string p', .string a', .pointer pe', .pointer pf', .pointer pr']] w fun e w' => e = .returned (.bool (setB n s p a xe xf xr n' s' p' a' xe' xf' xr')) ∧ Below w.heap.size w w' := by
  unfold setB
  cases hn : (n.toList == n'.toList)
  · exact set_str0 d n s p a pe pf pr d' n' s' p' a' pe' pf' pr' w hn
  cases hs : (s.toList == s'.toList)
  · exact set_str1 d n s p a pe pf pr d' n' s' p' a' pe' pf' pr' w hn hs
  cases hp : (p.toList == p'.toList)
  · exact set_str2 d n s p a pe pf pr d' n' s' p' a' pe' pf' pr' w hn hs hp
  cases ha : (a.toList == a'.toList)
  · exact set_str3 d n s p a pe pf pr d' n' s' p' a' pe' pf' pr' w hn hs hp ha
  cases hl : (xe.getD 3600 == xe'.getD 3600)
  · exact set_life d n s p a pe pf pr xe xf xr d' n' s' p' a' pe' pf' pr' xe' xf' xr' w he hf hr he' hf' hr' hn hs hp ha hl
  cases hg : sameB xf xf'
  · exact set_fs d n s p a pe pf pr xe xf xr d' n' s' p' a' pe' pf' pr' xe' xf' xr' w he hf hr he' hf' hr' hn hs hp ha hl hg
  · exact set_all d n s p a pe pf pr xe xf xr d' n' s' p' a' pe' pf' pr' xe' xf' xr' w he hf hr he' hf' hr' hn hs hp ha hl hg

theorem zzSame_any (d n s p a : ByteArray) (pe pf pr : Option Addr) (xe xf xr : Option Int) (d' n' s' p' a' : ByteArray) (pe' pf' pr' : Option Addr) (xe' xf' xr' : Option Int) (w : World)
    (he : PtrIs w pe xe) (hf : PtrIs w pf xf) (hr : PtrIs w pr xr) (he' : PtrIs w pe' xe') (hf' : PtrIs w pf' xf') (hr' : PtrIs w pr' xr') :
    Calls Trym.prog 9 #[.agg #[.string d, .string n, .string s, .string p, .string a, .pointer pe, .pointer pf, .pointer pr], .agg #[.string d', .string n', .string s', .string p', .string a', .pointer pe', .pointer pf', .pointer pr']] w fun e w' => e = .returned (.bool (setB n s p a xe xf xr n' s' p' a' xe' xf' xr')) ∧ Below w.heap.size w w' := by
  have hb : ∀ o1 o2, Below w.heap.size w ((w.alloc o1).alloc o2) := fun o1 o2 => ((Below.refl _ _).alloc (Nat.le_refl _) _).alloc (by simp) _
  go_enter Trym.func9, Trym.ntmps9
  go_wp2_with (go_at_call 17; refine (sameSettings_any d n s p a pe pf pr xe xf xr d' n' s' p' a' pe' pf' pr' xe' xf' xr' _ (he.below (hb _ _)) (hf.below (hb _ _)) (hr.below (hb _ _)) (he'.below (hb _ _)) (hf'.below (hb _ _)) (hr'.below (hb _ _))).mono ?_; rintro e w' ⟨rfl, hb'⟩)
  go_ret
  exact ⟨rfl, (hb _ _).trans (hb'.mono (by simp; omega))⟩

/-! ### The plain laws -/
theorem setB_refl (n s p a : ByteArray) (xe xf xr : Option Int) : setB n s p a xe xf xr n s p a xe xf xr = true := by
  simp [setB, sameB]
theorem setB_symm (n s p a : ByteArray) (xe xf xr : Option Int) (n' s' p' a' : ByteArray) (xe' xf' xr' : Option Int) :
    setB n' s' p' a' xe' xf' xr' n s p a xe xf xr = setB n s p a xe xf xr n' s' p' a' xe' xf' xr' := by
  unfold setB sameB
  rw [Bool.beq_comm (a := n'.toList), Bool.beq_comm (a := s'.toList), Bool.beq_comm (a := p'.toList), Bool.beq_comm (a := a'.toList), Bool.beq_comm (a := xe'.getD 3600), Bool.beq_comm (a := xf'), Bool.beq_comm (a := xr')]
theorem setB_trans (n s p a : ByteArray) (xe xf xr : Option Int) (n' s' p' a' : ByteArray) (xe' xf' xr' : Option Int) (n2 s2 p2 a2 : ByteArray) (xe2 xf2 xr2 : Option Int)
    (h1 : setB n s p a xe xf xr n' s' p' a' xe' xf' xr' = true) (h2 : setB n' s' p' a' xe' xf' xr' n2 s2 p2 a2 xe2 xf2 xr2 = true) :
    setB n s p a xe xf xr n2 s2 p2 a2 xe2 xf2 xr2 = true := by
  simp only [setB, sameB, Bool.and_eq_true, beq_iff_eq] at *
  obtain ⟨⟨⟨⟨⟨⟨a1, a2⟩, a3⟩, a4⟩, a5⟩, a6⟩, a7⟩ := h1
  obtain ⟨⟨⟨⟨⟨⟨b1, b2⟩, b3⟩, b4⟩, b5⟩, b6⟩, b7⟩ := h2
  exact ⟨⟨⟨⟨⟨⟨a1.trans b1, a2.trans b2⟩, a3.trans b3⟩, a4.trans b4⟩, a5.trans b5⟩, a6.trans b6⟩, a7.trans b7⟩
/-- A volume that differs in the lifetime alone. -/
theorem setB_life (n s p a : ByteArray) (xe xf xr xe' : Option Int) : setB n s p a xe xf xr n s p a xe' xf xr = (xe.getD 3600 == xe'.getD 3600) := by
  simp [setB, sameB]
theorem setB_life' (n s p a : ByteArray) (xe xf xr xe' : Option Int) : setB n s p a xe' xf xr n s p a xe xf xr = (xe.getD 3600 == xe'.getD 3600) := by
  rw [setB_symm, setB_life]
end Go.Proofs.Qxb6600292aMods
