import Derived.Test.Qxb6600292aModsMid
namespace Go.Proofs.Qxb6600292aMods
open Go.RowKit
set_option linter.unusedVariables false
set_option linter.unusedSimpArgs false

/-- What sameSettings computes. -/
def setB (n s p a : ByteArray) (xe xf xr : Option Int) (n' s' p' a' : ByteArray) (xe' xf' xr' : Option Int) : Bool :=
  n.toList == n'.toList && s.toList == s'.toList && p.toList == p'.toList && a.toList == a'.toList && (xe.getD 3600 == xe'.getD 3600) && sameB xf xf' && sameB xr xr'

/-- What stands while sameSettings' one statement is carried out. -/
def SetS (w : World) (d n s p a : ByteArray) (pe pf pr : Option Addr) (d' n' s' p' a' : ByteArray) (pe' pf' pr' : Option Addr) (w' : World) : Prop :=
  Below w.heap.size w w' ∧ w'.cell? ⟨w.heap.size, 0, none⟩ = some (.string d) ∧ w'.cell? ⟨w.heap.size, 1, none⟩ = some (.string n) ∧ w'.cell? ⟨w.heap.size, 2, none⟩ = some (.string s) ∧ w'.cell? ⟨w.heap.size, 3, none⟩ = some (.string p) ∧ w'.cell? ⟨w.heap.size, 4, none⟩ = some (.string a) ∧ w'.cell? ⟨w.heap.size, 5, none⟩ = some (.pointer pe) ∧ w'.cell? ⟨w.heap.size, 6, none⟩ = some (.pointer pf) ∧ w'.cell? ⟨w.heap.size, 7, none⟩ = some (.pointer pr) ∧ w'.cell? ⟨w.heap.size + 1, 0, none⟩ = some (.string d') ∧ w'.cell? ⟨w.heap.size + 1, 1, none⟩ = some (.string n') ∧ w'.cell? ⟨w.heap.size + 1, 2, none⟩ = some (.string s') ∧ w'.cell? ⟨w.heap.size + 1, 3, none⟩ = some (.string p') ∧ w'.cell? ⟨w.heap.size + 1, 4, none⟩ = some (.string a') ∧ w'.cell? ⟨w.heap.size + 1, 5, none⟩ = some (.pointer pe') ∧ w'.cell? ⟨w.heap.size + 1, 6, none⟩ = some (.pointer pf') ∧ w'.cell? ⟨w.heap.size + 1, 7, none⟩ = some (.pointer pr')

theorem SetS.step {w : World} {d n s p a : ByteArray} {pe pf pr : Option Addr} {d' n' s' p' a' : ByteArray} {pe' pf' pr' : Option Addr} {w1 w2 : World} (h : SetS w d n s p a pe pf pr d' n' s' p' a' pe' pf' pr' w1) (hb : Below w1.heap.size w1 w2) : SetS w d n s p a pe pf pr d' n' s' p' a' pe' pf' pr' w2 := by
  obtain ⟨h0, c0, c1, c2, c3, c4, c5, c6, c7, k0, k1, k2, k3, k4, k5, k6, k7⟩ := h
  exact ⟨h0.trans (hb.mono h0.size), cell_below c0 hb, cell_below c1 hb, cell_below c2 hb, cell_below c3 hb, cell_below c4 hb, cell_below c5 hb, cell_below c6 hb, cell_below c7 hb, cell_below k0 hb, cell_below k1 hb, cell_below k2 hb, cell_below k3 hb, cell_below k4 hb, cell_below k5 hb, cell_below k6 hb, cell_below k7 hb⟩

theorem drewN_below (B : Nat) (w : World) (n : Nat) : Below B w (w.drewN n) := ⟨rfl, rfl, rfl, Nat.le_refl _, fun _ _ => rfl⟩

theorem set_str0 (d n s p a : ByteArray) (pe pf pr : Option Addr) (d' n' s' p' a' : ByteArray) (pe' pf' pr' : Option Addr) (w : World) (hn : (n.toList == n'.toList) = false) :
    Calls Trym.prog 17 #[.agg #[.string d, .string n, .string s, .string p, .string a, .pointer pe, .pointer pf, .pointer pr], .agg #[.string d', .string n', .string s', .string p', .string a', .pointer pe', .pointer pf', .pointer pr']] w fun e w' => e = .returned (.bool false) ∧ Below w.heap.size w w' := by
  go_enter Trym.func17, Trym.ntmps17
  go_wp2
  go_quiet (fail)
  go_wp2
  go_ret
  exact ⟨rfl, ((((Below.refl _ _).alloc (Nat.le_refl _) _).alloc (by simp) _).trans (drewN_below _ _ _))⟩

theorem set_str1 (d n s p a : ByteArray) (pe pf pr : Option Addr) (d' n' s' p' a' : ByteArray) (pe' pf' pr' : Option Addr) (w : World) (hn : (n.toList == n'.toList) = true) (hs : (s.toList == s'.toList) = false) :
    Calls Trym.prog 17 #[.agg #[.string d, .string n, .string s, .string p, .string a, .pointer pe, .pointer pf, .pointer pr], .agg #[.string d', .string n', .string s', .string p', .string a', .pointer pe', .pointer pf', .pointer pr']] w fun e w' => e = .returned (.bool false) ∧ Below w.heap.size w w' := by
  go_enter Trym.func17, Trym.ntmps17
  go_wp2
  go_quiet (fail)
  go_wp2
  go_ret
  exact ⟨rfl, ((((Below.refl _ _).alloc (Nat.le_refl _) _).alloc (by simp) _).trans (drewN_below _ _ _))⟩

theorem set_str2 (d n s p a : ByteArray) (pe pf pr : Option Addr) (d' n' s' p' a' : ByteArray) (pe' pf' pr' : Option Addr) (w : World) (hn : (n.toList == n'.toList) = true) (hs : (s.toList == s'.toList) = true) (hp : (p.toList == p'.toList) = false) :
    Calls Trym.prog 17 #[.agg #[.string d, .string n, .string s, .string p, .string a, .pointer pe, .pointer pf, .pointer pr], .agg #[.string d', .string n', .string s', .string p', .string a', .pointer pe', .pointer pf', .pointer pr']] w fun e w' => e = .returned (.bool false) ∧ Below w.heap.size w w' := by
  go_enter Trym.func17, Trym.ntmps17
  go_wp2
  go_quiet (fail)
  go_wp2
  go_ret
  exact ⟨rfl, ((((Below.refl _ _).alloc (Nat.le_refl _) _).alloc (by simp) _).trans (drewN_below _ _ _))⟩

theorem set_str3 (d n s p a : ByteArray) (pe pf pr : Option Addr) (d' n' s' p' a' : ByteArray) (pe' pf' pr' : Option Addr) (w : World) (hn : (n.toList == n'.toList) = true) (hs : (s.toList == s'.toList) = true) (hp : (p.toList == p'.toList) = true) (ha : (a.toList == a'.toList) = false) :
    Calls Trym.prog 17 #[.agg #[.string d, .string n, .string s, .string p, .string a, .pointer pe, .pointer pf, .pointer pr], .agg #[.string d', .string n', .string s', .string p', .string a', .pointer pe', .pointer pf', .pointer pr']] w fun e w' => e = .returned (.bool false) ∧ Below w.heap.size w w' := by
  go_enter Trym.func17, Trym.ntmps17
  go_wp2
  go_quiet (fail)
  go_wp2
  go_ret
  exact ⟨rfl, ((((Below.refl _ _).alloc (Nat.le_refl _) _).alloc (by simp) _).trans (drewN_below _ _ _))⟩
end Go.Proofs.Qxb6600292aMods
