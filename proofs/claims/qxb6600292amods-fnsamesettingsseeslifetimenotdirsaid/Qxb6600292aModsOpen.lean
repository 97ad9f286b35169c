import Derived.Test.Qxb6600292aModsLeaf
import Derived.OpenShut
import Derived.ShutString
import Derived.ChangeOld
import Derived.Lib.SmallJoins
namespace Go.Proofs.Qxb6600292aMods
open Go.ChangeShapes Go.WideShapes Go.ChangeAt Go.RowKit
open Go.Joins
set_option linter.unusedVariables false

theorem Trym.cells24 : Trym.prog.cellsOf 24 = 8 := by kernel_rfl
theorem Trym.cells9 : Trym.prog.cellsOf 9 = 1 := by kernel_rfl
theorem Trym.cells22 : Trym.prog.cellsOf 22 = 1 := by kernel_rfl
theorem Trym.cells2 : Trym.prog.cellsOf 2 = 1 := by kernel_rfl

theorem array8 {α : Type} {a : Array α} (h : a.size = 8) : ∃ c0 c1 c2 c3 c4 c5 c6 c7, a = #[c0, c1, c2, c3, c4, c5, c6, c7] := by
  obtain ⟨l⟩ := a
  match l, h with
  | [c0, c1, c2, c3, c4, c5, c6, c7], _ => exact ⟨c0, c1, c2, c3, c4, c5, c6, c7, rfl⟩

theorem open_pint {H : Type} {enc : TypeId × Value → H} {w : World} {base : Nat} {spare : Nat → Bool} {held : Bool} {fuel : Nat} {c : Value} {x : DataW H × List MemPlace}
    (h : DataW.trod enc Trym.prog w base spare held fuel 22 [c] = some x) : ∃ p y, c = .pointer p ∧ PtrIs w p y := by
  rcases DataW.trod_pointer Trym.underlying22 h with ⟨h, hx⟩ | ⟨a, cs, y, m, _, h, hx, hcells, hd'⟩
  · simp at h
    exact ⟨none, none, h, .inl ⟨rfl, rfl⟩⟩
  · simp at h
    obtain ⟨_, hlen, hcell⟩ := World.cells?_some hcells
    obtain ⟨n, rfl, _, _⟩ := DataW.trod_int Trym.underlying2 hd'
    have g0 := hcell 0 (by rw [Trym.cells2]; omega)
    obtain ⟨b, off, spot⟩ := a
    have hspot : spot = none := by simpa [Addr.add] using World.cell?_spot g0
    subst hspot
    exact ⟨_, some n, h, .inr ⟨b, off, n, rfl, rfl, by simpa [add_plain] using g0⟩⟩

theorem open_vol {H : Type} {enc : TypeId × Value → H} {w : World} {base : Nat} {spare : Nat → Bool} {held : Bool} {r : Reach} {b0 : Nat} {v : Value} {dd : DataW H} {q : List MemPlace}
    (hv : Value.okWide Trym.prog w r b0 24 v) (h : DataW.Trod enc Trym.prog w base spare held 24 v dd q) :
    ∃ (d n s p a : ByteArray) (pe pf pr : Option Addr) (xe xf xr : Option Int), v = .agg #[.string d, .string n, .string s, .string p, .string a, .pointer pe, .pointer pf, .pointer pr] ∧ PtrIs w pe xe ∧ PtrIs w pf xf ∧ PtrIs w pr xr := by
  obtain ⟨cs, rfl, hsz⟩ := okWide_struct Trym.underlying24 hv
  obtain ⟨c0, c1, c2, c3, c4, c5, c6, c7, rfl⟩ := array8 (hsz.trans Trym.cells24)
  obtain ⟨fuel, hf⟩ := h
  obtain ⟨xs, n, _, _, hl, hlen, hx⟩ := DataW.trod_struct Trym.underlying24 hf
  match xs, hlen with
  | [y0, y1, y2, y3, y4, y5, y6, y7], _ =>
    have t0 := hx 0 _ rfl
    have t1 := hx 1 _ rfl
    have t2 := hx 2 _ rfl
    have t3 := hx 3 _ rfl
    have t4 := hx 4 _ rfl
    have t5 := hx 5 _ rfl
    have t6 := hx 6 _ rfl
    have t7 := hx 7 _ rfl
    simp [Value.cells, Trym.cells9, Trym.cells22] at t0 t1 t2 t3 t4 t5 t6 t7
    obtain ⟨d, e0, _, _⟩ := DataW.trod_string Trym.underlying9 t0
    obtain ⟨n, e1, _, _⟩ := DataW.trod_string Trym.underlying9 t1
    obtain ⟨s, e2, _, _⟩ := DataW.trod_string Trym.underlying9 t2
    obtain ⟨p, e3, _, _⟩ := DataW.trod_string Trym.underlying9 t3
    obtain ⟨a, e4, _, _⟩ := DataW.trod_string Trym.underlying9 t4
    obtain ⟨pe, xe, e5, he⟩ := open_pint t5
    obtain ⟨pf, xf, e6, hf2⟩ := open_pint t6
    obtain ⟨pr, xr, e7, hr⟩ := open_pint t7
    simp at e0 e1 e2 e3 e4
    subst e0 e1 e2 e3 e4 e5 e6 e7
    exact ⟨d, n, s, p, a, pe, pf, pr, xe, xf, xr, rfl, he, hf2, hr⟩
end Go.Proofs.Qxb6600292aMods
