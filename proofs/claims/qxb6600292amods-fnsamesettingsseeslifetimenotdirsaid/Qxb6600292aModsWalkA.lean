import Derived.Test.Qxb6600292aModsSame
import Derived.Test.Qxb6600292aModsLen
import Derived.Test.Qxb6600292aModsByt
namespace Go.Proofs.Qxb6600292aMods
open Go.RowKit
set_option linter.unusedVariables false
set_option linter.unusedSimpArgs false

/-- The eight values lie in block 'b'. -/
def Box (w : World) (b : Nat) (v0 v1 v2 v3 v4 v5 v6 v7 : Value) : Prop :=
  w.cell? ⟨b, 0, none⟩ = some (v0) ∧ w.cell? ⟨b, 1, none⟩ = some (v1) ∧ w.cell? ⟨b, 2, none⟩ = some (v2) ∧ w.cell? ⟨b, 3, none⟩ = some (v3) ∧ w.cell? ⟨b, 4, none⟩ = some (v4) ∧ w.cell? ⟨b, 5, none⟩ = some (v5) ∧ w.cell? ⟨b, 6, none⟩ = some (v6) ∧ w.cell? ⟨b, 7, none⟩ = some (v7)
theorem Box.below {w w' : World} {b : Nat} {v0 v1 v2 v3 v4 v5 v6 v7 : Value} (h : Box w b v0 v1 v2 v3 v4 v5 v6 v7) (hb : Below w.heap.size w w') : Box w' b v0 v1 v2 v3 v4 v5 v6 v7 := by
  obtain ⟨c0, c1, c2, c3, c4, c5, c6, c7⟩ := h
  exact ⟨cell_below c0 hb, cell_below c1 hb, cell_below c2 hb, cell_below c3 hb, cell_below c4 hb, cell_below c5 hb, cell_below c6 hb, cell_below c7 hb⟩

theorem Box.lt {w : World} {b : Nat} {v0 v1 v2 v3 v4 v5 v6 v7 : Value} (h : Box w b v0 v1 v2 v3 v4 v5 v6 v7) : b < w.heap.size := World.block_lt_of_cell? w _ h.1

theorem boxed {w u : World} {v0 v1 v2 v3 v4 v5 v6 v7 : Value} (h : w.alloc (Obj.cells #[v0, v1, v2, v3, v4, v5, v6, v7] 28) = u) : Below w.heap.size w u ∧ Box u w.heap.size v0 v1 v2 v3 v4 v5 v6 v7 := by
  subst h
  exact ⟨(Below.refl _ _).alloc (Nat.le_refl _) _, by simp [Box, go_sem]⟩

def LawS (W : World) (b : Nat) (d1 n1 s1 p1 a1 : ByteArray) (pe1 pf1 pr1 : Option Addr) (d2 n2 s2 p2 a2 : ByteArray) (pe2 pf2 pr2 : Option Addr) (d3 n3 s3 p3 a3 : ByteArray) (pe3 pf3 pr3 : Option Addr) (w' : World) : Prop :=
  Below W.heap.size W w' ∧ w'.cell? ⟨b, 0, none⟩ = some (.string d1) ∧ w'.cell? ⟨b, 1, none⟩ = some (.string n1) ∧ w'.cell? ⟨b, 2, none⟩ = some (.string s1) ∧ w'.cell? ⟨b, 3, none⟩ = some (.string p1) ∧ w'.cell? ⟨b, 4, none⟩ = some (.string a1) ∧ w'.cell? ⟨b, 5, none⟩ = some (.pointer pe1) ∧ w'.cell? ⟨b, 6, none⟩ = some (.pointer pf1) ∧ w'.cell? ⟨b, 7, none⟩ = some (.pointer pr1) ∧ w'.cell? ⟨b + 1, 0, none⟩ = some (.string d2) ∧ w'.cell? ⟨b + 1, 1, none⟩ = some (.string n2) ∧ w'.cell? ⟨b + 1, 2, none⟩ = some (.string s2) ∧ w'.cell? ⟨b + 1, 3, none⟩ = some (.string p2) ∧ w'.cell? ⟨b + 1, 4, none⟩ = some (.string a2) ∧ w'.cell? ⟨b + 1, 5, none⟩ = some (.pointer pe2) ∧ w'.cell? ⟨b + 1, 6, none⟩ = some (.pointer pf2) ∧ w'.cell? ⟨b + 1, 7, none⟩ = some (.pointer pr2) ∧ w'.cell? ⟨b + 2, 0, none⟩ = some (.string d3) ∧ w'.cell? ⟨b + 2, 1, none⟩ = some (.string n3) ∧ w'.cell? ⟨b + 2, 2, none⟩ = some (.string s3) ∧ w'.cell? ⟨b + 2, 3, none⟩ = some (.string p3) ∧ w'.cell? ⟨b + 2, 4, none⟩ = some (.string a3) ∧ w'.cell? ⟨b + 2, 5, none⟩ = some (.pointer pe3) ∧ w'.cell? ⟨b + 2, 6, none⟩ = some (.pointer pf3) ∧ w'.cell? ⟨b + 2, 7, none⟩ = some (.pointer pr3)
theorem LawS.step {W : World} {b : Nat} {d1 n1 s1 p1 a1 : ByteArray} {pe1 pf1 pr1 : Option Addr} {d2 n2 s2 p2 a2 : ByteArray} {pe2 pf2 pr2 : Option Addr} {d3 n3 s3 p3 a3 : ByteArray} {pe3 pf3 pr3 : Option Addr} {w1 w2 : World} (h : LawS W b d1 n1 s1 p1 a1 pe1 pf1 pr1 d2 n2 s2 p2 a2 pe2 pf2 pr2 d3 n3 s3 p3 a3 pe3 pf3 pr3 w1) (hb : Below w1.heap.size w1 w2) : LawS W b d1 n1 s1 p1 a1 pe1 pf1 pr1 d2 n2 s2 p2 a2 pe2 pf2 pr2 d3 n3 s3 p3 a3 pe3 pf3 pr3 w2 := by
  obtain ⟨h0, c0, c1, c2, c3, c4, c5, c6, c7, k0, k1, k2, k3, k4, k5, k6, k7, l0, l1, l2, l3, l4, l5, l6, l7⟩ := h
  exact ⟨h0.trans (hb.mono h0.size), cell_below c0 hb, cell_below c1 hb, cell_below c2 hb, cell_below c3 hb, cell_below c4 hb, cell_below c5 hb, cell_below c6 hb, cell_below c7 hb, cell_below k0 hb, cell_below k1 hb, cell_below k2 hb, cell_below k3 hb, cell_below k4 hb, cell_below k5 hb, cell_below k6 hb, cell_below k7 hb, cell_below l0 hb, cell_below l1 hb, cell_below l2 hb, cell_below l3 hb, cell_below l4 hb, cell_below l5 hb, cell_below l6 hb, cell_below l7 hb⟩

set_option maxHeartbeats 1000000 in
theorem walk4 (d1 n1 s1 p1 a1 : ByteArray) (pe1 pf1 pr1 : Option Addr) (xe1 xf1 xr1 : Option Int) (d2 n2 s2 p2 a2 : ByteArray) (pe2 pf2 pr2 : Option Addr) (xe2 xf2 xr2 : Option Int) (d3 n3 s3 p3 a3 : ByteArray) (pe3 pf3 pr3 : Option Addr) (xe3 xf3 xr3 : Option Int) (w : World) (he1 : PtrIs w pe1 xe1) (hf1 : PtrIs w pf1 xf1) (hr1 : PtrIs w pr1 xr1) (he2 : PtrIs w pe2 xe2) (hf2 : PtrIs w pf2 xf2) (hr2 : PtrIs w pr2 xr2) (he3 : PtrIs w pe3 xe3) (hf3 : PtrIs w pf3 xf3) (hr3 : PtrIs w pr3 xr3) :
    Calls Trym.prog 4 #[.agg #[.string d1, .string n1, .string s1, .string p1, .string a1, .pointer pe1, .pointer pf1, .pointer pr1], .agg #[.string d2, .string n2, .string s2, .string p2, .string a2, .pointer pe2, .pointer pf2, .pointer pr2], .agg #[.string d3, .string n3, .string s3, .string p3, .string a3, .pointer pe3, .pointer pf3, .pointer pr3]] w fun e w' => e = .returned (.bool true) ∧ Below w.heap.size w w' := by
  go_enter Trym.func4, Trym.ntmps4
  go_wp2_with fail
  generalize hW : (((w.alloc (Obj.cells #[Value.string d1, Value.string n1, Value.string s1, Value.string p1, Value.string a1, Value.pointer pe1, Value.pointer pf1, Value.pointer pr1] 24)).alloc (Obj.cells #[Value.string d2, Value.string n2, Value.string s2, Value.string p2, Value.string a2, Value.pointer pe2, Value.pointer pf2, Value.pointer pr2] 24)).alloc (Obj.cells #[Value.string d3, Value.string n3, Value.string s3, Value.string p3, Value.string a3, Value.pointer pe3, Value.pointer pf3, Value.pointer pr3] 24)) = W
  have hbW : Below w.heap.size w W := by rw [← hW]; exact (((Below.refl _ _).alloc (Nat.le_refl _) _).alloc (by simp) _).alloc (by simp; omega) _
  have x1 : W.cell? ⟨w.heap.size, 0, none⟩ = some (.string d1) ∧ W.cell? ⟨w.heap.size, 1, none⟩ = some (.string n1) ∧ W.cell? ⟨w.heap.size, 2, none⟩ = some (.string s1) ∧ W.cell? ⟨w.heap.size, 3, none⟩ = some (.string p1) ∧ W.cell? ⟨w.heap.size, 4, none⟩ = some (.string a1) ∧ W.cell? ⟨w.heap.size, 5, none⟩ = some (.pointer pe1) ∧ W.cell? ⟨w.heap.size, 6, none⟩ = some (.pointer pf1) ∧ W.cell? ⟨w.heap.size, 7, none⟩ = some (.pointer pr1) := by rw [← hW]; simp [go_sem]
  have x2 : W.cell? ⟨w.heap.size + 1, 0, none⟩ = some (.string d2) ∧ W.cell? ⟨w.heap.size + 1, 1, none⟩ = some (.string n2) ∧ W.cell? ⟨w.heap.size + 1, 2, none⟩ = some (.string s2) ∧ W.cell? ⟨w.heap.size + 1, 3, none⟩ = some (.string p2) ∧ W.cell? ⟨w.heap.size + 1, 4, none⟩ = some (.string a2) ∧ W.cell? ⟨w.heap.size + 1, 5, none⟩ = some (.pointer pe2) ∧ W.cell? ⟨w.heap.size + 1, 6, none⟩ = some (.pointer pf2) ∧ W.cell? ⟨w.heap.size + 1, 7, none⟩ = some (.pointer pr2) := by rw [← hW]; simp [go_sem]
  have x3 : W.cell? ⟨w.heap.size + 2, 0, none⟩ = some (.string d3) ∧ W.cell? ⟨w.heap.size + 2, 1, none⟩ = some (.string n3) ∧ W.cell? ⟨w.heap.size + 2, 2, none⟩ = some (.string s3) ∧ W.cell? ⟨w.heap.size + 2, 3, none⟩ = some (.string p3) ∧ W.cell? ⟨w.heap.size + 2, 4, none⟩ = some (.string a3) ∧ W.cell? ⟨w.heap.size + 2, 5, none⟩ = some (.pointer pe3) ∧ W.cell? ⟨w.heap.size + 2, 6, none⟩ = some (.pointer pf3) ∧ W.cell? ⟨w.heap.size + 2, 7, none⟩ = some (.pointer pr3) := by rw [← hW]; simp [go_sem]
  clear hW
  refine (bytes12_any d1 n1 s1 p1 a1 pe1 pf1 pr1 d2 n2 s2 p2 a2 pe2 pf2 pr2 d3 n3 s3 p3 a3 pe3 pf3 pr3 _).mono ?_
  rintro e w1 ⟨⟨b, rfl⟩, hb1⟩
  cases b
  · go_wp2_with fail
    go_ret
    exact ⟨rfl, hbW.trans (hb1.mono hbW.size)⟩
  go_wp2_with fail
  have y1 := Box.below (b := w.heap.size) x1 hb1
  have y2 := Box.below (b := w.heap.size + 1) x2 hb1
  have y3 := Box.below (b := w.heap.size + 2) x3 hb1
  clear x1 x2 x3
  go_region_held3 (fun w' => Below W.heap.size W w' ∧ w'.cell? ⟨w.heap.size, 0, none⟩ = some (.string d1) ∧ w'.cell? ⟨w.heap.size, 1, none⟩ = some (.string n1) ∧ w'.cell? ⟨w.heap.size, 2, none⟩ = some (.string s1) ∧ w'.cell? ⟨w.heap.size, 3, none⟩ = some (.string p1) ∧ w'.cell? ⟨w.heap.size, 4, none⟩ = some (.string a1) ∧ w'.cell? ⟨w.heap.size, 5, none⟩ = some (.pointer pe1) ∧ w'.cell? ⟨w.heap.size, 6, none⟩ = some (.pointer pf1) ∧ w'.cell? ⟨w.heap.size, 7, none⟩ = some (.pointer pr1) ∧ w'.cell? ⟨w.heap.size + 1, 0, none⟩ = some (.string d2) ∧ w'.cell? ⟨w.heap.size + 1, 1, none⟩ = some (.string n2) ∧ w'.cell? ⟨w.heap.size + 1, 2, none⟩ = some (.string s2) ∧ w'.cell? ⟨w.heap.size + 1, 3, none⟩ = some (.string p2) ∧ w'.cell? ⟨w.heap.size + 1, 4, none⟩ = some (.string a2) ∧ w'.cell? ⟨w.heap.size + 1, 5, none⟩ = some (.pointer pe2) ∧ w'.cell? ⟨w.heap.size + 1, 6, none⟩ = some (.pointer pf2) ∧ w'.cell? ⟨w.heap.size + 1, 7, none⟩ = some (.pointer pr2) ∧ w'.cell? ⟨w.heap.size + 2, 0, none⟩ = some (.string d3) ∧ w'.cell? ⟨w.heap.size + 2, 1, none⟩ = some (.string n3) ∧ w'.cell? ⟨w.heap.size + 2, 2, none⟩ = some (.string s3) ∧ w'.cell? ⟨w.heap.size + 2, 3, none⟩ = some (.string p3) ∧ w'.cell? ⟨w.heap.size + 2, 4, none⟩ = some (.string a3) ∧ w'.cell? ⟨w.heap.size + 2, 5, none⟩ = some (.pointer pe3) ∧ w'.cell? ⟨w.heap.size + 2, 6, none⟩ = some (.pointer pf3) ∧ w'.cell? ⟨w.heap.size + 2, 7, none⟩ = some (.pointer pr3))
    (first
      | exact ⟨hb1.drew, y1.1, y1.2.1, y1.2.2.1, y1.2.2.2.1, y1.2.2.2.2.1, y1.2.2.2.2.2.1, y1.2.2.2.2.2.2.1, y1.2.2.2.2.2.2.2, y2.1, y2.2.1, y2.2.2.1, y2.2.2.2.1, y2.2.2.2.2.1, y2.2.2.2.2.2.1, y2.2.2.2.2.2.2.1, y2.2.2.2.2.2.2.2, y3.1, y3.2.1, y3.2.2.1, y3.2.2.2.1, y3.2.2.2.2.1, y3.2.2.2.2.2.1, y3.2.2.2.2.2.2.1, y3.2.2.2.2.2.2.2⟩
      | exact LawS.step (b := w.heap.size) ‹Below W.heap.size W _ ∧ _› hb4
      | exact LawS.step (b := w.heap.size) ‹Below W.heap.size W _ ∧ _› hb3
      | exact LawS.step (b := w.heap.size) ‹Below W.heap.size W _ ∧ _› hb2)
    (first
      | (go_at_call_of 7 (Value.string d1); refine (volLen_any _ d1 n1 s1 p1 a1 pe1 pf1 pr1 _).mono ?_; rintro e w2 ⟨⟨m1, rfl⟩, hb2⟩)
      | (go_at_call_of 7 (Value.string d2); refine (volLen_any _ d2 n2 s2 p2 a2 pe2 pf2 pr2 _).mono ?_; rintro e w3 ⟨⟨m2, rfl⟩, hb3⟩)
      | (go_at_call_of 7 (Value.string d3); refine (volLen_any _ d3 n3 s3 p3 a3 pe3 pf3 pr3 _).mono ?_; rintro e w4 ⟨⟨m3, rfl⟩, hb4⟩))
  have hL : LawS W w.heap.size d1 n1 s1 p1 a1 pe1 pf1 pr1 d2 n2 s2 p2 a2 pe2 pf2 pr2 d3 n3 s3 p3 a3 pe3 pf3 pr3 w4 := ‹Below W.heap.size W _ ∧ _›
  clear hb1 hb2 hb3 hb4 y1 y2 y3
  by_cases hm : 1048576 < m3
  · go_wp2_with fail
    go_ret
    exact ⟨rfl, hbW.trans (hL.1.mono hbW.size)⟩
  have hbw := hbW.trans (hL.1.mono hbW.size)
  clear hbW
  obtain ⟨-, c0, c1, c2, c3, c4, c5, c6, c7, k0, k1, k2, k3, k4, k5, k6, k7, l0, l1, l2, l3, l4, l5, l6, l7⟩ := hL
  have B2 : Box w4 (w.heap.size + 1) (.string d2) (.string n2) (.string s2) (.string p2) (.string a2) (.pointer pe2) (.pointer pf2) (.pointer pr2) := ⟨k0, k1, k2, k3, k4, k5, k6, k7⟩
  have B3 : Box w4 (w.heap.size + 2) (.string d3) (.string n3) (.string s3) (.string p3) (.string a3) (.pointer pe3) (.pointer pf3) (.pointer pr3) := ⟨l0, l1, l2, l3, l4, l5, l6, l7⟩
  clear k0 k1 k2 k3 k4 k5 k6 k7 l0 l1 l2 l3 l4 l5 l6 l7
  go_wp2_with fail
  clear c0 c1 c2 c3 c4 c5 c6 c7
  refine (toVolume_any d1 n1 s1 p1 a1 pe1 pf1 pr1 xe1 xf1 xr1 _ (he1.below hbw) (hf1.below hbw) (hr1.below hbw)).mono ?_
  rintro e w5 ⟨⟨qe1, qf1, qr1, rfl, ge1, gf1, gr1⟩, hb5⟩
  have hbw5 := hbw.trans (hb5.mono hbw.size)
  have B2' := B2.below hb5
  have B3' := B3.below hb5
  clear B2 B3 hbw hb5
  have z5 := B2'.lt
  obtain ⟨k0, k1, k2, k3, k4, k5, k6, k7⟩ := B2'
  go_wp2_with fail
  clear k0 k1 k2 k3 k4 k5 k6 k7 z5
  generalize hU : w5.alloc (Obj.cells #[Value.string d1, Value.string n1, Value.string s1, Value.string p1, Value.string a1, Value.pointer qe1, Value.pointer qf1, Value.pointer qr1] 28) = u5
  obtain ⟨hbu5, C1⟩ := boxed hU
  clear hU
  have hw5 := hbw5.trans (hbu5.mono hbw5.size)
  have B3 := B3'.below hbu5
  have ge1 := ge1.below hbu5
  have gf1 := gf1.below hbu5
  have gr1 := gr1.below hbu5
  refine (toVolume_any d2 n2 s2 p2 a2 pe2 pf2 pr2 xe2 xf2 xr2 _ (he2.below hw5) (hf2.below hw5) (hr2.below hw5)).mono ?_
  rintro e w6 ⟨⟨qe2, qf2, qr2, rfl, ge2, gf2, gr2⟩, hb6⟩
  have hbw6 := hw5.trans (hb6.mono hw5.size)
  have B3' := B3.below hb6
  have C1 := C1.below hb6
  have ge1 := ge1.below hb6
  have gf1 := gf1.below hb6
  have gr1 := gr1.below hb6
  clear B3 hw5 hb6 hbw5
  have z6 := B3'.lt
  obtain ⟨k0, k1, k2, k3, k4, k5, k6, k7⟩ := B3'
  go_wp2_with fail
  clear k0 k1 k2 k3 k4 k5 k6 k7 z6
  generalize hU : w6.alloc (Obj.cells #[Value.string d2, Value.string n2, Value.string s2, Value.string p2, Value.string a2, Value.pointer qe2, Value.pointer qf2, Value.pointer qr2] 28) = u6
  obtain ⟨hbu6, C2⟩ := boxed hU
  clear hU
  have hw6 := hbw6.trans (hbu6.mono hbw6.size)
  have C1 := C1.below hbu6
  have ge1 := ge1.below hbu6
  have gf1 := gf1.below hbu6
  have gr1 := gr1.below hbu6
  have ge2 := ge2.below hbu6
  have gf2 := gf2.below hbu6
  have gr2 := gr2.below hbu6
  refine (toVolume_any d3 n3 s3 p3 a3 pe3 pf3 pr3 xe3 xf3 xr3 _ (he3.below hw6) (hf3.below hw6) (hr3.below hw6)).mono ?_
  rintro e w7 ⟨⟨qe3, qf3, qr3, rfl, ge3, gf3, gr3⟩, hb7⟩
  have hbw7 := hw6.trans (hb7.mono hw6.size)
  have C1 := C1.below hb7
  have C2 := C2.below hb7
  have ge1 := ge1.below hb7
  have gf1 := gf1.below hb7
  have gr1 := gr1.below hb7
  have ge2 := ge2.below hb7
  have gf2 := gf2.below hb7
  have gr2 := gr2.below hb7
  clear hw6 hb7 hbw6
  have z1 := C1.lt
  have z2 := C2.lt
  have C1' := C1
  obtain ⟨k0, k1, k2, k3, k4, k5, k6, k7⟩ := C1'
  go_wp2_with fail
  clear k0 k1 k2 k3 k4 k5 k6 k7 z1 z2
  generalize hU : w7.alloc (Obj.cells #[Value.string d3, Value.string n3, Value.string s3, Value.string p3, Value.string a3, Value.pointer qe3, Value.pointer qf3, Value.pointer qr3] 28) = u7
  obtain ⟨hbu7, C3⟩ := boxed hU
  clear hU
  have hw7 := hbw7.trans (hbu7.mono hbw7.size)
  have C1 := C1.below hbu7
  have C2 := C2.below hbu7
  have ge1 := ge1.below hbu7
  have gf1 := gf1.below hbu7
  have gr1 := gr1.below hbu7
  have ge2 := ge2.below hbu7
  have gf2 := gf2.below hbu7
  have gr2 := gr2.below hbu7
  have ge3 := ge3.below hbu7
  have gf3 := gf3.below hbu7
  have gr3 := gr3.below hbu7
  clear hbu7 hbw7 hbu5 hbu6
  refine (zzSame_any d1 n1 s1 p1 a1 qe1 qf1 qr1 xe1 xf1 xr1 d1 n1 s1 p1 a1 qe1 qf1 qr1 xe1 xf1 xr1 _ ge1 gf1 gr1 ge1 gf1 gr1).mono ?_
  rintro e w8 ⟨he, hb⟩
  have hw8 := hw7.trans (hb.mono hw7.size)
  have C1 := C1.below hb
  have C2 := C2.below hb
  have C3 := C3.below hb
  have ge1 := ge1.below hb
  have gf1 := gf1.below hb
  have gr1 := gr1.below hb
  have ge2 := ge2.below hb
  have gf2 := gf2.below hb
  have gr2 := gr2.below hb
  have ge3 := ge3.below hb
  have gf3 := gf3.below hb
  have gr3 := gr3.below hb
  clear hb hw7
  rw [setB_refl] at he
  subst he
  have D1 := C1
  obtain ⟨k0, k1, k2, k3, k4, k5, k6, k7⟩ := D1
  have D2 := C2
  obtain ⟨l0, l1, l2, l3, l4, l5, l6, l7⟩ := D2
  go_wp2_with fail
  clear k0 k1 k2 k3 k4 k5 k6 k7
  clear l0 l1 l2 l3 l4 l5 l6 l7
  refine (zzSame_any d1 n1 s1 p1 a1 qe1 qf1 qr1 xe1 xf1 xr1 d2 n2 s2 p2 a2 qe2 qf2 qr2 xe2 xf2 xr2 _ ge1 gf1 gr1 ge2 gf2 gr2).mono ?_
  rintro e w9 ⟨he, hb⟩
  have hw9 := hw8.trans (hb.mono hw8.size)
  have C1 := C1.below hb
  have C2 := C2.below hb
  have C3 := C3.below hb
  have ge1 := ge1.below hb
  have gf1 := gf1.below hb
  have gr1 := gr1.below hb
  have ge2 := ge2.below hb
  have gf2 := gf2.below hb
  have gr2 := gr2.below hb
  have ge3 := ge3.below hb
  have gf3 := gf3.below hb
  have gr3 := gr3.below hb
  clear hb hw8
  generalize hX : setB n1 s1 p1 a1 xe1 xf1 xr1 n2 s2 p2 a2 xe2 xf2 xr2 = buv at he
  have HX : Hid (setB n1 s1 p1 a1 xe1 xf1 xr1 n2 s2 p2 a2 xe2 xf2 xr2 = buv) := hX
  clear hX
  subst he
  have D1 := C2
  obtain ⟨k0, k1, k2, k3, k4, k5, k6, k7⟩ := D1
  have D2 := C1
  obtain ⟨l0, l1, l2, l3, l4, l5, l6, l7⟩ := D2
  go_wp2_with fail
  clear k0 k1 k2 k3 k4 k5 k6 k7
  clear l0 l1 l2 l3 l4 l5 l6 l7
  refine (zzSame_any d2 n2 s2 p2 a2 qe2 qf2 qr2 xe2 xf2 xr2 d1 n1 s1 p1 a1 qe1 qf1 qr1 xe1 xf1 xr1 _ ge2 gf2 gr2 ge1 gf1 gr1).mono ?_
  rintro e w10 ⟨he, hb⟩
  have hw10 := hw9.trans (hb.mono hw9.size)
  have C1 := C1.below hb
  have C2 := C2.below hb
  have C3 := C3.below hb
  have ge1 := ge1.below hb
  have gf1 := gf1.below hb
  have gr1 := gr1.below hb
  have ge2 := ge2.below hb
  have gf2 := gf2.below hb
  have gr2 := gr2.below hb
  have ge3 := ge3.below hb
  have gf3 := gf3.below hb
  have gr3 := gr3.below hb
  clear hb hw9
  rw [setB_symm, HX.out] at he
  subst he
  cases buv
  · have D1 := C2
    obtain ⟨k0, k1, k2, k3, k4, k5, k6, k7⟩ := D1
    have D2 := C3
    obtain ⟨l0, l1, l2, l3, l4, l5, l6, l7⟩ := D2
    go_wp2_with fail
    clear k0 k1 k2 k3 k4 k5 k6 k7
    clear l0 l1 l2 l3 l4 l5 l6 l7
    refine (zzSame_any d2 n2 s2 p2 a2 qe2 qf2 qr2 xe2 xf2 xr2 d3 n3 s3 p3 a3 qe3 qf3 qr3 xe3 xf3 xr3 _ ge2 gf2 gr2 ge3 gf3 gr3).mono ?_
    rintro e w11 ⟨he, hb⟩
    have hw11 := hw10.trans (hb.mono hw10.size)
    have C1 := C1.below hb
    have C2 := C2.below hb
    have C3 := C3.below hb
    have ge1 := ge1.below hb
    have gf1 := gf1.below hb
    have gr1 := gr1.below hb
    have ge2 := ge2.below hb
    have gf2 := gf2.below hb
    have gr2 := gr2.below hb
    have ge3 := ge3.below hb
    have gf3 := gf3.below hb
    have gr3 := gr3.below hb
    clear hb hw10
    generalize setB n2 s2 p2 a2 xe2 xf2 xr2 n3 s3 p3 a3 xe3 xf3 xr3 = bvw at he
    subst he
    go_wp2_with fail
    go_ret
    exact ⟨rfl, hw11⟩
  have D1 := C2
  obtain ⟨k0, k1, k2, k3, k4, k5, k6, k7⟩ := D1
  have D2 := C3
  obtain ⟨l0, l1, l2, l3, l4, l5, l6, l7⟩ := D2
  go_wp2_with fail
  clear k0 k1 k2 k3 k4 k5 k6 k7
  clear l0 l1 l2 l3 l4 l5 l6 l7
  refine (zzSame_any d2 n2 s2 p2 a2 qe2 qf2 qr2 xe2 xf2 xr2 d3 n3 s3 p3 a3 qe3 qf3 qr3 xe3 xf3 xr3 _ ge2 gf2 gr2 ge3 gf3 gr3).mono ?_
  rintro e w11 ⟨he, hb⟩
  have hw11 := hw10.trans (hb.mono hw10.size)
  have C1 := C1.below hb
  have C2 := C2.below hb
  have C3 := C3.below hb
  have ge1 := ge1.below hb
  have gf1 := gf1.below hb
  have gr1 := gr1.below hb
  have ge2 := ge2.below hb
  have gf2 := gf2.below hb
  have gr2 := gr2.below hb
  have ge3 := ge3.below hb
  have gf3 := gf3.below hb
  have gr3 := gr3.below hb
  clear hb hw10
  generalize hY : setB n2 s2 p2 a2 xe2 xf2 xr2 n3 s3 p3 a3 xe3 xf3 xr3 = bvw at he
  have HY : Hid (setB n2 s2 p2 a2 xe2 xf2 xr2 n3 s3 p3 a3 xe3 xf3 xr3 = bvw) := hY
  clear hY
  subst he
  cases bvw
  · go_wp2_with fail
    go_ret
    exact ⟨rfl, hw11⟩
  have D1 := C1
  obtain ⟨k0, k1, k2, k3, k4, k5, k6, k7⟩ := D1
  have D2 := C3
  obtain ⟨l0, l1, l2, l3, l4, l5, l6, l7⟩ := D2
  go_wp2_with fail
  clear k0 k1 k2 k3 k4 k5 k6 k7
  clear l0 l1 l2 l3 l4 l5 l6 l7
  refine (zzSame_any d1 n1 s1 p1 a1 qe1 qf1 qr1 xe1 xf1 xr1 d3 n3 s3 p3 a3 qe3 qf3 qr3 xe3 xf3 xr3 _ ge1 gf1 gr1 ge3 gf3 gr3).mono ?_
  rintro e w12 ⟨he, hb⟩
  have hw12 := hw11.trans (hb.mono hw11.size)
  have C1 := C1.below hb
  have C2 := C2.below hb
  have C3 := C3.below hb
  have ge1 := ge1.below hb
  have gf1 := gf1.below hb
  have gr1 := gr1.below hb
  have ge2 := ge2.below hb
  have gf2 := gf2.below hb
  have gr2 := gr2.below hb
  have ge3 := ge3.below hb
  have gf3 := gf3.below hb
  have gr3 := gr3.below hb
  clear hb hw11
  rw [setB_trans _ _ _ _ _ _ _ _ _ _ _ _ _ _ _ _ _ _ _ _ _ HX.out HY.out] at he
  subst he
  go_wp2_with fail
  go_ret
  exact ⟨rfl, hw12⟩
end Go.Proofs.Qxb6600292aMods
