import Derived.Test.Qxb6600292aModsWalkA
namespace Go.Proofs.Qxb6600292aMods
open Go.RowKit
set_option linter.unusedVariables false
set_option linter.unusedSimpArgs false

def LawT (W : World) (b : Nat) (d1 n1 s1 p1 a1 : ByteArray) (pe1 pf1 pr1 : Option Addr) (d2 n2 s2 p2 a2 : ByteArray) (pe2 pf2 pr2 : Option Addr) (w' : World) : Prop :=
  Below W.heap.size W w' ∧ w'.cell? ⟨b, 0, none⟩ = some (.string d1) ∧ w'.cell? ⟨b, 1, none⟩ = some (.string n1) ∧ w'.cell? ⟨b, 2, none⟩ = some (.string s1) ∧ w'.cell? ⟨b, 3, none⟩ = some (.string p1) ∧ w'.cell? ⟨b, 4, none⟩ = some (.string a1) ∧ w'.cell? ⟨b, 5, none⟩ = some (.pointer pe1) ∧ w'.cell? ⟨b, 6, none⟩ = some (.pointer pf1) ∧ w'.cell? ⟨b, 7, none⟩ = some (.pointer pr1) ∧ w'.cell? ⟨b + 1, 0, none⟩ = some (.string d2) ∧ w'.cell? ⟨b + 1, 1, none⟩ = some (.string n2) ∧ w'.cell? ⟨b + 1, 2, none⟩ = some (.string s2) ∧ w'.cell? ⟨b + 1, 3, none⟩ = some (.string p2) ∧ w'.cell? ⟨b + 1, 4, none⟩ = some (.string a2) ∧ w'.cell? ⟨b + 1, 5, none⟩ = some (.pointer pe2) ∧ w'.cell? ⟨b + 1, 6, none⟩ = some (.pointer pf2) ∧ w'.cell? ⟨b + 1, 7, none⟩ = some (.pointer pr2)
theorem LawT.step {W : World} {b : Nat} {d1 n1 s1 p1 a1 : ByteArray} {pe1 pf1 pr1 : Option Addr} {d2 n2 s2 p2 a2 : ByteArray} {pe2 pf2 pr2 : Option Addr} {w1 w2 : World} (h : LawT W b d1 n1 s1 p1 a1 pe1 pf1 pr1 d2 n2 s2 p2 a2 pe2 pf2 pr2 w1) (hb : Below w1.heap.size w1 w2) : LawT W b d1 n1 s1 p1 a1 pe1 pf1 pr1 d2 n2 s2 p2 a2 pe2 pf2 pr2 w2 := by
  obtain ⟨h0, c0, c1, c2, c3, c4, c5, c6, c7, k0, k1, k2, k3, k4, k5, k6, k7⟩ := h
  exact ⟨h0.trans (hb.mono h0.size), cell_below c0 hb, cell_below c1 hb, cell_below c2 hb, cell_below c3 hb, cell_below c4 hb, cell_below c5 hb, cell_below c6 hb, cell_below c7 hb, cell_below k0 hb, cell_below k1 hb, cell_below k2 hb, cell_below k3 hb, cell_below k4 hb, cell_below k5 hb, cell_below k6 hb, cell_below k7 hb⟩

theorem Box.below' {B : Nat} {w w' : World} {b : Nat} {v0 v1 v2 v3 v4 v5 v6 v7 : Value} (h : Box w b v0 v1 v2 v3 v4 v5 v6 v7) (hb : Below B w w') (hB : b < B) : Box w' b v0 v1 v2 v3 v4 v5 v6 v7 := by
  unfold Box at *
  have hc : ∀ o, w'.cell? ⟨b, o, none⟩ = w.cell? ⟨b, o, none⟩ := fun o => hb.cell (p := ⟨b, o, none⟩) hB
  simp only [hc]
  exact h

/-- A store into the sixth cell of a box. -/
theorem Box.set5 {w : World} {b : Nat} {v0 v1 v2 v3 v4 v5 v6 v7 : Value} (h : Box w b v0 v1 v2 v3 v4 v5 v6 v7) (u : Value) : Box (w.setCell ⟨b, 5, none⟩ u) b v0 v1 v2 v3 v4 u v6 v7 := by
  obtain ⟨c0, c1, c2, c3, c4, c5, c6, c7⟩ := h
  have o : ∀ k, k ≠ 5 → (w.setCell ⟨b, 5, none⟩ u).cell? ⟨b, k, none⟩ = w.cell? ⟨b, k, none⟩ := fun k hk =>
    World.cell?_setCell_other w ⟨b, 5, none⟩ ⟨b, k, none⟩ u (fun e => hk (by cases e; rfl))
  refine ⟨(o 0 (by decide)).trans c0, (o 1 (by decide)).trans c1, (o 2 (by decide)).trans c2, (o 3 (by decide)).trans c3, (o 4 (by decide)).trans c4, ?_, (o 6 (by decide)).trans c6, (o 7 (by decide)).trans c7⟩
  simp [go_sem, c5]

theorem PtrIs.setCell {w : World} {q : Option Addr} {x : Option Int} (h : PtrIs w q x) {p : Addr} (hne : ∀ a, q = some a → a.block ≠ p.block) (u : Value) : PtrIs (w.setCell p u) q x := by
  rcases h with h | ⟨b', o', n, rfl, hx, hc⟩
  · exact .inl h
  · refine .inr ⟨b', o', n, rfl, hx, ?_⟩
    rw [World.cell?_setCell_far w p ⟨b', o', none⟩ u (fun e => hne _ rfl e.symm)]
    exact hc

def LawR (W : World) (b c : Nat) (d1 n1 s1 p1 a1 : ByteArray) (pe1 pf1 pr1 : Option Addr) (d2 n2 s2 p2 a2 : ByteArray) (pe2 pf2 pr2 : Option Addr) (w' : World) : Prop :=
  Below W.heap.size W w' ∧ w'.cell? ⟨b, 0, none⟩ = some (.string d1) ∧ w'.cell? ⟨b, 1, none⟩ = some (.string n1) ∧ w'.cell? ⟨b, 2, none⟩ = some (.string s1) ∧ w'.cell? ⟨b, 3, none⟩ = some (.string p1) ∧ w'.cell? ⟨b, 4, none⟩ = some (.string a1) ∧ w'.cell? ⟨b, 5, none⟩ = some (.pointer pe1) ∧ w'.cell? ⟨b, 6, none⟩ = some (.pointer pf1) ∧ w'.cell? ⟨b, 7, none⟩ = some (.pointer pr1) ∧ w'.cell? ⟨c, 0, none⟩ = some (.string d2) ∧ w'.cell? ⟨c, 1, none⟩ = some (.string n2) ∧ w'.cell? ⟨c, 2, none⟩ = some (.string s2) ∧ w'.cell? ⟨c, 3, none⟩ = some (.string p2) ∧ w'.cell? ⟨c, 4, none⟩ = some (.string a2) ∧ w'.cell? ⟨c, 5, none⟩ = some (.pointer pe2) ∧ w'.cell? ⟨c, 6, none⟩ = some (.pointer pf2) ∧ w'.cell? ⟨c, 7, none⟩ = some (.pointer pr2)
theorem LawR.step {W : World} {b c : Nat} {d1 n1 s1 p1 a1 : ByteArray} {pe1 pf1 pr1 : Option Addr} {d2 n2 s2 p2 a2 : ByteArray} {pe2 pf2 pr2 : Option Addr} {w1 w2 : World} (h : LawR W b c d1 n1 s1 p1 a1 pe1 pf1 pr1 d2 n2 s2 p2 a2 pe2 pf2 pr2 w1) (hb : Below w1.heap.size w1 w2) : LawR W b c d1 n1 s1 p1 a1 pe1 pf1 pr1 d2 n2 s2 p2 a2 pe2 pf2 pr2 w2 := by
  obtain ⟨h0, c0, c1, c2, c3, c4, c5, c6, c7, k0, k1, k2, k3, k4, k5, k6, k7⟩ := h
  exact ⟨h0.trans (hb.mono h0.size), cell_below c0 hb, cell_below c1 hb, cell_below c2 hb, cell_below c3 hb, cell_below c4 hb, cell_below c5 hb, cell_below c6 hb, cell_below c7 hb, cell_below k0 hb, cell_below k1 hb, cell_below k2 hb, cell_below k3 hb, cell_below k4 hb, cell_below k5 hb, cell_below k6 hb, cell_below k7 hb⟩

set_option maxHeartbeats 1000000 in
theorem walk5 (d1 n1 s1 p1 a1 : ByteArray) (pe1 pf1 pr1 : Option Addr) (xe1 xf1 xr1 : Option Int) (d2 n2 s2 p2 a2 : ByteArray) (pe2 pf2 pr2 : Option Addr) (xe2 xf2 xr2 : Option Int) (dir : ByteArray) (w : World) (he1 : PtrIs w pe1 xe1) (hf1 : PtrIs w pf1 xf1) (hr1 : PtrIs w pr1 xr1) (he2 : PtrIs w pe2 xe2) (hf2 : PtrIs w pf2 xf2) (hr2 : PtrIs w pr2 xr2) :
    Calls Trym.prog 5 #[.agg #[.string d1, .string n1, .string s1, .string p1, .string a1, .pointer pe1, .pointer pf1, .pointer pr1], .agg #[.string d2, .string n2, .string s2, .string p2, .string a2, .pointer pe2, .pointer pf2, .pointer pr2], .string dir] w fun e w' => e = .returned (.bool true) ∧ Below w.heap.size w w' := by
  go_enter Trym.func5, Trym.ntmps5
  go_wp2_with fail
  generalize hW : ((w.alloc (Obj.cells #[Value.string d1, Value.string n1, Value.string s1, Value.string p1, Value.string a1, Value.pointer pe1, Value.pointer pf1, Value.pointer pr1] 24)).alloc (Obj.cells #[Value.string d2, Value.string n2, Value.string s2, Value.string p2, Value.string a2, Value.pointer pe2, Value.pointer pf2, Value.pointer pr2] 24)) = W
  have hbW : Below w.heap.size w W := by rw [← hW]; exact ((Below.refl _ _).alloc (Nat.le_refl _) _).alloc (by simp) _
  have x1 : W.cell? ⟨w.heap.size, 0, none⟩ = some (.string d1) ∧ W.cell? ⟨w.heap.size, 1, none⟩ = some (.string n1) ∧ W.cell? ⟨w.heap.size, 2, none⟩ = some (.string s1) ∧ W.cell? ⟨w.heap.size, 3, none⟩ = some (.string p1) ∧ W.cell? ⟨w.heap.size, 4, none⟩ = some (.string a1) ∧ W.cell? ⟨w.heap.size, 5, none⟩ = some (.pointer pe1) ∧ W.cell? ⟨w.heap.size, 6, none⟩ = some (.pointer pf1) ∧ W.cell? ⟨w.heap.size, 7, none⟩ = some (.pointer pr1) := by rw [← hW]; simp [go_sem]
  have x2 : W.cell? ⟨w.heap.size + 1, 0, none⟩ = some (.string d2) ∧ W.cell? ⟨w.heap.size + 1, 1, none⟩ = some (.string n2) ∧ W.cell? ⟨w.heap.size + 1, 2, none⟩ = some (.string s2) ∧ W.cell? ⟨w.heap.size + 1, 3, none⟩ = some (.string p2) ∧ W.cell? ⟨w.heap.size + 1, 4, none⟩ = some (.string a2) ∧ W.cell? ⟨w.heap.size + 1, 5, none⟩ = some (.pointer pe2) ∧ W.cell? ⟨w.heap.size + 1, 6, none⟩ = some (.pointer pf2) ∧ W.cell? ⟨w.heap.size + 1, 7, none⟩ = some (.pointer pr2) := by rw [← hW]; simp [go_sem]
  clear hW
  refine (bytes13_any d1 n1 s1 p1 a1 pe1 pf1 pr1 d2 n2 s2 p2 a2 pe2 pf2 pr2 dir _).mono ?_
  rintro e w1 ⟨⟨b, rfl⟩, hb1⟩
  cases b
  · go_wp2_with fail
    go_ret
    exact ⟨rfl, hbW.trans (hb1.mono hbW.size)⟩
  go_wp2_with fail
  have y1 := Box.below (b := w.heap.size) x1 hb1
  have y2 := Box.below (b := w.heap.size + 1) x2 hb1
  clear x1 x2
  go_region_held3 (fun w' => Below W.heap.size W w' ∧ w'.cell? ⟨w.heap.size, 0, none⟩ = some (.string d1) ∧ w'.cell? ⟨w.heap.size, 1, none⟩ = some (.string n1) ∧ w'.cell? ⟨w.heap.size, 2, none⟩ = some (.string s1) ∧ w'.cell? ⟨w.heap.size, 3, none⟩ = some (.string p1) ∧ w'.cell? ⟨w.heap.size, 4, none⟩ = some (.string a1) ∧ w'.cell? ⟨w.heap.size, 5, none⟩ = some (.pointer pe1) ∧ w'.cell? ⟨w.heap.size, 6, none⟩ = some (.pointer pf1) ∧ w'.cell? ⟨w.heap.size, 7, none⟩ = some (.pointer pr1) ∧ w'.cell? ⟨w.heap.size + 1, 0, none⟩ = some (.string d2) ∧ w'.cell? ⟨w.heap.size + 1, 1, none⟩ = some (.string n2) ∧ w'.cell? ⟨w.heap.size + 1, 2, none⟩ = some (.string s2) ∧ w'.cell? ⟨w.heap.size + 1, 3, none⟩ = some (.string p2) ∧ w'.cell? ⟨w.heap.size + 1, 4, none⟩ = some (.string a2) ∧ w'.cell? ⟨w.heap.size + 1, 5, none⟩ = some (.pointer pe2) ∧ w'.cell? ⟨w.heap.size + 1, 6, none⟩ = some (.pointer pf2) ∧ w'.cell? ⟨w.heap.size + 1, 7, none⟩ = some (.pointer pr2))
    (first
      | exact ⟨hb1.drew, y1.1, y1.2.1, y1.2.2.1, y1.2.2.2.1, y1.2.2.2.2.1, y1.2.2.2.2.2.1, y1.2.2.2.2.2.2.1, y1.2.2.2.2.2.2.2, y2.1, y2.2.1, y2.2.2.1, y2.2.2.2.1, y2.2.2.2.2.1, y2.2.2.2.2.2.1, y2.2.2.2.2.2.2.1, y2.2.2.2.2.2.2.2⟩
      | exact LawT.step (b := w.heap.size) ‹Below W.heap.size W _ ∧ _› hb4
      | exact LawT.step (b := w.heap.size) ‹Below W.heap.size W _ ∧ _› hb3
      | exact LawT.step (b := w.heap.size) ‹Below W.heap.size W _ ∧ _› hb2)
    (first
      | (go_at_call_of 7 (Value.string d1); refine (volLen_any _ d1 n1 s1 p1 a1 pe1 pf1 pr1 _).mono ?_; rintro e w2 ⟨⟨m1, rfl⟩, hb2⟩)
      | (go_at_call_of 7 (Value.string d2); refine (volLen_any _ d2 n2 s2 p2 a2 pe2 pf2 pr2 _).mono ?_; rintro e w3 ⟨⟨m2, rfl⟩, hb3⟩)
      | (go_at_call 14; refine (addLen_any _ _ _).mono ?_; rintro e w4 ⟨⟨m3, rfl⟩, hw4⟩; have hb4 : Below w3.heap.size w3 w4 := hw4 ▸ Below.refl _ _; clear hw4))
  have hL : LawT W w.heap.size d1 n1 s1 p1 a1 pe1 pf1 pr1 d2 n2 s2 p2 a2 pe2 pf2 pr2 w4 := ‹Below W.heap.size W _ ∧ _›
  clear hb1 hb2 hb3 hb4 y1 y2
  by_cases hm : 1048576 < m3
  · go_wp2_with fail
    go_ret
    exact ⟨rfl, hbW.trans (hL.1.mono hbW.size)⟩
  have hbw := hbW.trans (hL.1.mono hbW.size)
  clear hbW
  obtain ⟨-, c0, c1, c2, c3, c4, c5, c6, c7, k0, k1, k2, k3, k4, k5, k6, k7⟩ := hL
  have B1 : Box w4 (w.heap.size) (.string d1) (.string n1) (.string s1) (.string p1) (.string a1) (.pointer pe1) (.pointer pf1) (.pointer pr1) := ⟨c0, c1, c2, c3, c4, c5, c6, c7⟩
  have B2 : Box w4 (w.heap.size + 1) (.string d2) (.string n2) (.string s2) (.string p2) (.string a2) (.pointer pe2) (.pointer pf2) (.pointer pr2) := ⟨k0, k1, k2, k3, k4, k5, k6, k7⟩
  clear k0 k1 k2 k3 k4 k5 k6 k7
  go_wp2_with fail
  clear c0 c1 c2 c3 c4 c5 c6 c7
  refine (toVolume_any d1 n1 s1 p1 a1 pe1 pf1 pr1 xe1 xf1 xr1 _ (he1.below hbw) (hf1.below hbw) (hr1.below hbw)).mono ?_
  rintro e w5 ⟨⟨qe1, qf1, qr1, rfl, ge1, gf1, gr1⟩, hb5⟩
  have hbw5 := hbw.trans (hb5.mono hbw.size)
  have B1 := B1.below hb5
  have B2 := B2.below hb5
  clear hbw hb5
  have z5 := B2.lt
  have D := B2
  obtain ⟨k0, k1, k2, k3, k4, k5, k6, k7⟩ := D
  go_wp2_with fail
  clear k0 k1 k2 k3 k4 k5 k6 k7 z5
  generalize hU : w5.alloc (Obj.cells #[Value.string d1, Value.string n1, Value.string s1, Value.string p1, Value.string a1, Value.pointer qe1, Value.pointer qf1, Value.pointer qr1] 28) = u5
  obtain ⟨hbu5, C1⟩ := boxed hU
  clear hU
  have hw5 := hbw5.trans (hbu5.mono hbw5.size)
  have B1 := B1.below hbu5
  have ge1 := ge1.below hbu5
  have gf1 := gf1.below hbu5
  have gr1 := gr1.below hbu5
  clear hbu5 hbw5 B2
  refine (toVolume_any d2 n2 s2 p2 a2 pe2 pf2 pr2 xe2 xf2 xr2 _ (he2.below hw5) (hf2.below hw5) (hr2.below hw5)).mono ?_
  rintro e w6 ⟨⟨qe2, qf2, qr2, rfl, ge2, gf2, gr2⟩, hb6⟩
  have hbw6 := hw5.trans (hb6.mono hw5.size)
  have B1 := B1.below hb6
  have C1 := C1.below hb6
  have ge1 := ge1.below hb6
  have gf1 := gf1.below hb6
  have gr1 := gr1.below hb6
  clear hw5 hb6
  have z6 := B1.lt
  obtain ⟨k0, k1, k2, k3, k4, k5, k6, k7⟩ := B1
  go_wp2_with fail
  clear k0 k1 k2 k3 k4 k5 k6 k7 z6
  generalize hU : w6.alloc (Obj.cells #[Value.string d2, Value.string n2, Value.string s2, Value.string p2, Value.string a2, Value.pointer qe2, Value.pointer qf2, Value.pointer qr2] 28) = u6
  obtain ⟨hbu6, C2⟩ := boxed hU
  clear hU
  have hw6 := hbw6.trans (hbu6.mono hbw6.size)
  have C1 := C1.below hbu6
  have ge1 := ge1.below hbu6
  have gf1 := gf1.below hbu6
  have gr1 := gr1.below hbu6
  have ge2 := ge2.below hbu6
  have gf2 := gf2.below hbu6
  have gr2 := gr2.below hbu6
  clear hbu6 hbw6
  refine (toVolume_any d1 n1 s1 p1 a1 pe1 pf1 pr1 xe1 xf1 xr1 _ (he1.below hw6) (hf1.below hw6) (hr1.below hw6)).mono ?_
  rintro e w7 ⟨⟨qe3, qf3, qr3, rfl, ge3, gf3, gr3⟩, hb7⟩
  have hbw7 := hw6.trans (hb7.mono hw6.size)
  have C1 := C1.below hb7
  have C2 := C2.below hb7
  have ge1 := ge1.below hb7
  have gf1 := gf1.below hb7
  have gr1 := gr1.below hb7
  have ge2 := ge2.below hb7
  have gf2 := gf2.below hb7
  have gr2 := gr2.below hb7
  clear hw6 hb7
  have z2 := C2.lt
  have D := C2
  obtain ⟨k0, k1, k2, k3, k4, k5, k6, k7⟩ := D
  go_wp2_with fail
  clear k0 k1 k2 k3 k4 k5 k6 k7 z2
  generalize hU : w7.alloc (Obj.cells #[Value.string dir, Value.string n1, Value.string s1, Value.string p1, Value.string a1, Value.pointer qe3, Value.pointer qf3, Value.pointer qr3] 28) = u7
  have hfz : u7.frozen? ⟨w7.heap.size, 5, none⟩ = false := by rw [← hU]; simp [go_sem]
  obtain ⟨hbu7, C3⟩ := boxed hU
  clear hU
  have z3 := C3.lt
  refine (cloneID_any qe2 xe2 _ (ge2.below hbu7)).mono ?_
  rintro e w8 ⟨⟨q, rfl, hq, gq⟩, hb8⟩
  have hfz8 : w8.frozen? ⟨w7.heap.size, 5, none⟩ = false := by rw [hb8.frozen (p := ⟨w7.heap.size, 5, none⟩) z3]; exact hfz
  clear hfz
  have C3 := C3.below hb8
  have D := C3
  obtain ⟨k0, k1, k2, k3, k4, k5, k6, k7⟩ := D
  go_wp2_with fail
  clear k0 k1 k2 k3 k4 k5 k6 k7 hfz8
  generalize hV : w8.setCell ⟨w7.heap.size, 5, none⟩ (Value.pointer q) = u8
  have hb78 : Below w7.heap.size w7 u8 := by rw [← hV]; exact (hbu7.trans (hb8.mono (Nat.le_of_lt z3))).setCell (p := ⟨w7.heap.size, 5, none⟩) (Nat.le_refl _) _
  have C3 : Box u8 w7.heap.size (.string dir) (.string n1) (.string s1) (.string p1) (.string a1) (.pointer q) (.pointer qf3) (.pointer qr3) := by rw [← hV]; exact C3.set5 _
  have hq : PtrIs u8 q xe2 := by rw [← hV]; exact hq.setCell (p := ⟨w7.heap.size, 5, none⟩) (fun x hx => by have := gq x hx; show x.block ≠ w7.heap.size; omega) _
  clear hV
  have hw8 := hbw7.trans (hb78.mono hbw7.size)
  have C1 := C1.below hb78
  have C2 := C2.below hb78
  have ge1 := ge1.below hb78
  have gf1 := gf1.below hb78
  have gr1 := gr1.below hb78
  have ge2 := ge2.below hb78
  have gf2 := gf2.below hb78
  have gr2 := gr2.below hb78
  have ge3 := ge3.below hb78
  have gf3 := gf3.below hb78
  have gr3 := gr3.below hb78
  clear hb78 hbw7 hb8 hbu7 z3 gq
  have D1 := C1
  have D2 := C2
  go_region_held3 (fun w' => Below u8.heap.size u8 w' ∧ w'.cell? ⟨w5.heap.size, 0, none⟩ = some (.string d1) ∧ w'.cell? ⟨w5.heap.size, 1, none⟩ = some (.string n1) ∧ w'.cell? ⟨w5.heap.size, 2, none⟩ = some (.string s1) ∧ w'.cell? ⟨w5.heap.size, 3, none⟩ = some (.string p1) ∧ w'.cell? ⟨w5.heap.size, 4, none⟩ = some (.string a1) ∧ w'.cell? ⟨w5.heap.size, 5, none⟩ = some (.pointer qe1) ∧ w'.cell? ⟨w5.heap.size, 6, none⟩ = some (.pointer qf1) ∧ w'.cell? ⟨w5.heap.size, 7, none⟩ = some (.pointer qr1) ∧ w'.cell? ⟨w6.heap.size, 0, none⟩ = some (.string d2) ∧ w'.cell? ⟨w6.heap.size, 1, none⟩ = some (.string n2) ∧ w'.cell? ⟨w6.heap.size, 2, none⟩ = some (.string s2) ∧ w'.cell? ⟨w6.heap.size, 3, none⟩ = some (.string p2) ∧ w'.cell? ⟨w6.heap.size, 4, none⟩ = some (.string a2) ∧ w'.cell? ⟨w6.heap.size, 5, none⟩ = some (.pointer qe2) ∧ w'.cell? ⟨w6.heap.size, 6, none⟩ = some (.pointer qf2) ∧ w'.cell? ⟨w6.heap.size, 7, none⟩ = some (.pointer qr2))
    (first
      | exact ⟨(Below.refl _ _).drew, D1.1, D1.2.1, D1.2.2.1, D1.2.2.2.1, D1.2.2.2.2.1, D1.2.2.2.2.2.1, D1.2.2.2.2.2.2.1, D1.2.2.2.2.2.2.2, D2.1, D2.2.1, D2.2.2.1, D2.2.2.2.1, D2.2.2.2.2.1, D2.2.2.2.2.2.1, D2.2.2.2.2.2.2.1, D2.2.2.2.2.2.2.2⟩
      | exact LawR.step (b := w5.heap.size) (c := w6.heap.size) ‹Below u8.heap.size u8 _ ∧ _› hb10
      | exact LawR.step (b := w5.heap.size) (c := w6.heap.size) ‹Below u8.heap.size u8 _ ∧ _› hb9)
    (first
      | (go_at_call_of 16 (Value.string d1); refine (zzLifetime_any d1 n1 s1 p1 a1 qe1 qf1 qr1 xe1 _ (ge1.below (And.left ‹Below u8.heap.size u8 _ ∧ _›))).mono ?_; rintro e w9 ⟨rfl, hb9⟩)
      | (go_at_call_of 16 (Value.string d2); refine (zzLifetime_any d2 n2 s2 p2 a2 qe2 qf2 qr2 xe2 _ (ge2.below (And.left ‹Below u8.heap.size u8 _ ∧ _›))).mono ?_; rintro e w10 ⟨rfl, hb10⟩))
  have hb := And.left ‹Below u8.heap.size u8 w10 ∧ _›
  have hw10 := hw8.trans (hb.mono hw8.size)
  have C1 := C1.below hb
  have C3 := C3.below hb
  have ge1 := ge1.below hb
  have gf1 := gf1.below hb
  have gr1 := gr1.below hb
  have hq := hq.below hb
  have gf3 := gf3.below hb
  have gr3 := gr3.below hb
  clear hb hb9 hb10 D1 D2 hw8
  have H1 : Hid (setB n1 s1 p1 a1 xe1 xf1 xr1 n1 s1 p1 a1 xe2 xf1 xr1 = (xe1.getD 3600 == xe2.getD 3600)) := setB_life n1 s1 p1 a1 xe1 xf1 xr1 xe2
  have H2 : Hid (setB n1 s1 p1 a1 xe2 xf1 xr1 n1 s1 p1 a1 xe1 xf1 xr1 = (xe1.getD 3600 == xe2.getD 3600)) := setB_life' n1 s1 p1 a1 xe1 xf1 xr1 xe2
  generalize (xe1.getD 3600 == xe2.getD 3600) = sl at *
  have D1 := C1
  obtain ⟨k0, k1, k2, k3, k4, k5, k6, k7⟩ := D1
  have D2 := C3
  obtain ⟨l0, l1, l2, l3, l4, l5, l6, l7⟩ := D2
  go_wp2_with fail
  clear k0 k1 k2 k3 k4 k5 k6 k7 l0 l1 l2 l3 l4 l5 l6 l7
  refine (zzSame_any d1 n1 s1 p1 a1 qe1 qf1 qr1 xe1 xf1 xr1 dir n1 s1 p1 a1 q qf3 qr3 xe2 xf1 xr1 _ ge1 gf1 gr1 hq gf3 gr3).mono ?_
  rintro e w11 ⟨he, hb⟩
  rw [H1.out] at he
  subst he
  have hw11 := hw10.trans (hb.mono hw10.size)
  have C1 := C1.below hb
  have C3 := C3.below hb
  have ge1 := ge1.below hb
  have gf1 := gf1.below hb
  have gr1 := gr1.below hb
  have hq := hq.below hb
  have gf3 := gf3.below hb
  have gr3 := gr3.below hb
  clear hb hw10
  have D1 := C1
  obtain ⟨k0, k1, k2, k3, k4, k5, k6, k7⟩ := D1
  have D2 := C3
  obtain ⟨l0, l1, l2, l3, l4, l5, l6, l7⟩ := D2
  go_wp2_with fail
  clear k0 k1 k2 k3 k4 k5 k6 k7 l0 l1 l2 l3 l4 l5 l6 l7
  refine (zzSame_any dir n1 s1 p1 a1 q qf3 qr3 xe2 xf1 xr1 d1 n1 s1 p1 a1 qe1 qf1 qr1 xe1 xf1 xr1 _ hq gf3 gr3 ge1 gf1 gr1).mono ?_
  rintro e w12 ⟨he, hb⟩
  rw [H2.out] at he
  subst he
  have hw12 := hw11.trans (hb.mono hw11.size)
  go_wp2_with fail
  go_ret
  exact ⟨by simp, hw12⟩
end Go.Proofs.Qxb6600292aMods
