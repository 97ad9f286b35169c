import Derived.Test.Qxb6600292aModsLeaf
import Derived.Deep.RegionHeld3
namespace Go.Proofs.Qxb6600292aMods
open Go.RowKit
set_option linter.unusedVariables false
set_option linter.unusedSimpArgs false

/-- What comes back from toVolumeB1. -/
def RetVol (d n s p a : ByteArray) (xe xf xr : Option Int) (e : Ending) (w : World) : Prop :=
  ∃ qe qf qr, e = .returned (.agg #[.string d, .string n, .string s, .string p, .string a, .pointer qe, .pointer qf, .pointer qr]) ∧ PtrIs w qe xe ∧ PtrIs w qf xf ∧ PtrIs w qr xr

theorem bcell {W w1 : World} (hb : Below W.heap.size W w1) : (∀ b o, b < W.heap.size → w1.cell? ⟨b, o, none⟩ = W.cell? ⟨b, o, none⟩) ∧ (∀ b o, b < W.heap.size → w1.frozen? ⟨b, o, none⟩ = W.frozen? ⟨b, o, none⟩) :=
  ⟨fun b o h => hb.cell (p := ⟨b, o, none⟩) h, fun b o h => hb.frozen (p := ⟨b, o, none⟩) h⟩

theorem below_setCells {B b : Nat} {a : World} (hb : B ≤ b) : ∀ (vs : List Value) (o : Nat) (w : World), Below B a w → Below B a (w.setCells b o vs)
  | [], _, _, h => h
  | v :: r, o, w, h => by
    rw [World.setCells]
    exact below_setCells hb r (o + 1) _ (h.setCell (p := ⟨b, o, none⟩) hb v)

theorem there_below {w w' : World} {b o n : Nat} (h : w.there b o n) (hb : Below w.heap.size w w') : w'.there b o n := fun j hj => by
  obtain ⟨h1, h2⟩ := h j hj
  obtain ⟨u, hu⟩ := Option.isSome_iff_exists.1 h1
  have hl := World.block_lt_of_cell? w _ hu
  obtain ⟨hc, hf⟩ := bcell hb
  rw [hc b _ hl, hf b _ hl]
  exact ⟨h1, h2⟩

theorem cell_below {w w' : World} {x : Addr} {v : Value} (h : w.cell? x = some v) (hb : Below w.heap.size w w') : w'.cell? x = some v := by
  rw [hb.cell (World.block_lt_of_cell? w _ h)]; exact h

/-- A pointer into blocks that are not 'b': a store into b leaves what it reads. -/
theorem PtrIs.setCells {w : World} {q : Option Addr} {x : Option Int} (h : PtrIs w q x) {b : Nat} (hne : ∀ a, q = some a → a.block ≠ b) (o : Nat) (vs : List Value) : PtrIs (w.setCells b o vs) q x := by
  rcases h with h | ⟨b', o', n, rfl, hx, hc⟩
  · exact .inl h
  · refine .inr ⟨b', o', n, rfl, hx, ?_⟩
    rw [World.cell?_setCells_out b vs o w ⟨b', o', none⟩ (fun hb _ => absurd hb (hne _ rfl))]
    exact hc

/-- What stands while toVolumeB1's one statement is carried out. -/
def VolS (w : World) (d n s p a : ByteArray) (pe pf pr : Option Addr) (w' : World) : Prop :=
  Below w.heap.size w w' ∧ w'.there (w.heap.size + 1) 0 8 ∧ w'.cell? ⟨w.heap.size, 0, none⟩ = some (.string d) ∧ w'.cell? ⟨w.heap.size, 1, none⟩ = some (.string n) ∧ w'.cell? ⟨w.heap.size, 2, none⟩ = some (.string s) ∧ w'.cell? ⟨w.heap.size, 3, none⟩ = some (.string p) ∧ w'.cell? ⟨w.heap.size, 4, none⟩ = some (.string a) ∧ w'.cell? ⟨w.heap.size, 5, none⟩ = some (.pointer pe) ∧ w'.cell? ⟨w.heap.size, 6, none⟩ = some (.pointer pf) ∧ w'.cell? ⟨w.heap.size, 7, none⟩ = some (.pointer pr)

theorem VolS.step {w : World} {d n s p a : ByteArray} {pe pf pr : Option Addr} {w1 w2 : World} (h : VolS w d n s p a pe pf pr w1) (hb : Below w1.heap.size w1 w2) : VolS w d n s p a pe pf pr w2 := by
  obtain ⟨h0, ht, c0, c1, c2, c3, c4, c5, c6, c7⟩ := h
  exact ⟨h0.trans (hb.mono h0.size), there_below ht hb, cell_below c0 hb, cell_below c1 hb, cell_below c2 hb, cell_below c3 hb, cell_below c4 hb, cell_below c5 hb, cell_below c6 hb, cell_below c7 hb⟩

theorem VolS.lt {w : World} {d n s p a : ByteArray} {pe pf pr : Option Addr} {w1 : World} (h : VolS w d n s p a pe pf pr w1) : w.heap.size + 1 < w1.heap.size := by
  obtain ⟨u, hu⟩ := Option.isSome_iff_exists.1 (h.2.1 0 (by omega)).1
  exact World.block_lt_of_cell? w1 _ hu

theorem VolS.store {w : World} {d n s p a : ByteArray} {pe pf pr : Option Addr} {w1 : World} (h : VolS w d n s p a pe pf pr w1) (vs : List Value) : VolS w d n s p a pe pf pr (w1.setCells (w.heap.size + 1) 0 vs) := by
  obtain ⟨h0, ht, c0, c1, c2, c3, c4, c5, c6, c7⟩ := h
  have hout : ∀ o, (w1.setCells (w.heap.size + 1) 0 vs).cell? ⟨w.heap.size, o, none⟩ = w1.cell? ⟨w.heap.size, o, none⟩ := fun o =>
    World.cell?_setCells_out _ vs 0 w1 ⟨w.heap.size, o, none⟩ (fun hb _ => by have h' : w.heap.size = w.heap.size + 1 := hb; omega)
  refine ⟨below_setCells (by omega) _ _ _ h0, World.there_setCells ht _ _ _, ?_⟩
  simp only [hout]
  exact ⟨c0, c1, c2, c3, c4, c5, c6, c7⟩

theorem toVolume_any (d n s p a : ByteArray) (pe pf pr : Option Addr) (xe xf xr : Option Int) (w : World) (he : PtrIs w pe xe) (hf : PtrIs w pf xf) (hr : PtrIs w pr xr) :
    Calls Trym.prog 8 #[.agg #[.string d, .string n, .string s, .string p, .string a, .pointer pe, .pointer pf, .pointer pr]] w fun e w' => RetVol d n s p a xe xf xr e w' ∧ Below w.heap.size w w' := by
  go_enter Trym.func8, Trym.ntmps8
  go_wp2
  generalize hW : ((w.alloc (Obj.cells #[Value.string d, Value.string n, Value.string s, Value.string p, Value.string a, Value.pointer pe, Value.pointer pf, Value.pointer pr] 24)).alloc (Obj.cells #[Value.string { data := #[] }, Value.string { data := #[] }, Value.string { data := #[] }, Value.string { data := #[] }, Value.string { data := #[] }, Value.pointer none, Value.pointer none, Value.pointer none] 28)) = W
  have hS : VolS w d n s p a pe pf pr W.drew := by
    rw [← hW]
    refine ⟨(((Below.refl _ _).alloc (Nat.le_refl _) _).alloc (by simp) _).drew, ?_, ?_⟩
    · intro j hj
      have : j = 0 ∨ j = 1 ∨ j = 2 ∨ j = 3 ∨ j = 4 ∨ j = 5 ∨ j = 6 ∨ j = 7 := by omega
      rcases this with rfl | rfl | rfl | rfl | rfl | rfl | rfl | rfl <;> simp [go_sem]
    · simp [go_sem]
  clear hW
  refine wp_region_held_drew (S := VolS w d n s p a pe pf pr) (by kernel_rfl) hS (fun hHeld => ?_)
  refine wpAnyH_take (i := 0) (v := ?_) rfl (by kernel_rfl) (by kernel_rfl) (by kernel_rfl) (fun _ _ _ h => h) (Or.inl ⟨by rfl, ?_⟩) (by assumption) ?_
  rotate_left 1
  · intro w hSw; unfold VolS at hSw; go_simp; try (with_reducible rfl)
  (try simp only [Act.put, List.setIfInBounds_toArray, List.set_cons_zero, List.set_cons_succ])
  refine wpAnyH_take (i := 1) (v := ?_) rfl (by kernel_rfl) (by kernel_rfl) (by kernel_rfl) (fun _ _ _ h => h) (Or.inl ⟨by rfl, ?_⟩) (by assumption) ?_
  rotate_left 1
  · intro w hSw; unfold VolS at hSw; go_simp; try (with_reducible rfl)
  (try simp only [Act.put, List.setIfInBounds_toArray, List.set_cons_zero, List.set_cons_succ])
  refine wpAnyH_take (i := 2) (v := ?_) rfl (by kernel_rfl) (by kernel_rfl) (by kernel_rfl) (fun _ _ _ h => h) (Or.inl ⟨by rfl, ?_⟩) (by assumption) ?_
  rotate_left 1
  · intro w hSw; unfold VolS at hSw; go_simp; try (with_reducible rfl)
  (try simp only [Act.put, List.setIfInBounds_toArray, List.set_cons_zero, List.set_cons_succ])
  refine wpAnyH_take (i := 3) (v := ?_) rfl (by kernel_rfl) (by kernel_rfl) (by kernel_rfl) (fun _ _ _ h => h) (Or.inl ⟨by rfl, ?_⟩) (by assumption) ?_
  rotate_left 1
  · intro w hSw; unfold VolS at hSw; go_simp; try (with_reducible rfl)
  (try simp only [Act.put, List.setIfInBounds_toArray, List.set_cons_zero, List.set_cons_succ])
  refine wpAnyH_take (i := 4) (v := ?_) rfl (by kernel_rfl) (by kernel_rfl) (by kernel_rfl) (fun _ _ _ h => h) (Or.inl ⟨by rfl, ?_⟩) (by assumption) ?_
  rotate_left 1
  · intro w hSw; unfold VolS at hSw; go_simp; try (with_reducible rfl)
  (try simp only [Act.put, List.setIfInBounds_toArray, List.set_cons_zero, List.set_cons_succ])
  refine wpAnyH_take (i := 5) (v := ?_) rfl (by kernel_rfl) (by kernel_rfl) (by kernel_rfl) (fun _ _ _ h => h) (Or.inl ⟨by rfl, ?_⟩) (by assumption) ?_
  rotate_left 1
  · intro w hSw; unfold VolS at hSw; go_simp; try (with_reducible rfl)
  (try simp only [Act.put, List.setIfInBounds_toArray, List.set_cons_zero, List.set_cons_succ])
  refine wpAnyH_take (i := 6) (v := ?_) rfl (by kernel_rfl) (by kernel_rfl) (by kernel_rfl) (fun _ _ _ h => h) (Or.inl ⟨by rfl, ?_⟩) (by assumption) ?_
  rotate_left 1
  · intro w hSw; unfold VolS at hSw; go_simp; try (with_reducible rfl)
  (try simp only [Act.put, List.setIfInBounds_toArray, List.set_cons_zero, List.set_cons_succ])
  refine wpAnyH_take (i := 7) (v := ?_) rfl (by kernel_rfl) (by kernel_rfl) (by kernel_rfl) (fun _ _ _ h => h) (Or.inl ⟨by rfl, ?_⟩) (by assumption) ?_
  rotate_left 1
  · intro w hSw; unfold VolS at hSw; go_simp; try (with_reducible rfl)
  (try simp only [Act.put, List.setIfInBounds_toArray, List.set_cons_zero, List.set_cons_succ])
  refine wpAnyH_take (i := 8) (v := ?_) rfl (by kernel_rfl) (by kernel_rfl) (by kernel_rfl) (fun _ _ _ h => h) (Or.inl ⟨by rfl, ?_⟩) (by assumption) ?_
  rotate_left 1
  · intro w hSw; unfold VolS at hSw; go_simp; try (with_reducible rfl)
  (try simp only [Act.put, List.setIfInBounds_toArray, List.set_cons_zero, List.set_cons_succ])
  refine wpAnyH_take (i := 9) (v := ?_) rfl (by kernel_rfl) (by kernel_rfl) (by kernel_rfl) (fun _ _ _ h => h) (Or.inl ⟨by rfl, ?_⟩) (by assumption) ?_
  rotate_left 1
  · intro w hSw; unfold VolS at hSw; go_simp; try (with_reducible rfl)
  (try simp only [Act.put, List.setIfInBounds_toArray, List.set_cons_zero, List.set_cons_succ])
  refine wpAnyH_take (i := 10) (v := ?_) rfl (by kernel_rfl) (by kernel_rfl) (by kernel_rfl) (fun _ _ _ h => h) (Or.inl ⟨by rfl, ?_⟩) (by assumption) ?_
  rotate_left 1
  · intro w hSw; unfold VolS at hSw; go_simp; try (with_reducible rfl)
  (try simp only [Act.put, List.setIfInBounds_toArray, List.set_cons_zero, List.set_cons_succ])
  refine wpAnyH_take (i := 11) (v := ?_) rfl (by kernel_rfl) (by kernel_rfl) (by kernel_rfl) (fun _ _ _ h => h) (Or.inl ⟨by rfl, ?_⟩) (by assumption) ?_
  rotate_left 1
  · intro w hSw; unfold VolS at hSw; go_simp; try (with_reducible rfl)
  (try simp only [Act.put, List.setIfInBounds_toArray, List.set_cons_zero, List.set_cons_succ])
  refine wpAnyH_take (i := 13) (v := ?_) rfl (by kernel_rfl) (by kernel_rfl) (by kernel_rfl) (fun _ _ _ h => h) (Or.inl ⟨by rfl, ?_⟩) (by assumption) ?_
  rotate_left 1
  · intro w hSw; unfold VolS at hSw; go_simp; try (with_reducible rfl)
  (try simp only [Act.put, List.setIfInBounds_toArray, List.set_cons_zero, List.set_cons_succ])
  refine wpAnyH_take (i := 14) (v := ?_) rfl (by kernel_rfl) (by kernel_rfl) (by kernel_rfl) (fun _ _ _ h => h) (Or.inl ⟨by rfl, ?_⟩) (by assumption) ?_
  rotate_left 1
  · intro w hSw; unfold VolS at hSw; go_simp; try (with_reducible rfl)
  (try simp only [Act.put, List.setIfInBounds_toArray, List.set_cons_zero, List.set_cons_succ])
  refine wpAnyH_take (i := 16) (v := ?_) rfl (by kernel_rfl) (by kernel_rfl) (by kernel_rfl) (fun _ _ _ h => h) (Or.inl ⟨by rfl, ?_⟩) (by assumption) ?_
  rotate_left 1
  · intro w hSw; unfold VolS at hSw; go_simp; try (with_reducible rfl)
  (try simp only [Act.put, List.setIfInBounds_toArray, List.set_cons_zero, List.set_cons_succ])
  refine wpAnyH_take (i := 17) (v := ?_) rfl (by kernel_rfl) (by kernel_rfl) (by kernel_rfl) (fun _ _ _ h => h) (Or.inl ⟨by rfl, ?_⟩) (by assumption) ?_
  rotate_left 1
  · intro w hSw; unfold VolS at hSw; go_simp; try (with_reducible rfl)
  (try simp only [Act.put, List.setIfInBounds_toArray, List.set_cons_zero, List.set_cons_succ])
  refine wpAnyH_ready (rs := [12]) (by kernel_rfl) (by simp) ?_
  refine AllReadyH.cons rfl (fun K hK => ?_) AllReadyH.nil
  go_simp; refine (cloneID_any pe xe _ (he.below hHeld.1)).mono ?_; rintro e w1 ⟨⟨qe, rfl, hqe, ge⟩, hb1⟩; go_simp
  refine hK.out _ _ ?_ (fun hHeld => ?_)
  · exact hHeld.step hb1
  clear hK K
  (try simp only [Act.put, List.setIfInBounds_toArray, List.set_cons_zero, List.set_cons_succ])
  refine wpAnyH_ready (rs := [15]) (by kernel_rfl) (by simp) ?_
  refine AllReadyH.cons rfl (fun K hK => ?_) AllReadyH.nil
  go_simp; refine (cloneID_any pf xf _ (hf.below hHeld.1)).mono ?_; rintro e w2 ⟨⟨qf, rfl, hqf, gf⟩, hb2⟩; go_simp
  refine hK.out _ _ ?_ (fun hHeld => ?_)
  · exact hHeld.step hb2
  clear hK K
  (try simp only [Act.put, List.setIfInBounds_toArray, List.set_cons_zero, List.set_cons_succ])
  refine wpAnyH_ready (rs := [18]) (by kernel_rfl) (by simp) ?_
  refine AllReadyH.cons rfl (fun K hK => ?_) AllReadyH.nil
  go_simp; refine (cloneID_any pr xr _ (hr.below hHeld.1)).mono ?_; rintro e w3 ⟨⟨qr, rfl, hqr, gr⟩, hb3⟩; go_simp
  refine hK.out _ _ ?_ (fun hHeld => ?_)
  · exact hHeld.step hb3
  clear hK K
  (try simp only [Act.put, List.setIfInBounds_toArray, List.set_cons_zero, List.set_cons_succ])
  refine wpAnyH_take (i := 19) (v := ?_) rfl (by kernel_rfl) (by kernel_rfl) (by kernel_rfl) (fun _ _ _ h => h) (Or.inl ⟨by rfl, ?_⟩) (by assumption) ?_
  rotate_left 1
  · intro w hSw; unfold VolS at hSw; go_simp; try (with_reducible rfl)
  (try simp only [Act.put, List.setIfInBounds_toArray, List.set_cons_zero, List.set_cons_succ])
  refine wpAnyH_ready (rs := [20]) (by kernel_rfl) (by simp) ?_
  refine AllReadyH.cons rfl (fun K hK => ?_) AllReadyH.nil
  rw [if_pos (by rfl)]
  refine wp_store_mid _ _ _ rfl _ _ _ rfl rfl hHeld.2.1 (by kernel_rfl) (by simp [Value.oneCell']) ?_
  refine hK.out _ _ (hHeld.store _) (fun hEnd => ?_)
  clear hK K
  refine wpAnyH_done (by kernel_rfl) ?_ _
  have hl := hHeld.lt
  have hrg := World.rangeAt_setCells_same w3 (w.heap.size + 1) 0 [Value.string d, Value.string n, Value.string s, Value.string p, Value.string a, Value.pointer qe, Value.pointer qf, Value.pointer qr] hHeld.2.1
  simp only [List.toList_toArray, List.getElem_toArray, List.getElem_cons_succ, List.getElem_cons_zero, Act.put]
  have e0 := hrg 0 _ rfl
  have e1 := hrg 1 _ rfl
  have e2 := hrg 2 _ rfl
  have e3 := hrg 3 _ rfl
  have e4 := hrg 4 _ rfl
  have e5 := hrg 5 _ rfl
  have e6 := hrg 6 _ rfl
  have e7 := hrg 7 _ rfl
  simp only [Nat.zero_add] at e0 e1 e2 e3 e4 e5 e6 e7
  have l1 := hb1.size
  have l2 := hb2.size
  have l3 := hb3.size
  have l0 := hS.lt
  have f1 : PtrIs (w3.setCells (w.heap.size + 1) 0 [Value.string d, Value.string n, Value.string s, Value.string p, Value.string a, Value.pointer qe, Value.pointer qf, Value.pointer qr]) qe xe :=
    ((hqe.below hb2).below hb3).setCells (fun x hx => by have := ge x hx; omega) _ _
  have f2 : PtrIs (w3.setCells (w.heap.size + 1) 0 [Value.string d, Value.string n, Value.string s, Value.string p, Value.string a, Value.pointer qe, Value.pointer qf, Value.pointer qr]) qf xf :=
    (hqf.below hb3).setCells (fun x hx => by have := gf x hx; omega) _ _
  have f3 : PtrIs (w3.setCells (w.heap.size + 1) 0 [Value.string d, Value.string n, Value.string s, Value.string p, Value.string a, Value.pointer qe, Value.pointer qf, Value.pointer qr]) qr xr :=
    hqr.setCells (fun x hx => by have := gr x hx; omega) _ _
  have hbe := hEnd.1
  clear hrg hEnd l0 l1 l2 l3 hS hl hHeld
  generalize (w3.setCells (w.heap.size + 1) 0 [Value.string d, Value.string n, Value.string s, Value.string p, Value.string a, Value.pointer qe, Value.pointer qf, Value.pointer qr]) = w4 at *
  go_wp2
  exact bodyPost_ret (v := .agg #[.string d, .string n, .string s, .string p, .string a, .pointer qe, .pointer qf, .pointer qr]) (by simp [results, Trym.results8, go_sem, *]) rfl ⟨⟨_, _, _, rfl, f1, f2, f3⟩, hbe⟩
end Go.Proofs.Qxb6600292aMods
