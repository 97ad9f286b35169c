import Derived.Test.Qxb6600534aModsRows
import Derived.WalkKit
import Derived.ProofKit
import Derived.Below
import Derived.Deep.OwnRows
import Derived.Deep.MidRow
import Derived.Lib.SliceRun
namespace Go.Proofs.Qxb6600534aMods
open Go.RowKit
set_option linter.unusedVariables false
set_option linter.unusedSimpArgs false

/-- The numbers 'zs' lie in block 'b' from 'o' on. -/
def Bytes (w : World) (b o : Nat) (zs : List Int) : Prop := ∀ i, i < zs.length → w.cell? ⟨b, o + i, none⟩ = some (.int .u8 (zs.getD i 0))

theorem Bytes.below {w w' : World} {b o : Nat} {zs : List Int} (h : Bytes w b o zs) (hb : Below w.heap.size w w') : Bytes w' b o zs := fun i hi => by
  have hc := h i hi
  rw [hb.cell (p := ⟨b, o + i, none⟩) (World.block_lt_of_cell? w _ hc)]
  exact hc

/-- What stands behind k rounds of the copying loop: block g has n cells of its own, the first k hold f. -/
structure Copied (w : World) (g n : Nat) (f : Nat → Int) (k : Nat) (wr : World) : Prop where
  below : Below w.heap.size w wr
  new : w.heap.size ≤ g
  there : wr.there g 0 n
  done : ∀ j, j < k → wr.cell? ⟨g, j, none⟩ = some (.int .u8 (f j))

theorem Copied.start {w : World} {n : Nat} {e : TypeId} (f : Nat → Int) : Copied w w.heap.size n f 0 (w.alloc (.cells (madeCells #[.int .u8 0] n) e)) := by
  refine ⟨(Below.refl _ _).alloc (Nat.le_refl _) _, Nat.le_refl _, fun j hj => ?_, fun j hj => by omega⟩
  have hs : (madeCells #[Value.int .u8 0] n).size = n := size_madeCells _ _
  constructor
  · simp [go_sem, hs, hj]
  · simp [go_sem, hs, hj]

theorem Copied.step {w : World} {g n : Nat} {f : Nat → Int} {k : Nat} {wr : World} (h : Copied w g n f k wr) (hk : k < n) {z : Int} (hz : z = f k) : Copied w g n f (k + 1) (wr.setCell ⟨g, k, none⟩ (.int .u8 z)) := by
  subst hz
  obtain ⟨u, hu⟩ := Option.isSome_iff_exists.1 (h.there k hk).1
  rw [Nat.zero_add] at hu
  refine ⟨h.below.setCell (p := ⟨g, k, none⟩) h.new _, h.new, ?_, ?_⟩
  · intro j hj
    obtain ⟨h1, h2⟩ := h.there j hj
    rw [Nat.zero_add] at h1 h2 ⊢
    constructor
    · by_cases e : j = k
      · subst e; simp [go_sem, hu]
      · rw [World.cell?_setCell_other wr ⟨g, k, none⟩ ⟨g, j, none⟩ _ (fun x => e (by cases x; rfl))]; exact h1
    · simpa [go_sem] using h2
  · intro j hj
    by_cases e : j = k
    · subst e; simp [go_sem, hu]
    · rw [World.cell?_setCell_other wr ⟨g, k, none⟩ ⟨g, j, none⟩ _ (fun x => e (by cases x; rfl))]; exact h.done j (by omega)

theorem Trym.info5 : (Trym.prog.info? 5).map (fun i => (i.zero, i.size, i.bytes)) = some (some (.int .u8 0), 1, 1) := by kernel_rfl

/-- What comes back from the copy of n bytes: a slice over a block of its own that holds zs. -/
def RetCopy (w : World) (n : Nat) (zs : List Int) (e : Ending) (w' : World) : Prop :=
  ∃ g, w.heap.size ≤ g ∧ e = .returned (.slice (some ⟨g, 0, none⟩) n n) ∧ ∀ j, j < n → w'.cell? ⟨g, j, none⟩ = some (.int .u8 (zs.getD j 0))

theorem q22 : ∀ (w : World) (a : Option Addr) (n c n' c' : Nat), (binOp .eql 22 (.slice a n c) (.slice none n' c')).run Trym.prog w = .ok (.bool a.isNone) w :=
  fun w a n c n' c' => Lib.run_eql_slice_nil w _ _ a n c n' c' Trym.underlying22

set_option maxHeartbeats 400000 in
theorem clone_some (b o n c : Nat) (zs : List Int) (w : World) (hn : n ≤ zs.length) (h20 : n ≤ 1048576) (hz : Bytes w b o zs) :
    Calls Trym.prog 9 #[.slice (some ⟨b, o, none⟩) n c] w fun e w' => RetCopy w n zs e w' ∧ Below w.heap.size w w' := by
  have hmk := run_make_row' (P := Trym.prog) 22 5 (.int .u8 0) 1 Trym.underlying22 Trym.info5 rfl .i64 .i64 n (by omega) (by omega)
  have hq := q22
  go_enter Trym.func9, Trym.ntmps9
  go_wp2
  clear hmk hq
  have hC0 : Copied w w.heap.size n (fun j => zs.getD j 0) 0 (w.alloc (.cells (madeCells #[.int .u8 0] n) 5)) := Copied.start _
  generalize (w.alloc (.cells (madeCells #[.int .u8 0] n) 5)) = w0 at *
  go_loopw [4] (fun i wr => ∃ k : Nat, k ≤ n ∧ i = .int .i64 k ∧ Copied w w.heap.size n (fun j => zs.getD j 0) k wr) (fun i _ => n - (intOf i).toNat)
  case atStart => exact ⟨0, Nat.zero_le _, rfl, hC0⟩
  case round =>
    obtain ⟨k, hk, rfl, hC⟩ := hrel
    by_cases hlt : k < n
    · have hs : wr.cell? ⟨b, o + k, none⟩ = some (.int .u8 (zs.getD k 0)) := (hz.below hC.below) k (by omega)
      obtain ⟨t1, t2⟩ := hC.there k hlt
      obtain ⟨u, hu⟩ := Option.isSome_iff_exists.1 t1
      rw [Nat.zero_add] at hu t2
      clear t1
      go_wp2
      exact ⟨⟨k + 1, by omega, by go_num, hC.step hlt List.getD_eq_getElem?_getD.symm⟩, by simp [intOf]; omega⟩
    · go_wp2
      go_ret
      obtain rfl : k = n := by omega
      exact ⟨⟨_, Nat.le_refl _, rfl, hC.done⟩, hC.below⟩

/-- The empty slice that is not nil: whatever its address. -/
theorem clone_empty (x : Addr) (c : Nat) (w : World) :
    Calls Trym.prog 9 #[.slice (some x) 0 c] w fun e w' => RetCopy w 0 [] e w' ∧ Below w.heap.size w w' := by
  have hmk : ∀ w : World, (Instr.makeSlice 22 (.int .i64 0) (.int .i64 0)).run Trym.prog w = .ok (.slice (some ⟨w.heap.size, 0, none⟩) 0 0) (w.alloc (.cells (madeCells #[.int .u8 0] 0) 5)) :=
    run_make_row' (P := Trym.prog) 22 5 (.int .u8 0) 1 Trym.underlying22 Trym.info5 rfl .i64 .i64 0 (by omega) (by omega)
  have hq := q22
  go_enter Trym.func9, Trym.ntmps9
  go_wp2
  clear hmk hq
  go_loopw [4] (fun i wr => i = .int .i64 0 ∧ Below w.heap.size w wr) (fun i _ => 0)
  case atStart => exact ⟨rfl, (Below.refl _ _).alloc (Nat.le_refl _) _⟩
  case round =>
    obtain ⟨rfl, hC⟩ := hrel
    go_wp2
    go_ret
    exact ⟨⟨_, Nat.le_refl _, rfl, fun j hj => by omega⟩, hC⟩

theorem clone_nil (w : World) :
    Calls Trym.prog 9 #[.slice none 0 0] w fun e w' => e = .returned (.slice none 0 0) ∧ Below w.heap.size w w' := by
  have hq := q22
  go_enter Trym.func9, Trym.ntmps9
  go_wp2
  go_ret
  exact ⟨rfl, Below.refl _ _⟩
end Go.Proofs.Qxb6600534aMods
