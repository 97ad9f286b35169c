import Derived.Test.Qxb6600534aModsTrim
import Derived.Deep.QuietTactic
import Derived.BigQuiet
namespace Go.Proofs.Qxb6600534aMods
open Go.RowKit
set_option linter.unusedVariables false
set_option linter.unusedSimpArgs false

/-- The slice at 'a' has n bytes, the numbers f; where n = 0 nothing is known of a. -/
def Src (w : World) (a : Option Addr) (n : Nat) (f : Nat → Int) : Prop := n = 0 ∨ ∃ g, a = some ⟨g, 0, none⟩ ∧ ∀ j, j < n → w.cell? ⟨g, j, none⟩ = some (.int .u8 (f j))

theorem Src.below {w w' : World} {a : Option Addr} {n : Nat} {f : Nat → Int} (h : Src w a n f) (hb : Below w.heap.size w w') : Src w' a n f := by
  rcases h with h | ⟨g, ha, hc⟩
  · exact .inl h
  · refine .inr ⟨g, ha, fun j hj => ?_⟩
    rw [hb.cell (p := ⟨g, j, none⟩) (World.block_lt_of_cell? w _ (hc j hj))]
    exact hc j hj

/-- a followed by b. -/
def joinF (n : Nat) (f h : Nat → Int) (j : Nat) : Int := if j < n then f j else h (j - n)

theorem joinF_fst {n : Nat} (f h : Nat → Int) {j : Nat} (hj : j < n) : f j = joinF n f h j := by simp [joinF, hj]
theorem joinF_snd (n : Nat) (f h : Nat → Int) (j : Nat) : h j = joinF n f h (n + j) := by
  unfold joinF
  rw [if_neg (by omega), Nat.add_sub_cancel_left]

def RetJoin (w : World) (n : Nat) (f : Nat → Int) (e : Ending) (w' : World) : Prop :=
  ∃ g, w.heap.size ≤ g ∧ e = .returned (.slice (some ⟨g, 0, none⟩) n n) ∧ ∀ j, j < n → w'.cell? ⟨g, j, none⟩ = some (.int .u8 (f j))

set_option maxHeartbeats 400000 in
theorem join_any (a : Option Addr) (n ca : Nat) (b : Option Addr) (k cb : Nat) (f h : Nat → Int) (w : World) (hn : n ≤ 1048576) (hk : k ≤ 1) (ha : Src w a n f) (hb : Src w b k h) :
    Calls Trym.prog 10 #[.slice a n ca, .slice b k cb] w fun e w' => RetJoin w (n + k) (joinF n f h) e w' ∧ Below w.heap.size w w' := by
  have hmk : ∀ w : World, (Instr.makeSlice 22 (.int .i64 ((n : Int) + (k : Int))) (.int .i64 ((n : Int) + (k : Int)))).run Trym.prog w = .ok (.slice (some ⟨w.heap.size, 0, none⟩) (n + k) (n + k)) (w.alloc (.cells (madeCells #[.int .u8 0] (n + k)) 5)) := fun w => by
    have h := run_make_row' (P := Trym.prog) 22 5 (.int .u8 0) 1 Trym.underlying22 Trym.info5 rfl .i64 .i64 (n + k) (by omega) (by omega) w
    rw [Int.natCast_add] at h
    exact h
  have HA : Hid (Src w a n f) := ha
  have HB : Hid (Src w b k h) := hb
  clear ha hb
  go_enter Trym.func10, Trym.ntmps10
  go_wp2
  clear hmk
  have hC0 : Copied w w.heap.size (n + k) (joinF n f h) 0 (w.alloc (.cells (madeCells #[.int .u8 0] (n + k)) 5)) := Copied.start _
  generalize (w.alloc (.cells (madeCells #[.int .u8 0] (n + k)) 5)) = w0 at *
  go_loopw [6] (fun i wr => ∃ q : Nat, q ≤ n ∧ i = .int .i64 q ∧ Copied w w.heap.size (n + k) (joinF n f h) q wr) (fun i _ => n - (intOf i).toNat)
  case atStart => exact ⟨0, Nat.zero_le _, rfl, hC0⟩
  case round =>
    obtain ⟨q, hq, rfl, hC⟩ := hrel
    by_cases hlt : q < n
    · obtain ⟨g, hag, hcell⟩ : ∃ g, a = some ⟨g, 0, none⟩ ∧ ∀ j, j < n → wr.cell? ⟨g, j, none⟩ = some (.int .u8 (f j)) := by
        rcases HA.out.below hC.below with h0 | h1
        · omega
        · exact h1
      subst hag
      have hs := hcell q hlt
      obtain ⟨t1, t2⟩ := hC.there q (by omega)
      obtain ⟨u, hu⟩ := Option.isSome_iff_exists.1 t1
      rw [Nat.zero_add] at hu t2
      clear t1 hcell
      have HC : Hid (Copied w w.heap.size (n + k) (joinF n f h) q wr) := hC
      clear hC
      go_wp2
      exact ⟨⟨q + 1, by omega, by go_num, HC.out.step (by omega) (joinF_fst f h hlt)⟩, by simp [intOf]; omega⟩
    · obtain rfl : q = n := by omega
      have HC : Hid (Copied w w.heap.size (q + k) (joinF q f h) q wr) := hC
      clear hC
      go_wp2
      go_loopw [7] (fun i wr => ∃ r : Nat, r ≤ k ∧ i = .int .i64 r ∧ Copied w w.heap.size (q + k) (joinF q f h) (q + r) wr) (fun i _ => k - (intOf i).toNat)
      case atStart => exact ⟨0, Nat.zero_le _, rfl, HC.out⟩
      case round =>
        obtain ⟨r, hr, rfl, hC⟩ := hrel
        by_cases hlt2 : r < k
        · obtain ⟨g, hbg, hcell⟩ : ∃ g, b = some ⟨g, 0, none⟩ ∧ ∀ j, j < k → wr.cell? ⟨g, j, none⟩ = some (.int .u8 (h j)) := by
            rcases HB.out.below hC.below with h0 | h1
            · omega
            · exact h1
          subst hbg
          have hs := hcell r hlt2
          obtain ⟨t1, t2⟩ := hC.there (q + r) (by omega)
          obtain ⟨u, hu⟩ := Option.isSome_iff_exists.1 t1
          rw [Nat.zero_add] at hu t2
          clear t1 hcell
          have HC2 : Hid (Copied w w.heap.size (q + k) (joinF q f h) (q + r) wr) := hC
          clear hC
          go_wp2
          exact ⟨⟨r + 1, by omega, by go_num, HC2.out.step (by omega) (joinF_snd q f h r)⟩, by simp [intOf]; omega⟩
        · obtain rfl : r = k := by omega
          have HC2 : Hid (Copied w w.heap.size (q + r) (joinF q f h) (q + r) wr) := hC
          clear hC
          go_wp2
          go_ret
          exact ⟨⟨_, Nat.le_refl _, rfl, HC2.out.done⟩, HC2.out.below⟩
end Go.Proofs.Qxb6600534aMods
