import Derived.Test.Qxb6600292aModsRows
import Derived.WalkKit
import Derived.ProofKit
import Derived.Below
import Derived.Deep.QuietTactic
import Derived.BigQuiet
namespace Go.Proofs.Qxb6600292aMods
open Go.RowKit
set_option linter.unusedVariables false

/-- The pointer reads as 'x': nil for none; else it leads to a cell that holds the number. -/
def PtrIs (w : World) (p : Option Addr) (x : Option Int) : Prop :=
  (p = none ∧ x = none) ∨ ∃ b o n, p = some ⟨b, o, none⟩ ∧ x = some n ∧ w.cell? ⟨b, o, none⟩ = some (.int .i64 n)

theorem PtrIs.below {w w' : World} {p : Option Addr} {x : Option Int} (h : PtrIs w p x) (hb : Below w.heap.size w w') : PtrIs w' p x := by
  rcases h with h | ⟨b, o, n, hp, hx, hc⟩
  · exact .inl h
  · refine .inr ⟨b, o, n, hp, hx, ?_⟩
    rw [hb.cell (p := ⟨b, o, none⟩) (World.block_lt_of_cell? w _ hc)]
    exact hc

theorem PtrIs.drew {w : World} {p : Option Addr} {x : Option Int} (h : PtrIs w p x) : PtrIs w.drew p x := h.below (Below.refl _ _).drew

/-- What comes back is some number; some bool; a pointer that reads as x. -/
def RetInt (e : Ending) : Prop := ∃ n : Int, e = .returned (.int .i64 n)
def RetBool (e : Ending) : Prop := ∃ b : Bool, e = .returned (.bool b)
def RetPtr (B : Nat) (x : Option Int) (e : Ending) (w : World) : Prop := ∃ q, e = .returned (.pointer q) ∧ PtrIs w q x ∧ ∀ a, q = some a → B ≤ a.block

theorem addLen_any (a b : Int) (w : World) :
    Calls Trym.prog 14 #[.int .i64 a, .int .i64 b] w fun e w' => RetInt e ∧ w' = w := by
  by_cases h1 : 1048576 < a
  · go_enter Trym.func14, Trym.ntmps14
    go_wp2
    go_ret
    exact ⟨⟨_, rfl⟩, rfl⟩
  · by_cases h2 : 1048576 < b
    · go_enter Trym.func14, Trym.ntmps14
      go_wp2
      go_ret
      exact ⟨⟨_, rfl⟩, rfl⟩
    · go_enter Trym.func14, Trym.ntmps14
      go_wp2
      go_ret
      exact ⟨⟨_, rfl⟩, rfl⟩

theorem cloneID_any (p : Option Addr) (x : Option Int) (w : World) (h : PtrIs w p x) :
    Calls Trym.prog 15 #[.pointer p] w fun e w' => RetPtr w.heap.size x e w' ∧ Below w.heap.size w w' := by
  rcases h with ⟨rfl, rfl⟩ | ⟨b, o, n, rfl, rfl, hc⟩
  · go_enter Trym.func15, Trym.ntmps15
    go_wp2
    go_ret
    exact ⟨⟨_, rfl, .inl ⟨rfl, rfl⟩, fun a h => by cases h⟩, Below.refl _ _⟩
  · go_enter Trym.func15, Trym.ntmps15
    go_wp2
    go_ret
    refine ⟨⟨_, rfl, .inr ⟨_, _, n, rfl, rfl, ?_⟩, ?_⟩, ?_⟩
    · simp [go_sem]
    · intro a h; cases h; exact Nat.le_refl _
    · exact (Below.refl _ _).alloc (Nat.le_refl _) _

/-- (Volume).lifetime -/
theorem lifetime_any (d n s p a : ByteArray) (pe pf pr : Option Addr) (xe : Option Int) (w : World) (h : PtrIs w pe xe) :
    Calls Trym.prog 21 #[.agg #[.string d, .string n, .string s, .string p, .string a, .pointer pe, .pointer pf, .pointer pr]] w fun e w' => e = .returned (.int .i64 (xe.getD 3600)) ∧ Below w.heap.size w w' := by
  rcases h with ⟨rfl, rfl⟩ | ⟨b, o, n, rfl, rfl, hc⟩
  · go_enter Trym.func21, Trym.ntmps21
    go_wp2
    go_ret
    exact ⟨rfl, (Below.refl _ _).alloc (Nat.le_refl _) _⟩
  · have hlt := World.block_lt_of_cell? w _ hc
    go_enter Trym.func21, Trym.ntmps21
    go_wp2
    go_ret
    exact ⟨rfl, (Below.refl _ _).alloc (Nat.le_refl _) _⟩

theorem zzLifetime_any (d n s p a : ByteArray) (pe pf pr : Option Addr) (xe : Option Int) (w : World) (h : PtrIs w pe xe) :
    Calls Trym.prog 16 #[.agg #[.string d, .string n, .string s, .string p, .string a, .pointer pe, .pointer pf, .pointer pr]] w fun e w' => e = .returned (.int .i64 (xe.getD 3600)) ∧ Below w.heap.size w w' := by
  go_enter Trym.func16, Trym.ntmps16
  go_wp2_with (go_at_call 21; refine (lifetime_any d n s p a pe pf pr xe _ (h.below ((Below.refl _ _).alloc (Nat.le_refl _) _))).mono ?_; rintro e w' ⟨rfl, hb⟩)
  go_ret
  exact ⟨rfl, ((Below.refl _ _).alloc (Nat.le_refl _) _).trans (hb.mono (by simp))⟩

/-- What sameID compares. -/
def sameB (x y : Option Int) : Bool := x == y

/-- sameID -/
theorem sameID_any (p q : Option Addr) (x y : Option Int) (w : World) (hp : PtrIs w p x) (hq : PtrIs w q y) :
    Calls Trym.prog 22 #[.pointer p, .pointer q] w fun e w' => e = .returned (.bool (sameB x y)) ∧ ∃ n, w' = w.drewN n := by
  rcases hp with ⟨rfl, rfl⟩ | ⟨b, o, n, rfl, rfl, hc⟩
  · rcases hq with ⟨rfl, rfl⟩ | ⟨b', o', n', rfl, rfl, hc'⟩
    · go_enter Trym.func22, Trym.ntmps22
      go_wp2
      go_quiet (fail)
      go_wp2
      go_ret
      exact ⟨rfl, _, rfl⟩
    · go_enter Trym.func22, Trym.ntmps22
      go_wp2
      go_quiet (fail)
      go_wp2
      go_ret
      exact ⟨rfl, _, rfl⟩
  · rcases hq with ⟨rfl, rfl⟩ | ⟨b', o', n', rfl, rfl, hc'⟩
    · go_enter Trym.func22, Trym.ntmps22
      go_wp2
      go_quiet (fail)
      go_wp2
      go_ret
      exact ⟨rfl, _, rfl⟩
    · go_enter Trym.func22, Trym.ntmps22
      go_wp2
      go_quiet (fail)
      go_wp2
      go_ret
      exact ⟨by simp [sameB], _, rfl⟩

end Go.Proofs.Qxb6600292aMods
