import Derived.Test.Qxb6600396aModsClone
namespace Go.Proofs.Qxb6600396aMods
open Go.RowKit
set_option linter.unusedVariables false
set_option linter.unusedSimpArgs false

/-- The four bytes of white space. -/
def isSpB (c : Int) : Bool := c == 32 || c == 9 || c == 10 || c == 13

theorem isSpace_any (c : Int) (w : World) :
    Calls Trym.prog 17 #[.int .u8 c] w fun e w' => e = .returned (.bool (isSpB c)) ∧ w' = w := by
  unfold isSpB
  cases h1 : (c == 32)
  · cases h2 : (c == 9)
    · cases h3 : (c == 10)
      · go_enter Trym.func17, Trym.ntmps17
        go_wp2
        go_ret
        exact ⟨by simp, rfl⟩
      · go_enter Trym.func17, Trym.ntmps17
        go_wp2
        go_ret
        exact ⟨by simp, rfl⟩
    · go_enter Trym.func17, Trym.ntmps17
      go_wp2
      go_ret
      exact ⟨by simp, rfl⟩
  · go_enter Trym.func17, Trym.ntmps17
    go_wp2
    go_ret
    exact ⟨by simp, rfl⟩

/-- What comes back from spaceEnd: the r that the law's doc names. -/
def RetEnd (zs : List Int) (n i : Nat) (e : Ending) : Prop :=
  ∃ r : Nat, e = .returned (.int .i64 r) ∧ i ≤ r ∧ (r ≤ n ∨ r = i) ∧ (∀ j, i ≤ j → j < r → isSpB (zs.getD j 0) = true) ∧ (r < n → isSpB (zs.getD r 0) = false)

theorem sp32 {zs : List Int} {r : Nat} (h : (zs[r]?.getD 0 == 32) = true) : isSpB (zs.getD r 0) = true := by simp only [isSpB, List.getD_eq_getElem?_getD, h, Bool.true_or]
theorem sp9 {zs : List Int} {r : Nat} (h : (zs[r]?.getD 0 == 9) = true) : isSpB (zs.getD r 0) = true := by simp only [isSpB, List.getD_eq_getElem?_getD, h, Bool.true_or, Bool.or_true]
theorem sp10 {zs : List Int} {r : Nat} (h : (zs[r]?.getD 0 == 10) = true) : isSpB (zs.getD r 0) = true := by simp only [isSpB, List.getD_eq_getElem?_getD, h, Bool.true_or, Bool.or_true]
theorem sp13 {zs : List Int} {r : Nat} (h : (zs[r]?.getD 0 == 13) = true) : isSpB (zs.getD r 0) = true := by simp only [isSpB, List.getD_eq_getElem?_getD, h, Bool.true_or, Bool.or_true]
theorem spNo {zs : List Int} {r : Nat} (h1 : (zs[r]?.getD 0 == 32) = false) (h2 : (zs[r]?.getD 0 == 9) = false) (h3 : (zs[r]?.getD 0 == 10) = false) (h4 : (zs[r]?.getD 0 == 13) = false) : isSpB (zs.getD r 0) = false := by
  simp only [isSpB, List.getD_eq_getElem?_getD, h1, h2, h3, h4, Bool.or_self]
theorem more {zs : List Int} {i r : Nat} (hs : ∀ j, i ≤ j → j < r → isSpB (zs.getD j 0) = true) (h : isSpB (zs.getD r 0) = true) : ∀ j, i ≤ j → j < r + 1 → isSpB (zs.getD j 0) = true := fun j h1 h2 => by
  by_cases e : j = r
  · subst e; exact h
  · exact hs j h1 (by omega)

set_option maxHeartbeats 400000 in
theorem spaceEnd_any (g n c i : Nat) (zs : List Int) (w : World) (hn : n ≤ 1048576) (hi : (i : Int) ≤ 9223372036854775807) (hz : ∀ j, j < n → w.cell? ⟨g, j, none⟩ = some (.int .u8 (zs.getD j 0))) :
    Calls Trym.prog 25 #[.slice (some ⟨g, 0, none⟩) n c, .int .i64 i] w fun e w' => RetEnd zs n i e ∧ w' = w := by
  go_enter Trym.func25, Trym.ntmps25
  go_wp2
  go_loop [1] (fun v => ∃ r : Nat, v = .int .i64 r ∧ i ≤ r ∧ (r ≤ n ∨ r = i) ∧ (∀ j, i ≤ j → j < r → isSpB (zs.getD j 0) = true)) (fun v => n - (intOf v).toNat)
  case atStart => exact ⟨i, rfl, Nat.le_refl _, .inr rfl, fun j h1 h2 => by omega⟩
  case round =>
    obtain ⟨r, rfl, hir, hr, hs⟩ := hrel
    by_cases hlt : r < n
    · have hc := hz r hlt
      have HS : Hid (∀ j, i ≤ j → j < r → isSpB (zs.getD j 0) = true) := hs
      clear hz hs
      go_wp2
      · exact ⟨⟨r + 1, by go_num, by omega, by omega, more HS.out (sp32 ‹_›)⟩, by simp [intOf]; omega⟩
      · exact ⟨⟨r + 1, by go_num, by omega, by omega, more HS.out (sp9 ‹(zs[r]?.getD 0 == 9) = true›)⟩, by simp [intOf]; omega⟩
      · exact ⟨⟨r + 1, by go_num, by omega, by omega, more HS.out (sp10 ‹(zs[r]?.getD 0 == 10) = true›)⟩, by simp [intOf]; omega⟩
      · exact ⟨⟨r + 1, by go_num, by omega, by omega, more HS.out (sp13 ‹(zs[r]?.getD 0 == 13) = true›)⟩, by simp [intOf]; omega⟩
      · go_ret
        exact ⟨⟨r, rfl, hir, hr, HS.out, fun _ => spNo ‹(zs[r]?.getD 0 == 32) = false› ‹(zs[r]?.getD 0 == 9) = false› ‹(zs[r]?.getD 0 == 10) = false› ‹(zs[r]?.getD 0 == 13) = false›⟩, rfl⟩
    · go_wp2
      go_ret
      exact ⟨⟨r, rfl, hir, hr, hs, fun h => absurd h hlt⟩, rfl⟩

theorem zzSpaceEnd_any (g n c i : Nat) (zs : List Int) (w : World) (hn : n ≤ 1048576) (hi : (i : Int) ≤ 9223372036854775807) (hz : ∀ j, j < n → w.cell? ⟨g, j, none⟩ = some (.int .u8 (zs.getD j 0))) :
    Calls Trym.prog 16 #[.slice (some ⟨g, 0, none⟩) n c, .int .i64 i] w fun e w' => RetEnd zs n i e ∧ w' = w := by
  have H : Hid (∀ j, j < n → w.cell? ⟨g, j, none⟩ = some (.int .u8 (zs.getD j 0))) := hz
  clear hz
  go_enter Trym.func16, Trym.ntmps16
  go_wp2_with fail
  refine (spaceEnd_any g n c i zs _ hn hi H.out).mono ?_
  rintro e w' ⟨⟨r, rfl, hr⟩, rfl⟩
  have HR : Hid (i ≤ r ∧ (r ≤ n ∨ r = i) ∧ (∀ j, i ≤ j → j < r → isSpB (zs.getD j 0) = true) ∧ (r < n → isSpB (zs.getD r 0) = false)) := hr
  clear hr
  go_wp2_with fail
  go_ret
  exact ⟨⟨r, rfl, HR.out⟩, rfl⟩

/-- A start at or behind the end. -/
theorem spaceEnd_past (a : Option Addr) (n c i : Nat) (w : World) (hn : n ≤ 1048576) (hi : (i : Int) ≤ 9223372036854775807) (h : n ≤ i) :
    Calls Trym.prog 25 #[.slice a n c, .int .i64 i] w fun e w' => e = .returned (.int .i64 i) ∧ w' = w := by
  go_enter Trym.func25, Trym.ntmps25
  go_wp2
  go_loop [1] (fun v => v = .int .i64 i) (fun v => 0)
  case atStart => rfl
  case round =>
    subst hrel
    go_wp2
    go_ret
    exact ⟨rfl, rfl⟩
theorem zzSpaceEnd_past (a : Option Addr) (n c i : Nat) (w : World) (hn : n ≤ 1048576) (hi : (i : Int) ≤ 9223372036854775807) (h : n ≤ i) :
    Calls Trym.prog 16 #[.slice a n c, .int .i64 i] w fun e w' => e = .returned (.int .i64 i) ∧ w' = w := by
  go_enter Trym.func16, Trym.ntmps16
  go_wp2_with fail
  refine (spaceEnd_past a n c i _ hn hi h).mono ?_
  rintro e w' ⟨rfl, rfl⟩
  go_wp2_with fail
  go_ret
  exact ⟨rfl, rfl⟩

theorem bytes_long (a : Option Addr) (n c : Nat) (i : Int) (w : World) (h : 1048576 < n) :
    Calls Trym.prog 15 #[.slice a n c, .int .i64 i] w fun e w' => e = .returned (.bool false) ∧ w' = w := by
  go_enter Trym.func15, Trym.ntmps15
  go_wp2
  go_ret
  exact ⟨rfl, rfl⟩
theorem bytes_short (a : Option Addr) (n c : Nat) (i : Int) (w : World) (h : n ≤ 1048576) :
    Calls Trym.prog 15 #[.slice a n c, .int .i64 i] w fun e w' => e = .returned (.bool true) ∧ w' = w := by
  go_enter Trym.func15, Trym.ntmps15
  go_wp2
  go_ret
  exact ⟨rfl, rfl⟩
end Go.Proofs.Qxb6600396aMods
