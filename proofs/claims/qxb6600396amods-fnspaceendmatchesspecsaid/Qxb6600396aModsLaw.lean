import Derived.Test.Qxb6600396aModsSpace
namespace Go.Proofs.Qxb6600396aMods
open Go.RowKit
set_option linter.unusedVariables false
set_option linter.unusedSimpArgs false

theorem law_long (a : Option Addr) (n c : Nat) (i : Int) (w : World) (h : 1048576 < n) :
    Calls Trym.prog 4 #[.slice a n c, .int .i64 i] w fun e w' => e = .returned (.bool true) ∧ Below w.heap.size w w' := by
  go_enter Trym.func4, Trym.ntmps4
  go_wp2_with fail
  refine (bytes_long a n c i _ h).mono ?_
  rintro e w' ⟨rfl, rfl⟩
  go_wp2_with fail
  go_ret
  exact ⟨rfl, Below.refl _ _⟩

theorem law_neg (a : Option Addr) (n c : Nat) (i : Int) (w : World) (h : n ≤ 1048576) (hi : i < 0) :
    Calls Trym.prog 4 #[.slice a n c, .int .i64 i] w fun e w' => e = .returned (.bool true) ∧ Below w.heap.size w w' := by
  go_enter Trym.func4, Trym.ntmps4
  go_wp2_with fail
  refine (bytes_short a n c i _ h).mono ?_
  rintro e w' ⟨rfl, rfl⟩
  go_wp2_with fail
  go_ret
  exact ⟨rfl, Below.refl _ _⟩

def RetSlice (n : Nat) (e : Ending) : Prop := ∃ a', e = .returned (.slice a' n n)

theorem law_past (a : Option Addr) (n c i : Nat) (w : World) (h : n ≤ 1048576) (hi : (i : Int) ≤ 9223372036854775807) (hni : n ≤ i)
    (hcl : Hid (Calls Trym.prog 11 #[.slice a n c] w fun e w' => RetSlice n e ∧ Below w.heap.size w w')) :
    Calls Trym.prog 4 #[.slice a n c, .int .i64 i] w fun e w' => e = .returned (.bool true) ∧ Below w.heap.size w w' := by
  go_enter Trym.func4, Trym.ntmps4
  go_wp2_with fail
  refine (bytes_short a n c i _ h).mono ?_
  rintro e w' ⟨rfl, rfl⟩
  go_wp2_with fail
  refine hcl.out.mono ?_
  rintro e w1 ⟨⟨a', rfl⟩, hb⟩
  go_wp2_with fail
  refine (zzSpaceEnd_past a' n n i _ h hi hni).mono ?_
  rintro e w2 ⟨rfl, rfl⟩
  go_wp2_with fail
  go_ret
  exact ⟨by simp, hb⟩

set_option maxHeartbeats 400000 in
theorem law_in (b o n c i : Nat) (zs : List Int) (w : World) (h : n ≤ 1048576) (hin : i < n) (hn : n ≤ zs.length) (hz : Bytes w b o zs) :
    Calls Trym.prog 4 #[.slice (some ⟨b, o, none⟩) n c, .int .i64 i] w fun e w' => e = .returned (.bool true) ∧ Below w.heap.size w w' := by
  have HZ : Hid (Bytes w b o zs) := hz
  clear hz
  go_enter Trym.func4, Trym.ntmps4
  go_wp2_with fail
  refine (bytes_short _ n c i _ h).mono ?_
  rintro e w' ⟨rfl, rfl⟩
  go_wp2_with fail
  refine (clone_some b o n c zs _ hn h HZ.out).mono ?_
  rintro e w1 ⟨⟨g, hg, rfl, hd⟩, hb⟩
  have HD : Hid (∀ j, j < n → w1.cell? ⟨g, j, none⟩ = some (.int .u8 (zs.getD j 0))) := hd
  clear hd HZ
  go_wp2_with fail
  refine (zzSpaceEnd_any g n n i zs _ h (by omega) HD.out).mono ?_
  rintro e w2 ⟨⟨r, rfl, hir, hrn, hsp, hno⟩, rfl⟩
  have HSP : Hid (∀ j, i ≤ j → j < r → isSpB (zs.getD j 0) = true) := hsp
  have HNO : Hid (r < n → isSpB (zs.getD r 0) = false) := hno
  have hrn' : r ≤ n := by omega
  clear hsp hno hrn
  have d1 : decide (r < i) = false := decide_eq_false (by omega)
  have d2 : decide (n ≤ i) = false := decide_eq_false (by omega)
  have d3 : decide (n < r) = false := decide_eq_false (by omega)
  by_cases hr : r = n
  · subst hr
    go_wp2_with fail
    go_loop [6] (fun v => ∃ k : Nat, i ≤ k ∧ k ≤ r ∧ v = .int .i64 k) (fun v => r - (intOf v).toNat)
    case atStart => exact ⟨i, Nat.le_refl _, hir, rfl⟩
    case round =>
      obtain ⟨k, hk1, hk2, rfl⟩ := hrel
      by_cases hlt : k < r
      · have hc := HD.out k (by omega)
        have hs := HSP.out k hk1 hlt
        rw [List.getD_eq_getElem?_getD] at hc hs
        go_wp2_with (go_at_call 17; refine (isSpace_any _ _).mono ?_; rintro e w' ⟨rfl, rfl⟩)
        go_round
        case rel => exact ⟨k + 1, by omega, by omega, by go_num⟩
        case measure => simp [intOf]; omega
      · go_wp2_with fail
        go_ret
        exact ⟨by simp, hb⟩
  · have hlt : r < n := by omega
    have hne : ((r : Int) == (n : Int)) = false := by rw [beq_eq_false_iff_ne]; omega
    clear hr
    go_wp2_with fail
    go_loop [6] (fun v => ∃ k : Nat, i ≤ k ∧ k ≤ r ∧ v = .int .i64 k) (fun v => r - (intOf v).toNat)
    case atStart => exact ⟨i, Nat.le_refl _, hir, rfl⟩
    case round =>
      obtain ⟨k, hk1, hk2, rfl⟩ := hrel
      by_cases hlt : k < r
      · have hc := HD.out k (by omega)
        have hs := HSP.out k hk1 hlt
        rw [List.getD_eq_getElem?_getD] at hc hs
        go_wp2_with (go_at_call 17; refine (isSpace_any _ _).mono ?_; rintro e w' ⟨rfl, rfl⟩)
        go_round
        case rel => exact ⟨k + 1, by omega, by omega, by go_num⟩
        case measure => simp [intOf]; omega
      · obtain rfl : k = r := by omega
        have hc := HD.out k (by omega)
        have hs := HNO.out (by omega)
        rw [List.getD_eq_getElem?_getD] at hc hs
        go_wp2_with (go_at_call 17; refine (isSpace_any _ _).mono ?_; rintro e w' ⟨rfl, rfl⟩)
        go_ret
        exact ⟨by simp [hs], hb⟩
end Go.Proofs.Qxb6600396aMods
