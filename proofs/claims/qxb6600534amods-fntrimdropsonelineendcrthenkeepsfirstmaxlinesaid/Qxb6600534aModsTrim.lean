import Derived.Test.Qxb6600534aModsClone
import Derived.Laws.BytesArg
namespace Go.Proofs.Qxb6600534aMods
open Go.RowKit
set_option linter.unusedVariables false
set_option linter.unusedSimpArgs false

theorem strs_one (z y : Int) (hz : 0 ≤ z ∧ z ≤ 255) (hy : 0 ≤ y ∧ y ≤ 255) : ((strOfNums [z]).toList == (strOfNums [y]).toList) = (z == y) := by
  have e : ∀ x : Int, (strOfNums [x]).toList = [UInt8.ofNat x.toNat] := fun x => by
    rw [ByteArray.toList_eq]; rfl
  rw [e, e]
  by_cases h : z = y
  · subst h; simp
  · have : UInt8.ofNat z.toNat ≠ UInt8.ofNat y.toNat := fun h' => by
      have h2 := congrArg UInt8.toNat h'
      simp at h2
      omega
    have e1 : (UInt8.ofNat z.toNat == UInt8.ofNat y.toNat) = false := beq_eq_false_iff_ne.2 this
    have e2 : (z == y) = false := beq_eq_false_iff_ne.2 h
    simp [e1, e2]

/-- bytes.Equal of two slices of one byte each. -/
theorem equal_one (g o c g2 o2 c2 : Nat) (z y : Int) (hz : 0 ≤ z ∧ z ≤ 255) (hy : 0 ≤ y ∧ y ≤ 255) (w : World) (h1 : w.cell? ⟨g, o, none⟩ = some (.int .u8 z)) (h2 : w.cell? ⟨g2, o2, none⟩ = some (.int .u8 y)) :
    Calls Trym.prog 23 #[.slice (some ⟨g, o, none⟩) 1 c, .slice (some ⟨g2, o2, none⟩) 1 c2] w fun e w' => e = .returned (.bool (z == y)) ∧ w' = w := by
  have c1 := run_convert_bytes_arg (P := Trym.prog) w 22 5 Trym.underlying22 Trym.underlying5 g o 1 c [z] rfl (fun i hi => by (obtain rfl : i = 0 := (by omega)); simpa using h1) 9 Trym.underlying9
  have c2' := run_convert_bytes_arg (P := Trym.prog) w 22 5 Trym.underlying22 Trym.underlying5 g2 o2 1 c2 [y] rfl (fun i hi => by (obtain rfl : i = 0 := (by omega)); simpa using h2) 9 Trym.underlying9
  have HS : Hid (((strOfNums [z]).toList == (strOfNums [y]).toList) = (z == y)) := strs_one z y hz hy
  generalize strOfNums [z] = s1 at *
  generalize strOfNums [y] = s2 at *
  clear h1 h2
  go_enter Trym.func23, Trym.ntmps23
  go_wp2
  go_ret
  exact ⟨congrArg (fun b => Ending.returned (.bool b)) HS.out, rfl⟩

/-- bytes.HasSuffix of the line and one carriage return: is there a last byte, and is it 13? -/
def endsCR (m : Nat) (f : Nat → Int) : Bool := decide (0 < m) && f (m - 1) == 13

theorem hasSuffix_cr (g m c h ch : Nat) (f : Nat → Int) (hf : ∀ j, j < m → 0 ≤ f j ∧ f j ≤ 255) (hm : m ≤ 2097152) (hmc : m ≤ c) (w : World) (hc : ∀ j, j < m → w.cell? ⟨g, j, none⟩ = some (.int .u8 (f j))) (hh : w.cell? ⟨h, 0, none⟩ = some (.int .u8 13)) :
    Calls Trym.prog 22 #[.slice (some ⟨g, 0, none⟩) m c, .slice (some ⟨h, 0, none⟩) 1 ch] w fun e w' => e = .returned (.bool (endsCR m f)) ∧ w' = w := by
  by_cases h0 : m = 0
  · subst h0
    go_enter Trym.func22, Trym.ntmps22
    go_wp2
    go_ret
    exact ⟨rfl, rfl⟩
  · obtain ⟨q, rfl⟩ : ∃ q, m = q + 1 := ⟨m - 1, by omega⟩
    have h1 := hc q (by omega)
    have h2 := hf q (by omega)
    have HE : Hid (endsCR (q + 1) f = (f q == 13)) := by simp [Hid, endsCR]
    clear hc hf h0
    go_enter Trym.func22, Trym.ntmps22
    go_wp2_with fail
    refine (equal_one g q (c - q) h 0 ch (f q) 13 h2 (by omega) _ h1 hh).mono ?_
    rintro e w' ⟨rfl, rfl⟩
    go_wp2_with fail
    go_ret
    exact ⟨by rw [HE.out]; rfl, rfl⟩

/-- How many bytes are left of m behind TrimSuffix. -/
def trimLen (m : Nat) (f : Nat → Int) : Nat := if endsCR m f = true then m - 1 else m

theorem trimSuffix_cr (g m c h ch : Nat) (f : Nat → Int) (hf : ∀ j, j < m → 0 ≤ f j ∧ f j ≤ 255) (hm : m ≤ 2097152) (hmc : m ≤ c) (w : World) (hc : ∀ j, j < m → w.cell? ⟨g, j, none⟩ = some (.int .u8 (f j))) (hh : w.cell? ⟨h, 0, none⟩ = some (.int .u8 13)) :
    Calls Trym.prog 21 #[.slice (some ⟨g, 0, none⟩) m c, .slice (some ⟨h, 0, none⟩) 1 ch] w fun e w' => e = .returned (.slice (some ⟨g, 0, none⟩) (trimLen m f) c) ∧ w' = w := by
  have HC : Hid (∀ j, j < m → w.cell? ⟨g, j, none⟩ = some (.int .u8 (f j))) := hc
  have HF : Hid (∀ j, j < m → 0 ≤ f j ∧ f j ≤ 255) := hf
  clear hc hf
  cases hE : endsCR m f
  · have HT : Hid (trimLen m f = m) := by simp [Hid, trimLen, hE]
    have HE : Hid (endsCR m f = false) := hE
    clear hE
    go_enter Trym.func21, Trym.ntmps21
    go_wp2_with fail
    refine (hasSuffix_cr g m c h ch f HF.out hm hmc _ HC.out hh).mono ?_
    rintro e w' ⟨rfl, rfl⟩
    rw [HE.out]
    go_wp2_with fail
    go_ret
    exact ⟨by rw [HT.out]; rfl, rfl⟩
  · obtain ⟨q, rfl⟩ : ∃ q, m = q + 1 := ⟨m - 1, by (simp [endsCR] at hE); omega⟩
    have HT : Hid (trimLen (q + 1) f = q) := by simp [Hid, trimLen, hE]
    have HE : Hid (endsCR (q + 1) f = true) := hE
    clear hE
    go_enter Trym.func21, Trym.ntmps21
    go_wp2_with fail
    refine (hasSuffix_cr g (q + 1) c h ch f HF.out hm hmc _ HC.out hh).mono ?_
    rintro e w' ⟨rfl, rfl⟩
    rw [HE.out]
    go_wp2_with fail
    go_ret
    exact ⟨by rw [HT.out]; rfl, rfl⟩

theorem trimLen_le (m : Nat) (f : Nat → Int) : trimLen m f ≤ m := by unfold trimLen; split <;> omega

theorem cell_kept {w : World} {x : Addr} {v : Value} {o : Obj} (h : w.cell? x = some v) : (w.alloc o).cell? x = some v := by
  rw [((Below.refl _ _).alloc (Nat.le_refl _) _).cell (World.block_lt_of_cell? w _ h)]; exact h

theorem trim_any (g m c : Nat) (f : Nat → Int) (hf : ∀ j, j < m → 0 ≤ f j ∧ f j ≤ 255) (hm : m ≤ 2097152) (hmc : m ≤ c) (w : World) (hc : ∀ j, j < m → w.cell? ⟨g, j, none⟩ = some (.int .u8 (f j))) :
    Calls Trym.prog 19 #[.slice (some ⟨g, 0, none⟩) m c] w fun e w' => e = .returned (.slice (some ⟨g, 0, none⟩) (min (trimLen m f) 4096) c) ∧ Below w.heap.size w w' := by
  have HC : Hid (∀ j, j < m → w.cell? ⟨g, j, none⟩ = some (.int .u8 (f j))) := hc
  have HF : Hid (∀ j, j < m → 0 ≤ f j ∧ f j ≤ 255) := hf
  have HL := trimLen_le m f
  clear hc hf
  go_enter Trym.func19, Trym.ntmps19
  go_wp2_with fail
  refine (trimSuffix_cr g m c w.heap.size 1 f HF.out hm hmc _ (fun j hj => cell_kept (HC.out j hj)) (by simp [go_sem])).mono ?_
  rintro e w' ⟨rfl, rfl⟩
  clear HC HF
  obtain ⟨t, hT⟩ : ∃ t, trimLen m f = t := ⟨_, rfl⟩
  rw [hT] at HL ⊢
  have HT : Hid (trimLen m f = t) := hT
  clear hT
  by_cases ht : t ≤ 4096
  · have h1 : (t : Int) ≤ 4096 := by omega
    go_wp2_with fail
    go_ret
    exact ⟨by rw [HT.out, Nat.min_eq_left ht]; rfl, (Below.refl _ _).alloc (Nat.le_refl _) _⟩
  · have h1 : (4096 : Int) < t := by omega
    go_wp2_with fail
    go_ret
    exact ⟨by rw [HT.out, Nat.min_eq_right (by omega)]; rfl, (Below.refl _ _).alloc (Nat.le_refl _) _⟩

theorem zzTrim_any (g m c : Nat) (f : Nat → Int) (hf : ∀ j, j < m → 0 ≤ f j ∧ f j ≤ 255) (hm : m ≤ 2097152) (hmc : m ≤ c) (w : World) (hc : ∀ j, j < m → w.cell? ⟨g, j, none⟩ = some (.int .u8 (f j))) :
    Calls Trym.prog 11 #[.slice (some ⟨g, 0, none⟩) m c] w fun e w' => e = .returned (.slice (some ⟨g, 0, none⟩) (min (trimLen m f) 4096) c) ∧ Below w.heap.size w w' := by
  have HC : Hid (∀ j, j < m → w.cell? ⟨g, j, none⟩ = some (.int .u8 (f j))) := hc
  have HF : Hid (∀ j, j < m → 0 ≤ f j ∧ f j ≤ 255) := hf
  clear hc hf
  go_enter Trym.func11, Trym.ntmps11
  go_wp2_with fail
  refine (trim_any g m c f HF.out hm hmc _ HC.out).mono ?_
  rintro e w' ⟨rfl, hb⟩
  go_wp2_with fail
  go_ret
  exact ⟨rfl, hb⟩
end Go.Proofs.Qxb6600534aMods
