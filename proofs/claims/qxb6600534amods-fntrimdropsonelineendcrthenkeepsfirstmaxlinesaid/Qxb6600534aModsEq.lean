import Derived.Test.Qxb6600534aModsJoin
namespace Go.Proofs.Qxb6600534aMods
open Go.RowKit
set_option linter.unusedVariables false
set_option linter.unusedSimpArgs false

theorem drewN_below (B : Nat) (w : World) (n : Nat) : Below B w (w.drewN n) := ⟨rfl, rfl, rfl, Nat.le_refl _, fun _ _ => rfl⟩

set_option maxHeartbeats 400000 in
theorem eq_true (a b : Option Addr) (t ca cb : Nat) (f : Nat → Int) (w : World) (ht : t ≤ 4096) (ha : Src w a t f) (hb : Src w b t f) :
    Calls Trym.prog 12 #[.slice a t ca, .slice b t cb] w fun e w' => e = .returned (.bool true) ∧ Below w.heap.size w w' := by
  have HA : Hid (Src w a t f) := ha
  have HB : Hid (Src w b t f) := hb
  clear ha hb
  go_enter Trym.func12, Trym.ntmps12
  go_wp2
  go_loopw [5] (fun i wr => ∃ q : Nat, q ≤ t ∧ i = .int .i64 q ∧ Below w.heap.size w wr) (fun i _ => t - (intOf i).toNat)
  case atStart => exact ⟨0, Nat.zero_le _, rfl, Below.refl _ _⟩
  case round =>
    obtain ⟨q, hq, rfl, hB⟩ := hrel
    by_cases hlt : q < t
    · obtain ⟨g, hag, hcell⟩ : ∃ g, a = some ⟨g, 0, none⟩ ∧ ∀ j, j < t → wr.cell? ⟨g, j, none⟩ = some (.int .u8 (f j)) := by
        rcases HA.out.below hB with h0 | h1
        · omega
        · exact h1
      obtain ⟨g2, hbg, hcell2⟩ : ∃ g, b = some ⟨g, 0, none⟩ ∧ ∀ j, j < t → wr.cell? ⟨g, j, none⟩ = some (.int .u8 (f j)) := by
        rcases HB.out.below hB with h0 | h1
        · omega
        · exact h1
      subst hag
      subst hbg
      have hs := hcell q hlt
      have hs2 := hcell2 q hlt
      have hi : (q : Int) < (t : Int) := by omega
      clear hcell hcell2
      go_wp2
      go_quiet (fail)
      go_wp2
      exact ⟨⟨q + 1, by omega, by go_num, hB.trans ((drewN_below _ _ _).mono (Nat.le_refl _))⟩, by simp [intOf]; omega⟩
    · go_wp2
      go_ret
      exact ⟨rfl, hB⟩

theorem bytes_long (a : Option Addr) (n c : Nat) (cr : Bool) (w : World) (h : 1048576 < n) :
    Calls Trym.prog 8 #[.slice a n c, .bool cr] w fun e w' => e = .returned (.bool false) ∧ w' = w := by
  go_enter Trym.func8, Trym.ntmps8
  go_wp2
  go_ret
  exact ⟨rfl, rfl⟩
theorem bytes_short (a : Option Addr) (n c : Nat) (cr : Bool) (w : World) (h : n ≤ 1048576) :
    Calls Trym.prog 8 #[.slice a n c, .bool cr] w fun e w' => e = .returned (.bool true) ∧ w' = w := by
  go_enter Trym.func8, Trym.ntmps8
  go_wp2
  go_ret
  exact ⟨rfl, rfl⟩

theorem law_long (a : Option Addr) (n c : Nat) (cr : Bool) (w : World) (h : 1048576 < n) :
    Calls Trym.prog 3 #[.slice a n c, .bool cr] w fun e w' => e = .returned (.bool true) ∧ Below w.heap.size w w' := by
  go_enter Trym.func3, Trym.ntmps3
  go_wp2_with fail
  refine (bytes_long a n c cr _ h).mono ?_
  rintro e w' ⟨rfl, rfl⟩
  go_wp2_with fail
  go_ret
  exact ⟨rfl, Below.refl _ _⟩

/-- No carriage return is added, and the content ends in one: the law does not ask. -/
theorem law_ends (b o m q c : Nat) (w : World) (h : m ≤ 1048576) (hq : (m : Int) - 1 = q) (hm : 0 < m) (hc : w.cell? ⟨b, o + q, none⟩ = some (.int .u8 13)) :
    Calls Trym.prog 3 #[.slice (some ⟨b, o, none⟩) m c, .bool false] w fun e w' => e = .returned (.bool true) ∧ Below w.heap.size w w' := by
  have h2 : (q : Int) < m := by omega
  go_enter Trym.func3, Trym.ntmps3
  go_wp2_with fail
  refine (bytes_short _ m c false _ h).mono ?_
  rintro e w' ⟨rfl, rfl⟩
  go_wp2_with fail
  go_ret
  exact ⟨rfl, Below.refl _ _⟩

/-- What comes back from the copy. -/
def RetSrc (n : Nat) (f : Nat → Int) (e : Ending) (w : World) : Prop := ∃ a, e = .returned (.slice a n n) ∧ Src w a n f

theorem trimLen_cr (n : Nat) (f : Nat → Int) : trimLen (n + 1) (joinF n f (fun _ => 13)) = n := by
  simp [trimLen, endsCR, joinF]
theorem trimLen_no (n : Nat) (f h : Nat → Int) (hn : n = 0 ∨ (f (n - 1) == 13) = false) : trimLen (n + 0) (joinF n f h) = n := by
  rcases hn with rfl | hn
  · simp [trimLen, endsCR]
  · by_cases h0 : n = 0
    · subst h0; simp [trimLen, endsCR]
    · have e : joinF n f h (n - 1) = f (n - 1) := (joinF_fst f h (by omega)).symm
      simp [trimLen, endsCR, e, hn]

theorem joinF_cr {n : Nat} {f : Nat → Int} (hf : ∀ j, j < n → 0 ≤ f j ∧ f j ≤ 255) {j : Nat} (hj : j < n + 1) : 0 ≤ joinF n f (fun _ => 13) j ∧ joinF n f (fun _ => 13) j ≤ 255 := by
  unfold joinF
  split
  · exact hf j ‹_›
  · show (0 : Int) ≤ 13 ∧ (13 : Int) ≤ 255
    omega

theorem joinF_no {n : Nat} {f h : Nat → Int} (hf : ∀ j, j < n → 0 ≤ f j ∧ f j ≤ 255) {j : Nat} (hj : j < n + 0) : 0 ≤ joinF n f h j ∧ joinF n f h j ≤ 255 := by
  rw [← joinF_fst f h (by omega)]
  exact hf j (by omega)
theorem Src.take {w : World} {a : Option Addr} {n t : Nat} {f : Nat → Int} (h : Src w a n f) (ht : t ≤ n) : Src w a t f := by
  rcases h with h | ⟨g, ha, hc⟩
  · exact .inl (by omega)
  · exact .inr ⟨g, ha, fun j hj => hc j (by omega)⟩

set_option maxHeartbeats 400000 in
/-- The law's rest, from the copy on: with a carriage return. -/
theorem law_cr (a : Option Addr) (n c : Nat) (f : Nat → Int) (w : World) (h : n ≤ 1048576) (hf : ∀ j, j < n → 0 ≤ f j ∧ f j ≤ 255)
    (hcl : Hid (Calls Trym.prog 9 #[.slice a n c] w fun e w' => RetSrc n f e w' ∧ Below w.heap.size w w')) :
    Calls Trym.prog 3 #[.slice a n c, .bool true] w fun e w' => e = .returned (.bool true) ∧ Below w.heap.size w w' := by
  have HF : Hid (∀ j, j < n → 0 ≤ f j ∧ f j ≤ 255) := hf
  clear hf
  go_enter Trym.func3, Trym.ntmps3
  go_wp2_with fail
  refine (bytes_short a n c true _ h).mono ?_
  rintro e w' ⟨rfl, rfl⟩
  go_wp2_with fail
  refine hcl.out.mono ?_
  rintro e w1 ⟨⟨a1, rfl, hs1⟩, hb1⟩
  have HS1 : Hid (Src w1 a1 n f) := hs1
  clear hs1
  go_wp2_with fail
  refine (join_any a1 n n (some ⟨w1.heap.size, 0, none⟩) 1 1 f (fun _ => 13) _ h (Nat.le_refl _) (HS1.out.below ((Below.refl _ _).alloc (Nat.le_refl _) _)) (.inr ⟨_, rfl, fun j hj => by (obtain rfl : j = 0 := (by omega)); simp [go_sem]⟩)).mono ?_
  rintro e w2 ⟨⟨g, hg, rfl, hd⟩, hb2⟩
  have hb12 : Below w1.heap.size w1 w2 := ((Below.refl _ _).alloc (Nat.le_refl _) _).trans (hb2.mono (by simp))
  have HD : Hid (∀ j, j < n + 1 → w2.cell? ⟨g, j, none⟩ = some (.int .u8 (joinF n f (fun _ => 13) j))) := hd
  have HS2 : Hid (Src w2 a1 n f) := HS1.out.below hb12
  have hbw2 := hb1.trans (hb12.mono hb1.size)
  clear hd hb2 HS1 hb12 hb1
  go_wp2_with fail
  refine (zzTrim_any g (n + 1) (n + 1) (joinF n f (fun _ => 13)) (fun j hj => joinF_cr HF.out hj) (by omega) (Nat.le_refl _) _ HD.out).mono ?_
  rintro e w3 ⟨he, hb3⟩
  rw [trimLen_cr] at he
  subst he
  have HG : Hid (Src w3 (some ⟨g, 0, none⟩) n f) := (Src.below (.inr ⟨g, rfl, fun j hj => by rw [joinF_fst f (fun _ => 13) hj]; exact HD.out j (by omega)⟩) hb3)
  have HS3 : Hid (Src w3 a1 n f) := HS2.out.below hb3
  have hbw3 := hbw2.trans (hb3.mono hbw2.size)
  clear HD HS2 hb3 hbw2 hg
  by_cases ht : n ≤ 4096
  · have h1 : (n : Int) ≤ 4096 := by omega
    rw [Nat.min_eq_left ht]
    go_wp2_with fail
    refine (eq_true _ a1 n (n + 1) n f _ ht HG.out HS3.out).mono ?_
    rintro e w4 ⟨rfl, hb4⟩
    go_wp2_with fail
    go_ret
    exact ⟨rfl, hbw3.trans (hb4.mono hbw3.size)⟩
  · have h1 : (4096 : Int) < n := by omega
    have h2 : 4096 ≤ n := by omega
    rw [Nat.min_eq_right h2]
    go_wp2_with fail
    refine (eq_true _ a1 4096 (n + 1) n f _ (Nat.le_refl _) (HG.out.take h2) (HS3.out.take h2)).mono ?_
    rintro e w4 ⟨rfl, hb4⟩
    go_wp2_with fail
    go_ret
    exact ⟨rfl, hbw3.trans (hb4.mono hbw3.size)⟩

set_option maxHeartbeats 400000 in
/-- The law's rest: without a carriage return. -/
theorem law_no (b o n q c : Nat) (f : Nat → Int) (w : World) (h : n ≤ 1048576) (hf : ∀ j, j < n → 0 ≤ f j ∧ f j ≤ 255) (hq : (n : Int) - 1 = q) (hm : 0 < n) (hc : w.cell? ⟨b, o + q, none⟩ = some (.int .u8 (f q))) (hne : (f q == 13) = false)
    (hcl : Hid (Calls Trym.prog 9 #[.slice (some ⟨b, o, none⟩) n c] w fun e w' => RetSrc n f e w' ∧ Below w.heap.size w w')) :
    Calls Trym.prog 3 #[.slice (some ⟨b, o, none⟩) n c, .bool false] w fun e w' => e = .returned (.bool true) ∧ Below w.heap.size w w' := by
  have HF : Hid (∀ j, j < n → 0 ≤ f j ∧ f j ≤ 255) := hf
  have HT : Hid (trimLen (n + 0) (joinF n f (fun _ => 0)) = n) := trimLen_no n f _ (.inr (by rw [show n - 1 = q by omega]; exact hne))
  clear hf
  have h2 : (q : Int) < n := by omega
  go_enter Trym.func3, Trym.ntmps3
  go_wp2_with fail
  refine (bytes_short _ n c false _ h).mono ?_
  rintro e w' ⟨rfl, rfl⟩
  go_wp2_with fail
  refine hcl.out.mono ?_
  rintro e w1 ⟨⟨a1, rfl, hs1⟩, hb1⟩
  have HS1 : Hid (Src w1 a1 n f) := hs1
  clear hs1
  go_wp2_with fail
  refine (join_any a1 n n none 0 0 f (fun _ => 0) _ h (Nat.zero_le _) HS1.out (.inl rfl)).mono ?_
  rintro e w2 ⟨⟨g, hg, rfl, hd⟩, hb2⟩
  have HD : Hid (∀ j, j < n + 0 → w2.cell? ⟨g, j, none⟩ = some (.int .u8 (joinF n f (fun _ => 0) j))) := hd
  have HS2 : Hid (Src w2 a1 n f) := HS1.out.below hb2
  have hbw2 := hb1.trans (hb2.mono hb1.size)
  clear hd hb2 HS1 hb1
  go_wp2_with fail
  refine (zzTrim_any g (n + 0) (n + 0) (joinF n f (fun _ => 0)) (fun j hj => joinF_no HF.out hj) (by omega) (Nat.le_refl _) _ HD.out).mono ?_
  rintro e w3 ⟨he, hb3⟩
  rw [HT.out] at he
  subst he
  have HG : Hid (Src w3 (some ⟨g, 0, none⟩) n f) := (Src.below (.inr ⟨g, rfl, fun j hj => by rw [joinF_fst f (fun _ => 0) hj]; exact HD.out j (by omega)⟩) hb3)
  have HS3 : Hid (Src w3 a1 n f) := HS2.out.below hb3
  have hbw3 := hbw2.trans (hb3.mono hbw2.size)
  clear HD HS2 hb3 hbw2 hg
  by_cases ht : n ≤ 4096
  · have h1 : (n : Int) ≤ 4096 := by omega
    rw [Nat.min_eq_left ht]
    go_wp2_with fail
    refine (eq_true _ a1 n n n f _ ht HG.out HS3.out).mono ?_
    rintro e w4 ⟨rfl, hb4⟩
    go_wp2_with fail
    go_ret
    exact ⟨rfl, hbw3.trans (hb4.mono hbw3.size)⟩
  · have h1 : (4096 : Int) < n := by omega
    have h2 : 4096 ≤ n := by omega
    rw [Nat.min_eq_right h2]
    go_wp2_with fail
    refine (eq_true _ a1 4096 n n f _ (Nat.le_refl _) (HG.out.take h2) (HS3.out.take h2)).mono ?_
    rintro e w4 ⟨rfl, hb4⟩
    go_wp2_with fail
    go_ret
    exact ⟨rfl, hbw3.trans (hb4.mono hbw3.size)⟩
end Go.Proofs.Qxb6600534aMods
