/- The proof of 'Rows.FnTrimDropsOneLineEndCRThenKeepsFirstMaxLineSaid': the guide's shell, its walk filled. -/
import Derived.Test.Qxb6600534aModsLaw
import Derived.WalkKit
import Derived.ProofKit
import Derived.OpenShut
import Derived.ShutString
import Derived.ChangeOld
import Derived.Below
namespace Go.Proofs.Qxb6600534aMods.fnTrimDropsOneLineEndCRThenKeepsFirstMaxLine
open Go.ChangeShapes Go.WideShapes Go.ChangeAt Go.RowKit
open Go.ChangeMaps (open_string shut_string)
set_option linter.unusedVariables false

theorem own : ownKnob Trym.prog.godebug = none := by kernel_rfl
theorem laidOut : laidOutB Trym.prog = true := by kernel_rfl

/-- WHAT THE WALK IS TOLD OF A SLICE OF INTEGERS THAT CAME IN: it is nil; or it leads to a row of 'cap' cells, the numbers 'zs' (the first 'len' are its elements, the rest its spare room), each fitting its kind. -/
def IsRow (k : IntKind) (w : World) (a : Option Addr) (len cap : Nat) (zs : List Int) : Prop :=
  (a = none ∧ len = 0 ∧ cap = 0 ∧ zs = []) ∨
  ∃ x, a = some x ∧ len ≤ cap ∧ cap ≤ maxLen ∧ zs.length = cap ∧ (∀ i, i < zs.length → w.cell? (x.add i) = some (.int k (zs.getD i 0))) ∧ ∀ n ∈ zs, (Lit.int k n).wf = true

/-! ### STEP 1: THE WALK: the Go text returns true, AND WRITES NOTHING THAT WAS THERE: 'Below w.heap.size w w'' (Derived/Below.lean: '.refl', '.alloc', '.drew', '.setCell' at a new block, '.trans'). Open each 'IsRow' by 'rcases' AHEAD of 'go_enter'; part every test ahead of the walk. -/
theorem walk (a0 : Option Addr) (len0 cap0 : Nat) (z0 : List Int) (a1 : Bool) (w : World) (w0 : IsRow .u8 w a0 len0 cap0 z0) :
    Calls Trym.prog 3 #[.slice a0 len0 cap0, .bool a1] w fun e w' => e = .returned (.bool true) ∧ Below w.heap.size w w' := by
  by_cases hl : 1048576 < len0
  · exact law_long a0 len0 cap0 a1 w hl
  have hl' : len0 ≤ 1048576 := by omega
  rcases w0 with ⟨rfl, rfl, rfl, rfl⟩ | ⟨x, rfl, hlc, hm, hz, hc, hw⟩
  · have hcl : Hid (Calls Trym.prog 9 #[.slice none 0 0] w fun e w' => RetSrc 0 (fun _ => 0) e w' ∧ Below w.heap.size w w') := (clone_nil w).mono fun e w' h => ⟨⟨none, h.1, .inl rfl⟩, h.2⟩
    cases a1
    · exact law_no0 none 0 w hcl
    · exact law_cr none 0 0 (fun _ => 0) w hl' (fun j hj => by omega) hcl
  by_cases h0 : len0 = 0
  · subst h0
    have hcl : Hid (Calls Trym.prog 9 #[.slice (some x) 0 cap0] w fun e w' => RetSrc 0 (fun _ => 0) e w' ∧ Below w.heap.size w w') :=
      (clone_empty x cap0 w).mono fun e w' h => ⟨by obtain ⟨⟨g, _, he, _⟩, _⟩ := h; exact ⟨_, he, .inl rfl⟩, h.2⟩
    cases a1
    · exact law_no0 (some x) cap0 w hcl
    · exact law_cr (some x) 0 cap0 (fun _ => 0) w hl' (fun j hj => by omega) hcl
  obtain ⟨b, o, spot⟩ := x
  have hspot : spot = none := by simpa [Addr.add] using World.cell?_spot (hc 0 (by omega))
  subst hspot
  have hB : Bytes w b o z0 := fun i hi => by have := hc i hi; rwa [add_plain] at this
  have hf : ∀ j, j < len0 → 0 ≤ z0.getD j 0 ∧ z0.getD j 0 ≤ 255 := fun j hj => by
    have hj' : j < z0.length := by omega
    have h := hw (z0.getD j 0) (by rw [List.getD_eq_getElem?_getD, List.getElem?_eq_getElem hj']; exact List.getElem_mem hj')
    simp [Lit.wf, IntKind.min, IntKind.max, IntKind.signed, IntKind.bits] at h
    simp
    omega
  have hcl : Hid (Calls Trym.prog 9 #[.slice (some ⟨b, o, none⟩) len0 cap0] w fun e w' => RetSrc len0 (fun j => z0.getD j 0) e w' ∧ Below w.heap.size w w') :=
    (clone_some b o len0 cap0 z0 w (by omega) hl' hB).mono fun e w' h => ⟨by obtain ⟨⟨g, _, he, hd⟩, _⟩ := h; exact ⟨_, he, .inr ⟨g, rfl, hd⟩⟩, h.2⟩
  cases a1
  · have hlast := hB (len0 - 1) (by omega)
    cases hE : (z0.getD (len0 - 1) 0 == 13)
    · exact law_no b o len0 (len0 - 1) cap0 (fun j => z0.getD j 0) w hl' hf (by omega) (by omega) hlast hE hcl
    · rw [eq_of_beq hE] at hlast
      exact law_ends b o len0 (len0 - 1) cap0 w hl' (by omega) (by omega) hlast
  · exact law_cr _ len0 cap0 (fun j => z0.getD j 0) w hl' hf hcl

/-! ### THE ROW's STEP: WRITTEN OUT: LEAVE IT -/
set_option maxRecDepth 100000 in
theorem lifted (os : Os) (started : os.Started) (H : Type) (enc : TypeId × Value → H) :
    ReturnsInHanded {} Trym.checked os 3 .any (Rows.fnTrimDropsOneLineEndCRThenKeepsFirstMaxLineSpec.pre6 enc Trym.prog Trym.f3 Rows.fnTrimDropsOneLineEndCRThenKeepsFirstMaxLineRow.domain false) (Rows.fnTrimDropsOneLineEndCRThenKeepsFirstMaxLineSpec.post enc Trym.prog Trym.f3 false true false false) := by
  refine returnsInHanded_of_change (C := Trym.checked) own started (by kernel_rfl) Trym.func3
    (ChangeSpec.witness6 (enc := enc) (C := Trym.checked) false ⟨#[], #[.slice none 0 0, .bool false], []⟩ 8 (by kernel_rfl) (by kernel_rfl) (by kernel_rfl) (by kernel_rfl)) ?_
  intro W base args ds gs before hval0 hW hcnd _
  have hval : ∀ (j : Nat) t v, Trym.f3.params[j]? = some t → args[j]? = some v → Value.okWide Trym.prog W .any base t v := hval0
  have hW' := hW
  obtain ⟨p, q, hA0, hV, rfl, hfz, hnd⟩ := hW
  have hA : DataW.TrodAll enc Trym.prog W 0 (fun _ => true) true Trym.f3.params.toList args.toList ds p := hA0
  rw [Trym.params3] at hA hval
  obtain ⟨v0, vs0, d0, ds0, p0, q0, hargs, rfl, rfl, h0, r0⟩ := trodAll_cons hA
  obtain ⟨v1, vs1, d1, ds1, p1, q1, rfl, rfl, rfl, h1, r1⟩ := trodAll_cons r0
  obtain ⟨rfl, rfl, rfl⟩ := trodAll_nil r1
  obtain rfl : args = #[v0, v1] := by cases args; simp_all
  obtain ⟨rfl, rfl⟩ := trodVars_none hV
  obtain ⟨a0, len0, cap0, rfl⟩ := okWide_slice Trym.underlying22 (hval 0 22 v0 rfl rfl)
  have k0 := h0
  have lt0 : ∀ x ∈ p0, x.block < W.heap.size := by obtain ⟨m, hm⟩ := k0; exact DataW.trod_lt m _ _ _ hm
  obtain ⟨z0, w0⟩ : ∃ zs, IsRow .u8 W a0 len0 cap0 zs := by
    obtain ⟨fuel, hf⟩ := h0
    rcases open_ints Trym.underlying22 Trym.underlying5 (by kernel_rfl) hf with ⟨hcs, _⟩ | ⟨x, l, c, zs, hcs, _, hl, hm, hz, _, hcell, hwz⟩
    · simp [Value.cells] at hcs
      obtain ⟨rfl, rfl, rfl⟩ := hcs
      exact ⟨[], .inl ⟨rfl, rfl, rfl, rfl⟩⟩
    · simp [Value.cells] at hcs
      obtain ⟨rfl, rfl, rfl⟩ := hcs
      exact ⟨zs, .inr ⟨_, rfl, hl, hm, by simpa using hz, hcell, hwz⟩⟩
  obtain ⟨a1, rfl, rfl, rfl⟩ := open_bool Trym.underlying4 (hval 1 4 v1 rfl rfl) h1
  clear hA0 hval0
  refine (walk a0 len0 cap0 z0 a1 W w0).mono fun e W' ⟨he, bel⟩ => ?_
  subst he
  exact ⟨_, rfl, _, _, _, [], _, [], hW', trodAll_mk1 (shut_bool Trym.underlying4 _), (trodAll_cons_mk (Below.trod laidOut (by kernel_rfl) (of_decide_eq_true (by kernel_rfl)) k0 bel lt0) (trodAll_cons_mk (shut_bool Trym.underlying4 _) trodAll_mk0)), rfl, bel.frame _, fun h => by cases h⟩

theorem over : Rows.fnTrimDropsOneLineEndCRThenKeepsFirstMaxLineRow.holds Trym.pinned (OpenSpec.ofChange Rows.fnTrimDropsOneLineEndCRThenKeepsFirstMaxLineSpec) :=
  OpenClaim.holds_of_wide 3 Trym.f3 rfl rfl rfl rfl rfl rfl rfl ⟨rfl, rfl, rfl, rfl, rfl⟩ rfl rfl rfl rfl rfl (by kernel_rfl) Trym.func3 (by kernel_rfl)
    (of_decide_eq_true (by kernel_rfl)) (by unfold Func.isWrapper; first | (rw [if_pos (by decide +kernel)]; kernel_rfl) | (rw [if_neg (by decide +kernel)]; exact ⟨rfl, rfl⟩))
    (fun os started H enc _ => lifted os started H enc)

/-- ████ THE STATEMENT ████ -/
theorem proved : Rows.FnTrimDropsOneLineEndCRThenKeepsFirstMaxLineSaid := over
#print axioms proved
end Go.Proofs.Qxb6600534aMods.fnTrimDropsOneLineEndCRThenKeepsFirstMaxLine
