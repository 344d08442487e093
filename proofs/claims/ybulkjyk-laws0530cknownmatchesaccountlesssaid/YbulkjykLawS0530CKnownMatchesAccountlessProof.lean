/-
  A proof of 'Rows.LawS0530CKnownMatchesAccountlessSaid': 'func LawS0530CKnownMatchesAccountless(sel uint8, arn string, account string) bool' returns true for every input. The frame is the given shell's, with 'Below' in the place of 'Grown' and the builder that hands on the form's own reach (each string takes at most 2^47 - 4096 bytes); the contracts stand in YbulkjykCallerC.
-/
import Derived.Test.YbulkjykRows
import Derived.Test.YbulkjykCallerC
import Derived.SizedLaws
import Derived.Below
import Derived.ChangeOld
import Derived.WalkKit
import Derived.ProofKit
import Derived.OpenShut
import Derived.ShutString
namespace Go.Proofs.Ybulkjyk.lawS0530CKnownMatchesAccountless
open Go.ChangeShapes Go.WideShapes Go.ChangeAt Go.RowKit
open Go.ChangeMaps (open_string shut_string)
set_option linter.unusedVariables false

theorem own : ownKnob Yba.prog.godebug = none := by kernel_rfl

open callerC

/-- A caller that is not accountless: some id, known. -/
theorem userID_some (arn acc : ByteArray) (ha : arn.size ≤ 140737488351232) (hc : acc.size ≤ 140737488351232) (k : Int) (h4 : (k == 4) = false) (h5 : (k == 5) = false) (u s a b c : ByteArray) (d : Bool) (w : World) :
    Calls Yba.prog 11 #[.agg (cells arn acc k u s a b c d)] w fun e w' => (∃ id, e = .returned (.tuple #[.string id, .bool true])) ∧ Below w.heap.size w w' := by
  by_cases h0 : k = 0
  · subst h0
    exact (userID_root arn acc u s a b c d w).mono fun e w' h => ⟨⟨_, h.1⟩, h.2⟩
  · by_cases h3 : k = 3
    · subst h3
      exact (userID_fed arn acc ha hc u s a b c d w).mono fun e w' h => ⟨⟨_, h.1⟩, h.2⟩
    · exact (userID_else arn acc k h4 h5 (by simpa using h0) (by simpa using h3) u s a b c d w).mono fun e w' h => ⟨⟨_, h.1⟩, h.2⟩

set_option maxRecDepth 100000 in
set_option maxHeartbeats 400000 in
theorem walk_yes (a0 : Int) (a1 a2 : ByteArray) (b0 : 0 ≤ a0) (b1 : a0 ≤ 255) (hk : a0 % 8 = 4 ∨ a0 % 8 = 5) (w : World) :
    Calls Yba.prog 7 #[.int .u8 a0, .string a1, .string a2] w fun e w' => e = .returned (.bool true) ∧ Below w.heap.size w w' := by
  have HK : Hid (a0 % 8 = 4 ∨ a0 % 8 = 5) := hk
  clear hk
  go_enter Yba.func7, Yba.ntmps7
  go_wp2_with fail
  refine (userID_acc a1 a2 (a0 % 8) HK.out _ _ _ _ _ _ _).mono ?_
  rintro e w1 ⟨rfl, hb⟩
  have hb' : Below w.heap.size w w1 := ((Below.refl _ _).alloc (Nat.le_refl _) _).trans (hb.mono (by simp))
  obtain ⟨hcl, hfz⟩ := bcell hb
  clear hb
  go_wp2_with fail
  refine (accountless_yes a1 a2 (a0 % 8) HK.out _ _ _ _ _ _ _).mono ?_
  rintro e w2 ⟨rfl, hb2⟩
  have hb3 : Below w.heap.size w w2 := hb'.trans (hb2.mono hb'.size)
  clear hb' hb2 hcl hfz
  go_wp2
  go_ret
  exact ⟨rfl, hb3⟩

set_option maxRecDepth 100000 in
set_option maxHeartbeats 400000 in
theorem walk_no (a0 : Int) (a1 a2 : ByteArray) (b0 : 0 ≤ a0) (b1 : a0 ≤ 255) (h4 : (a0 % 8 == 4) = false) (h5 : (a0 % 8 == 5) = false) (ha : a1.size ≤ 140737488351232) (hc : a2.size ≤ 140737488351232) (w : World) :
    Calls Yba.prog 7 #[.int .u8 a0, .string a1, .string a2] w fun e w' => e = .returned (.bool true) ∧ Below w.heap.size w w' := by
  have H4 : Hid ((a0 % 8 == 4) = false) := h4
  have H5 : Hid ((a0 % 8 == 5) = false) := h5
  clear h4 h5
  go_enter Yba.func7, Yba.ntmps7
  go_wp2_with fail
  refine (userID_some a1 a2 ha hc (a0 % 8) H4.out H5.out _ _ _ _ _ _ _).mono ?_
  rintro e w1 ⟨⟨id, rfl⟩, hb⟩
  have hb' : Below w.heap.size w w1 := ((Below.refl _ _).alloc (Nat.le_refl _) _).trans (hb.mono (by simp))
  obtain ⟨hcl, hfz⟩ := bcell hb
  clear hb
  go_wp2_with fail
  refine (accountless_no a1 a2 (a0 % 8) H4.out H5.out _ _ _ _ _ _ _).mono ?_
  rintro e w2 ⟨rfl, hb2⟩
  have hb3 : Below w.heap.size w w2 := hb'.trans (hb2.mono hb'.size)
  clear hb' hb2 hcl hfz
  go_wp2
  go_ret
  exact ⟨rfl, hb3⟩

theorem walk (a0 : Int) (a1 : ByteArray) (a2 : ByteArray) (w0 : (Lit.int .u8 a0).wf = true) (w1 : a1.size ≤ reachBytes) (w2 : a2.size ≤ reachBytes) (w : World) :
    Calls Yba.prog 7 #[.int .u8 a0, .string a1, .string a2] w fun e w' => e = .returned (.bool true) ∧ Below w.heap.size w w' := by
  obtain ⟨b0, b1⟩ := bounds_u8 w0
  by_cases hk : a0 % 8 = 4 ∨ a0 % 8 = 5
  · exact walk_yes a0 a1 a2 b0 b1 hk w
  · exact walk_no a0 a1 a2 b0 b1 (by simp; omega) (by simp; omega) w1 w2 w

/-! ### The row's step: the shell's own, over 'Below', with the reach -/
set_option maxRecDepth 100000 in
theorem lifted (os : Os) (started : os.Started) (H : Type) (enc : TypeId × Value → H) :
    ReturnsInHanded {} Yba.checked os 7 .any (Rows.lawS0530CKnownMatchesAccountlessSpec.pre6 enc Yba.prog Yba.f7 Rows.lawS0530CKnownMatchesAccountlessRow.domain false) (Rows.lawS0530CKnownMatchesAccountlessSpec.post enc Yba.prog Yba.f7 false true false false) := by
  refine returnsInHanded_of_change_sized (C := Yba.checked) own started (by kernel_rfl) Yba.func7
    (ChangeSpec.witness6 (enc := enc) (C := Yba.checked) false ⟨#[], #[.int .u8 0, .string ByteArray.empty, .string ByteArray.empty], []⟩ 8 (by kernel_rfl) (by kernel_rfl) (by kernel_rfl) (by kernel_rfl)) ?_
  intro W base args ds gs before hval0 hW hcnd hsz0 _
  have hsz : (DataW.weightsEach Yba.prog (Yba.f7.params.toList ++ Rows.lawS0530CKnownMatchesAccountlessSpec.plain.varTypes Yba.prog) (ds ++ gs)).all (· ≤ reachBytes) = true := hsz0
  clear hsz0
  have hval : ∀ (j : Nat) t v, Yba.f7.params[j]? = some t → args[j]? = some v → Value.okWide Yba.prog W .any base t v := hval0
  have hW' := hW
  obtain ⟨p, q, hA0, hV, rfl, hfz, hnd⟩ := hW
  have hA : DataW.TrodAll enc Yba.prog W 0 (fun _ => true) true Yba.f7.params.toList args.toList ds p := hA0
  rw [Yba.params7] at hA hval hsz
  obtain ⟨v0, vs0, d0, ds0, p0, q0, hargs, rfl, rfl, h0, r0⟩ := trodAll_cons hA
  obtain ⟨v1, vs1, d1, ds1, p1, q1, rfl, rfl, rfl, h1, r1⟩ := trodAll_cons r0
  obtain ⟨v2, vs2, d2, ds2, p2, q2, rfl, rfl, rfl, h2, r2⟩ := trodAll_cons r1
  obtain ⟨rfl, rfl, rfl⟩ := trodAll_nil r2
  obtain rfl : args = #[v0, v1, v2] := by cases args; simp_all
  obtain ⟨rfl, rfl⟩ := trodVars_none hV
  obtain ⟨a0, rfl, rfl, rfl, w0⟩ := open_int Yba.underlying5 (hval 0 5 v0 rfl rfl) h0
  obtain ⟨a1, rfl, rfl, rfl, w1⟩ := open_string Yba.underlying9 (hval 1 9 v1 rfl rfl) h1
  obtain ⟨a2, rfl, rfl, rfl, w2⟩ := open_string Yba.underlying9 (hval 2 9 v2 rfl rfl) h2
  clear hA0 hval0
  simp only [List.append_nil] at hW'
  have g1 : a1.size ≤ reachBytes := by
    have := sized_string hsz (j := 1) (t := 9) rfl rfl
    simpa using this
  have g2 : a2.size ≤ reachBytes := by
    have := sized_string hsz (j := 2) (t := 9) rfl rfl
    simpa using this
  refine (walk a0 a1 a2 w0 g1 g2 W).mono fun e W' ⟨he, bel⟩ => ?_
  subst he
  exact ⟨_, rfl, _, _, _, [], [], [], hW', trodAll_mk1 (shut_bool Yba.underlying4 _), (trodAll_cons_mk (shut_int Yba.underlying5 w0) (trodAll_cons_mk (shut_string Yba.underlying9 w1) (trodAll_cons_mk (shut_string Yba.underlying9 w2) trodAll_mk0))), rfl, bel.frame _, fun h => by cases h⟩

theorem over : Rows.lawS0530CKnownMatchesAccountlessRow.holds Yba.pinned (OpenSpec.ofChange Rows.lawS0530CKnownMatchesAccountlessSpec) :=
  OpenClaim.holds_of_wide 7 Yba.f7 rfl rfl rfl rfl rfl rfl rfl ⟨rfl, rfl, rfl, rfl, rfl⟩ rfl rfl rfl rfl rfl (by kernel_rfl) Yba.func7 (by kernel_rfl)
    (of_decide_eq_true (by kernel_rfl)) (by unfold Func.isWrapper; first | (rw [if_pos (by decide +kernel)]; kernel_rfl) | (rw [if_neg (by decide +kernel)]; exact ⟨rfl, rfl⟩))
    (fun os started H enc _ => lifted os started H enc)

/-- ████ THE STATEMENT ████ -/
theorem proved : Rows.LawS0530CKnownMatchesAccountlessSaid :=
  over
#print axioms proved
end Go.Proofs.Ybulkjyk.lawS0530CKnownMatchesAccountless
