/-
  A proof of 'Rows.LawS0530CTableSaid': 'func LawS0530CTable(kind int, arn string, account string, username string) bool' returns true for every input. The frame is the given shell's, with 'Below' in the place of 'Grown'; the contracts stand in YbulkjykCallerC.
-/
import Derived.Test.YbulkjykRows
import Derived.Test.YbulkjykCallerC
import Derived.Below
import Derived.ChangeOld
import Derived.WalkKit
import Derived.ProofKit
import Derived.OpenShut
import Derived.ShutString
namespace Go.Proofs.Ybulkjyk.lawS0530CTable
open Go.ChangeShapes Go.WideShapes Go.ChangeAt Go.RowKit
open Go.ChangeMaps (open_string shut_string)
set_option linter.unusedVariables false

theorem own : ownKnob Yba.prog.godebug = none := by kernel_rfl

open callerC

set_option maxRecDepth 100000 in
theorem walk_long1 (a0 : Int) (a1 a2 a3 : ByteArray) (h : 1048576 < a1.size) (w1 : a1.size ≤ 9223372036854775807) (w : World) :
    Calls Yba.prog 6 #[.int .i64 a0, .string a1, .string a2, .string a3] w fun e w' => e = .returned (.bool true) ∧ Below w.heap.size w w' := by
  go_enter Yba.func6, Yba.ntmps6
  go_wp2
  go_ret
  exact ⟨rfl, Below.refl _ _⟩

set_option maxRecDepth 100000 in
theorem walk_long2 (a0 : Int) (a1 a2 a3 : ByteArray) (h1 : a1.size ≤ 1048576) (h : 1048576 < a2.size) (w2 : a2.size ≤ 9223372036854775807) (w : World) :
    Calls Yba.prog 6 #[.int .i64 a0, .string a1, .string a2, .string a3] w fun e w' => e = .returned (.bool true) ∧ Below w.heap.size w w' := by
  go_enter Yba.func6, Yba.ntmps6
  go_wp2
  go_ret
  exact ⟨rfl, Below.refl _ _⟩

set_option maxRecDepth 100000 in
set_option maxHeartbeats 400000 in
theorem walk_acc (a0 : Int) (a1 a2 a3 : ByteArray) (h1 : a1.size ≤ 1048576) (h2 : a2.size ≤ 1048576) (hk : a0 = 4 ∨ a0 = 5) (w : World) :
    Calls Yba.prog 6 #[.int .i64 a0, .string a1, .string a2, .string a3] w fun e w' => e = .returned (.bool true) ∧ Below w.heap.size w w' := by
  rcases hk with rfl | rfl
  · go_enter Yba.func6, Yba.ntmps6
    go_wp2_with fail
    refine (userID_acc a1 a2 4 (.inl rfl) _ _ _ _ _ _ _).mono ?_
    rintro e w1 ⟨rfl, hb⟩
    have hb' : Below w.heap.size w w1 := ((Below.refl _ _).alloc (Nat.le_refl _) _).trans (hb.mono (by simp))
    clear hb
    go_wp2
    go_ret
    exact ⟨rfl, hb'⟩
  · go_enter Yba.func6, Yba.ntmps6
    go_wp2_with fail
    refine (userID_acc a1 a2 5 (.inr rfl) _ _ _ _ _ _ _).mono ?_
    rintro e w1 ⟨rfl, hb⟩
    have hb' : Below w.heap.size w w1 := ((Below.refl _ _).alloc (Nat.le_refl _) _).trans (hb.mono (by simp))
    clear hb
    go_wp2
    go_ret
    exact ⟨rfl, hb'⟩

set_option maxRecDepth 100000 in
set_option maxHeartbeats 400000 in
theorem walk_root (a1 a2 a3 : ByteArray) (h1 : a1.size ≤ 1048576) (h2 : a2.size ≤ 1048576) (w : World) :
    Calls Yba.prog 6 #[.int .i64 0, .string a1, .string a2, .string a3] w fun e w' => e = .returned (.bool true) ∧ Below w.heap.size w w' := by
  go_enter Yba.func6, Yba.ntmps6
  go_wp2_with fail
  refine (userID_root a1 a2 _ _ _ _ _ _ _).mono ?_
  rintro e w1 ⟨rfl, hb⟩
  have hb' : Below w.heap.size w w1 := ((Below.refl _ _).alloc (Nat.le_refl _) _).trans (hb.mono (by simp))
  clear hb
  go_wp2
  go_ret
  exact ⟨rfl, hb'⟩

set_option maxRecDepth 100000 in
set_option maxHeartbeats 400000 in
theorem walk_else (a0 : Int) (a1 a2 a3 : ByteArray) (h1 : a1.size ≤ 1048576) (h2 : a2.size ≤ 1048576) (h4 : (a0 == 4) = false) (h5 : (a0 == 5) = false) (h0 : (a0 == 0) = false) (h3 : (a0 == 3) = false) (w : World) :
    Calls Yba.prog 6 #[.int .i64 a0, .string a1, .string a2, .string a3] w fun e w' => e = .returned (.bool true) ∧ Below w.heap.size w w' := by
  go_enter Yba.func6, Yba.ntmps6
  go_wp2_with fail
  refine (userID_else a1 a2 a0 h4 h5 h0 h3 _ _ _ _ _ _ _).mono ?_
  rintro e w1 ⟨rfl, hb⟩
  have hb' : Below w.heap.size w w1 := ((Below.refl _ _).alloc (Nat.le_refl _) _).trans (hb.mono (by simp))
  clear hb
  go_wp2
  go_ret
  exact ⟨rfl, hb'⟩

set_option maxRecDepth 100000 in
set_option maxHeartbeats 400000 in
theorem walk_fed (a1 a2 a3 : ByteArray) (h1 : a1.size ≤ 1048576) (h2 : a2.size ≤ 1048576) (w : World) :
    Calls Yba.prog 6 #[.int .i64 3, .string a1, .string a2, .string a3] w fun e w' => e = .returned (.bool true) ∧ Below w.heap.size w w' := by
  go_enter Yba.func6, Yba.ntmps6
  go_wp2_with fail
  refine (userID_fed a1 a2 (by omega) (by omega) _ _ _ _ _ _ _).mono ?_
  rintro e w1 ⟨rfl, hb⟩
  have hb' : Below w.heap.size w w1 := ((Below.refl _ _).alloc (Nat.le_refl _) _).trans (hb.mono (by simp))
  clear hb
  go_wp2_with fail
  refine (clast_any a1 (by omega) _).mono ?_
  rintro e w2 ⟨rfl, rfl⟩
  go_wp2
  go_ret
  exact ⟨rfl, hb'⟩

theorem walk (a0 : Int) (a1 : ByteArray) (a2 : ByteArray) (a3 : ByteArray) (w0 : (Lit.int .i64 a0).wf = true) (w1 : a1.size ≤ maxLen) (w2 : a2.size ≤ maxLen) (w3 : a3.size ≤ maxLen) (w : World) :
    Calls Yba.prog 6 #[.int .i64 a0, .string a1, .string a2, .string a3] w fun e w' => e = .returned (.bool true) ∧ Below w.heap.size w w' := by
  unfold maxLen at w1 w2
  by_cases h1 : a1.size ≤ 1048576
  · by_cases h2 : a2.size ≤ 1048576
    · by_cases hk : a0 = 4 ∨ a0 = 5
      · exact walk_acc a0 a1 a2 a3 h1 h2 hk w
      · by_cases h0 : a0 = 0
        · subst h0
          exact walk_root a1 a2 a3 h1 h2 w
        · by_cases h3 : a0 = 3
          · subst h3
            exact walk_fed a1 a2 a3 h1 h2 w
          · exact walk_else a0 a1 a2 a3 h1 h2 (by simp; omega) (by simp; omega) (by simpa using h0) (by simpa using h3) w
    · exact walk_long2 a0 a1 a2 a3 h1 (by omega) w2 w
  · exact walk_long1 a0 a1 a2 a3 (by omega) w1 w

/-! ### The row's step: the shell's own, over 'Below' -/
set_option maxRecDepth 100000 in
theorem lifted (os : Os) (started : os.Started) (H : Type) (enc : TypeId × Value → H) :
    ReturnsInHanded {} Yba.checked os 6 .any (Rows.lawS0530CTableSpec.pre6 enc Yba.prog Yba.f6 Rows.lawS0530CTableRow.domain false) (Rows.lawS0530CTableSpec.post enc Yba.prog Yba.f6 false true false false) := by
  refine returnsInHanded_of_change (C := Yba.checked) own started (by kernel_rfl) Yba.func6
    (ChangeSpec.witness6 (enc := enc) (C := Yba.checked) false ⟨#[], #[.int .i64 0, .string ByteArray.empty, .string ByteArray.empty, .string ByteArray.empty], []⟩ 8 (by kernel_rfl) (by kernel_rfl) (by kernel_rfl) (by kernel_rfl)) ?_
  intro W base args ds gs before hval0 hW hcnd _
  have hval : ∀ (j : Nat) t v, Yba.f6.params[j]? = some t → args[j]? = some v → Value.okWide Yba.prog W .any base t v := hval0
  have hW' := hW
  obtain ⟨p, q, hA0, hV, rfl, hfz, hnd⟩ := hW
  have hA : DataW.TrodAll enc Yba.prog W 0 (fun _ => true) true Yba.f6.params.toList args.toList ds p := hA0
  rw [Yba.params6] at hA hval
  obtain ⟨v0, vs0, d0, ds0, p0, q0, hargs, rfl, rfl, h0, r0⟩ := trodAll_cons hA
  obtain ⟨v1, vs1, d1, ds1, p1, q1, rfl, rfl, rfl, h1, r1⟩ := trodAll_cons r0
  obtain ⟨v2, vs2, d2, ds2, p2, q2, rfl, rfl, rfl, h2, r2⟩ := trodAll_cons r1
  obtain ⟨v3, vs3, d3, ds3, p3, q3, rfl, rfl, rfl, h3, r3⟩ := trodAll_cons r2
  obtain ⟨rfl, rfl, rfl⟩ := trodAll_nil r3
  obtain rfl : args = #[v0, v1, v2, v3] := by cases args; simp_all
  obtain ⟨rfl, rfl⟩ := trodVars_none hV
  obtain ⟨a0, rfl, rfl, rfl, w0⟩ := open_int Yba.underlying3 (hval 0 3 v0 rfl rfl) h0
  obtain ⟨a1, rfl, rfl, rfl, w1⟩ := open_string Yba.underlying9 (hval 1 9 v1 rfl rfl) h1
  obtain ⟨a2, rfl, rfl, rfl, w2⟩ := open_string Yba.underlying9 (hval 2 9 v2 rfl rfl) h2
  obtain ⟨a3, rfl, rfl, rfl, w3⟩ := open_string Yba.underlying9 (hval 3 9 v3 rfl rfl) h3
  clear hA0 hval0
  simp only [List.append_nil] at hW'
  refine (walk a0 a1 a2 a3 w0 w1 w2 w3 W).mono fun e W' ⟨he, bel⟩ => ?_
  subst he
  exact ⟨_, rfl, _, _, _, [], [], [], hW', trodAll_mk1 (shut_bool Yba.underlying4 _), (trodAll_cons_mk (shut_int Yba.underlying3 w0) (trodAll_cons_mk (shut_string Yba.underlying9 w1) (trodAll_cons_mk (shut_string Yba.underlying9 w2) (trodAll_cons_mk (shut_string Yba.underlying9 w3) trodAll_mk0)))), rfl, bel.frame _, fun h => by cases h⟩

theorem over : Rows.lawS0530CTableRow.holds Yba.pinned (OpenSpec.ofChange Rows.lawS0530CTableSpec) :=
  OpenClaim.holds_of_wide 6 Yba.f6 rfl rfl rfl rfl rfl rfl rfl ⟨rfl, rfl, rfl, rfl, rfl⟩ rfl rfl rfl rfl rfl (by kernel_rfl) Yba.func6 (by kernel_rfl)
    (of_decide_eq_true (by kernel_rfl)) (by unfold Func.isWrapper; first | (rw [if_pos (by decide +kernel)]; kernel_rfl) | (rw [if_neg (by decide +kernel)]; exact ⟨rfl, rfl⟩))
    (fun os started H enc _ => lifted os started H enc)

/-- ████ THE STATEMENT ████ -/
theorem proved : Rows.LawS0530CTableSaid :=
  over
#print axioms proved
end Go.Proofs.Ybulkjyk.lawS0530CTable
