/-
  A proof of 'Rows.LawS0530ASingleSaid': 'func LawS0530ASingle(isNil bool, mode uint8, n uint8, name string) bool' returns true for every input. The frame is the given shell's; the walks are this seat's.
-/
import Derived.Test.YbulkjykRows
import Derived.WalkKit
import Derived.WalkSpells
import Derived.Lib.SliceRun
import Derived.ProofKit
import Derived.OpenShut
import Derived.ShutString
import Derived.ChangeOld
import Derived.Below
import Derived.Deep.QuietTactic
import Derived.BigQuiet
import Derived.WalkSmall
import Derived.LaidEqlPtr
import Derived.Lib.Builder
namespace Go.Proofs.Ybulkjyk.lawS0530ASingle
open Go.ChangeShapes Go.WideShapes Go.ChangeAt Go.RowKit
open Go.ChangeMaps (open_string shut_string)
set_option linter.unusedVariables false

theorem own : ownKnob Yba.prog.godebug = none := by kernel_rfl

theorem eqnil (w : World) (a : Option Addr) (n c n' c' : Nat) : (binOp .eql 22 (.slice a n c) (.slice none n' c')).run Yba.prog w = .ok (.bool a.isNone) w := Lib.run_eql_slice_nil w _ _ a n c n' c' Yba.underlying22
theorem nenil (w : World) (a : Option Addr) (n c n' c' : Nat) : (binOp .neq 22 (.slice a n c) (.slice none n' c')).run Yba.prog w = .ok (.bool (!a.isNone)) w := run_neq_slice_nil_any w _ _ a n c n' c' Yba.underlying22

theorem some28 : (Yba.prog.info? 28).isSome = true := by kernel_rfl
theorem some24 : (Yba.prog.info? 24).isSome = true := by kernel_rfl
theorem eqp (w : World) (a : Addr) : (binOp .eql 24 (.pointer (some a)) (.pointer (some a))).run Yba.prog w = .ok (.bool true) w := by
  obtain ⟨j, hj⟩ := Option.isSome_iff_exists.1 some28
  exact run_eql_ptr_same w a Yba.underlying24 hj
theorem nep (w : World) (a : Addr) : (binOp .neq 24 (.pointer (some a)) (.pointer (some a))).run Yba.prog w = .ok (.bool false) w := by
  obtain ⟨j, hj⟩ := Option.isSome_iff_exists.1 some28
  exact Lib.run_neq_ptr_same w a Yba.underlying24 hj
theorem nepp (w : World) (a : Addr) : (binOp .neq 29 (.pointer (some a)) (.pointer (some a))).run Yba.prog w = .ok (.bool false) w := by
  obtain ⟨j, hj⟩ := Option.isSome_iff_exists.1 some24
  exact Lib.run_neq_ptr_same w a Yba.underlying29 hj

theorem single_nil (w : World) : Calls Yba.prog 8 #[.pointer none] w fun e w' => e = .returned (.slice none 0 0) ∧ w' = w := by
  have q1 := eqnil
  have q2 := nenil
  go_enter Yba.func8, Yba.ntmps8
  go_wp2
  go_ret
  exact ⟨rfl, rfl⟩

theorem single_alone (b : Nat) (x : Addr) (n c : Nat) (w : World) (h : w.cell? ⟨b, 3, none⟩ = some (.slice (some x) n c)) :
    Calls Yba.prog 8 #[.pointer (some ⟨b, 0, none⟩)] w fun e w' => e = .returned (.slice (some x) n c) ∧ w' = w := by
  have q1 := eqnil
  have q2 := nenil
  go_enter Yba.func8, Yba.ntmps8
  go_wp2
  go_ret
  exact ⟨rfl, rfl⟩

theorem single_new (b : Nat) (w : World) (h : w.cell? ⟨b, 3, none⟩ = some (.slice none 0 0)) :
    Calls Yba.prog 8 #[.pointer (some ⟨b, 0, none⟩)] w fun e w' => e = .returned (.slice (some ⟨w.heap.size, 0, none⟩) 1 1) ∧ w' = w.alloc (.cells #[.pointer (some ⟨b, 0, none⟩)] 24) := by
  have q1 := eqnil
  have q2 := nenil
  go_enter Yba.func8, Yba.ntmps8
  go_wp2
  go_ret
  exact ⟨rfl, rfl⟩

theorem walk_nil (a1 : Int) (a2 : Int) (a3 : ByteArray) (w : World) :
    Calls Yba.prog 3 #[.bool true, .int .u8 a1, .int .u8 a2, .string a3] w fun e w' => e = .returned (.bool true) ∧ Below w.heap.size w w' := by
  have q1 := eqnil
  have q2 := nenil
  go_enter Yba.func3, Yba.ntmps3
  go_wp2_with (go_at_call 8; refine (single_nil _).mono ?_; rintro e w' ⟨rfl, rfl⟩)
  go_ret
  exact ⟨rfl, Below.refl _ _⟩

set_option maxRecDepth 100000 in
theorem walk_even (a1 : Int) (a2 : Int) (a3 : ByteArray) (w : World) (h1 : 0 ≤ a1) (h2 : a1 ≤ 255) (hm : a1 % 2 = 0) :
    Calls Yba.prog 3 #[.bool false, .int .u8 a1, .int .u8 a2, .string a3] w fun e w' => e = .returned (.bool true) ∧ Below w.heap.size w w' := by
  have q1 := eqnil
  have q2 := nenil
  have q3 := eqp
  have q4 := nep
  have q5 := nepp
  have hm' : (a1 % 2 == 0) = true := by simpa using hm
  clear hm
  go_enter Yba.func3, Yba.ntmps3
  go_wp2_with fail
  refine (single_new _ _ ?_).mono ?_
  · simp
  rintro e w' ⟨rfl, rfl⟩
  go_wp2
  go_ret
  exact ⟨rfl, ((Below.refl _ _).alloc (Nat.le_refl _) _).alloc (by simp) _⟩

def P1 (a : Addr) : Value := .pointer (some a)
/-- What holds at each round's head of the first loop. -/
def Rel1 (W1 : World) (B K : Nat) (v i : Value) (wr : World) (k g cap : Nat) (ps : List Addr) : Prop :=
  k ≤ K ∧ i = .int .i64 k ∧ v = .slice (some ⟨g, 0, none⟩) k cap ∧ wr.ownsRow (B + 1) 24 1 v k (ps.map P1) ∧ Below (B + 1) W1 wr ∧ B + 1 ≤ wr.heap.size

theorem Yba.info24 : (Yba.prog.info? 24).map (fun i => (i.zero, i.size, i.bytes)) = some (some (.pointer none), 1, 8) := by kernel_rfl

theorem shape (w : World) (base n : Nat) (v : Value) (xs : List Value) (h : w.ownsRow base 24 1 v n xs) (hv : ¬ v = .slice none 0 0) : ∃ g cap, v = .slice (some ⟨g, 0, none⟩) n cap := by
  obtain ⟨_, h2⟩ := h
  rcases h2 with ⟨h2, _⟩ | ⟨g, cap, cur, hv', _⟩
  · exact absurd h2 hv
  · exact ⟨g, cap, hv'⟩

theorem rel_step (W1 wx w' : World) (B k g cap : Nat) (xs : List Value) (a : Addr) (v' : Value) (hg : B + 1 ≤ g) (hb : Below (B + 1) W1 wx) (hz : B + 1 ≤ wx.heap.size)
    (hown : w'.ownsRow (B + 1) 24 1 v' (k + 1) (xs ++ [P1 a])) (hgrow : wx.grownBy w' (Value.slice (some ⟨g, 0, none⟩) k cap).ownBlock) (hv : ¬ v' = .slice none 0 0) :
    ∃ g' cap', v' = .slice (some ⟨g', 0, none⟩) (k + 1) cap' ∧ Below (B + 1) W1 w' ∧ B + 1 ≤ w'.heap.size := by
  obtain ⟨g', cap', hv'⟩ := shape _ _ _ _ _ hown hv
  refine ⟨g', cap', hv', hb.grown hgrow hz ?_, Nat.le_trans hz hgrow.size⟩
  intro r hr
  simp [Value.ownBlock] at hr
  omega

set_option maxRecDepth 100000 in
set_option maxHeartbeats 1000000 in
theorem walk_odd (a1 : Int) (a2 : Int) (a3 : ByteArray) (w : World) (h1 : 0 ≤ a1) (h2 : a1 ≤ 255) (hm : a1 % 2 = 1) (K : Nat) (hK : a2 % 5 ≤ K) (hK' : K ≤ a2 % 5) (hK4 : K ≤ 4) (h3 : 0 ≤ a2) (h4 : a2 ≤ 255) :
    Calls Yba.prog 3 #[.bool false, .int .u8 a1, .int .u8 a2, .string a3] w fun e w' => e = .returned (.bool true) ∧ Below w.heap.size w w' := by
  have q1 := eqnil
  have q2 := nenil
  have q3 := eqp
  have q4 := nep
  have q5 := nepp
  have hm' : (a1 % 2 == 0) = false := by simp; omega
  clear hm
  obtain ⟨i0, hi, hz0, hz1, hz2⟩ := info_parts Yba.info24
  go_enter Yba.func3, Yba.ntmps3
  go_wp2_with fail
  go_loopw [12, 13] (fun v i wr => ∃ k g cap ps, Rel1 (w.alloc (Obj.cells #[Value.string a3, Value.int IntKind.i64 0, Value.slice none 0 0, Value.slice none 0 0] 28)) w.heap.size K v i wr k g cap ps) (fun _ i _ => K - (intOf i).toNat)
  case atStart =>
    refine ⟨0, w.heap.size + 1, 0, [], by omega, rfl, rfl, ?_, ?_, ?_⟩
    · exact ⟨rfl, .inr ⟨w.heap.size + 1, 0, #[], rfl, Nat.le_refl _, by have h := heap_alloc_new (w.alloc (Obj.cells #[Value.string a3, Value.int IntKind.i64 0, Value.slice none 0 0, Value.slice none 0 0] 28)) (.cells #[] 24); simpa using h, by omega, by decide, rfl, rfl⟩⟩
    · exact (Below.refl _ _).alloc (by simp) _
    · simp
  case round =>
    obtain ⟨k, g, cap, ps, hk, rfl, rfl, hown, hbel, hsz⟩ := hrel
    have hg : w.heap.size + 1 ≤ g := (hown.lt g rfl).1
    by_cases hlt : k < K
    · by_cases hk0 : k = 0
      · subst hk0
        go_wp2_with (at_builtin; refine wpList_append_own _ rfl _ _ 22 rfl (w.heap.size + 1) 24 i0 (.pointer none) 1 8 Yba.underlying22 hi hz0 hz1 hz2 rfl (by decide) _ _ _ rfl (hown.alloc _) ⟨wr.heap.size, 0, none⟩ 1 1 [P1 ⟨w.heap.size, 0, none⟩] rfl rfl ?c1 ?c2 ?c3 ?c4 ?c5 ?_)
        case c1 =>
          intro j u hj
          match j, hj with
          | 0, hj => simp at hj; subst hj; simp [Addr.add, P1]
        case c2 => intro u hu; simp at hu; subst hu; rfl
        case c3 => unfold maxLen; omega
        case c4 => omega
        case c5 => simp; omega
        intro v' w1 hown' hgrow hv
        have R := rel_step _ _ _ _ 0 _ _ _ _ _ hg (hbel.alloc hsz _) (by simp; omega) hown' hgrow hv
        have hown2 : w1.ownsRow (w.heap.size + 1) 24 1 v' 1 ((ps ++ [(⟨w.heap.size, 0, none⟩ : Addr)]).map P1) := by simpa using hown'
        clear hown' hgrow hown hv
        obtain ⟨g', cap', hv', hb', hz'⟩ := R
        subst hv'
        go_wp2
        go_roundw
        case rel =>
          exact ⟨1, g', cap', _, by omega, by go_num, rfl, hown2, hb', hz'⟩
        case measure => simp [intOf]; omega
      · go_wp2_with (at_builtin; refine wpList_append_own _ rfl _ _ 22 rfl (w.heap.size + 1) 24 i0 (.pointer none) 1 8 Yba.underlying22 hi hz0 hz1 hz2 rfl (by decide) _ _ _ rfl ((hown.alloc _).alloc _) ⟨wr.heap.size + 1, 0, none⟩ 1 1 [P1 ⟨wr.heap.size, 0, none⟩] rfl rfl ?d1 ?d2 ?d3 ?d4 ?d5 ?_)
        case d1 =>
          intro j u hj
          match j, hj with
          | 0, hj => simp at hj; subst hj; simp [Addr.add, P1]
        case d2 => intro u hu; simp at hu; subst hu; rfl
        case d3 => unfold maxLen; omega
        case d4 => omega
        case d5 => simp; omega
        intro v' w1 hown' hgrow hv
        have R := rel_step _ _ _ _ k _ _ _ _ _ hg ((hbel.alloc hsz _).alloc (by simp; omega) _) (by simp; omega) hown' hgrow hv
        have hown2 : w1.ownsRow (w.heap.size + 1) 24 1 v' (k + 1) ((ps ++ [(⟨wr.heap.size, 0, none⟩ : Addr)]).map P1) := by simpa using hown'
        clear hown' hgrow hown hv
        obtain ⟨g', cap', hv', hb', hz'⟩ := R
        subst hv'
        go_wp2
        go_roundw
        case rel =>
          exact ⟨k + 1, g', cap', _, by omega, by go_num, rfl, hown2, hb', hz'⟩
        case measure => simp [intOf]; omega
    · have hc3 : wr.cell? ⟨w.heap.size, 3, none⟩ = some (.slice none 0 0) := by rw [hbel.cell (by simp)]; simp
      have hf3 : wr.frozen? ⟨w.heap.size, 3, none⟩ = false := by rw [hbel.frozen (by simp)]; simp
      go_wp2_with fail
      refine (single_alone w.heap.size ⟨g, 0, none⟩ k cap _ ?_).mono ?_
      · exact World.cell?_setCell_same _ _ _ hc3
      rintro e wy ⟨rfl, hwy⟩
      have hbY : Below w.heap.size w wy := by
        rw [hwy]
        exact ((((Below.refl _ _).alloc (Nat.le_refl _) _).trans (hbel.mono (by omega)))).setCell (Nat.le_refl _) _
      have hoY := ownsRow_setCell_below hown (a := ⟨w.heap.size, 3, none⟩) (by simp) (Value.slice (some { block := g, off := 0 }) k cap)
      rw [← hwy] at hoY
      have hcl : ∀ j, j < k → ∃ a, wy.cell? ⟨g, j, none⟩ = some (.pointer (some a)) := by
        intro j hj
        have hl : (ps.map P1).length = k := by have := hoY.1; omega
        have := hoY.cellAt j (by omega)
        rw [this]
        have hj' : j < ps.length := by simpa using (by omega : j < (ps.map P1).length)
        exact ⟨ps[j], by simp [P1, hj']⟩
      clear hoY hwy hown hbel hc3 hf3 hi hz0 hz1 hz2
      go_wp2_with fail
      go_loopw [15] (fun i wq => ∃ j n : Nat, j ≤ k ∧ i = .int .i64 j ∧ wq = wy.drewN n) (fun i _ => k - (intOf i).toNat)
      case atStart => exact ⟨0, 0, by omega, rfl, rfl⟩
      case round =>
        obtain ⟨j, n, hj, rfl, rfl⟩ := hrel
        by_cases hjk : j < k
        · obtain ⟨pa, hpa⟩ := hcl j hjk
          go_wp2_with fail
          go_quiet (fail)
          go_wp2
          go_roundw
          case rel => exact ⟨j + 1, _, by omega, by go_num, rfl⟩
          case measure => simp [intOf]; omega
        · by_cases hk0 : k = 0
          · have hd : decide ((0 : Int) < (k : Int)) = false := decide_eq_false (by omega)
            have hd2 : decide (0 < k) = false := decide_eq_false (by omega)
            clear hk0
            go_wp2_with fail
            go_quiet (fail)
            go_wp2
            go_ret
            exact ⟨rfl, below_drewN (below_drewN hbY _) _⟩
          · have hd : (0 : Int) < (k : Int) := by omega
            have hd2 : 0 < k := by omega
            clear hk0
            go_wp2_with fail
            go_quiet (fail)
            go_wp2
            go_ret
            exact ⟨rfl, below_drewN (below_drewN hbY _) _⟩

theorem walk (a0 : Bool) (a1 : Int) (a2 : Int) (a3 : ByteArray) (w1 : (Lit.int .u8 a1).wf = true) (w2 : (Lit.int .u8 a2).wf = true) (w3 : a3.size ≤ maxLen) (w : World) :
    Calls Yba.prog 3 #[.bool a0, .int .u8 a1, .int .u8 a2, .string a3] w fun e w' => e = .returned (.bool true) ∧ Below w.heap.size w w' := by
  obtain ⟨b1, b2⟩ := bounds_u8 w1
  obtain ⟨b3, b4⟩ := bounds_u8 w2
  cases a0
  · by_cases hm : a1 % 2 = 0
    · exact walk_even a1 a2 a3 w b1 b2 hm
    · exact walk_odd a1 a2 a3 w b1 b2 (by omega) (a2 % 5).toNat (by omega) (by omega) (by omega) b3 b4
  · exact walk_nil a1 a2 a3 w

/-! ### The row's step: the shell's own, with 'Below' in the place of 'Grown' -/
set_option maxRecDepth 100000 in
theorem lifted (os : Os) (started : os.Started) (H : Type) (enc : TypeId × Value → H) :
    ReturnsInHanded {} Yba.checked os 3 .any (Rows.lawS0530ASingleSpec.pre6 enc Yba.prog Yba.f3 Rows.lawS0530ASingleRow.domain false) (Rows.lawS0530ASingleSpec.post enc Yba.prog Yba.f3 false true false false) := by
  refine returnsInHanded_of_change (C := Yba.checked) own started (by kernel_rfl) Yba.func3
    (ChangeSpec.witness6 (enc := enc) (C := Yba.checked) false ⟨#[], #[.bool false, .int .u8 0, .int .u8 0, .string ByteArray.empty], []⟩ 8 (by kernel_rfl) (by kernel_rfl) (by kernel_rfl) (by kernel_rfl)) ?_
  intro W base args ds gs before hval0 hW hcnd _
  have hval : ∀ (j : Nat) t v, Yba.f3.params[j]? = some t → args[j]? = some v → Value.okWide Yba.prog W .any base t v := hval0
  have hW' := hW
  obtain ⟨p, q, hA0, hV, rfl, hfz, hnd⟩ := hW
  have hA : DataW.TrodAll enc Yba.prog W 0 (fun _ => true) true Yba.f3.params.toList args.toList ds p := hA0
  rw [Yba.params3] at hA hval
  obtain ⟨v0, vs0, d0, ds0, p0, q0, hargs, rfl, rfl, h0, r0⟩ := trodAll_cons hA
  obtain ⟨v1, vs1, d1, ds1, p1, q1, rfl, rfl, rfl, h1, r1⟩ := trodAll_cons r0
  obtain ⟨v2, vs2, d2, ds2, p2, q2, rfl, rfl, rfl, h2, r2⟩ := trodAll_cons r1
  obtain ⟨v3, vs3, d3, ds3, p3, q3, rfl, rfl, rfl, h3, r3⟩ := trodAll_cons r2
  obtain ⟨rfl, rfl, rfl⟩ := trodAll_nil r3
  obtain rfl : args = #[v0, v1, v2, v3] := by cases args; simp_all
  obtain ⟨rfl, rfl⟩ := trodVars_none hV
  obtain ⟨a0, rfl, rfl, rfl⟩ := open_bool Yba.underlying4 (hval 0 4 v0 rfl rfl) h0
  obtain ⟨a1, rfl, rfl, rfl, w1⟩ := open_int Yba.underlying5 (hval 1 5 v1 rfl rfl) h1
  obtain ⟨a2, rfl, rfl, rfl, w2⟩ := open_int Yba.underlying5 (hval 2 5 v2 rfl rfl) h2
  obtain ⟨a3, rfl, rfl, rfl, w3⟩ := open_string Yba.underlying9 (hval 3 9 v3 rfl rfl) h3
  clear hA0 hval0
  simp only [List.append_nil] at hW'
  refine (walk a0 a1 a2 a3 w1 w2 w3 W).mono fun e W' ⟨he, bel⟩ => ?_
  subst he
  exact ⟨_, rfl, _, _, _, [], [], [], hW', trodAll_mk1 (shut_bool Yba.underlying4 _), (trodAll_cons_mk (shut_bool Yba.underlying4 _) (trodAll_cons_mk (shut_int Yba.underlying5 w1) (trodAll_cons_mk (shut_int Yba.underlying5 w2) (trodAll_cons_mk (shut_string Yba.underlying9 w3) trodAll_mk0)))), rfl, bel.frame _, fun h => by cases h⟩

theorem over : Rows.lawS0530ASingleRow.holds Yba.pinned (OpenSpec.ofChange Rows.lawS0530ASingleSpec) :=
  OpenClaim.holds_of_wide 3 Yba.f3 rfl rfl rfl rfl rfl rfl rfl ⟨rfl, rfl, rfl, rfl, rfl⟩ rfl rfl rfl rfl rfl (by kernel_rfl) Yba.func3 (by kernel_rfl)
    (of_decide_eq_true (by kernel_rfl)) (by unfold Func.isWrapper; first | (rw [if_pos (by decide +kernel)]; kernel_rfl) | (rw [if_neg (by decide +kernel)]; exact ⟨rfl, rfl⟩))
    (fun os started H enc _ => lifted os started H enc)

/-- ████ THE STATEMENT ████ -/
theorem proved : Rows.LawS0530ASingleSaid :=
  over
#print axioms proved
end Go.Proofs.Ybulkjyk.lawS0530ASingle
