/-
  A proof of 'Rows.LawS0530BRawSaid': 'func LawS0530BRaw(rs []int32) bool' returns true for every input. The frame is the given shell's; the contracts of key, of the model and of the check stand in YbulkjykKeyB.
-/
import Derived.Test.YbulkjykRows
import Derived.Test.YbulkjykKeyB
import Derived.Laws.CopyOwn
import Derived.WalkSpells
import Derived.WalkSmall
import Derived.WalkKit
import Derived.ProofKit
import Derived.OpenShut
import Derived.ShutString
import Derived.ChangeOld
import Derived.Below
namespace Go.Proofs.Ybulkjyk.lawS0530BRaw
open Go.ChangeShapes Go.WideShapes Go.ChangeAt Go.RowKit
open Go.ChangeMaps (open_string shut_string)
set_option linter.unusedVariables false

theorem own : ownKnob Yba.prog.godebug = none := by kernel_rfl
theorem laidOut : laidOutB Yba.prog = true := by kernel_rfl

/-- WHAT THE WALK IS TOLD OF A SLICE OF INTEGERS THAT CAME IN: it is nil; or it leads to a row of 'cap' cells, the numbers 'zs' (the first 'len' are its elements, the rest its spare room), each fitting its kind. -/
def IsRow (k : IntKind) (w : World) (a : Option Addr) (len cap : Nat) (zs : List Int) : Prop :=
  (a = none ∧ len = 0 ∧ cap = 0 ∧ zs = []) ∨
  ∃ x, a = some x ∧ len ≤ cap ∧ cap ≤ maxLen ∧ zs.length = cap ∧ (∀ i, i < zs.length → w.cell? (x.add i) = some (.int k (zs.getD i 0))) ∧ ∀ n ∈ zs, (Lit.int k n).wf = true

theorem Yba.info21 : (Yba.prog.info? 21).map (fun i => (i.zero, i.size, i.bytes)) = some (some (.int .i32 0), 1, 4) := by kernel_rfl
theorem Yba.size21 : (Yba.prog.info? 21).map (·.size) = some 1 := by kernel_rfl

theorem walk_long (a0 : Option Addr) (len0 cap0 : Nat) (w : World) (h : 1024 < len0) (h2 : len0 ≤ maxLen) :
    Calls Yba.prog 5 #[.slice a0 len0 cap0] w fun e w' => e = .returned (.bool true) ∧ Below w.heap.size w w' := by
  unfold maxLen at h2
  go_enter Yba.func5, Yba.ntmps5
  go_wp2
  go_ret
  exact ⟨rfl, Below.refl _ _⟩

theorem splice_all {α : Type} (L cs : List α) (h : cs.length = L.length) : splice L 0 cs = cs := by
  simp [splice, h]

set_option maxRecDepth 10000 in
set_option maxHeartbeats 400000 in
theorem walk_short (a0 : Option Addr) (len0 cap0 : Nat) (zs : List Int) (w : World) (h : len0 ≤ 1024) (hz : zs.length = len0)
    (hs : 0 < len0 → ∃ x, a0 = some x ∧ ∀ i, i < len0 → w.cell? (x.add i) = some (.int .i32 (zs.getD i 0))) :
    Calls Yba.prog 5 #[.slice a0 len0 cap0] w fun e w' => e = .returned (.bool true) ∧ Below w.heap.size w w' := by
  obtain ⟨i0, hi, hz0, hz1, hz2⟩ := info_parts Yba.info21
  have HS : Hid (0 < len0 → ∃ x, a0 = some x ∧ ∀ i, i < len0 → w.cell? (x.add i) = some (.int .i32 (zs.getD i 0))) := hs
  have HZ : Hid (zs.length = len0) := hz
  clear hs hz
  go_enter Yba.func5, Yba.ntmps5
  go_wp2_with (first | (at_make; refine wpList_make_full _ rfl _ _ 33 rfl w.heap.size 21 i0 (.int .i32 0) 1 Yba.underlying33 hi hz0 hz1 .i64 .i64 _ _ len0 rfl rfl rfl rfl ?b2 ?b3 ?b4 ?_))
  case b2 => rw [hz2]; omega
  case b3 => unfold maxLen; omega
  case b4 => omega
  intro w1 hown hgrow
  have hb1 : Below w.heap.size w w1 := (Below.refl _ _).grown hgrow (Nat.le_refl _) (fun k hk => by cases hk)
  obtain ⟨cur, hcur, hsz⟩ : ∃ cur : List Value, w1.heap[w.heap.size]? = some (.cells cur.toArray 21 (0, 0)) ∧ cur.length = len0 := by
    obtain ⟨_, h2⟩ := hown
    rcases h2 with ⟨h2, _⟩ | ⟨g, cap, cur, hv, _, hh, _, _, hsz, _⟩
    · cases h2
    · cases hv
      exact ⟨cur.toList, by simpa using hh, by simpa using hsz⟩
  have HC : Hid (w1.heap[w.heap.size]? = some (.cells cur.toArray 21 (0, 0))) := hcur
  have HM : Hid (cur.length = len0) := hsz
  have K1 : Hid ((zs.map (Value.int .i32)).length = Nat.min len0 len0) := by show _ = _; simp [HZ.out]
  have K2 : Hid (0 < (zs.map (Value.int .i32)).length → (some (⟨w.heap.size, 0, none⟩ : Addr)) = some ⟨w.heap.size, 0, none⟩ ∧ ∃ ad, a0 = some ad ∧ ∀ j v, (zs.map (Value.int .i32))[j]? = some v → w1.cell? (ad.add j) = some v) := by
    intro hp
    refine ⟨rfl, ?_⟩
    obtain ⟨x, hx, hc⟩ := HS.out (by simpa [HZ.out] using hp)
    refine ⟨x, hx, fun j v hv => ?_⟩
    have hj : j < zs.length := by
      have := (List.getElem?_eq_some_iff.1 hv).1
      simpa using this
    have hcj := hc j (by rw [← HZ.out]; exact hj)
    rw [hb1.cell (World.block_lt_of_cell? _ _ hcj), hcj, ← hv]
    simp [hj]
  have K3 : Hid (0 + (zs.map (Value.int .i32)).length ≤ cur.length) := by show _ ≤ _; simp [HZ.out, HM.out]
  have K4 : Hid (∀ v ∈ zs.map (Value.int .i32), v.oneCell' = true) := by
    intro v hv; simp at hv; obtain ⟨z, _, rfl⟩ := hv; rfl
  clear hown hgrow hcur hsz hi hz0 hz1 hz2
  go_wp2_with (refine wpList_copy_splice rfl (.tmp 10) (.tmp 11) 33 32 rfl 21 Yba.underlying33 Yba.size21 _ _ _ _ _ _ rfl rfl w.heap.size 0 cur 21 HC.out (zs.map (Value.int .i32)) K1.out K2.out K3.out K4.out w.heap.size w hb1 (Nat.le_refl _) ?_)
  intro w2 hrow hb2
  have hc : ∀ j, j < len0 → w2.cell? ⟨w.heap.size, j, none⟩ = some (.int .i32 (zs.getD j 0)) := by
    intro j hj
    have hr := hrow.out
    rw [splice_all _ _ (by simp [HZ.out, HM.out])] at hr
    have hj' : j < zs.length := by rw [HZ.out]; exact hj
    simp [World.cell?, hr, hj']
  clear hrow HC HM K1 K2 K3 K4 HS hb1
  have HC : Hid (∀ j, j < len0 → w2.cell? ⟨w.heap.size, j, none⟩ = some (.int .i32 (zs.getD j 0))) := hc
  clear hc
  go_wp2_with fail
  refine (keyB.check_any (fun j => zs.getD j 0) w.heap.size len0 len0 _ h (Nat.le_refl _) HC.out).mono ?_
  rintro e w3 ⟨rfl, m, rfl⟩
  go_wp2
  go_ret
  exact ⟨rfl, below_drewN hb2 _⟩

theorem walk (a0 : Option Addr) (len0 cap0 : Nat) (z0 : List Int) (w : World) (w0 : IsRow .i32 w a0 len0 cap0 z0) :
    Calls Yba.prog 5 #[.slice a0 len0 cap0] w fun e w' => e = .returned (.bool true) ∧ Below w.heap.size w w' := by
  rcases w0 with ⟨rfl, rfl, rfl, rfl⟩ | ⟨x, rfl, hl, hm, hz, hc, _⟩
  · exact walk_short none 0 0 [] w (by omega) rfl (fun h => absurd h (by omega))
  · by_cases h : len0 ≤ 1024
    · refine walk_short (some x) len0 cap0 (z0.take len0) w h (by simp; omega) (fun _ => ⟨x, rfl, fun i hi => ?_⟩)
      rw [hc i (by omega)]
      simp [hi]
    · exact walk_long (some x) len0 cap0 w (by omega) (by omega)

/-! ### The row's step: the shell's own -/
set_option maxRecDepth 100000 in
theorem lifted (os : Os) (started : os.Started) (H : Type) (enc : TypeId × Value → H) :
    ReturnsInHanded {} Yba.checked os 5 .any (Rows.lawS0530BRawSpec.pre6 enc Yba.prog Yba.f5 Rows.lawS0530BRawRow.domain false) (Rows.lawS0530BRawSpec.post enc Yba.prog Yba.f5 false true false false) := by
  refine returnsInHanded_of_change (C := Yba.checked) own started (by kernel_rfl) Yba.func5
    (ChangeSpec.witness6 (enc := enc) (C := Yba.checked) false ⟨#[], #[.slice none 0 0], []⟩ 8 (by kernel_rfl) (by kernel_rfl) (by kernel_rfl) (by kernel_rfl)) ?_
  intro W base args ds gs before hval0 hW hcnd _
  have hval : ∀ (j : Nat) t v, Yba.f5.params[j]? = some t → args[j]? = some v → Value.okWide Yba.prog W .any base t v := hval0
  have hW' := hW
  obtain ⟨p, q, hA0, hV, rfl, hfz, hnd⟩ := hW
  have hA : DataW.TrodAll enc Yba.prog W 0 (fun _ => true) true Yba.f5.params.toList args.toList ds p := hA0
  rw [Yba.params5] at hA hval
  obtain ⟨v0, vs0, d0, ds0, p0, q0, hargs, rfl, rfl, h0, r0⟩ := trodAll_cons hA
  obtain ⟨rfl, rfl, rfl⟩ := trodAll_nil r0
  obtain rfl : args = #[v0] := by cases args; simp_all
  obtain ⟨rfl, rfl⟩ := trodVars_none hV
  obtain ⟨a0, len0, cap0, rfl⟩ := okWide_slice Yba.underlying32 (hval 0 32 v0 rfl rfl)
  have k0 := h0
  have lt0 : ∀ x ∈ p0, x.block < W.heap.size := by obtain ⟨m, hm⟩ := k0; exact DataW.trod_lt m _ _ _ hm
  obtain ⟨z0, w0⟩ : ∃ zs, IsRow .i32 W a0 len0 cap0 zs := by
    obtain ⟨fuel, hf⟩ := h0
    rcases open_ints Yba.underlying32 Yba.underlying21 (by kernel_rfl) hf with ⟨hcs, _⟩ | ⟨x, l, c, zs, hcs, _, hl, hm, hz, _, hcell, hwz⟩
    · simp [Value.cells] at hcs
      obtain ⟨rfl, rfl, rfl⟩ := hcs
      exact ⟨[], .inl ⟨rfl, rfl, rfl, rfl⟩⟩
    · simp [Value.cells] at hcs
      obtain ⟨rfl, rfl, rfl⟩ := hcs
      exact ⟨zs, .inr ⟨_, rfl, hl, hm, by simpa using hz, hcell, hwz⟩⟩
  clear hA0 hval0
  refine (walk a0 len0 cap0 z0 W w0).mono fun e W' ⟨he, bel⟩ => ?_
  subst he
  exact ⟨_, rfl, _, _, _, [], _, [], hW', trodAll_mk1 (shut_bool Yba.underlying4 _), (trodAll_cons_mk (Below.trod laidOut (by kernel_rfl) (of_decide_eq_true (by kernel_rfl)) k0 bel lt0) trodAll_mk0), rfl, bel.frame _, fun h => by cases h⟩

theorem over : Rows.lawS0530BRawRow.holds Yba.pinned (OpenSpec.ofChange Rows.lawS0530BRawSpec) :=
  OpenClaim.holds_of_wide 5 Yba.f5 rfl rfl rfl rfl rfl rfl rfl ⟨rfl, rfl, rfl, rfl, rfl⟩ rfl rfl rfl rfl rfl (by kernel_rfl) Yba.func5 (by kernel_rfl)
    (of_decide_eq_true (by kernel_rfl)) (by unfold Func.isWrapper; first | (rw [if_pos (by decide +kernel)]; kernel_rfl) | (rw [if_neg (by decide +kernel)]; exact ⟨rfl, rfl⟩))
    (fun os started H enc _ => lifted os started H enc)

/-- ████ THE STATEMENT ████ -/
theorem proved : Rows.LawS0530BRawSaid := over
#print axioms proved
end Go.Proofs.Ybulkjyk.lawS0530BRaw
