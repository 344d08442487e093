/-
  A proof of 'Rows.LawS0530BMappedSaid': 'func LawS0530BMapped(sel []uint8) bool' returns true for every input. The frame is the given shell's; the contracts of key, of the model and of the check stand in YbulkjykKeyB.
-/
import Derived.Test.YbulkjykRows
import Derived.Test.YbulkjykKeyB
import Derived.WalkSpells
import Derived.WalkSmall
import Derived.WalkKit
import Derived.ProofKit
import Derived.OpenShut
import Derived.ShutString
import Derived.ChangeOld
import Derived.Below
namespace Go.Proofs.Ybulkjyk.lawS0530BMapped
open Go.ChangeShapes Go.WideShapes Go.ChangeAt Go.RowKit
open Go.ChangeMaps (open_string shut_string)
set_option linter.unusedVariables false

theorem own : ownKnob Yba.prog.godebug = none := by kernel_rfl
theorem laidOut : laidOutB Yba.prog = true := by kernel_rfl

/-- WHAT THE WALK IS TOLD OF A SLICE OF INTEGERS THAT CAME IN: it is nil; or it leads to a row of 'cap' cells, the numbers 'zs' (the first 'len' are its elements, the rest its spare room), each fitting its kind. -/
def IsRow (k : IntKind) (w : World) (a : Option Addr) (len cap : Nat) (zs : List Int) : Prop :=
  (a = none ∧ len = 0 ∧ cap = 0 ∧ zs = []) ∨
  ∃ x, a = some x ∧ len ≤ cap ∧ cap ≤ maxLen ∧ zs.length = cap ∧ (∀ i, i < zs.length → w.cell? (x.add i) = some (.int k (zs.getD i 0))) ∧ ∀ n ∈ zs, (Lit.int k n).wf = true

theorem Yba.info21 : (Yba.prog.info? 21).map (fun i => (i.zero, i.size, i.bytes)) = some (some (.int .i32 0), 1, 4) := by kernel_rfl

theorem pick_any (x : Int) (w : World) (h0 : 0 ≤ x) (h1 : x ≤ 255) :
    Calls Yba.prog 9 #[.int .u8 x] w fun e w' => ∃ v : Int, e = .returned (.int .i32 v) ∧ w' = w := by
  go_enter Yba.func9, Yba.ntmps9
  go_wp2
  all_goals
    go_ret
    exact ⟨_, rfl, rfl⟩

theorem walk_long (a0 : Option Addr) (len0 cap0 : Nat) (w : World) (h : 1024 < len0) (h2 : len0 ≤ maxLen) :
    Calls Yba.prog 4 #[.slice a0 len0 cap0] w fun e w' => e = .returned (.bool true) ∧ Below w.heap.size w w' := by
  unfold maxLen at h2
  go_enter Yba.func4, Yba.ntmps4
  go_wp2
  go_ret
  exact ⟨rfl, Below.refl _ _⟩

/-- What holds at each round's head. -/
def Rel (w : World) (len0 : Nat) (v i : Value) (wr : World) (k : Nat) (xs : List Int) : Prop :=
  k ≤ len0 ∧ i = .int .i64 k ∧ v = .slice (some ⟨w.heap.size, 0, none⟩) k len0 ∧ wr.ownsRow w.heap.size 21 1 v k (xs.map (Value.int .i32)) ∧ Below w.heap.size w wr ∧ w.heap.size < wr.heap.size

theorem owns_cells {w : World} {g cap k : Nat} {xs : List Int} (h : w.ownsRow g 21 1 (.slice (some ⟨g, 0, none⟩) k cap) k (xs.map (Value.int .i32))) :
    ∀ j, j < k → w.cell? ⟨g, j, none⟩ = some (.int .i32 (xs.getD j 0)) := by
  intro j hj
  have hl := h.1
  rw [h.cellAt j (by omega)]
  have : j < xs.length := by simpa using (by omega : j < (xs.map (Value.int .i32)).length)
  simp [this]

theorem made (w w1 : World) (len0 : Nat) (hown : w1.ownsRow w.heap.size 21 1 (.slice (some ⟨w.heap.size, 0, none⟩) 0 len0) 0 []) (hgrow : w.grownBy w1 .none) : Rel w len0 (.slice (some ⟨w.heap.size, 0, none⟩) 0 len0) (.int .i64 0) w1 0 [] :=
  ⟨Nat.zero_le _, rfl, rfl, hown, (Below.refl _ _).grown hgrow (Nat.le_refl _) (fun k hk => by cases hk), (hown.lt w.heap.size rfl).2⟩

set_option maxRecDepth 100000 in
set_option maxHeartbeats 400000 in
theorem walk_short (b off len0 cap0 : Nat) (a0 : Option Addr) (f : Nat → Int) (w : World) (h : len0 ≤ 1024) (hx : ∀ j, 0 ≤ f j ∧ f j ≤ 255)
    (hc : ∀ i, i < len0 → w.cell? ⟨b, off + i, none⟩ = some (.int .u8 (f i))) (ha : a0 = some ⟨b, off, none⟩ ∨ len0 = 0) :
    Calls Yba.prog 4 #[.slice a0 len0 cap0] w fun e w' => e = .returned (.bool true) ∧ Below w.heap.size w w' := by
  obtain ⟨i0, hi, hz0, hz1, hz2⟩ := info_parts Yba.info21
  have HC : Hid (∀ i, i < len0 → w.cell? ⟨b, off + i, none⟩ = some (.int .u8 (f i))) := hc
  have HX : Hid (∀ j, 0 ≤ f j ∧ f j ≤ 255) := hx
  have HA : Hid (a0 = some ⟨b, off, none⟩ ∨ len0 = 0) := ha
  clear hc hx ha
  go_enter Yba.func4, Yba.ntmps4
  go_wp2_with (at_make; refine wpList_make_own _ rfl _ _ 33 rfl w.heap.size 21 i0 (.int .i32 0) 1 Yba.underlying33 hi hz0 hz1 .i64 .i64 _ len0 rfl rfl rfl ?b2 ?b3 ?b4 ?_)
  case b2 => rw [hz2]; omega
  case b3 => unfold maxLen; omega
  case b4 => omega
  intro w1 hown hgrow
  have R0 := made w w1 len0 hown hgrow
  clear hown hgrow
  go_wp2_with fail
  go_loopw [3, 4] (fun v i wr => ∃ k xs, Rel w len0 v i wr k xs) (fun _ i _ => len0 - (intOf i).toNat)
  case atStart => exact ⟨0, [], R0⟩
  case round =>
    obtain ⟨k, xs, hk, rfl, rfl, hown, hbel, hsz⟩ := hrel
    by_cases hlt : k < len0
    · have hck : wr.cell? ⟨b, off + k, none⟩ = some (.int .u8 (f k)) := by
        have := HC.out k hlt
        rw [hbel.cell (World.block_lt_of_cell? _ _ this), this]
      obtain ⟨x0, x1⟩ := HX.out k
      have ha : a0 = some ⟨b, off, none⟩ := by
        rcases HA.out with h | h
        · exact h
        · omega
      subst ha
      go_wp2_with fail
      refine (pick_any (f k) _ x0 x1).mono ?_
      rintro e w2 ⟨v, rfl, hw2⟩
      subst hw2
      clear hck x0 x1 HX HC HA
      go_wp2_with (at_builtin; refine wpList_append_fits _ rfl _ _ 33 rfl w.heap.size 21 i0 1 Yba.underlying33 hi hz1 w.heap.size k len0 _ rfl (hown.alloc _) ⟨w2.heap.size, 0, none⟩ 1 1 [.int .i32 v] rfl rfl ?c1 ?c2 ?c3 ?_)
      case c1 =>
        intro j u hj
        match j, hj with
        | 0, hj => simp at hj; subst hj; simp [Addr.add]
      case c2 => intro u hu; simp at hu; subst hu; rfl
      case c3 => omega
      intro w3 hown' hgrow
      have hown2 : w3.ownsRow w.heap.size 21 1 (.slice (some ⟨w.heap.size, 0, none⟩) (k + 1) len0) (k + 1) ((xs ++ [v]).map (Value.int .i32)) := by simpa using hown'
      have hb3 : Below w.heap.size w w3 := (hbel.alloc (by omega) _).grown hgrow (by simp; omega) (fun r hr => by simp at hr; omega)
      have hz3 : w.heap.size < w3.heap.size := (hown2.lt w.heap.size rfl).2
      clear hown' hgrow hown hbel
      go_wp2
      go_roundw
      case rel => exact ⟨k + 1, _, by omega, by go_num, rfl, hown2, hb3, hz3⟩
      case measure => simp [intOf]; omega
    · have hcs := owns_cells hown
      have HCS : Hid (∀ j, j < k → wr.cell? ⟨w.heap.size, j, none⟩ = some (.int .i32 (xs.getD j 0))) := hcs
      clear hcs hown
      go_wp2_with fail
      refine (keyB.check_any (fun j => xs.getD j 0) w.heap.size k len0 _ (by omega) hk HCS.out).mono ?_
      rintro e w3 ⟨rfl, m, rfl⟩
      go_wp2
      go_ret
      exact ⟨rfl, below_drewN hbel _⟩

theorem walk (a0 : Option Addr) (len0 cap0 : Nat) (z0 : List Int) (w : World) (w0 : IsRow .u8 w a0 len0 cap0 z0) :
    Calls Yba.prog 4 #[.slice a0 len0 cap0] w fun e w' => e = .returned (.bool true) ∧ Below w.heap.size w w' := by
  rcases w0 with ⟨rfl, rfl, rfl, rfl⟩ | ⟨x, rfl, hl, hm, hz, hc, hwf⟩
  · exact walk_short 0 0 0 0 _ (fun _ => 0) w (by omega) (fun _ => by omega) (fun i h => absurd h (by omega)) (.inr rfl)
  · by_cases h : len0 ≤ 1024
    · obtain ⟨b, off, spot⟩ := x
      by_cases hl0 : len0 = 0
      · subst hl0
        exact walk_short 0 0 0 cap0 _ (fun _ => 0) w (by omega) (fun _ => by omega) (fun i h => absurd h (by omega)) (.inr rfl)
      · have hspot : spot = .none := by simpa [Addr.add] using World.cell?_spot (hc 0 (by omega))
        subst hspot
        refine walk_short b off len0 cap0 _ (fun j => z0.getD j 0) w h (fun j => ?_) (fun i hi => ?_) (.inl rfl)
        · have := range_u8 hwf j
          simpa using this
        · have := hc i (by omega)
          rw [add_plain] at this
          exact this
    · exact walk_long (some x) len0 cap0 w (by omega) (by omega)

/-! ### The row's step: the shell's own -/
set_option maxRecDepth 100000 in
theorem lifted (os : Os) (started : os.Started) (H : Type) (enc : TypeId × Value → H) :
    ReturnsInHanded {} Yba.checked os 4 .any (Rows.lawS0530BMappedSpec.pre6 enc Yba.prog Yba.f4 Rows.lawS0530BMappedRow.domain false) (Rows.lawS0530BMappedSpec.post enc Yba.prog Yba.f4 false true false false) := by
  refine returnsInHanded_of_change (C := Yba.checked) own started (by kernel_rfl) Yba.func4
    (ChangeSpec.witness6 (enc := enc) (C := Yba.checked) false ⟨#[], #[.slice none 0 0], []⟩ 8 (by kernel_rfl) (by kernel_rfl) (by kernel_rfl) (by kernel_rfl)) ?_
  intro W base args ds gs before hval0 hW hcnd _
  have hval : ∀ (j : Nat) t v, Yba.f4.params[j]? = some t → args[j]? = some v → Value.okWide Yba.prog W .any base t v := hval0
  have hW' := hW
  obtain ⟨p, q, hA0, hV, rfl, hfz, hnd⟩ := hW
  have hA : DataW.TrodAll enc Yba.prog W 0 (fun _ => true) true Yba.f4.params.toList args.toList ds p := hA0
  rw [Yba.params4] at hA hval
  obtain ⟨v0, vs0, d0, ds0, p0, q0, hargs, rfl, rfl, h0, r0⟩ := trodAll_cons hA
  obtain ⟨rfl, rfl, rfl⟩ := trodAll_nil r0
  obtain rfl : args = #[v0] := by cases args; simp_all
  obtain ⟨rfl, rfl⟩ := trodVars_none hV
  obtain ⟨a0, len0, cap0, rfl⟩ := okWide_slice Yba.underlying31 (hval 0 31 v0 rfl rfl)
  have k0 := h0
  have lt0 : ∀ x ∈ p0, x.block < W.heap.size := by obtain ⟨m, hm⟩ := k0; exact DataW.trod_lt m _ _ _ hm
  obtain ⟨z0, w0⟩ : ∃ zs, IsRow .u8 W a0 len0 cap0 zs := by
    obtain ⟨fuel, hf⟩ := h0
    rcases open_ints Yba.underlying31 Yba.underlying5 (by kernel_rfl) hf with ⟨hcs, _⟩ | ⟨x, l, c, zs, hcs, _, hl, hm, hz, _, hcell, hwz⟩
    · simp [Value.cells] at hcs
      obtain ⟨rfl, rfl, rfl⟩ := hcs
      exact ⟨[], .inl ⟨rfl, rfl, rfl, rfl⟩⟩
    · simp [Value.cells] at hcs
      obtain ⟨rfl, rfl, rfl⟩ := hcs
      exact ⟨zs, .inr ⟨_, rfl, hl, hm, by simpa using hz, hcell, hwz⟩⟩
  clear hA0 hval0
  refine (walk a0 len0 cap0 z0 W w0).mono fun e W' ⟨he, bel⟩ => ?_
  subst he
  exact ⟨_, rfl, _, _, _, [], _, [], hW', trodAll_mk1 (shut_bool Yba.underlying4 _), (trodAll_cons_mk (Below.trod laidOut (by kernel_rfl) (of_decide_eq_true (by kernel_rfl)) k0 bel lt0) trodAll_mk0), rfl, bel.frame _, fun h => by cases h⟩

theorem over : Rows.lawS0530BMappedRow.holds Yba.pinned (OpenSpec.ofChange Rows.lawS0530BMappedSpec) :=
  OpenClaim.holds_of_wide 4 Yba.f4 rfl rfl rfl rfl rfl rfl rfl ⟨rfl, rfl, rfl, rfl, rfl⟩ rfl rfl rfl rfl rfl (by kernel_rfl) Yba.func4 (by kernel_rfl)
    (of_decide_eq_true (by kernel_rfl)) (by unfold Func.isWrapper; first | (rw [if_pos (by decide +kernel)]; kernel_rfl) | (rw [if_neg (by decide +kernel)]; exact ⟨rfl, rfl⟩))
    (fun os started H enc _ => lifted os started H enc)

/-- ████ THE STATEMENT ████ -/
theorem proved : Rows.LawS0530BMappedSaid := over
#print axioms proved
end Go.Proofs.Ybulkjyk.lawS0530BMapped
