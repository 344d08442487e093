/-
  A proof of 'Rows.LawS0537AModelSaid': 'func LawS0537AModel(index []uint16, offs []uint16, reaches []uint16, off uint16, limit int) bool' returns true for every input. The frame is the given shell's; the contracts of '(*suffixTable).at' stand in YbulkkceTableA.
-/
import Derived.Test.YbulkkceRows
import Derived.Test.YbulkkceTableA
import Derived.WalkSpells
import Derived.WalkSmall
import Derived.Laws.AppendOwnNone
import Derived.WalkKit
import Derived.ProofKit
import Derived.OpenShut
import Derived.ShutString
import Derived.ChangeOld
import Derived.Below
namespace Go.Proofs.Ybulkkce.lawS0537AModel
open Go.ChangeShapes Go.WideShapes Go.ChangeAt Go.RowKit
open Go.ChangeMaps (open_string shut_string)
set_option linter.unusedVariables false

theorem own : ownKnob Yba.prog.godebug = none := by kernel_rfl
theorem laidOut : laidOutB Yba.prog = true := by kernel_rfl

/-- WHAT THE WALK IS TOLD OF A SLICE OF INTEGERS THAT CAME IN: it is nil; or it leads to a row of 'cap' cells, the numbers 'zs' (the first 'len' are its elements, the rest its spare room), each fitting its kind. -/
def IsRow (k : IntKind) (w : World) (a : Option Addr) (len cap : Nat) (zs : List Int) : Prop :=
  (a = none ∧ len = 0 ∧ cap = 0 ∧ zs = []) ∨
  ∃ x, a = some x ∧ len ≤ cap ∧ cap ≤ maxLen ∧ zs.length = cap ∧ (∀ i, i < zs.length → w.cell? (x.add i) = some (.int k (zs.getD i 0))) ∧ ∀ n ∈ zs, (Lit.int k n).wf = true

open tableA

/-- What 'append([]uint16(nil), index...)' leaves: the elements in new memory, or nil where there is none. -/
def Copied (B m : Nat) (f : Nat → Int) (v : Value) (w' : World) : Prop :=
  ∃ ao cp, v = .slice ao m cp ∧ (0 < m → ∃ g, ao = some ⟨g, 0, none⟩ ∧ B ≤ g ∧ g < w'.heap.size ∧ ∀ j, j < m → w'.cell? ⟨g, j, none⟩ = some (.int .u16 (f j)))

theorem copied_of {w' : World} {B m : Nat} {f : Nat → Int} {v : Value} {xs : List Value} (h : w'.ownsRow B 23 1 v m xs) (hx : ∀ j, j < m → xs[j]? = some (.int .u16 (f j))) : Copied B m f v w' := by
  have h0 := h
  obtain ⟨_, h2⟩ := h
  rcases h2 with ⟨rfl, rfl⟩ | ⟨g, cap, cur, rfl, hg, hh, _⟩
  · exact ⟨none, 0, rfl, fun h => absurd h (by omega)⟩
  · refine ⟨_, cap, rfl, fun _ => ⟨g, rfl, hg, lt_of_block hh, fun j hj => ?_⟩⟩
    rw [h0.cellAt j (by omega), hx j hj]

/-- 'append([]uint16(nil), src...)', src whatever. -/
theorem wpList_copied {ops : Array Oper} {rest : List Oper} {o : Oper} {a : Act} {Q : Exit → Act → World → Prop} {w : World} (hgd : o.guard = none) (s x : Operand)
    (ho : o.op = .call { callee := .builtin .append, args := #[s, x], argTypes := #[22, 22] }) (ax : Option Addr) (m c : Nat) (f : Nat → Int) (hm : m ≤ 1024)
    (hs : a.eval s = .slice none 0 0) (hx : a.eval x = .slice ax m c) (hax : (ax = none ∧ m = 0 ∧ c = 0) ∨ ∃ ad, ax = some ad ∧ ∀ j, j < m → w.cell? (ad.add j) = some (.int .u16 (f j)))
    (h : ∀ v' w', Copied w.heap.size m f v' w' → Below w.heap.size w w' → wpList Yba.prog ops Q rest (a.put o.dst v') w') : wpList Yba.prog ops Q (o :: rest) a w := by
  obtain ⟨i0, hi, hz0, hz1, hz2⟩ := info_parts Yba.info23
  rcases hax with ⟨rfl, rfl, rfl⟩ | ⟨ad, rfl, hc⟩
  · refine wpList_append_own_none hgd s x 22 ho w.heap.size 23 i0 1 Yba.underlying22 hi (.slice none 0 0) 0 [] hs (World.ownsRow_nil _ _ _ _) hx ?_
    exact h _ _ ⟨none, 0, rfl, fun h => absurd h (by omega)⟩ (Below.refl _ _)
  · have hnews : ∀ j u, ((List.range m).map fun j => Value.int .u16 (f j))[j]? = some u → w.cell? (ad.add j) = some u := by
      intro j u hu
      obtain ⟨hj, rfl⟩ := List.getElem?_eq_some_iff.1 hu
      have hj' : j < m := by simpa using hj
      rw [hc j hj']
      simp
    refine wpList_append_own w hgd s x 22 ho w.heap.size 23 i0 (.int .u16 0) 1 2 Yba.underlying22 hi hz0 hz1 hz2 rfl (by decide) (.slice none 0 0) 0 [] hs (World.ownsRow_nil _ _ _ _) ad m c
      ((List.range m).map fun j => Value.int .u16 (f j)) hx (by simp) hnews (by intro u hu; simp at hu; obtain ⟨_, _, rfl⟩ := hu; rfl) (by unfold maxLen; omega) (by omega) (Nat.le_refl _) ?_
    intro v' w' hown hgrow _
    refine h v' w' (copied_of (xs := (List.range m).map fun j => Value.int .u16 (f j)) (by simpa using hown) (fun j hj => by simp [hj])) ((Below.refl _ _).grown hgrow (Nat.le_refl _) (fun k hk => by cases hk))

/-- The suffixes in new memory, the first k of them written. -/
structure Kept (w : World) (g n k : Nat) (F R : Nat → Int) : Prop where
  all : ∀ o, o < n * 5 → ∃ u, w.cell? ⟨g, o, none⟩ = some u
  free : ∀ o, w.frozen? ⟨g, o, none⟩ = false
  off : ∀ j, j < k → w.cell? ⟨g, j * 5 + 1, none⟩ = some (.int .u16 (F j))
  rch : ∀ j, j < k → w.cell? ⟨g, j * 5 + 4, none⟩ = some (.int .u16 (R j))

theorem kept_made {w : World} {base g n : Nat} {xs : List Value} (h : w.ownsRow base 27 5 (.slice (some ⟨g, 0, none⟩) n n) n xs) (F R : Nat → Int) : Kept w g n 0 F R where
  all o ho := by
    have hl := h.1
    rw [h.cellAt o ho]
    exact ⟨xs[o]'(by omega), List.getElem?_eq_getElem (by omega)⟩
  free o := h.frozenAt o
  off j hj := absurd hj (Nat.not_lt_zero _)
  rch j hj := absurd hj (Nat.not_lt_zero _)

theorem cell_put {w : World} {g o : Nat} {u : Value} (v : Value) (p : Nat) (h : w.cell? ⟨g, o, none⟩ = some u) : (w.setCell ⟨g, o, none⟩ v).cell? ⟨g, p, none⟩ = if p = o then some v else w.cell? ⟨g, p, none⟩ := by
  by_cases e : p = o
  · subst e
    rw [if_pos rfl]
    exact World.cell?_setCell_same _ _ _ h
  · rw [if_neg e]
    exact World.cell?_setCell_other _ _ _ _ (by intro h; cases h; exact e rfl)

/-- Five cells in a row are written. -/
def put5 (w : World) (g o : Nat) (v0 v1 v2 v3 v4 : Value) : World :=
  ((((w.setCell ⟨g, o, none⟩ v0).setCell ⟨g, o + 1, none⟩ v1).setCell ⟨g, o + 2, none⟩ v2).setCell ⟨g, o + 3, none⟩ v3).setCell ⟨g, o + 4, none⟩ v4

theorem cell_put5 {w : World} {g o : Nat} (v0 v1 v2 v3 v4 : Value) (p : Nat) (h : ∀ q, q < 5 → ∃ u, w.cell? ⟨g, o + q, none⟩ = some u) :
    (put5 w g o v0 v1 v2 v3 v4).cell? ⟨g, p, none⟩ = if p = o + 4 then some v4 else if p = o + 3 then some v3 else if p = o + 2 then some v2 else if p = o + 1 then some v1 else if p = o then some v0 else w.cell? ⟨g, p, none⟩ := by
  obtain ⟨u0, d0⟩ := h 0 (by omega)
  obtain ⟨u1, d1⟩ := h 1 (by omega)
  obtain ⟨u2, d2⟩ := h 2 (by omega)
  obtain ⟨u3, d3⟩ := h 3 (by omega)
  obtain ⟨u4, d4⟩ := h 4 (by omega)
  rw [Nat.add_zero] at d0
  have x1 : (w.setCell ⟨g, o, none⟩ v0).cell? ⟨g, o + 1, none⟩ = some u1 := by rw [cell_put _ _ d0, if_neg (by omega), d1]
  have x2 : ((w.setCell ⟨g, o, none⟩ v0).setCell ⟨g, o + 1, none⟩ v1).cell? ⟨g, o + 2, none⟩ = some u2 := by rw [cell_put _ _ x1, if_neg (by omega), cell_put _ _ d0, if_neg (by omega), d2]
  have x3 : (((w.setCell ⟨g, o, none⟩ v0).setCell ⟨g, o + 1, none⟩ v1).setCell ⟨g, o + 2, none⟩ v2).cell? ⟨g, o + 3, none⟩ = some u3 := by rw [cell_put _ _ x2, if_neg (by omega), cell_put _ _ x1, if_neg (by omega), cell_put _ _ d0, if_neg (by omega), d3]
  have x4 : ((((w.setCell ⟨g, o, none⟩ v0).setCell ⟨g, o + 1, none⟩ v1).setCell ⟨g, o + 2, none⟩ v2).setCell ⟨g, o + 3, none⟩ v3).cell? ⟨g, o + 4, none⟩ = some u4 := by rw [cell_put _ _ x3, if_neg (by omega), cell_put _ _ x2, if_neg (by omega), cell_put _ _ x1, if_neg (by omega), cell_put _ _ d0, if_neg (by omega), d4]
  unfold put5
  rw [cell_put _ _ x4, cell_put _ _ x3, cell_put _ _ x2, cell_put _ _ x1, cell_put _ _ d0]

theorem frozen_put5 (w : World) (g o : Nat) (v0 v1 v2 v3 v4 : Value) (a : Addr) : (put5 w g o v0 v1 v2 v3 v4).frozen? a = w.frozen? a := by
  unfold put5
  simp only [World.frozen?_setCell]

theorem below_put5 {B g : Nat} {a w : World} (h : Below B a w) (hg : B ≤ g) (o : Nat) (v0 v1 v2 v3 v4 : Value) : Below B a (put5 w g o v0 v1 v2 v3 v4) :=
  ((((h.setCell hg v0).setCell hg v1).setCell hg v2).setCell hg v3).setCell hg v4

theorem size_put5 (w : World) (g o : Nat) (v0 v1 v2 v3 v4 : Value) : (put5 w g o v0 v1 v2 v3 v4).heap.size = w.heap.size := by
  unfold put5
  simp [World.setCell]

theorem kept_step {w : World} {g n k : Nat} {F R : Nat → Int} (h : Kept w g n k F R) (hk : k < n) (v0 v2 v3 : Value) (z : Int) (hz : z = R k) : Kept (put5 w g (k * 5) v0 (.int .u16 (F k)) v2 v3 (.int .u16 z)) g n (k + 1) F R := by
  have hq : ∀ q, q < 5 → ∃ u, w.cell? ⟨g, k * 5 + q, none⟩ = some u := fun q hq => h.all _ (by omega)
  refine ⟨fun o ho => ?_, fun o => ?_, fun j hj => ?_, fun j hj => ?_⟩
  · obtain ⟨u, hu⟩ := h.all o ho
    rw [cell_put5 _ _ _ _ _ _ hq, hu]
    repeat' split
    all_goals exact ⟨_, rfl⟩
  · rw [frozen_put5, h.free]
  · rw [cell_put5 _ _ _ _ _ _ hq]
    by_cases e : j = k
    · subst e
      rw [if_neg (by omega), if_neg (by omega), if_neg (by omega), if_pos rfl]
    · rw [if_neg (by omega), if_neg (by omega), if_neg (by omega), if_neg (by omega), if_neg (by omega), h.off j (by omega)]
  · rw [cell_put5 _ _ _ _ _ _ hq]
    by_cases e : j = k
    · subst e
      rw [if_pos rfl, hz]
    · rw [if_neg (by omega), if_neg (by omega), if_neg (by omega), if_neg (by omega), if_neg (by omega), h.rch j (by omega)]

set_option maxRecDepth 100000 in
set_option maxHeartbeats 400000 in
theorem walk_short (a0 a1 a2 : Option Addr) (len0 cap0 len1 cap1 len2 cap2 p1 q1 p2 q2 : Nat) (I F G : Nat → Int) (a3 a4 : Int) (w : World) (h0 : len0 ≤ 1024) (h1 : len1 ≤ 1024) (h2 : len2 ≤ 9223372036854775807) (uI : U16 I) (uF : U16 F) (uG : U16 G)
    (s0 : (a0 = none ∧ len0 = 0 ∧ cap0 = 0) ∨ ∃ ad, a0 = some ad ∧ ∀ j, j < len0 → w.cell? (ad.add j) = some (.int .u16 (I j)))
    (s1 : len1 = 0 ∨ (a1 = some ⟨p1, q1, none⟩ ∧ ∀ j, j < len1 → w.cell? ⟨p1, q1 + j, none⟩ = some (.int .u16 (F j))))
    (s2 : len2 = 0 ∨ (a2 = some ⟨p2, q2, none⟩ ∧ ∀ j, j < len2 → w.cell? ⟨p2, q2 + j, none⟩ = some (.int .u16 (G j))))
    (b3 : 0 ≤ a3) (b3' : a3 ≤ 65535) :
    Calls Yba.prog 3 #[.slice a0 len0 cap0, .slice a1 len1 cap1, .slice a2 len2 cap2, .int .u16 a3, .int .i64 a4] w fun e w' => e = .returned (.bool true) ∧ Below w.heap.size w w' := by
  obtain ⟨i0, hi, hz0, hz1, hz2⟩ := info_parts Yba.info27
  have HS0 : Hid ((a0 = none ∧ len0 = 0 ∧ cap0 = 0) ∨ ∃ ad, a0 = some ad ∧ ∀ j, j < len0 → w.cell? (ad.add j) = some (.int .u16 (I j))) := s0
  have HS1 : Hid (len1 = 0 ∨ (a1 = some ⟨p1, q1, none⟩ ∧ ∀ j, j < len1 → w.cell? ⟨p1, q1 + j, none⟩ = some (.int .u16 (F j)))) := s1
  have HS2 : Hid (len2 = 0 ∨ (a2 = some ⟨p2, q2, none⟩ ∧ ∀ j, j < len2 → w.cell? ⟨p2, q2 + j, none⟩ = some (.int .u16 (G j)))) := s2
  clear s0 s1 s2
  go_enter Yba.func3, Yba.ntmps3
  go_wp2_with (at_builtin; refine wpList_copied rfl _ _ rfl a0 len0 cap0 I h0 rfl rfl HS0.out ?_)
  intro v w1 hcop hb1
  obtain ⟨ao, cp, hv, hcop⟩ := hcop
  subst hv
  have HCP : Hid (0 < len0 → ∃ g, ao = some ⟨g, 0, none⟩ ∧ w.heap.size ≤ g ∧ g < w1.heap.size ∧ ∀ j, j < len0 → w1.cell? ⟨g, j, none⟩ = some (.int .u16 (I j))) := hcop
  clear hcop
  go_wp2_with (at_make; refine wpList_make_full _ rfl _ _ 24 rfl w1.heap.size 27 i0 _ 5 Yba.underlying24 hi hz0 hz1 .i64 .i64 _ _ len1 rfl rfl rfl rfl ?m2 ?m3 ?m4 ?_)
  case m2 => rw [hz2]; omega
  case m3 => unfold maxLen; omega
  case m4 => exact Nat.le_refl _
  intro w2 hown hgrow
  have hb2 : Below w1.heap.size w1 w2 := (Below.refl _ _).grown hgrow (Nat.le_refl _) (fun k hk => by cases hk)
  have hk2 := kept_made hown F (fun j => if j < len2 then G j else 0)
  have hg2 : w1.heap.size < w2.heap.size := (hown.lt _ rfl).2
  clear hown hgrow hi hz0 hz1 hz2
  go_wp2_with fail
  go_loopw [35] (fun i wr => ∃ k : Nat, k ≤ len1 ∧ i = .int .i64 k ∧ Kept wr w1.heap.size len1 k F (fun j => if j < len2 then G j else 0) ∧ Below w1.heap.size w1 wr ∧ w1.heap.size < wr.heap.size) (fun i _ => len1 - (intOf i).toNat)
  case atStart => exact ⟨0, by omega, rfl, hk2, hb2, hg2⟩
  case round =>
    clear hb2 hk2 hg2
    obtain ⟨k, hk, rfl, hK, hbr, hgr⟩ := hrel
    by_cases hlt : k < len1
    · obtain ⟨e1, hs1⟩ : a1 = some ⟨p1, q1, none⟩ ∧ ∀ j, j < len1 → w.cell? ⟨p1, q1 + j, none⟩ = some (.int .u16 (F j)) := by
        rcases HS1.out with h | h
        · omega
        · exact h
      subst e1
      have hbw : Below w.heap.size w wr := hb1.trans (hbr.mono hb1.size)
      have c1 : wr.cell? ⟨p1, q1 + k, none⟩ = some (.int .u16 (F k)) := by
        have := hs1 k hlt
        rw [hbw.cell (World.block_lt_of_cell? _ _ this), this]
      obtain ⟨u0, d0⟩ := hK.all (k * 5) (by omega)
      obtain ⟨u1, d1⟩ := hK.all (k * 5 + 1) (by omega)
      obtain ⟨u2, d2⟩ := hK.all (k * 5 + 2) (by omega)
      obtain ⟨u3, d3⟩ := hK.all (k * 5 + 3) (by omega)
      obtain ⟨u4, d4⟩ := hK.all (k * 5 + 4) (by omega)
      have f0 := hK.free (k * 5)
      have f1 := hK.free (k * 5 + 1)
      have f2 := hK.free (k * 5 + 2)
      have f3 := hK.free (k * 5 + 3)
      have f4 := hK.free (k * 5 + 4)
      clear hs1
      by_cases hl2 : k < len2
      · obtain ⟨e2, hs2⟩ : a2 = some ⟨p2, q2, none⟩ ∧ ∀ j, j < len2 → w.cell? ⟨p2, q2 + j, none⟩ = some (.int .u16 (G j)) := by
          rcases HS2.out with h | h
          · omega
          · exact h
        subst e2
        have c2 : wr.cell? ⟨p2, q2 + k, none⟩ = some (.int .u16 (G k)) := by
          have := hs2 k hl2
          rw [hbw.cell (World.block_lt_of_cell? _ _ this), this]
        clear hs2
        have R5 := kept_step hK hlt (.pointer none) (.int .u8 0) (.int .u8 0) (G k) (by simp [hl2])
        have B5 : Below w1.heap.size w1 (put5 wr w1.heap.size (k * 5) (.pointer none) (.int .u16 (F k)) (.int .u8 0) (.int .u8 0) (.int .u16 (G k))) := below_put5 hbr (Nat.le_refl _) _ _ _ _ _ _
        have Z5 := size_put5 wr w1.heap.size (k * 5) (.pointer none) (.int .u16 (F k)) (.int .u8 0) (.int .u8 0) (.int .u16 (G k))
        have RR : Hid (Kept (put5 wr w1.heap.size (k * 5) (.pointer none) (.int .u16 (F k)) (.int .u8 0) (.int .u8 0) (.int .u16 (G k))) w1.heap.size len1 (k + 1) F (fun j => if j < len2 then G j else 0) ∧ Below w1.heap.size w1 (put5 wr w1.heap.size (k * 5) (.pointer none) (.int .u16 (F k)) (.int .u8 0) (.int .u8 0) (.int .u16 (G k))) ∧ w1.heap.size < (put5 wr w1.heap.size (k * 5) (.pointer none) (.int .u16 (F k)) (.int .u8 0) (.int .u8 0) (.int .u16 (G k))).heap.size) := ⟨R5, B5, by rw [Z5]; exact hgr⟩
        clear R5 B5 Z5 hK hbr hbw
        go_wp2
        go_roundw
        case rel => exact ⟨k + 1, by omega, by go_num, RR.out⟩
        case measure => simp [intOf]; omega
      · have R5 := kept_step hK hlt (.pointer none) (.int .u8 0) (.int .u8 0) 0 (by simp [hl2])
        have B5 : Below w1.heap.size w1 (put5 wr w1.heap.size (k * 5) (.pointer none) (.int .u16 (F k)) (.int .u8 0) (.int .u8 0) (.int .u16 0)) := below_put5 hbr (Nat.le_refl _) _ _ _ _ _ _
        have Z5 := size_put5 wr w1.heap.size (k * 5) (.pointer none) (.int .u16 (F k)) (.int .u8 0) (.int .u8 0) (.int .u16 0)
        have RR : Hid (Kept (put5 wr w1.heap.size (k * 5) (.pointer none) (.int .u16 (F k)) (.int .u8 0) (.int .u8 0) (.int .u16 0)) w1.heap.size len1 (k + 1) F (fun j => if j < len2 then G j else 0) ∧ Below w1.heap.size w1 (put5 wr w1.heap.size (k * 5) (.pointer none) (.int .u16 (F k)) (.int .u8 0) (.int .u8 0) (.int .u16 0)) ∧ w1.heap.size < (put5 wr w1.heap.size (k * 5) (.pointer none) (.int .u16 (F k)) (.int .u8 0) (.int .u8 0) (.int .u16 0)).heap.size) := ⟨R5, B5, by rw [Z5]; exact hgr⟩
        clear R5 B5 Z5 hK hbr hbw
        go_wp2
        go_roundw
        case rel => exact ⟨k + 1, by omega, by go_num, RR.out⟩
        case measure => simp [intOf]; omega
    · obtain rfl : k = len1 := by omega
      have hbw : Below w.heap.size w wr := hb1.trans (hbr.mono hb1.size)
      have hmod : 0 ≤ a3 % ((len0 : Int) + 1) ∧ a3 % ((len0 : Int) + 1) ≤ len0 := by
        have := Int.emod_nonneg a3 (by omega : (len0 : Int) + 1 ≠ 0)
        have := Int.emod_lt_of_pos a3 (by omega : 0 < (len0 : Int) + 1)
        omega
      have T : Tbl (wr.alloc (Obj.cells #[Value.bool false, Value.int IntKind.i64 0, Value.slice ao len0 cp, Value.slice (some ⟨w1.heap.size, 0, none⟩) k k, Value.pointer none, Value.int IntKind.i64 0, Value.int IntKind.i64 0, Value.int IntKind.u16 0] 31))
          wr.heap.size ao len0 cp w1.heap.size k k I F (fun j => if j < len2 then G j else 0) := by
        refine ⟨by simp, by simp, fun h => ?_, fun j hj => ?_, fun j hj => ?_, uI, uF, fun j => ?_⟩
        · obtain ⟨gi, e, _, hgi, hc⟩ := HCP.out h
          refine ⟨gi, e, fun j hj => ?_⟩
          rw [World.cell?_alloc_past _ _ _ (by show gi < _; omega), hbr.cell (by exact hgi), hc j hj]
        · rw [World.cell?_alloc_past _ _ _ hgr, hK.off j hj]
        · rw [World.cell?_alloc_past _ _ _ hgr, hK.rch j hj]
        · by_cases h : j < len2
          · simpa [h] using uG j
          · simp [h]
      clear hK HS0 HS1 HS2 HCP
      have HT := T
      obtain ⟨hT⟩ : Nonempty (Hid (Tbl (wr.alloc (Obj.cells #[Value.bool false, Value.int IntKind.i64 0, Value.slice ao len0 cp, Value.slice (some ⟨w1.heap.size, 0, none⟩) k k, Value.pointer none, Value.int IntKind.i64 0, Value.int IntKind.i64 0, Value.int IntKind.u16 0] 31))
          wr.heap.size ao len0 cp w1.heap.size k k I F (fun j => if j < len2 then G j else 0))) := ⟨T⟩
      clear T HT
      go_wp2_with fail
      generalize a3 % ((len0 : Int) + 1) = q at hmod ⊢
      obtain ⟨o, rfl⟩ : ∃ o : Nat, q = o := ⟨q.toNat, by omega⟩
      by_cases hf : ∃ i, tableA.Found len0 k I F (fun j => if j < len2 then G j else 0) o a4 i
      · obtain ⟨i, hf⟩ := hf
        refine (at_found hT.out h0 h1 o i a4 hf).mono ?_
        rintro e w3 ⟨rfl, hw3⟩
        have T3 := hT.out
        rw [← hw3] at T3
        have hb3 : Below w.heap.size w w3 := by rw [hw3]; exact hbw.alloc hbw.size _
        clear hT hw3 hbw hbr
        obtain ⟨g1, g2, g3, g4, g5⟩ := hf
        obtain ⟨gi, e0, hidx⟩ := T3.idx (by omega)
        subst e0
        have ci : w3.cell? ⟨gi, o, none⟩ = some (.int .u16 (i : Int)) := by rw [hidx o g1, g2]
        have cy : w3.cell? ⟨w1.heap.size, i * 5 + 1, none⟩ = some (.int .u16 (o : Int)) := by rw [T3.off i g3, g4]
        have cz : w3.cell? ⟨w1.heap.size, i * 5 + 4, none⟩ = some (.int .u16 (if i < len2 then G i else 0)) := T3.rch i g3
        obtain ⟨z, hz⟩ : ∃ z, z = (if i < len2 then G i else 0) := ⟨_, rfl⟩
        rw [← hz] at cz
        have bz : 0 ≤ z ∧ z ≤ 65535 := by rw [hz]; exact T3.uR i
        have g5' : z < a4 := by rw [hz]; exact g5
        clear hz g5 T3 hidx g2 g4
        go_wp2_with fail
        go_loop [18, 76] (fun vw vi => ∃ j : Nat, j ≤ k ∧ vi = .int .i64 j ∧ ((j ≤ i ∧ vw = .pointer none) ∨ (i < j ∧ vw = .pointer (some ⟨w1.heap.size, i * 5, none⟩)))) (fun _ vi => k - (intOf vi).toNat)
        case atStart => exact ⟨0, by omega, rfl, .inl ⟨by omega, rfl⟩⟩
        case round =>
          obtain ⟨j, hj, rfl, hv⟩ := hrel
          rcases hv with ⟨hle, rfl⟩ | ⟨hgt, rfl⟩
          · by_cases hji : j = i
            · subst hji
              go_wp2
              go_round
              case rel => exact ⟨j + 1, by omega, by go_num, .inr ⟨by omega, rfl⟩⟩
              case measure => simp [intOf]; omega
            · have hne : ((j : Int) == (i : Int)) = false := by simp; omega
              go_wp2
              go_round
              case rel => exact ⟨j + 1, by omega, by go_num, .inl ⟨by omega, rfl⟩⟩
              case measure => simp [intOf]; omega
          · have hne : ((j : Int) == (i : Int)) = false := by simp; omega
            by_cases hjk : j < k
            · go_wp2
              go_round
              case rel => exact ⟨j + 1, by omega, by go_num, .inr ⟨by omega, rfl⟩⟩
              case measure => simp [intOf]; omega
            · have q3 := eqp
              go_wp2
              go_ret
              exact ⟨rfl, hb3⟩
      · refine (at_none hT.out h0 h1 o (by omega) a4 (fun i hi => hf ⟨i, hi⟩)).mono ?_
        rintro e w3 ⟨rfl, hw3⟩
        have T3 := hT.out
        rw [← hw3] at T3
        have hb3 : Below w.heap.size w w3 := by rw [hw3]; exact hbw.alloc hbw.size _
        clear hT hw3 hbw hbr
        by_cases hoL : o < len0
        · obtain ⟨gi, e0, hidx⟩ := T3.idx (by omega)
          subst e0
          have ci := hidx o hoL
          obtain ⟨bI0, bI1⟩ := T3.uI o
          have HT : Hid (Tbl w3 wr.heap.size (some ⟨gi, 0, none⟩) len0 cp w1.heap.size k k I F (fun j => if j < len2 then G j else 0)) := T3
          have HF : Hid (¬ ∃ i, tableA.Found len0 k I F (fun j => if j < len2 then G j else 0) o a4 i) := hf
          clear T3 hidx hf
          go_wp2_with fail
          go_loop [18, 76] (fun vw vi => ∃ j : Nat, j ≤ k ∧ vi = .int .i64 j ∧ vw = .pointer none) (fun _ vi => k - (intOf vi).toNat)
          case atStart => exact ⟨0, by omega, rfl, rfl⟩
          case round =>
            obtain ⟨j, hj, rfl, rfl⟩ := hrel
            by_cases hjk : j < k
            · by_cases hji : (j : Int) = I o
              · have b1 : ((j : Int) == I o) = true := by simpa using hji
                have cy := HT.out.off j hjk
                obtain ⟨bF0, bF1⟩ := HT.out.uF j
                by_cases hjo : F j = o
                · have b2 : (F j == (o : Int)) = true := by simpa using hjo
                  have cz := HT.out.rch j hjk
                  have bz := HT.out.uR j
                  have hnl : ¬ (if j < len2 then G j else 0) < a4 := fun h => HF.out ⟨j, hoL, hji.symm, hjk, hjo, h⟩
                  generalize (if j < len2 then G j else 0) = z at cz bz hnl
                  obtain ⟨bz0, bz1⟩ := bz
                  clear hji hjo
                  go_wp2
                  go_round
                  case rel => exact ⟨j + 1, by omega, by go_num, rfl⟩
                  case measure => simp [intOf]; omega
                · have b2 : (F j == (o : Int)) = false := by simpa using hjo
                  clear hji hjo
                  go_wp2
                  go_round
                  case rel => exact ⟨j + 1, by omega, by go_num, rfl⟩
                  case measure => simp [intOf]; omega
              · have b1 : ((j : Int) == I o) = false := by simpa using hji
                clear hji
                go_wp2
                go_round
                case rel => exact ⟨j + 1, by omega, by go_num, rfl⟩
                case measure => simp [intOf]; omega
            · go_wp2
              go_ret
              exact ⟨rfl, hb3⟩
        · go_wp2
          go_ret
          exact ⟨rfl, hb3⟩

set_option maxRecDepth 100000 in
theorem walk_long0 (a0 a1 a2 : Option Addr) (len0 cap0 len1 cap1 len2 cap2 : Nat) (a3 a4 : Int) (w : World) (h0 : 1024 < len0) (h0' : len0 ≤ 9223372036854775807) :
    Calls Yba.prog 3 #[.slice a0 len0 cap0, .slice a1 len1 cap1, .slice a2 len2 cap2, .int .u16 a3, .int .i64 a4] w fun e w' => e = .returned (.bool true) ∧ Below w.heap.size w w' := by
  go_enter Yba.func3, Yba.ntmps3
  go_wp2
  go_ret
  exact ⟨rfl, Below.refl _ _⟩
set_option maxRecDepth 100000 in
theorem walk_long1 (a0 a1 a2 : Option Addr) (len0 cap0 len1 cap1 len2 cap2 : Nat) (a3 a4 : Int) (w : World) (h0 : len0 ≤ 1024) (h1 : 1024 < len1) (h1' : len1 ≤ 9223372036854775807) :
    Calls Yba.prog 3 #[.slice a0 len0 cap0, .slice a1 len1 cap1, .slice a2 len2 cap2, .int .u16 a3, .int .i64 a4] w fun e w' => e = .returned (.bool true) ∧ Below w.heap.size w w' := by
  go_enter Yba.func3, Yba.ntmps3
  go_wp2
  go_ret
  exact ⟨rfl, Below.refl _ _⟩

theorem u16_of {zs : List Int} (h : ∀ n ∈ zs, (Lit.int .u16 n).wf = true) : U16 (fun j => zs.getD j 0) := by
  intro j
  by_cases hj : j < zs.length
  · have := bounds_u16 (h zs[j] (List.getElem_mem hj))
    simpa [hj] using this
  · simp [List.getElem?_eq_none (Nat.le_of_not_lt hj)]

/-- A row that came in, as the walk asks for it: empty, or its elements' cells. -/
theorem row_view {w : World} {a : Option Addr} {len cap : Nat} {zs : List Int} (h : IsRow .u16 w a len cap zs) :
    len ≤ 9223372036854775807 ∧ U16 (fun j => zs.getD j 0) ∧ ((a = none ∧ len = 0 ∧ cap = 0) ∨ ∃ ad, a = some ad ∧ ∀ j, j < len → w.cell? (ad.add j) = some (.int .u16 (zs.getD j 0))) ∧
      ∃ p q, (len = 0 ∨ (a = some ⟨p, q, none⟩ ∧ ∀ j, j < len → w.cell? ⟨p, q + j, none⟩ = some (.int .u16 (zs.getD j 0)))) := by
  rcases h with ⟨rfl, rfl, rfl, rfl⟩ | ⟨x, rfl, hl, hm, hz, hc, hwf⟩
  · exact ⟨by omega, u16_of (by simp), .inl ⟨rfl, rfl, rfl⟩, 0, 0, .inl rfl⟩
  · unfold maxLen at hm
    refine ⟨by omega, u16_of hwf, .inr ⟨x, rfl, fun j hj => hc j (by omega)⟩, ?_⟩
    obtain ⟨b, off, spot⟩ := x
    by_cases hl0 : len = 0
    · exact ⟨0, 0, .inl hl0⟩
    · have hspot : spot = none := by simpa [Addr.add] using World.cell?_spot (hc 0 (by omega))
      subst hspot
      refine ⟨b, off, .inr ⟨rfl, fun j hj => ?_⟩⟩
      have := hc j (by omega)
      rw [add_plain] at this
      exact this

theorem walk (a0 : Option Addr) (len0 cap0 : Nat) (z0 : List Int) (a1 : Option Addr) (len1 cap1 : Nat) (z1 : List Int) (a2 : Option Addr) (len2 cap2 : Nat) (z2 : List Int) (a3 : Int) (a4 : Int) (w : World) (w0 : IsRow .u16 w a0 len0 cap0 z0) (w1 : IsRow .u16 w a1 len1 cap1 z1) (w2 : IsRow .u16 w a2 len2 cap2 z2) (w3 : (Lit.int .u16 a3).wf = true) (w4 : (Lit.int .i64 a4).wf = true) :
    Calls Yba.prog 3 #[.slice a0 len0 cap0, .slice a1 len1 cap1, .slice a2 len2 cap2, .int .u16 a3, .int .i64 a4] w fun e w' => e = .returned (.bool true) ∧ Below w.heap.size w w' := by
  obtain ⟨m0, u0, s0, _⟩ := row_view w0
  obtain ⟨m1, u1, _, p1, q1, s1⟩ := row_view w1
  obtain ⟨m2, u2, _, p2, q2, s2⟩ := row_view w2
  obtain ⟨b3, b3'⟩ := bounds_u16 w3
  by_cases h0 : len0 ≤ 1024
  · by_cases h1 : len1 ≤ 1024
    · exact walk_short a0 a1 a2 len0 cap0 len1 cap1 len2 cap2 p1 q1 p2 q2 _ _ _ a3 a4 w h0 h1 m2 u0 u1 u2 s0 s1 s2 b3 b3'
    · exact walk_long1 a0 a1 a2 len0 cap0 len1 cap1 len2 cap2 a3 a4 w h0 (by omega) m1
  · exact walk_long0 a0 a1 a2 len0 cap0 len1 cap1 len2 cap2 a3 a4 w (by omega) m0

/-! ### The row's step: the shell's own -/
set_option maxRecDepth 100000 in
theorem lifted (os : Os) (started : os.Started) (H : Type) (enc : TypeId × Value → H) :
    ReturnsInHanded {} Yba.checked os 3 .any (Rows.lawS0537AModelSpec.pre6 enc Yba.prog Yba.f3 Rows.lawS0537AModelRow.domain false) (Rows.lawS0537AModelSpec.post enc Yba.prog Yba.f3 false true false false) := by
  refine returnsInHanded_of_change (C := Yba.checked) own started (by kernel_rfl) Yba.func3
    (ChangeSpec.witness6 (enc := enc) (C := Yba.checked) false ⟨#[], #[.slice none 0 0, .slice none 0 0, .slice none 0 0, .int .u16 0, .int .i64 0], []⟩ 8 (by kernel_rfl) (by kernel_rfl) (by kernel_rfl) (by kernel_rfl)) ?_
  intro W base args ds gs before hval0 hW hcnd _
  have hval : ∀ (j : Nat) t v, Yba.f3.params[j]? = some t → args[j]? = some v → Value.okWide Yba.prog W .any base t v := hval0
  have hW' := hW
  obtain ⟨p, q, hA0, hV, rfl, hfz, hnd⟩ := hW
  have hA : DataW.TrodAll enc Yba.prog W 0 (fun _ => true) true Yba.f3.params.toList args.toList ds p := hA0
  rw [Yba.params3] at hA hval
  obtain ⟨v0, vs0, d0, ds0, p0, q0, hargs, rfl, rfl, h0, r0⟩ := trodAll_cons hA
  obtain ⟨v1, vs1, d1, ds1, p1, q1, rfl, rfl, rfl, h1, r1⟩ := trodAll_cons r0
  obtain ⟨v2, vs2, d2, ds2, p2, q2, rfl, rfl, rfl, h2, r2⟩ := trodAll_cons r1
  obtain ⟨v3, vs3, d3, ds3, p3, q3, rfl, rfl, rfl, h3, r3⟩ := trodAll_cons r2
  obtain ⟨v4, vs4, d4, ds4, p4, q4, rfl, rfl, rfl, h4, r4⟩ := trodAll_cons r3
  obtain ⟨rfl, rfl, rfl⟩ := trodAll_nil r4
  obtain rfl : args = #[v0, v1, v2, v3, v4] := by cases args; simp_all
  obtain ⟨rfl, rfl⟩ := trodVars_none hV
  obtain ⟨a0, len0, cap0, rfl⟩ := okWide_slice Yba.underlying22 (hval 0 22 v0 rfl rfl)
  have k0 := h0
  have lt0 : ∀ x ∈ p0, x.block < W.heap.size := by obtain ⟨m, hm⟩ := k0; exact DataW.trod_lt m _ _ _ hm
  obtain ⟨z0, w0⟩ : ∃ zs, IsRow .u16 W a0 len0 cap0 zs := by
    obtain ⟨fuel, hf⟩ := h0
    rcases open_ints Yba.underlying22 Yba.underlying23 (by kernel_rfl) hf with ⟨hcs, _⟩ | ⟨x, l, c, zs, hcs, _, hl, hm, hz, _, hcell, hwz⟩
    · simp [Value.cells] at hcs
      obtain ⟨rfl, rfl, rfl⟩ := hcs
      exact ⟨[], .inl ⟨rfl, rfl, rfl, rfl⟩⟩
    · simp [Value.cells] at hcs
      obtain ⟨rfl, rfl, rfl⟩ := hcs
      exact ⟨zs, .inr ⟨_, rfl, hl, hm, by simpa using hz, hcell, hwz⟩⟩
  obtain ⟨a1, len1, cap1, rfl⟩ := okWide_slice Yba.underlying22 (hval 1 22 v1 rfl rfl)
  have k1 := h1
  have lt1 : ∀ x ∈ p1, x.block < W.heap.size := by obtain ⟨m, hm⟩ := k1; exact DataW.trod_lt m _ _ _ hm
  obtain ⟨z1, w1⟩ : ∃ zs, IsRow .u16 W a1 len1 cap1 zs := by
    obtain ⟨fuel, hf⟩ := h1
    rcases open_ints Yba.underlying22 Yba.underlying23 (by kernel_rfl) hf with ⟨hcs, _⟩ | ⟨x, l, c, zs, hcs, _, hl, hm, hz, _, hcell, hwz⟩
    · simp [Value.cells] at hcs
      obtain ⟨rfl, rfl, rfl⟩ := hcs
      exact ⟨[], .inl ⟨rfl, rfl, rfl, rfl⟩⟩
    · simp [Value.cells] at hcs
      obtain ⟨rfl, rfl, rfl⟩ := hcs
      exact ⟨zs, .inr ⟨_, rfl, hl, hm, by simpa using hz, hcell, hwz⟩⟩
  obtain ⟨a2, len2, cap2, rfl⟩ := okWide_slice Yba.underlying22 (hval 2 22 v2 rfl rfl)
  have k2 := h2
  have lt2 : ∀ x ∈ p2, x.block < W.heap.size := by obtain ⟨m, hm⟩ := k2; exact DataW.trod_lt m _ _ _ hm
  obtain ⟨z2, w2⟩ : ∃ zs, IsRow .u16 W a2 len2 cap2 zs := by
    obtain ⟨fuel, hf⟩ := h2
    rcases open_ints Yba.underlying22 Yba.underlying23 (by kernel_rfl) hf with ⟨hcs, _⟩ | ⟨x, l, c, zs, hcs, _, hl, hm, hz, _, hcell, hwz⟩
    · simp [Value.cells] at hcs
      obtain ⟨rfl, rfl, rfl⟩ := hcs
      exact ⟨[], .inl ⟨rfl, rfl, rfl, rfl⟩⟩
    · simp [Value.cells] at hcs
      obtain ⟨rfl, rfl, rfl⟩ := hcs
      exact ⟨zs, .inr ⟨_, rfl, hl, hm, by simpa using hz, hcell, hwz⟩⟩
  obtain ⟨a3, rfl, rfl, rfl, w3⟩ := open_int Yba.underlying23 (hval 3 23 v3 rfl rfl) h3
  obtain ⟨a4, rfl, rfl, rfl, w4⟩ := open_int Yba.underlying3 (hval 4 3 v4 rfl rfl) h4
  clear hA0 hval0
  refine (walk a0 len0 cap0 z0 a1 len1 cap1 z1 a2 len2 cap2 z2 a3 a4 W w0 w1 w2 w3 w4).mono fun e W' ⟨he, bel⟩ => ?_
  subst he
  exact ⟨_, rfl, _, _, _, [], _, [], hW', trodAll_mk1 (shut_bool Yba.underlying4 _), (trodAll_cons_mk (Below.trod laidOut (by kernel_rfl) (of_decide_eq_true (by kernel_rfl)) k0 bel lt0) (trodAll_cons_mk (Below.trod laidOut (by kernel_rfl) (of_decide_eq_true (by kernel_rfl)) k1 bel lt1) (trodAll_cons_mk (Below.trod laidOut (by kernel_rfl) (of_decide_eq_true (by kernel_rfl)) k2 bel lt2) (trodAll_cons_mk (shut_int Yba.underlying23 w3) (trodAll_cons_mk (shut_int Yba.underlying3 w4) trodAll_mk0))))), rfl, bel.frame _, fun h => by cases h⟩

theorem over : Rows.lawS0537AModelRow.holds Yba.pinned (OpenSpec.ofChange Rows.lawS0537AModelSpec) :=
  OpenClaim.holds_of_wide 3 Yba.f3 rfl rfl rfl rfl rfl rfl rfl ⟨rfl, rfl, rfl, rfl, rfl⟩ rfl rfl rfl rfl rfl (by kernel_rfl) Yba.func3 (by kernel_rfl)
    (of_decide_eq_true (by kernel_rfl)) (by unfold Func.isWrapper; first | (rw [if_pos (by decide +kernel)]; kernel_rfl) | (rw [if_neg (by decide +kernel)]; exact ⟨rfl, rfl⟩))
    (fun os started H enc _ => lifted os started H enc)

/-- ████ THE STATEMENT ████ -/
theorem proved : Rows.LawS0537AModelSaid := over
#print axioms proved
end Go.Proofs.Ybulkkce.lawS0537AModel
