/-
  The contracts of suffixTable's methods begin, visit, end, keepVisits, keep: what the law LawS0537AKeep goes by. The last statement of keepVisits' loop is one region that draws its order and holds loads, an allocation, an append and a store: it is walked move by move by the kit's own laws (wpAnyH_take, wpAnyH_ready).
-/
import Derived.Test.YbulkkceTableA
import Derived.WalkKit
import Derived.WalkSpells
import Derived.WalkSmall
import Derived.BigRegion
import Derived.Deep.QuietTactic
import Derived.BigQuiet
import Derived.Deep.RegionHeld3
import Derived.Deep.AppendLies
namespace Go.Proofs.Ybulkkce.keepA
open Go.RowKit
set_option linter.unusedVariables false
set_option linter.unusedSimpArgs false

/-- The table's own cells, at block T: its index in block G (64 entries), its visits in block V. -/
structure Tab (w : World) (T G V : Nat) (kv : Value) (vis : Nat) : Prop where
  t0 : w.cell? ⟨T, 0, none⟩ = some (.bool true)
  t2 : w.cell? ⟨T, 2, none⟩ = some (.slice (some ⟨G, 0, none⟩) 64 64)
  t3 : w.cell? ⟨T, 3, none⟩ = some kv
  t4 : w.cell? ⟨T, 4, none⟩ = some (.pointer (some ⟨V, 0, none⟩))
  t5 : w.cell? ⟨T, 5, none⟩ = some (.int .i64 vis)
  t6 : w.cell? ⟨T, 6, none⟩ = some (.int .i64 0)
  t7 : w.cell? ⟨T, 7, none⟩ = some (.int .u16 0)
  free : ∀ o, w.frozen? ⟨T, o, none⟩ = false

theorem begin_any {w : World} {T G V : Nat} {kv : Value} {vis : Nat} (H : Tab w T G V kv vis) :
    Calls Yba.prog 7 #[.pointer (some ⟨T, 0, none⟩)] w fun e w' => e = .returned (.bool true) ∧ w' = w.setCell ⟨T, 5, none⟩ (.int .i64 0) := by
  have t0 := H.t0
  have t5 := H.t5
  have f := H.free 5
  clear H
  go_enter Yba.func7, Yba.ntmps7
  go_wp2
  go_ret
  exact ⟨rfl, rfl⟩

theorem end_any {w : World} {T G V : Nat} {kv : Value} {vis : Nat} (H : Tab w T G V kv vis) :
    Calls Yba.prog 9 #[.pointer (some ⟨T, 0, none⟩), .int .i64 0, .int .u16 0, .int .i64 0] w fun e w' => e = .returned (.tuple #[]) ∧ w' = (w.setCell ⟨T, 6, none⟩ (.int .i64 0)).setCell ⟨T, 7, none⟩ (.int .u16 0) := by
  have t0 := H.t0
  have t6 := H.t6
  have t7 := H.t7
  have f6 := H.free 6
  have f7 := H.free 7
  clear H
  go_enter Yba.func9, Yba.ntmps9
  go_wp2
  go_end0
  exact ⟨rfl, rfl⟩

/-- Four cells in a row are written. -/
def put4 (w : World) (g o : Nat) (v0 v1 v2 v3 : Value) : World :=
  (((w.setCell ⟨g, o, none⟩ v0).setCell ⟨g, o + 1, none⟩ v1).setCell ⟨g, o + 2, none⟩ v2).setCell ⟨g, o + 3, none⟩ v3

set_option maxRecDepth 100000 in
set_option maxHeartbeats 1000000 in
theorem visit_any {w : World} {T G V : Nat} {kv : Value} {k : Nat} (H : Tab w T G V kv k) (hk : k < 254) (x y : Int) (hx0 : 0 ≤ x) (hx1 : x ≤ 65535) (hy0 : 0 ≤ y) (hy1 : y ≤ 255) (hne : T ≠ V)
    (hall : ∀ q, q < 4 → ∃ u, w.cell? ⟨V, k * 4 + q, none⟩ = some u) (hf : ∀ o, w.frozen? ⟨V, o, none⟩ = false) :
    Calls Yba.prog 8 #[.pointer (some ⟨T, 0, none⟩), .int .i64 x, .int .i64 y, .int .i64 0, .int .i64 0] w fun e w' => e = .returned (.tuple #[]) ∧ w' = ((put4 w V (k * 4) (.int .u16 x) (.int .u8 y) (.int .u8 0) (.int .u16 0)).setCell ⟨T, 5, none⟩ (.int .i64 ((k : Int) + 1))).drew := by
  have t4 := H.t4
  have t5 := H.t5
  have f5 := H.free 5
  obtain ⟨u0, d0⟩ := hall 0 (by omega)
  obtain ⟨u1, d1⟩ := hall 1 (by omega)
  obtain ⟨u2, d2⟩ := hall 2 (by omega)
  obtain ⟨u3, d3⟩ := hall 3 (by omega)
  rw [Nat.add_zero] at d0
  clear H hall
  go_enter Yba.func8, Yba.ntmps8
  go_wp2_with fail
  go_region
  all_goals go_wp2
  go_end0
  exact ⟨rfl, rfl⟩


/-! ### The plain part: what the kept suffixes and the index hold -/
/-- One suffix in memory: the name, the offset, the start, no pointer, no reach. -/
def ent (NB : Nat) (P : Nat → Nat) (Q : Nat → Int) (j : Nat) : List Value := [.pointer (some ⟨NB, 0, none⟩), .int .u16 (P j), .int .u8 (Q j), .int .u8 0, .int .u16 0]
/-- The first m suffixes: the visits n - 1, n - 2 .. -/
def flat (NB : Nat) (P : Nat → Nat) (Q : Nat → Int) (n : Nat) : Nat → List Value
  | 0 => []
  | m + 1 => flat NB P Q n m ++ ent NB P Q (n - 1 - m)
/-- The index behind m of them. -/
def J (P : Nat → Nat) (n : Nat) : Nat → Nat → Nat
  | 0, _ => 0
  | m + 1, x => if P (n - 1 - m) = x then m else J P n m x

theorem flat_length (NB : Nat) (P : Nat → Nat) (Q : Nat → Int) (n : Nat) : ∀ m, (flat NB P Q n m).length = m * 5
  | 0 => rfl
  | m + 1 => by simp [flat, flat_length NB P Q n m, ent]; omega
theorem flat_at (NB : Nat) (P : Nat → Nat) (Q : Nat → Int) (n j q : Nat) (hq : q < 5) : ∀ m, j < m → (flat NB P Q n m)[j * 5 + q]? = (ent NB P Q (n - 1 - j))[q]?
  | 0, h => absurd h (Nat.not_lt_zero _)
  | m + 1, h => by
    have hl := flat_length NB P Q n m
    by_cases e : j = m
    · subst e
      rw [flat, List.getElem?_append_right (by omega), hl, show j * 5 + q - j * 5 = q by omega]
    · rw [flat, List.getElem?_append_left (by omega)]
      exact flat_at NB P Q n j q hq m (by omega)
/-- An offset that no visit has: its entry stays 0. -/
theorem J_none (P : Nat → Nat) (n x : Nat) (h : ∀ j, j < n → P j ≠ x) : ∀ m, m ≤ n → J P n m x = 0
  | 0, _ => rfl
  | m + 1, hm => by rw [J, if_neg (h _ (by omega))]; exact J_none P n x h m (by omega)
/-- An offset whose first visit is f: its entry leads to that visit's suffix. -/
theorem J_first (P : Nat → Nat) (n x f : Nat) (hf : f < n) (hP : P f = x) (hmin : ∀ j, j < f → P j ≠ x) : ∀ m, m ≤ n → n - f ≤ m → J P n m x = n - 1 - f
  | 0, _, h => by omega
  | m + 1, hm, h => by
    by_cases e : n - 1 - m = f
    · rw [J, if_pos (by rw [e]; exact hP)]; omega
    · rw [J, if_neg (hmin _ (by omega))]
      exact J_first P n x f hf hP hmin m (by omega) (by omega)

/-! ### The visits in memory -/
structure Vis (w : World) (V k : Nat) (P : Nat → Nat) (Q : Nat → Int) : Prop where
  all : ∀ o, o < 1016 → ∃ u, w.cell? ⟨V, o, none⟩ = some u
  free : ∀ o, w.frozen? ⟨V, o, none⟩ = false
  c0 : ∀ j, j < k → w.cell? ⟨V, j * 4, none⟩ = some (.int .u16 (P j))
  c1 : ∀ j, j < k → w.cell? ⟨V, j * 4 + 1, none⟩ = some (.int .u8 (Q j))
  c2 : ∀ j, j < k → w.cell? ⟨V, j * 4 + 2, none⟩ = some (.int .u8 0)
  c3 : ∀ j, j < k → w.cell? ⟨V, j * 4 + 3, none⟩ = some (.int .u16 0)

theorem Vis.same {w w' : World} {V k : Nat} {P : Nat → Nat} {Q : Nat → Int} (h : Vis w V k P Q) (hc : ∀ o, w'.cell? ⟨V, o, none⟩ = w.cell? ⟨V, o, none⟩) (hf : ∀ o, w'.frozen? ⟨V, o, none⟩ = w.frozen? ⟨V, o, none⟩) : Vis w' V k P Q :=
  ⟨fun o ho => by rw [hc]; exact h.all o ho, fun o => by rw [hf]; exact h.free o, fun j hj => by rw [hc]; exact h.c0 j hj, fun j hj => by rw [hc]; exact h.c1 j hj, fun j hj => by rw [hc]; exact h.c2 j hj, fun j hj => by rw [hc]; exact h.c3 j hj⟩

theorem cell_put {w : World} {g o : Nat} {u : Value} (v : Value) (p : Nat) (h : w.cell? ⟨g, o, none⟩ = some u) : (w.setCell ⟨g, o, none⟩ v).cell? ⟨g, p, none⟩ = if p = o then some v else w.cell? ⟨g, p, none⟩ := by
  by_cases e : p = o
  · subst e
    rw [if_pos rfl]
    exact World.cell?_setCell_same _ _ _ h
  · rw [if_neg e]
    exact World.cell?_setCell_other _ _ _ _ (by intro h; cases h; exact e rfl)
theorem cell_far (w : World) (g o b p : Nat) (v : Value) (h : b ≠ g ∨ p ≠ o) : (w.setCell ⟨g, o, none⟩ v).cell? ⟨b, p, none⟩ = w.cell? ⟨b, p, none⟩ :=
  World.cell?_setCell_other _ _ _ _ (by intro e; cases e; rcases h with h | h <;> exact h rfl)

theorem cell_put4 {w : World} {g o : Nat} (v0 v1 v2 v3 : Value) (p : Nat) (h : ∀ q, q < 4 → ∃ u, w.cell? ⟨g, o + q, none⟩ = some u) :
    (put4 w g o v0 v1 v2 v3).cell? ⟨g, p, none⟩ = if p = o + 3 then some v3 else if p = o + 2 then some v2 else if p = o + 1 then some v1 else if p = o then some v0 else w.cell? ⟨g, p, none⟩ := by
  obtain ⟨u0, d0⟩ := h 0 (by omega)
  obtain ⟨u1, d1⟩ := h 1 (by omega)
  obtain ⟨u2, d2⟩ := h 2 (by omega)
  obtain ⟨u3, d3⟩ := h 3 (by omega)
  rw [Nat.add_zero] at d0
  have x1 : (w.setCell ⟨g, o, none⟩ v0).cell? ⟨g, o + 1, none⟩ = some u1 := by rw [cell_put _ _ d0, if_neg (by omega), d1]
  have x2 : ((w.setCell ⟨g, o, none⟩ v0).setCell ⟨g, o + 1, none⟩ v1).cell? ⟨g, o + 2, none⟩ = some u2 := by rw [cell_put _ _ x1, if_neg (by omega), cell_put _ _ d0, if_neg (by omega), d2]
  have x3 : (((w.setCell ⟨g, o, none⟩ v0).setCell ⟨g, o + 1, none⟩ v1).setCell ⟨g, o + 2, none⟩ v2).cell? ⟨g, o + 3, none⟩ = some u3 := by rw [cell_put _ _ x2, if_neg (by omega), cell_put _ _ x1, if_neg (by omega), cell_put _ _ d0, if_neg (by omega), d3]
  unfold put4
  rw [cell_put _ _ x3, cell_put _ _ x2, cell_put _ _ x1, cell_put _ _ d0]
theorem cell_put4_far (w : World) (g o b p : Nat) (v0 v1 v2 v3 : Value) (h : b ≠ g) : (put4 w g o v0 v1 v2 v3).cell? ⟨b, p, none⟩ = w.cell? ⟨b, p, none⟩ := by
  unfold put4
  rw [cell_far _ _ _ _ _ _ (.inl h), cell_far _ _ _ _ _ _ (.inl h), cell_far _ _ _ _ _ _ (.inl h), cell_far _ _ _ _ _ _ (.inl h)]
theorem frozen_put4 (w : World) (g o : Nat) (v0 v1 v2 v3 : Value) (a : Addr) : (put4 w g o v0 v1 v2 v3).frozen? a = w.frozen? a := by
  unfold put4
  simp only [World.frozen?_setCell]
theorem below_put4 {B g : Nat} {a w : World} (h : Below B a w) (hg : B ≤ g) (o : Nat) (v0 v1 v2 v3 : Value) : Below B a (put4 w g o v0 v1 v2 v3) :=
  (((h.setCell hg v0).setCell hg v1).setCell hg v2).setCell hg v3

/-- The world behind a visit. -/
def visited (w : World) (T V k : Nat) (x : Nat) (y : Int) : World := ((put4 w V (k * 4) (.int .u16 x) (.int .u8 y) (.int .u8 0) (.int .u16 0)).setCell ⟨T, 5, none⟩ (.int .i64 ((k : Int) + 1))).drew

theorem visited_cell (w : World) (T V k : Nat) (x : Nat) (y : Int) (a : Addr) : (visited w T V k x y).cell? a = ((put4 w V (k * 4) (.int .u16 x) (.int .u8 y) (.int .u8 0) (.int .u16 0)).setCell ⟨T, 5, none⟩ (.int .i64 ((k : Int) + 1))).cell? a := by unfold visited; rw [World.cell?_drew]
theorem visited_froz (w : World) (T V k : Nat) (x : Nat) (y : Int) (a : Addr) : (visited w T V k x y).frozen? a = ((put4 w V (k * 4) (.int .u16 x) (.int .u8 y) (.int .u8 0) (.int .u16 0)).setCell ⟨T, 5, none⟩ (.int .i64 ((k : Int) + 1))).frozen? a := by unfold visited; rw [World.frozen?_drew]

theorem vis_step {w : World} {T V k : Nat} {P : Nat → Nat} {Q : Nat → Int} (h : Vis w V k P Q) (hk : k < 254) (hne : T ≠ V) (x : Nat) (y : Int) (hx : x = P k) (hy : y = Q k) : Vis (visited w T V k x y) V (k + 1) P Q := by
  subst hx hy
  have hq : ∀ q, q < 4 → ∃ u, w.cell? ⟨V, k * 4 + q, none⟩ = some u := fun q hq => h.all _ (by omega)
  have hc : ∀ p, (visited w T V k (P k) (Q k)).cell? ⟨V, p, none⟩ = if p = k * 4 + 3 then some (.int .u16 0) else if p = k * 4 + 2 then some (.int .u8 0) else if p = k * 4 + 1 then some (.int .u8 (Q k)) else if p = k * 4 then some (.int .u16 (P k)) else w.cell? ⟨V, p, none⟩ := by
    intro p
    rw [visited_cell, cell_far _ _ _ _ _ _ (.inl (Ne.symm hne)), cell_put4 _ _ _ _ _ hq]
  refine ⟨fun o ho => ?_, fun o => ?_, fun j hj => ?_, fun j hj => ?_, fun j hj => ?_, fun j hj => ?_⟩
  · obtain ⟨u, hu⟩ := h.all o ho
    rw [hc, hu]
    repeat' split
    all_goals exact ⟨_, rfl⟩
  · rw [visited_froz, World.frozen?_setCell, frozen_put4, h.free]
  all_goals
    rw [hc]
    by_cases e : j = k
    · subst e
      simp
    · repeat rw [if_neg (by omega)]
      first | exact h.c0 j (by omega) | exact h.c1 j (by omega) | exact h.c2 j (by omega) | exact h.c3 j (by omega)

theorem tab_step {w : World} {T G V k : Nat} {kv : Value} (h : Tab w T G V kv k) (hne : T ≠ V) (x : Nat) (y : Int) : Tab (visited w T V k x y) T G V kv (k + 1) := by
  have hc : ∀ o, o ≠ 5 → (visited w T V k x y).cell? ⟨T, o, none⟩ = w.cell? ⟨T, o, none⟩ := by
    intro o ho
    rw [visited_cell, cell_far _ _ _ _ _ _ (.inr ho), cell_put4_far _ _ _ _ _ _ _ _ _ hne]
  refine ⟨by rw [hc _ (by omega), h.t0], by rw [hc _ (by omega), h.t2], by rw [hc _ (by omega), h.t3], by rw [hc _ (by omega), h.t4], ?_, by rw [hc _ (by omega), h.t6], by rw [hc _ (by omega), h.t7], fun o => ?_⟩
  · rw [visited_cell, cell_put (u := .int .i64 k) _ _ (by rw [cell_put4_far _ _ _ _ _ _ _ _ _ hne, h.t5]), if_pos rfl]
    rfl
  · rw [visited_froz, World.frozen?_setCell, frozen_put4, h.free]
theorem visited_far (w : World) (T V k : Nat) (x : Nat) (y : Int) (b o : Nat) (h1 : b ≠ T) (h2 : b ≠ V) : (visited w T V k x y).cell? ⟨b, o, none⟩ = w.cell? ⟨b, o, none⟩ := by
  rw [visited_cell, cell_far _ _ _ _ _ _ (.inl h1), cell_put4_far _ _ _ _ _ _ _ _ _ h2]
theorem visited_frozen (w : World) (T V k : Nat) (x : Nat) (y : Int) (a : Addr) : (visited w T V k x y).frozen? a = w.frozen? a := by
  rw [visited_froz, World.frozen?_setCell, frozen_put4]
theorem visited_below {B : Nat} {a w : World} (h : Below B a w) (T V k : Nat) (x : Nat) (y : Int) (h1 : B ≤ T) (h2 : B ≤ V) : Below B a (visited w T V k x y) :=
  ((below_put4 h h2 _ _ _ _ _).setCell h1 _).drew

theorem hide {p : Prop} (h : p) : Hid p := h

/-! ### keepVisits -/
theorem Yba.info27 : (Yba.prog.info? 27).map (fun i => (i.zero, i.size, i.bytes)) = some (some (.agg #[.pointer none, .int .u16 0, .int .u8 0, .int .u8 0, .int .u16 0]), 5, 16) := by kernel_rfl

/-- The table with m suffixes kept, of the n visits. -/
structure KS (w0 wr : World) (B0 B T G V NB n m : Nat) (P : Nat → Nat) (Q : Nat → Int) (ao : Option Addr) (cap : Nat) : Prop where
  tab : Tab wr T G V (.slice ao m cap) n
  own : wr.ownsRow B 27 5 (.slice ao m cap) m (flat NB P Q n m)
  vis : Vis wr V n P Q
  idx : ∀ x, x < 64 → wr.cell? ⟨G, x, none⟩ = some (.int .u16 (J P n m x))
  idf : ∀ x, wr.frozen? ⟨G, x, none⟩ = false
  bel : Below B0 w0 wr
  siz : B ≤ wr.heap.size
  lt : T < B ∧ G < B ∧ V < B
  ge : B0 ≤ T ∧ B0 ≤ G ∧ B0 ≤ V
  ne : T ≠ G ∧ T ≠ V ∧ G ≠ V

/-- The world behind the store into the index, as to the world at the round's head. -/
structure S9 (w0 wr w9 : World) (B0 G p m : Nat) : Prop where
  cel : ∀ b o, b < wr.heap.size → (b ≠ G ∨ o ≠ p) → w9.cell? ⟨b, o, none⟩ = wr.cell? ⟨b, o, none⟩
  new : w9.cell? ⟨G, p, none⟩ = some (.int .u16 (m : Int))
  frz : ∀ b o, b < wr.heap.size → w9.frozen? ⟨b, o, none⟩ = wr.frozen? ⟨b, o, none⟩
  bel : Below B0 w0 w9
  siz : w9.heap.size = wr.heap.size + 1

theorem s9_of (w0 wr : World) (B0 G p m q : Nat) (z : Int) (X : Obj) (hb : Below B0 w0 wr) (hB : B0 ≤ wr.heap.size) (hG : G < wr.heap.size) (hG0 : B0 ≤ G) (hc : wr.cell? ⟨G, p, none⟩ = some (.int .u16 z)) :
    S9 w0 wr (((wr.alloc X).drewN q).setCell ⟨G, p, none⟩ (.int .u16 (m : Int))) B0 G p m where
  cel b o h1 h2 := by rw [cell_far _ _ _ _ _ _ h2, World.cell?_drewN, World.cell?_alloc_past _ _ _ h1]
  new := by rw [cell_put (u := .int .u16 z) _ _ (by rw [World.cell?_drewN, World.cell?_alloc_past _ _ _ hG, hc]), if_pos rfl]
  frz b o h1 := by rw [World.frozen?_setCell, World.frozen?_drewN]; exact ((Below.refl wr.heap.size wr).alloc (Nat.le_refl _) X).frozen h1
  bel := (below_drewN (hb.alloc hB X) q).setCell hG0 _
  siz := by simp [World.setCell]

theorem own9_of {wr : World} {B G p q : Nat} {v v' : Value} {k : Nat} {xs : List Value} (X : Obj) (h : wr.ownsRow B 27 5 v k xs) (hG : G < B) : (((wr.alloc X).drewN q).setCell ⟨G, p, none⟩ v').ownsRow B 27 5 v k xs := by
  have h2 : ((wr.alloc X).drewN q).ownsRow B 27 5 v k xs := h.alloc X
  exact ownsRow_setCell_below h2 hG _

theorem below10 {w9 w10 : World} {B m cap : Nat} {ao : Option Addr} {xs : List Value} (own9 : w9.ownsRow B 27 5 (.slice ao m cap) m xs) (hz : B ≤ w9.heap.size) (Y : Obj) (hgrow : ((w9.alloc Y).drew).grownBy w10 (Value.slice ao m cap).ownBlock) : Below B w9 w10 := by
  refine (((Below.refl B w9).alloc hz Y).drew).grown hgrow (by simp; omega) ?_
  intro k hk
  exact (own9.lt k hk).1

theorem ks_step {w0 wr w9 w10 : World} {B0 B T G V NB n m i cap g cap' : Nat} {P : Nat → Nat} {Q : Nat → Int} {ao : Option Addr} (K : KS w0 wr B0 B T G V NB n m P Q ao cap) (H : S9 w0 wr w9 B0 G (P i) m) (own9 : w9.ownsRow B 27 5 (.slice ao m cap) m (flat NB P Q n m)) (hnm : i = n - 1 - m) (hPi : P i < 64)
    (hown : w10.ownsRow B 27 5 (.slice (some ⟨g, 0, none⟩) (m + 1) cap') (m + 1) (flat NB P Q n m ++ ent NB P Q i)) (hgrow : ((w9.alloc (.cells (ent NB P Q i).toArray 27)).drew).grownBy w10 (Value.slice ao m cap).ownBlock) :
    KS w0 (w10.setCell ⟨T, 3, none⟩ (.slice (some ⟨g, 0, none⟩) (m + 1) cap')) B0 B T G V NB n (m + 1) P Q (some ⟨g, 0, none⟩) cap' := by
  obtain ⟨lT, lG, lV⟩ := K.lt
  obtain ⟨gT, gG, gV⟩ := K.ge
  obtain ⟨nTG, nTV, nGV⟩ := K.ne
  have hs := K.siz
  have b10 : Below B w9 w10 := below10 own9 (by rw [H.siz]; omega) _ hgrow
  have hc : ∀ b o, b < B → (b ≠ T ∨ o ≠ 3) → (b ≠ G ∨ o ≠ P i) → (w10.setCell ⟨T, 3, none⟩ (.slice (some ⟨g, 0, none⟩) (m + 1) cap')).cell? ⟨b, o, none⟩ = wr.cell? ⟨b, o, none⟩ := fun b o h1 h2 h3 => by
    rw [cell_far _ _ _ _ _ _ h2, b10.cell (p := ⟨b, o, none⟩) h1, H.cel b o (by omega) h3]
  have hf : ∀ b o, b < B → (w10.setCell ⟨T, 3, none⟩ (.slice (some ⟨g, 0, none⟩) (m + 1) cap')).frozen? ⟨b, o, none⟩ = wr.frozen? ⟨b, o, none⟩ := fun b o h1 => by
    rw [World.frozen?_setCell, b10.frozen (p := ⟨b, o, none⟩) h1, H.frz b o (by omega)]
  have t3 : w10.cell? ⟨T, 3, none⟩ = some (.slice ao m cap) := by rw [b10.cell (p := ⟨T, 3, none⟩) lT, H.cel T 3 (by omega) (.inl nTG), K.tab.t3]
  refine ⟨⟨?_, ?_, ?_, ?_, ?_, ?_, ?_, ?_⟩, ?_, ?_, ?_, ?_, ?_, ?_, K.lt, K.ge, K.ne⟩
  · rw [hc T 0 lT (.inr (by omega)) (.inl nTG), K.tab.t0]
  · rw [hc T 2 lT (.inr (by omega)) (.inl nTG), K.tab.t2]
  · rw [cell_put _ _ t3, if_pos rfl]
  · rw [hc T 4 lT (.inr (by omega)) (.inl nTG), K.tab.t4]
  · rw [hc T 5 lT (.inr (by omega)) (.inl nTG), K.tab.t5]
  · rw [hc T 6 lT (.inr (by omega)) (.inl nTG), K.tab.t6]
  · rw [hc T 7 lT (.inr (by omega)) (.inl nTG), K.tab.t7]
  · intro o; rw [hf T o lT, K.tab.free]
  · subst hnm
    exact ownsRow_setCell_below hown lT _
  · exact K.vis.same (fun o => hc V o lV (.inl (Ne.symm nTV)) (.inl (Ne.symm nGV))) (fun o => hf V o lV)
  · intro x hx
    by_cases e : P i = x
    · subst e
      rw [cell_far _ _ _ _ _ _ (.inl (Ne.symm nTG)), b10.cell (p := ⟨G, P i, none⟩) lG, H.new, J, if_pos (by rw [← hnm])]
    · rw [hc G x lG (.inl (Ne.symm nTG)) (.inr (fun h => e h.symm)), K.idx x hx, J, if_neg (by rw [← hnm]; exact e)]
  · intro x; rw [hf G x lG, K.idf]
  · exact (H.bel.trans (b10.mono (by omega))).setCell gT _
  · have := b10.size
    have := H.siz
    simp [World.setCell]
    omega

theorem ent_one (NB : Nat) (P : Nat → Nat) (Q : Nat → Int) (i : Nat) : ∀ u ∈ ent NB P Q i, u.oneCell' = true := by
  intro u hu
  simp [ent] at hu
  rcases hu with rfl | rfl | rfl | rfl | rfl <;> rfl
theorem ent_cells (w9 : World) (NB : Nat) (P : Nat → Nat) (Q : Nat → Int) (i : Nat) : ∀ j u, (ent NB P Q i)[j]? = some u → ((w9.alloc (.cells (ent NB P Q i).toArray 27)).drew).cell? ((⟨w9.heap.size, 0, none⟩ : Addr).add j) = some u := by
  intro j u hu
  rw [World.cell?_drew]
  exact World.news_of_block (heap_alloc_new w9 (.cells (ent NB P Q i).toArray 27)) j u (by simpa using hu)

/-- What the cells that the last statement of the round reads hold behind the append. -/
theorem s10_of {w9 : World} {B T vb m cap NB i : Nat} {P : Nat → Nat} {Q : Nat → Int} {ao : Option Addr} {xs : List Value} (own9 : w9.ownsRow B 27 5 (.slice ao m cap) m xs) (hT : T < B) (hz : B ≤ w9.heap.size) (hv : vb < w9.heap.size) (hvo : ∀ r, (Value.slice ao m cap).ownBlock = some r → r < vb)
    (s3 : w9.cell? ⟨T, 3, none⟩ = some (.slice ao m cap)) (g3 : w9.frozen? ⟨T, 3, none⟩ = false) (s6 : w9.cell? ⟨T, 6, none⟩ = some (.int .i64 0)) (v0 : w9.cell? ⟨vb, 0, none⟩ = some (.int .u16 (P i))) (v1 : w9.cell? ⟨vb, 1, none⟩ = some (.int .u8 (Q i))) (v2 : w9.cell? ⟨vb, 2, none⟩ = some (.int .u8 0)) :
    ∀ w10, ((w9.alloc (.cells (ent NB P Q i).toArray 27)).drew).grownBy w10 (Value.slice ao m cap).ownBlock →
      w10.cell? ⟨T, 3, none⟩ = some (.slice ao m cap) ∧ w10.cell? ⟨T, 6, none⟩ = some (.int .i64 0) ∧ w10.cell? ⟨vb, 0, none⟩ = some (.int .u16 (P i)) ∧ w10.cell? ⟨vb, 1, none⟩ = some (.int .u8 (Q i)) ∧ w10.cell? ⟨vb, 2, none⟩ = some (.int .u8 0) ∧ w10.frozen? ⟨T, 3, none⟩ = false := by
  intro w10 hgrow
  have b10 : Below B w9 w10 := below10 own9 hz _ hgrow
  have hb : ∀ o, w10.cell? ⟨vb, o, none⟩ = w9.cell? ⟨vb, o, none⟩ := by
    intro o
    rw [hgrow.cell_far ⟨vb, o, none⟩ (by simp; omega) (fun e => by have := hvo vb e.symm; omega), World.cell?_drew, World.cell?_alloc_past _ _ _ hv]
  refine ⟨by rw [b10.cell (p := ⟨T, 3, none⟩) hT, s3], by rw [b10.cell (p := ⟨T, 6, none⟩) hT, s6], by rw [hb, v0], by rw [hb, v1], by rw [hb, v2], by rw [b10.frozen (p := ⟨T, 3, none⟩) hT, g3]⟩

set_option maxRecDepth 100000 in
set_option maxHeartbeats 2000000 in
theorem keepVisits_any {w0 w : World} {B0 B T G V NB n : Nat} {P : Nat → Nat} {Q : Nat → Int} (H : KS w0 w B0 B T G V NB n 0 P Q none 0) (hn : n ≤ 254) (hP : ∀ j, P j < 64) (hQ : ∀ j, 0 ≤ Q j ∧ Q j ≤ 255) :
    Calls Yba.prog 14 #[.pointer (some ⟨T, 0, none⟩), .pointer (some ⟨NB, 0, none⟩)] w fun e w' => e = .returned (.tuple #[]) ∧ ∃ ao cap, KS w0 w' B0 B T G V NB n n P Q ao cap := by
  have t5 := H.tab.t5
  have t7 := H.tab.t7
  have HH := hide H
  have HP := hide hP
  have HQ := hide hQ
  clear H hP hQ
  obtain ⟨i0, hi, hz0, hz1, hz2⟩ := info_parts Yba.info27
  go_enter Yba.func14, Yba.ntmps14
  go_wp2_with fail
  go_loopw [4, 5] (fun vr vi wr => ∃ (k m : Nat) (ao : Option Addr) (cap : Nat), k ≤ n ∧ k + m = n ∧ vr = .int .u16 0 ∧ vi = .int .i64 ((k : Int) - 1) ∧ KS w0 wr B0 B T G V NB n m P Q ao cap) (fun _ vi _ => (intOf vi + 1).toNat)
  case atStart => exact ⟨n, 0, none, 0, by omega, by omega, rfl, rfl, HH⟩
  case round =>
    obtain ⟨k, m, ao, cap, hk, hkm, rfl, rfl, hK⟩ := hrel
    by_cases hk0 : 1 ≤ k
    · obtain ⟨i, rfl⟩ : ∃ i, k = i + 1 := ⟨k - 1, by omega⟩
      have e1 : ((i + 1 : Nat) : Int) - 1 = i := by omega
      rw [e1]
      clear e1
      have hnm : i = n - 1 - m := by omega
      have HNM := hide hnm
      have hPi := HP.out i
      obtain ⟨hQ0, hQ1⟩ := HQ.out i
      have d0 := hK.vis.c0 i (by omega)
      have d1 := hK.vis.c1 i (by omega)
      have d2 := hK.vis.c2 i (by omega)
      have d3 := hK.vis.c3 i (by omega)
      have t2 := hK.tab.t2
      have t3 := hK.tab.t3
      have t4 := hK.tab.t4
      have t6 := hK.tab.t6
      have f3 := hK.tab.free 3
      have hgz := hK.idx (P i) hPi
      have hgf := hK.idf (P i)
      obtain ⟨lT, lG, lV⟩ := hK.lt
      obtain ⟨gT, gG, gV⟩ := hK.ge
      obtain ⟨nTG, nTV, nGV⟩ := hK.ne
      have hsz := hK.siz
      have bT' : T < wr.heap.size := by omega
      have bG' : G < wr.heap.size := by omega
      have HKS := hide hK
      clear hK hnm HP HQ HH
      go_wp2_with fail
      go_quiet (fail)
      go_wp2_with fail
      go_region
      go_wp2_with fail
      have H9 := s9_of w0 wr B0 G (P i) m (nq + 1) _ (Obj.cells #[Value.int IntKind.u16 ↑(P i), Value.int IntKind.u8 (Q i), Value.int IntKind.u8 0, Value.int IntKind.u16 0] 37) HKS.out.bel (by omega) bG' gG hgz
      have own9 := own9_of (G := G) (p := P i) (q := nq + 1) (v' := Value.int IntKind.u16 ↑m) (Obj.cells #[Value.int IntKind.u16 ↑(P i), Value.int IntKind.u8 (Q i), Value.int IntKind.u8 0, Value.int IntKind.u16 0] 37) HKS.out.own lG
      have nGs : wr.heap.size ≠ G := by omega
      have v0 : (((wr.alloc (Obj.cells #[Value.int IntKind.u16 ↑(P i), Value.int IntKind.u8 (Q i), Value.int IntKind.u8 0, Value.int IntKind.u16 0] 37)).drewN (nq + 1)).setCell ⟨G, P i, none⟩ (Value.int IntKind.u16 ↑m)).cell? ⟨wr.heap.size, 0, none⟩ = some (.int .u16 (P i)) := by rw [cell_far _ _ _ _ _ _ (.inl nGs), World.cell?_drewN]; simp
      have v1 : (((wr.alloc (Obj.cells #[Value.int IntKind.u16 ↑(P i), Value.int IntKind.u8 (Q i), Value.int IntKind.u8 0, Value.int IntKind.u16 0] 37)).drewN (nq + 1)).setCell ⟨G, P i, none⟩ (Value.int IntKind.u16 ↑m)).cell? ⟨wr.heap.size, 1, none⟩ = some (.int .u8 (Q i)) := by rw [cell_far _ _ _ _ _ _ (.inl nGs), World.cell?_drewN]; simp
      have v2 : (((wr.alloc (Obj.cells #[Value.int IntKind.u16 ↑(P i), Value.int IntKind.u8 (Q i), Value.int IntKind.u8 0, Value.int IntKind.u16 0] 37)).drewN (nq + 1)).setCell ⟨G, P i, none⟩ (Value.int IntKind.u16 ↑m)).cell? ⟨wr.heap.size, 2, none⟩ = some (.int .u8 0) := by rw [cell_far _ _ _ _ _ _ (.inl nGs), World.cell?_drewN]; simp
      obtain ⟨w9, hw9⟩ : ∃ w9, w9 = ((wr.alloc (Obj.cells #[Value.int IntKind.u16 ↑(P i), Value.int IntKind.u8 (Q i), Value.int IntKind.u8 0, Value.int IntKind.u16 0] 37)).drewN (nq + 1)).setCell ⟨G, P i, none⟩ (Value.int IntKind.u16 ↑m) := ⟨_, rfl⟩
      rw [← hw9] at H9 own9 v0 v1 v2 ⊢
      clear hw9 nGs
      have s3 : w9.cell? ⟨T, 3, none⟩ = some (.slice ao m cap) := by rw [H9.cel T 3 bT' (.inl nTG), t3]
      have s6 : w9.cell? ⟨T, 6, none⟩ = some (.int .i64 0) := by rw [H9.cel T 6 bT' (.inl nTG), t6]
      have g3 : w9.frozen? ⟨T, 3, none⟩ = false := by rw [H9.frz T 3 bT', f3]
      have z9 := H9.siz
      have hvo := (HKS.out.own.lt)
      have hvT : wr.heap.size ≠ T := by omega
      replace H9 := hide H9
      clear t2 t3 t4 t6 f3 hgz hgf d0 d1 d2 d3
      have HV := hide hvT
      obtain ⟨vb, hvb⟩ : ∃ vb, vb = wr.heap.size := ⟨_, rfl⟩
      rw [← hvb] at v0 v1 v2 z9 hvT ⊢
      have S10 := hide (s10_of (NB := NB) (i := i) own9 lT (by omega) (by omega) (fun r hr => by have := (hvo r hr).2; omega) s3 g3 s6 v0 v1 v2)
      have HN := hide (ent_cells w9 NB P Q i)
      have HO := hide (ent_one NB P Q i)
      have HB : Hid (B ≤ ((w9.alloc (.cells (ent NB P Q i).toArray 27)).drew).heap.size) := by show B ≤ _; simp; omega
      have HB2 : Hid (((w9.alloc (.cells (ent NB P Q i).toArray 27)).drew).heap.size = w9.heap.size + 1) := by show _ = _; simp
      have hT9 : T < w9.heap.size := by omega
      clear hvb hvo
      have ne1 := World.new_ne w9 _ s6
      have ne2 := World.new_ne w9 _ v0
      have hw8 : IntKind.u8.wrap 0 = 0 := rfl
      refine wp_region_noPanic ?_
      refine wp_region_held_drew (S := fun w' => w'.cell? ⟨T, 6, none⟩ = some (.int .i64 0) ∧ w'.cell? ⟨vb, 0, none⟩ = some (.int .u16 (P i)) ∧ w'.cell? ⟨vb, 1, none⟩ = some (.int .u8 (Q i)) ∧ w'.cell? ⟨vb, 2, none⟩ = some (.int .u8 0)) (by kernel_rfl) ?_ (fun hHeld => ?_)
      · go_keep
      refine wpAnyH_take (i := 0) (v := .pointer (some ⟨T, 0, none⟩)) rfl (by kernel_rfl) (by kernel_rfl) (by kernel_rfl) (fun _ _ _ h => h) (Or.inl ⟨by rfl, ?_⟩) (by assumption) ?_
      · intro w hSw
        try dsimp only at hSw
        go_simp
      try simp only [Act.put, List.setIfInBounds_toArray, List.set_cons_zero, List.set_cons_succ, List.getElem_toArray, List.getElem_cons_zero, List.getElem_cons_succ]
      refine wpAnyH_take (i := 1) (v := .pointer (some ⟨T, 0, none⟩)) rfl (by kernel_rfl) (by kernel_rfl) (by kernel_rfl) (fun _ _ _ h => h) (Or.inl ⟨by rfl, ?_⟩) (by assumption) ?_
      · intro w hSw
        try dsimp only at hSw
        go_simp
      try simp only [Act.put, List.setIfInBounds_toArray, List.set_cons_zero, List.set_cons_succ, List.getElem_toArray, List.getElem_cons_zero, List.getElem_cons_succ]
      refine wpAnyH_take (i := 2) (v := .pointer (some ⟨T, 0, none⟩)) rfl (by kernel_rfl) (by kernel_rfl) (by kernel_rfl) (fun _ _ _ h => h) (Or.inl ⟨by rfl, ?_⟩) (by assumption) ?_
      · intro w hSw
        try dsimp only at hSw
        go_simp
      try simp only [Act.put, List.setIfInBounds_toArray, List.set_cons_zero, List.set_cons_succ, List.getElem_toArray, List.getElem_cons_zero, List.getElem_cons_succ]
      refine wpAnyH_take (i := 3) (v := .pointer (some ⟨T, 3, none⟩)) rfl (by kernel_rfl) (by kernel_rfl) (by kernel_rfl) (fun _ _ _ h => h) (Or.inl ⟨by rfl, ?_⟩) (by assumption) ?_
      · intro w hSw
        try dsimp only at hSw
        go_simp
      try simp only [Act.put, List.setIfInBounds_toArray, List.set_cons_zero, List.set_cons_succ, List.getElem_toArray, List.getElem_cons_zero, List.getElem_cons_succ]
      refine wpAnyH_take (i := 5) (v := .pointer (some ⟨NB, 0, none⟩)) rfl (by kernel_rfl) (by kernel_rfl) (by kernel_rfl) (fun _ _ _ h => h) (Or.inl ⟨by rfl, ?_⟩) (by assumption) ?_
      · intro w hSw
        try dsimp only at hSw
        go_simp
      try simp only [Act.put, List.setIfInBounds_toArray, List.set_cons_zero, List.set_cons_succ, List.getElem_toArray, List.getElem_cons_zero, List.getElem_cons_succ]
      refine wpAnyH_take (i := 6) (v := .pointer (some ⟨vb, 0, none⟩)) rfl (by kernel_rfl) (by kernel_rfl) (by kernel_rfl) (fun _ _ _ h => h) (Or.inl ⟨by rfl, ?_⟩) (by assumption) ?_
      · intro w hSw
        try dsimp only at hSw
        go_simp
      try simp only [Act.put, List.setIfInBounds_toArray, List.set_cons_zero, List.set_cons_succ, List.getElem_toArray, List.getElem_cons_zero, List.getElem_cons_succ]
      refine wpAnyH_take (i := 7) (v := .int .u16 (P i)) rfl (by kernel_rfl) (by kernel_rfl) (by kernel_rfl) (fun _ _ _ h => h) (Or.inl ⟨by rfl, ?_⟩) (by assumption) ?_
      · intro w hSw
        try dsimp only at hSw
        go_simp
      try simp only [Act.put, List.setIfInBounds_toArray, List.set_cons_zero, List.set_cons_succ, List.getElem_toArray, List.getElem_cons_zero, List.getElem_cons_succ]
      refine wpAnyH_take (i := 8) (v := .pointer (some ⟨vb, 1, none⟩)) rfl (by kernel_rfl) (by kernel_rfl) (by kernel_rfl) (fun _ _ _ h => h) (Or.inl ⟨by rfl, ?_⟩) (by assumption) ?_
      · intro w hSw
        try dsimp only at hSw
        go_simp
      try simp only [Act.put, List.setIfInBounds_toArray, List.set_cons_zero, List.set_cons_succ, List.getElem_toArray, List.getElem_cons_zero, List.getElem_cons_succ]
      refine wpAnyH_take (i := 9) (v := .int .u8 (Q i)) rfl (by kernel_rfl) (by kernel_rfl) (by kernel_rfl) (fun _ _ _ h => h) (Or.inl ⟨by rfl, ?_⟩) (by assumption) ?_
      · intro w hSw
        try dsimp only at hSw
        go_simp
      try simp only [Act.put, List.setIfInBounds_toArray, List.set_cons_zero, List.set_cons_succ, List.getElem_toArray, List.getElem_cons_zero, List.getElem_cons_succ]
      refine wpAnyH_take (i := 10) (v := .pointer (some ⟨T, 0, none⟩)) rfl (by kernel_rfl) (by kernel_rfl) (by kernel_rfl) (fun _ _ _ h => h) (Or.inl ⟨by rfl, ?_⟩) (by assumption) ?_
      · intro w hSw
        try dsimp only at hSw
        go_simp
      try simp only [Act.put, List.setIfInBounds_toArray, List.set_cons_zero, List.set_cons_succ, List.getElem_toArray, List.getElem_cons_zero, List.getElem_cons_succ]
      refine wpAnyH_take (i := 11) (v := .pointer (some ⟨T, 0, none⟩)) rfl (by kernel_rfl) (by kernel_rfl) (by kernel_rfl) (fun _ _ _ h => h) (Or.inl ⟨by rfl, ?_⟩) (by assumption) ?_
      · intro w hSw
        try dsimp only at hSw
        go_simp
      try simp only [Act.put, List.setIfInBounds_toArray, List.set_cons_zero, List.set_cons_succ, List.getElem_toArray, List.getElem_cons_zero, List.getElem_cons_succ]
      refine wpAnyH_take (i := 12) (v := .pointer (some ⟨T, 6, none⟩)) rfl (by kernel_rfl) (by kernel_rfl) (by kernel_rfl) (fun _ _ _ h => h) (Or.inl ⟨by rfl, ?_⟩) (by assumption) ?_
      · intro w hSw
        try dsimp only at hSw
        go_simp
      try simp only [Act.put, List.setIfInBounds_toArray, List.set_cons_zero, List.set_cons_succ, List.getElem_toArray, List.getElem_cons_zero, List.getElem_cons_succ]
      refine wpAnyH_take (i := 13) (v := .int .i64 0) rfl (by kernel_rfl) (by kernel_rfl) (by kernel_rfl) (fun _ _ _ h => h) (Or.inl ⟨by rfl, ?_⟩) (by assumption) ?_
      · intro w hSw
        try dsimp only at hSw
        go_simp
      try simp only [Act.put, List.setIfInBounds_toArray, List.set_cons_zero, List.set_cons_succ, List.getElem_toArray, List.getElem_cons_zero, List.getElem_cons_succ]
      refine wpAnyH_take (i := 14) (v := .int .u8 0) rfl (by kernel_rfl) (by kernel_rfl) (by kernel_rfl) (fun _ _ _ h => h) (Or.inl ⟨by rfl, ?_⟩) (by assumption) ?_
      · intro w hSw
        try dsimp only at hSw
        go_simp
      try simp only [Act.put, List.setIfInBounds_toArray, List.set_cons_zero, List.set_cons_succ, List.getElem_toArray, List.getElem_cons_zero, List.getElem_cons_succ]
      refine wpAnyH_take (i := 15) (v := .pointer (some ⟨vb, 2, none⟩)) rfl (by kernel_rfl) (by kernel_rfl) (by kernel_rfl) (fun _ _ _ h => h) (Or.inl ⟨by rfl, ?_⟩) (by assumption) ?_
      · intro w hSw
        try dsimp only at hSw
        go_simp
      try simp only [Act.put, List.setIfInBounds_toArray, List.set_cons_zero, List.set_cons_succ, List.getElem_toArray, List.getElem_cons_zero, List.getElem_cons_succ]
      refine wpAnyH_take (i := 16) (v := .int .u8 0) rfl (by kernel_rfl) (by kernel_rfl) (by kernel_rfl) (fun _ _ _ h => h) (Or.inl ⟨by rfl, ?_⟩) (by assumption) ?_
      · intro w hSw
        try dsimp only at hSw
        go_simp
      try simp only [Act.put, List.setIfInBounds_toArray, List.set_cons_zero, List.set_cons_succ, List.getElem_toArray, List.getElem_cons_zero, List.getElem_cons_succ]
      refine wpAnyH_take (i := 17) (v := .int .u8 0) rfl (by kernel_rfl) (by kernel_rfl) (by kernel_rfl) (fun _ _ _ h => h) (Or.inl ⟨by rfl, ?_⟩) (by assumption) ?_
      · intro w hSw
        try dsimp only at hSw
        go_simp
      try simp only [Act.put, List.setIfInBounds_toArray, List.set_cons_zero, List.set_cons_succ, List.getElem_toArray, List.getElem_cons_zero, List.getElem_cons_succ]
      refine wpAnyH_take (i := 18) (v := .int .u16 0) rfl (by kernel_rfl) (by kernel_rfl) (by kernel_rfl) (fun _ _ _ h => h) (Or.inl ⟨by rfl, ?_⟩) (by assumption) ?_
      · intro w hSw
        try dsimp only at hSw
        go_simp
      try simp only [Act.put, List.setIfInBounds_toArray, List.set_cons_zero, List.set_cons_succ, List.getElem_toArray, List.getElem_cons_zero, List.getElem_cons_succ]
      refine wpAnyH_take (i := 19) (v := .agg #[.pointer (some ⟨NB, 0, none⟩), .int .u16 (P i), .int .u8 (Q i), .int .u8 0, .int .u16 0]) rfl (by kernel_rfl) (by kernel_rfl) (by kernel_rfl) (fun _ _ _ h => h) (Or.inl ⟨by rfl, ?_⟩) (by assumption) ?_
      · intro w hSw
        try dsimp only at hSw
        go_simp
      try simp only [Act.put, List.setIfInBounds_toArray, List.set_cons_zero, List.set_cons_succ, List.getElem_toArray, List.getElem_cons_zero, List.getElem_cons_succ]
      refine wpAnyH_ready (rs := [4, 20]) (by kernel_rfl) (by simp) ?_
      refine AllReadyH.cons (o := _) rfl (fun K hK => ?_) (AllReadyH.cons (o := _) rfl (fun K hK => ?_) AllReadyH.nil)
      · go_simp
        refine hK.out _ _ ?_ (fun hHeld => ?_)
        · go_keep
        clear hK K
        try simp only [Act.put, List.setIfInBounds_toArray, List.set_cons_zero, List.set_cons_succ, List.getElem_toArray, List.getElem_cons_zero, List.getElem_cons_succ]
        refine wpAnyH_ready (rs := [20]) (by kernel_rfl) (by simp) ?_
        refine AllReadyH.cons (o := _) rfl (fun K hK => ?_) AllReadyH.nil
        go_simp
        refine hK.out _ _ ?_ (fun hHeld => ?_)
        · go_keep
        clear hK K
        try simp only [Act.put, List.setIfInBounds_toArray, List.set_cons_zero, List.set_cons_succ, List.getElem_toArray, List.getElem_cons_zero, List.getElem_cons_succ]
        refine wpAnyH_ready (rs := [21]) (by kernel_rfl) (by simp) ?_
        refine AllReadyH.cons (o := _) rfl (fun K hK => ?_) AllReadyH.nil
        refine step_append_lies _ rfl (.tmp 59) (.tmp 75) 24 rfl B 27 i0 (.agg #[.pointer none, .int .u16 0, .int .u8 0, .int .u8 0, .int .u16 0]) 5 16 Yba.underlying24 hi hz0 hz1 hz2 rfl (by decide) (.slice ao m cap) m (flat NB P Q n m) (by simp [Act.eval]) (own9.alloc _).drew ⟨w9.heap.size, 0, none⟩ 1 1 (ent NB P Q i) (by simp [Act.eval]) rfl HN.out HO.out (by omega) (by unfold maxLen; omega) (by omega) HB.out (w9.heap.size + 1) HB2.out ?_
        intro g cap' w10 hown' hgrow hg hlt
        obtain ⟨x3, x6, y0, y1, y2, y3⟩ := S10.out w10 hgrow
        have HW10 : Hid (w10.ownsRow B 27 5 (.slice (some ⟨g, 0, none⟩) (m + 1) cap') (m + 1) (flat NB P Q n m ++ ent NB P Q i) ∧ ((w9.alloc (.cells (ent NB P Q i).toArray 27)).drew).grownBy w10 (Value.slice ao m cap).ownBlock) := ⟨hown', hgrow⟩
        clear hown' hgrow hg hlt
        refine hK.out _ _ ⟨x6, y0, y1, y2⟩ (fun hHeld => ?_)
        clear hK K
        try simp only [Act.put, List.setIfInBounds_toArray, List.set_cons_zero, List.set_cons_succ, List.getElem_toArray, List.getElem_cons_zero, List.getElem_cons_succ]
        refine wpAnyH_take (i := 22) (v := .pointer (some ⟨T, 0, none⟩)) rfl (by kernel_rfl) (by kernel_rfl) (by kernel_rfl) (fun _ _ _ h => h) (Or.inl ⟨by rfl, ?_⟩) (by assumption) ?_
        · intro w hSw
          try dsimp only at hSw
          go_simp
        try simp only [Act.put, List.setIfInBounds_toArray, List.set_cons_zero, List.set_cons_succ, List.getElem_toArray, List.getElem_cons_zero, List.getElem_cons_succ]
        refine wpAnyH_take (i := 23) (v := .pointer (some ⟨T, 3, none⟩)) rfl (by kernel_rfl) (by kernel_rfl) (by kernel_rfl) (fun _ _ _ h => h) (Or.inl ⟨by rfl, ?_⟩) (by assumption) ?_
        · intro w hSw
          try dsimp only at hSw
          go_simp
        try simp only [Act.put, List.setIfInBounds_toArray, List.set_cons_zero, List.set_cons_succ, List.getElem_toArray, List.getElem_cons_zero, List.getElem_cons_succ]
        refine wpAnyH_ready (rs := [24]) (by kernel_rfl) (by simp) ?_
        refine AllReadyH.cons (o := _) rfl (fun K hK => ?_) AllReadyH.nil
        go_simp
        refine hK.out _ _ ⟨by rw [cell_far _ _ _ _ _ _ (.inr (by omega)), x6], by rw [cell_far _ _ _ _ _ _ (.inl hvT), y0], by rw [cell_far _ _ _ _ _ _ (.inl hvT), y1], by rw [cell_far _ _ _ _ _ _ (.inl hvT), y2]⟩ (fun hHeld => ?_)
        clear hK K
        try simp only [Act.put, List.setIfInBounds_toArray, List.set_cons_zero, List.set_cons_succ, List.getElem_toArray, List.getElem_cons_zero, List.getElem_cons_succ]
        refine wpAnyH_done (by kernel_rfl) ?_ _
        refine NoPanic.normal ?_
        have R := ks_step HKS.out H9.out own9 HNM.out hPi HW10.out.1 HW10.out.2
        clear x3 x6 y0 y1 y2 y3 hHeld HW10
        have RR := hide R
        clear R
        go_wp2
        go_roundw
        case rel => exact ⟨i, m + 1, _, cap', by omega, by omega, rfl, by go_num, RR.out⟩
        case measure => simp [intOf]
      · go_simp
        refine hK.out _ _ ?_ (fun hHeld => ?_)
        · go_keep
        clear hK K
        try simp only [Act.put, List.setIfInBounds_toArray, List.set_cons_zero, List.set_cons_succ, List.getElem_toArray, List.getElem_cons_zero, List.getElem_cons_succ]
        have s3' : (w9.alloc (Obj.cells #[Value.pointer (some ⟨NB, 0, none⟩), Value.int IntKind.u16 ↑(P i), Value.int IntKind.u8 (Q i), Value.int IntKind.u8 0, Value.int IntKind.u16 0] 27)).cell? ⟨T, 3, none⟩ = some (.slice ao m cap) := by rw [World.cell?_alloc_past _ _ _ hT9, s3]
        refine wpAnyH_ready (rs := [4]) (by kernel_rfl) (by simp) ?_
        refine AllReadyH.cons (o := _) rfl (fun K hK => ?_) AllReadyH.nil
        go_simp
        refine hK.out _ _ ?_ (fun hHeld => ?_)
        · go_keep
        clear hK K
        try simp only [Act.put, List.setIfInBounds_toArray, List.set_cons_zero, List.set_cons_succ, List.getElem_toArray, List.getElem_cons_zero, List.getElem_cons_succ]
        refine wpAnyH_ready (rs := [21]) (by kernel_rfl) (by simp) ?_
        refine AllReadyH.cons (o := _) rfl (fun K hK => ?_) AllReadyH.nil
        refine step_append_lies _ rfl (.tmp 59) (.tmp 75) 24 rfl B 27 i0 (.agg #[.pointer none, .int .u16 0, .int .u8 0, .int .u8 0, .int .u16 0]) 5 16 Yba.underlying24 hi hz0 hz1 hz2 rfl (by decide) (.slice ao m cap) m (flat NB P Q n m) (by simp [Act.eval]) (own9.alloc _).drew ⟨w9.heap.size, 0, none⟩ 1 1 (ent NB P Q i) (by simp [Act.eval]) rfl HN.out HO.out (by omega) (by unfold maxLen; omega) (by omega) HB.out (w9.heap.size + 1) HB2.out ?_
        intro g cap' w10 hown' hgrow hg hlt
        obtain ⟨x3, x6, y0, y1, y2, y3⟩ := S10.out w10 hgrow
        have HW10 : Hid (w10.ownsRow B 27 5 (.slice (some ⟨g, 0, none⟩) (m + 1) cap') (m + 1) (flat NB P Q n m ++ ent NB P Q i) ∧ ((w9.alloc (.cells (ent NB P Q i).toArray 27)).drew).grownBy w10 (Value.slice ao m cap).ownBlock) := ⟨hown', hgrow⟩
        clear hown' hgrow hg hlt
        refine hK.out _ _ ⟨x6, y0, y1, y2⟩ (fun hHeld => ?_)
        clear hK K
        try simp only [Act.put, List.setIfInBounds_toArray, List.set_cons_zero, List.set_cons_succ, List.getElem_toArray, List.getElem_cons_zero, List.getElem_cons_succ]
        refine wpAnyH_take (i := 22) (v := .pointer (some ⟨T, 0, none⟩)) rfl (by kernel_rfl) (by kernel_rfl) (by kernel_rfl) (fun _ _ _ h => h) (Or.inl ⟨by rfl, ?_⟩) (by assumption) ?_
        · intro w hSw
          try dsimp only at hSw
          go_simp
        try simp only [Act.put, List.setIfInBounds_toArray, List.set_cons_zero, List.set_cons_succ, List.getElem_toArray, List.getElem_cons_zero, List.getElem_cons_succ]
        refine wpAnyH_take (i := 23) (v := .pointer (some ⟨T, 3, none⟩)) rfl (by kernel_rfl) (by kernel_rfl) (by kernel_rfl) (fun _ _ _ h => h) (Or.inl ⟨by rfl, ?_⟩) (by assumption) ?_
        · intro w hSw
          try dsimp only at hSw
          go_simp
        try simp only [Act.put, List.setIfInBounds_toArray, List.set_cons_zero, List.set_cons_succ, List.getElem_toArray, List.getElem_cons_zero, List.getElem_cons_succ]
        refine wpAnyH_ready (rs := [24]) (by kernel_rfl) (by simp) ?_
        refine AllReadyH.cons (o := _) rfl (fun K hK => ?_) AllReadyH.nil
        go_simp
        refine hK.out _ _ ⟨by rw [cell_far _ _ _ _ _ _ (.inr (by omega)), x6], by rw [cell_far _ _ _ _ _ _ (.inl hvT), y0], by rw [cell_far _ _ _ _ _ _ (.inl hvT), y1], by rw [cell_far _ _ _ _ _ _ (.inl hvT), y2]⟩ (fun hHeld => ?_)
        clear hK K
        try simp only [Act.put, List.setIfInBounds_toArray, List.set_cons_zero, List.set_cons_succ, List.getElem_toArray, List.getElem_cons_zero, List.getElem_cons_succ]
        refine wpAnyH_done (by kernel_rfl) ?_ _
        refine NoPanic.normal ?_
        have R := ks_step HKS.out H9.out own9 HNM.out hPi HW10.out.1 HW10.out.2
        clear x3 x6 y0 y1 y2 y3 hHeld HW10
        have RR := hide R
        clear R
        go_wp2
        go_roundw
        case rel => exact ⟨i, m + 1, _, cap', by omega, by omega, rfl, by go_num, RR.out⟩
        case measure => simp [intOf]
    · obtain rfl : k = 0 := by omega
      obtain rfl : m = n := by omega
      have HKS := hide hK
      clear hK
      go_wp2
      go_end0
      exact ⟨rfl, _, _, HKS⟩

theorem keep_any {w0 w : World} {B0 B T G V NB n : Nat} {P : Nat → Nat} {Q : Nat → Int} (H : KS w0 w B0 B T G V NB n 0 P Q none 0) (hn : n ≤ 254) (hP : ∀ j, P j < 64) (hQ : ∀ j, 0 ≤ Q j ∧ Q j ≤ 255) :
    Calls Yba.prog 10 #[.pointer (some ⟨T, 0, none⟩), .pointer (some ⟨NB, 0, none⟩)] w fun e w' => e = .returned (.tuple #[]) ∧ ∃ ao cap, KS w0 w' B0 B T G V NB n n P Q ao cap := by
  have t0 := H.tab.t0
  have HH := hide H
  have HP := hide hP
  have HQ := hide hQ
  clear H hP hQ
  go_enter Yba.func10, Yba.ntmps10
  go_wp2_with fail
  refine (keepVisits_any HH.out hn HP.out HQ.out).mono ?_
  rintro e w' ⟨rfl, ao, cap, hk⟩
  have HK := hide hk
  clear hk
  go_wp2
  go_end0
  exact ⟨rfl, ao, cap, HK⟩

theorem visit_nat {w : World} {T G V : Nat} {kv : Value} {k : Nat} {P : Nat → Nat} {Q : Nat → Int} (H : Tab w T G V kv k) (hV : Vis w V k P Q) (hk : k < 254) (x : Nat) (y : Int) (hx : x < 64) (hy0 : 0 ≤ y) (hy1 : y ≤ 255) (hne : T ≠ V) :
    Calls Yba.prog 8 #[.pointer (some ⟨T, 0, none⟩), .int .i64 (x : Int), .int .i64 y, .int .i64 0, .int .i64 0] w fun e w' => e = .returned (.tuple #[]) ∧ w' = visited w T V k x y :=
  visit_any H hk (x : Int) y (by omega) (by omega) hy0 hy1 hne (fun q hq => hV.all _ (by omega)) hV.free

end Go.Proofs.Ybulkkce.keepA
