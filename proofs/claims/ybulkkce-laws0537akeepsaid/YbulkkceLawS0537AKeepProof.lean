/-
  A proof of 'Rows.LawS0537AKeepSaid': 'func LawS0537AKeep(offs []uint16, lengths []uint8) bool' returns true for every input. The frame is the given shell's; the contracts of suffixTable's methods stand in YbulkkceTableA and YbulkkceKeepA.
-/
import Derived.Test.YbulkkceRows
import Derived.Test.YbulkkceTableA
import Derived.Test.YbulkkceKeepA
import Derived.WalkSpells
import Derived.WalkSmall
import Derived.LaidEqlPtr
import Derived.Lib.Builder
import Derived.Great.BuildSlice
import Derived.WalkKit
import Derived.ProofKit
import Derived.OpenShut
import Derived.ShutString
import Derived.ChangeOld
import Derived.Below
namespace Go.Proofs.Ybulkkce.lawS0537AKeep
open Go.ChangeShapes Go.WideShapes Go.ChangeAt Go.RowKit
open Go.ChangeMaps (open_string shut_string)
set_option linter.unusedVariables false

theorem own : ownKnob Yba.prog.godebug = none := by kernel_rfl
theorem laidOut : laidOutB Yba.prog = true := by kernel_rfl

/-- WHAT THE WALK IS TOLD OF A SLICE OF INTEGERS THAT CAME IN: it is nil; or it leads to a row of 'cap' cells, the numbers 'zs' (the first 'len' are its elements, the rest its spare room), each fitting its kind. -/
def IsRow (k : IntKind) (w : World) (a : Option Addr) (len cap : Nat) (zs : List Int) : Prop :=
  (a = none ∧ len = 0 ∧ cap = 0 ∧ zs = []) ∨
  ∃ x, a = some x ∧ len ≤ cap ∧ cap ≤ maxLen ∧ zs.length = cap ∧ (∀ i, i < zs.length → w.cell? (x.add i) = some (.int k (zs.getD i 0))) ∧ ∀ n ∈ zs, (Lit.int k n).wf = true

open tableA keepA
set_option linter.unusedSimpArgs false

/-! ### Laws for operations on great variables: the cells stay behind a name -/
theorem wpList_alloc {ops : Array Oper} {rest : List Oper} {o : Oper} {a : Act} {Q : Exit → Act → World → Prop} {w : World} (hgd : o.guard = none) (t : TypeId) (ho : o.op = .alloc t) (i : TypeInfo) (hi : Yba.prog.info? t = some i) (z : Value) (hz : i.zero = some z) (cs : Array Value) (hcs : z.cells = cs)
    (h : wpList Yba.prog ops Q rest (a.put o.dst (.pointer (some ⟨w.heap.size, 0, none⟩))) (w.alloc (.cells cs t))) : wpList Yba.prog ops Q (o :: rest) a w := by
  subst hcs
  refine wpList_plain hgd fun K hK => ?_
  unfold Oper.wp
  simp [execOp, ho, Instr.alloc, zeroValue, typeInfo, hi, hz, newVar, newRow, Result.andThen, go_sem]
  exact hK _ _ h

theorem wpList_build0 {ops : Array Oper} {rest : List Oper} {o : Oper} {a : Act} {Q : Exit → Act → World → Prop} {w : World} (hgd : o.guard = none) (t : TypeId) (ho : o.op = .build t #[]) (cs : Array Value) (hf : Yba.prog.built t [] = some cs)
    (h : wpList Yba.prog ops Q rest (a.put o.dst (.agg cs)) w) : wpList Yba.prog ops Q (o :: rest) a w :=
  wpList_buildTo hgd t #[] ho o.dst rfl cs (by simpa using hf) h

theorem zero38 : ((Yba.prog.info? 38).bind (·.zero)).map (·.cells.size) = some 1016 := by kernel_rfl
theorem built44 : (Yba.prog.built 44 []).isSome = true := by kernel_rfl
theorem info38 : ∃ i z cs, Yba.prog.info? 38 = some i ∧ i.zero = some z ∧ z.cells = cs ∧ cs.size = 1016 := by
  have h := zero38
  cases hi : Yba.prog.info? 38 with
  | none => rw [hi] at h; cases h
  | some i =>
    rw [hi] at h
    cases hz : i.zero with
    | none => simp [hz] at h
    | some z => exact ⟨i, z, z.cells, rfl, hz, rfl, by simpa [hz] using h⟩

theorem some44 : (Yba.prog.info? 44).isSome = true := by kernel_rfl
theorem nep (w : World) (a : Addr) : (binOp .neq 25 (.pointer (some a)) (.pointer (some a))).run Yba.prog w = .ok (.bool false) w := by
  obtain ⟨j, hj⟩ := Option.isSome_iff_exists.1 some44
  exact Lib.run_neq_ptr_same w a Yba.underlying25 hj

/-! ### The table while the visits are noted -/
structure St (w wr : World) (T G V k : Nat) (P : Nat → Nat) (Q : Nat → Int) : Prop where
  tab : Tab wr T G V (.slice none 0 0) k
  vis : Vis wr V k P Q
  idx : ∀ x, x < 64 → wr.cell? ⟨G, x, none⟩ = some (.int .u16 0)
  idf : ∀ x, wr.frozen? ⟨G, x, none⟩ = false
  bel : Below w.heap.size w wr
  lt : T < wr.heap.size ∧ G < wr.heap.size ∧ V < wr.heap.size
  ge : w.heap.size ≤ T ∧ w.heap.size ≤ G ∧ w.heap.size ≤ V
  ne : T ≠ G ∧ T ≠ V ∧ G ≠ V

theorem st_start (w w1 : World) (cs : Array Value) (hown : w1.ownsRow w.heap.size 23 1 (.slice (some ⟨w.heap.size, 0, none⟩) 64 64) 64 (madeCells (Value.int .u16 0).cells (64 * 1)).toList) (hcs : cs.size = 1016) (hb : Below w.heap.size w w1) (hG : w.heap.size < w1.heap.size) (P : Nat → Nat) (Q : Nat → Int) :
    St w ((w1.alloc (.cells cs 38)).alloc (.cells #[.bool true, .int .i64 64, .slice (some ⟨w.heap.size, 0, none⟩) 64 64, .slice none 0 0, .pointer (some ⟨w1.heap.size, 0, none⟩), .int .i64 0, .int .i64 0, .int .u16 0] 31)) (w1.heap.size + 1) w.heap.size w1.heap.size 0 P Q := by
  have hG2 : w.heap.size < (w1.alloc (.cells cs 38)).heap.size := by simp; omega
  have hV2 : w1.heap.size < (w1.alloc (.cells cs 38)).heap.size := by simp
  have hs2 : (w1.alloc (.cells cs 38)).heap.size = w1.heap.size + 1 := by simp
  have fold : ∀ o, ((w1.alloc (.cells cs 38)).alloc (.cells #[.bool true, .int .i64 64, .slice (some ⟨w.heap.size, 0, none⟩) 64 64, .slice none 0 0, .pointer (some ⟨w1.heap.size, 0, none⟩), .int .i64 0, .int .i64 0, .int .u16 0] 31)).frozen? ⟨w1.heap.size + 1, o, none⟩ = false := by
    intro o
    have h := heap_alloc_new (w1.alloc (.cells cs 38)) (.cells #[.bool true, .int .i64 64, .slice (some ⟨w.heap.size, 0, none⟩) 64 64, .slice none 0 0, .pointer (some ⟨w1.heap.size, 0, none⟩), .int .i64 0, .int .i64 0, .int .u16 0] 31)
    rw [hs2] at h
    simp only [World.frozen?, h]
    simp
  refine ⟨⟨?_, ?_, ?_, ?_, ?_, ?_, ?_, fold⟩, ⟨?_, ?_, ?_, ?_, ?_, ?_⟩, ?_, ?_, ?_, ?_, ?_, ?_⟩
  · simp
  · simp
  · simp
  · simp
  · simp
  · simp
  · simp
  · intro o ho
    rw [World.cell?_alloc_past _ _ _ hV2]
    have h := heap_alloc_new w1 (.cells cs 38)
    exact ⟨cs[o]'(by omega), by simp only [World.cell?, h]; simp [hcs, ho]⟩
  · intro o
    have h := heap_alloc_new w1 (.cells cs 38)
    have h2 : ((w1.alloc (.cells cs 38)).alloc (.cells #[.bool true, .int .i64 64, .slice (some ⟨w.heap.size, 0, none⟩) 64 64, .slice none 0 0, .pointer (some ⟨w1.heap.size, 0, none⟩), .int .i64 0, .int .i64 0, .int .u16 0] 31)).heap[w1.heap.size]? = some (.cells cs 38) := by rw [Below.heap_alloc _ _ _ hV2, h]
    simp only [World.frozen?, h2]
    simp
  · exact fun j hj => absurd hj (Nat.not_lt_zero _)
  · exact fun j hj => absurd hj (Nat.not_lt_zero _)
  · exact fun j hj => absurd hj (Nat.not_lt_zero _)
  · exact fun j hj => absurd hj (Nat.not_lt_zero _)
  · intro x hx
    rw [World.cell?_alloc_past _ _ _ hG2, World.cell?_alloc_past _ _ _ hG, hown.cellAt x (by omega)]
    have : (Value.int .u16 0).cells = #[.int .u16 0] := rfl
    rw [this, toList_madeCells_one, List.getElem?_replicate, if_pos (by omega)]
  · intro x
    rw [((Below.refl (w1.alloc (.cells cs 38)).heap.size (w1.alloc (.cells cs 38))).alloc (Nat.le_refl _) _).frozen (p := ⟨w.heap.size, x, none⟩) hG2, ((Below.refl w1.heap.size w1).alloc (Nat.le_refl _) _).frozen (p := ⟨w.heap.size, x, none⟩) hG, hown.frozenAt]
  · exact (hb.alloc (by omega) _).alloc (by omega) _
  · simp; omega
  · omega
  · omega

theorem st_begin {w wr : World} {T G V : Nat} {P : Nat → Nat} {Q : Nat → Int} (h : St w wr T G V 0 P Q) : St w (wr.setCell ⟨T, 5, none⟩ (.int .i64 0)) T G V 0 P Q := by
  obtain ⟨n1, n2, n3⟩ := h.ne
  have hc : ∀ b o, (b ≠ T ∨ o ≠ 5) → (wr.setCell ⟨T, 5, none⟩ (.int .i64 0)).cell? ⟨b, o, none⟩ = wr.cell? ⟨b, o, none⟩ := fun b o hh => cell_far _ _ _ _ _ _ hh
  have hf : ∀ a, (wr.setCell ⟨T, 5, none⟩ (.int .i64 0)).frozen? a = wr.frozen? a := fun a => World.frozen?_setCell _ _ _ _
  refine ⟨⟨by rw [hc _ _ (.inr (by omega)), h.tab.t0], by rw [hc _ _ (.inr (by omega)), h.tab.t2], by rw [hc _ _ (.inr (by omega)), h.tab.t3], by rw [hc _ _ (.inr (by omega)), h.tab.t4], ?_, by rw [hc _ _ (.inr (by omega)), h.tab.t6], by rw [hc _ _ (.inr (by omega)), h.tab.t7], fun o => by rw [hf, h.tab.free]⟩, h.vis.same (fun o => hc _ _ (.inl (Ne.symm n2))) (fun o => hf _), fun x hx => by rw [hc _ _ (.inl (Ne.symm n1)), h.idx x hx], fun x => by rw [hf, h.idf], h.bel.setCell h.ge.1 _, ?_, h.ge, h.ne⟩
  · rw [cell_put _ _ h.tab.t5, if_pos rfl]; rfl
  · have := h.lt
    simpa [World.setCell] using this

theorem st_end {w wr : World} {T G V k : Nat} {P : Nat → Nat} {Q : Nat → Int} (h : St w wr T G V k P Q) : St w ((wr.setCell ⟨T, 6, none⟩ (.int .i64 0)).setCell ⟨T, 7, none⟩ (.int .u16 0)) T G V k P Q := by
  obtain ⟨n1, n2, n3⟩ := h.ne
  have hc : ∀ b o, (b ≠ T ∨ (o ≠ 6 ∧ o ≠ 7)) → ((wr.setCell ⟨T, 6, none⟩ (.int .i64 0)).setCell ⟨T, 7, none⟩ (.int .u16 0)).cell? ⟨b, o, none⟩ = wr.cell? ⟨b, o, none⟩ := fun b o hh => by
    rw [cell_far _ _ _ _ _ _ (hh.imp id fun h => h.2), cell_far _ _ _ _ _ _ (hh.imp id fun h => h.1)]
  have hf : ∀ a, ((wr.setCell ⟨T, 6, none⟩ (.int .i64 0)).setCell ⟨T, 7, none⟩ (.int .u16 0)).frozen? a = wr.frozen? a := fun a => by rw [World.frozen?_setCell, World.frozen?_setCell]
  have h7 : (wr.setCell ⟨T, 6, none⟩ (.int .i64 0)).cell? ⟨T, 7, none⟩ = some (.int .u16 0) := by rw [cell_far _ _ _ _ _ _ (.inr (by omega)), h.tab.t7]
  refine ⟨⟨by rw [hc _ _ (.inr (by omega)), h.tab.t0], by rw [hc _ _ (.inr (by omega)), h.tab.t2], by rw [hc _ _ (.inr (by omega)), h.tab.t3], by rw [hc _ _ (.inr (by omega)), h.tab.t4], by rw [hc _ _ (.inr (by omega)), h.tab.t5], ?_, ?_, fun o => by rw [hf, h.tab.free]⟩, h.vis.same (fun o => hc _ _ (.inl (Ne.symm n2))) (fun o => hf _), fun x hx => by rw [hc _ _ (.inl (Ne.symm n1)), h.idx x hx], fun x => by rw [hf, h.idf], (h.bel.setCell h.ge.1 _).setCell h.ge.1 _, ?_, h.ge, h.ne⟩
  · rw [cell_far _ _ _ _ _ _ (.inr (by omega)), cell_put _ _ h.tab.t6, if_pos rfl]
  · rw [cell_put _ _ h7, if_pos rfl]
  · have := h.lt
    simpa [World.setCell] using this

theorem st_visit {w wr : World} {T G V k : Nat} {P : Nat → Nat} {Q : Nat → Int} (h : St w wr T G V k P Q) (hk : k < 254) (x : Nat) (y : Int) (hx : x = P k) (hy : y = Q k) : St w (visited wr T V k x y) T G V (k + 1) P Q := by
  obtain ⟨n1, n2, n3⟩ := h.ne
  refine ⟨tab_step h.tab n2 x y, vis_step h.vis hk n2 x y hx hy, fun z hz => by rw [visited_far _ _ _ _ _ _ _ _ (Ne.symm n1) n3, h.idx z hz], fun z => by rw [visited_frozen, h.idf], visited_below h.bel _ _ _ _ _ h.ge.1 h.ge.2.2, ?_, h.ge, h.ne⟩
  have := h.lt
  simpa [visited, put4, World.setCell] using this

theorem st_alloc {w wr : World} {T G V k : Nat} {P : Nat → Nat} {Q : Nat → Int} (h : St w wr T G V k P Q) (X : Obj) : St w (wr.alloc X) T G V k P Q := by
  obtain ⟨l1, l2, l3⟩ := h.lt
  obtain ⟨n1, n2, n3⟩ := h.ne
  have b := (Below.refl wr.heap.size wr).alloc (Nat.le_refl _) X
  have hc : ∀ c o, c < wr.heap.size → (wr.alloc X).cell? ⟨c, o, none⟩ = wr.cell? ⟨c, o, none⟩ := fun c o hh => b.cell (p := ⟨c, o, none⟩) hh
  have hf : ∀ c o, c < wr.heap.size → (wr.alloc X).frozen? ⟨c, o, none⟩ = wr.frozen? ⟨c, o, none⟩ := fun c o hh => b.frozen (p := ⟨c, o, none⟩) hh
  refine ⟨⟨by rw [hc _ _ l1, h.tab.t0], by rw [hc _ _ l1, h.tab.t2], by rw [hc _ _ l1, h.tab.t3], by rw [hc _ _ l1, h.tab.t4], by rw [hc _ _ l1, h.tab.t5], by rw [hc _ _ l1, h.tab.t6], by rw [hc _ _ l1, h.tab.t7], fun o => by rw [hf _ _ l1, h.tab.free]⟩, h.vis.same (fun o => hc _ _ l3) (fun o => hf _ _ l3), fun x hx => by rw [hc _ _ l2, h.idx x hx], fun x => by rw [hf _ _ l2, h.idf], h.bel.alloc (by have := h.bel.size; omega) X, ?_, h.ge, h.ne⟩
  simp
  omega

theorem st_ks {w wr : World} {T G V n : Nat} {P : Nat → Nat} {Q : Nat → Int} (h : St w wr T G V n P Q) (NB : Nat) : KS w wr w.heap.size wr.heap.size T G V NB n 0 P Q none 0 where
  tab := h.tab
  own := World.ownsRow_nil _ _ _ _
  vis := h.vis
  idx := h.idx
  idf := h.idf
  bel := h.bel
  siz := Nat.le_refl _
  lt := h.lt
  ge := h.ge
  ne := h.ne

/-! ### 'at', once all is kept -/
theorem at_far' (tb gi : Nat) (go : Option Addr) (L ci n ck : Nat) (o : Nat) (x : Int) (limit : Int) (w : World) (hL : L ≤ 1024) (hn : n ≤ 1024) (h : o < L)
    (c2 : w.cell? ⟨tb, 2, none⟩ = some (.slice (some ⟨gi, 0, none⟩) L ci)) (c3 : w.cell? ⟨tb, 3, none⟩ = some (.slice go n ck))
    (ci0 : w.cell? ⟨gi, o, none⟩ = some (.int .u16 x)) (hx : 0 ≤ x) (hx2 : x ≤ 65535) (h2 : n ≤ x) :
    Calls Yba.prog 6 #[.pointer (some ⟨tb, 0, none⟩), .int .i64 o, .int .i64 limit] w fun e w' => e = .returned (.pointer none) ∧ w' = w := by
  go_enter Yba.func6, Yba.ntmps6
  go_wp2
  go_ret
  exact ⟨rfl, rfl⟩

/-- Where the kept suffixes lie, if there is one. -/
theorem ks_row {w0 w : World} {B0 B T G V NB n cap : Nat} {P : Nat → Nat} {Q : Nat → Int} {ao : Option Addr} (K : KS w0 w B0 B T G V NB n n P Q ao cap) (hn : 0 < n) :
    ∃ g, ao = some ⟨g, 0, none⟩ ∧ ∀ j q, j < n → q < 5 → w.cell? ⟨g, j * 5 + q, none⟩ = (ent NB P Q (n - 1 - j))[q]? := by
  have h := K.own
  obtain ⟨_, h2⟩ := K.own
  rcases h2 with ⟨h2, h3⟩ | ⟨g, cp, cur, hv, _⟩
  · omega
  · simp at hv
    obtain ⟨rfl, rfl⟩ := hv
    refine ⟨g, rfl, fun j q hj hq => ?_⟩
    rw [h.cellAt _ (by omega), flat_at NB P Q n j q hq n hj]

theorem ks_at_no {w0 w : World} {B0 B T G V NB n cap : Nat} {P : Nat → Nat} {Q : Nat → Int} {ao : Option Addr} (K : KS w0 w B0 B T G V NB n n P Q ao cap) (hn : n ≤ 254) (hP : ∀ j, P j < 64) (x : Nat) (hx : x < 64) (h : ∀ j, j < n → P j ≠ x) :
    Calls Yba.prog 6 #[.pointer (some ⟨T, 0, none⟩), .int .i64 x, .int .i64 1] w fun e w' => e = .returned (.pointer none) ∧ w' = w := by
  have hJ := J_none P n x h n (Nat.le_refl _)
  have ci := K.idx x hx
  rw [hJ] at ci
  by_cases h0 : n = 0
  · subst h0
    exact at_far' T G ao 64 64 0 cap x 0 1 w (by omega) (by omega) hx K.tab.t2 K.tab.t3 ci (by omega) (by omega) (by omega)
  · obtain ⟨g, rfl, hc⟩ := ks_row K (by omega)
    have c1 := hc 0 1 (by omega) (by omega)
    have hb := hP (n - 1 - 0)
    exact at_other T G g 64 64 n cap x 0 (P (n - 1 - 0)) 1 w (by omega) (by omega) hx K.tab.t2 K.tab.t3 ci (by omega) (by rw [c1]; rfl) (by omega) (by omega) (by have := h (n - 1 - 0) (by omega); rw [bne_iff_ne]; omega)

theorem ks_at_yes {w0 w : World} {B0 B T G V NB n cap : Nat} {P : Nat → Nat} {Q : Nat → Int} {ao : Option Addr} (K : KS w0 w B0 B T G V NB n n P Q ao cap) (hn : n ≤ 254) (x : Nat) (hx : x < 64) (f : Nat) (hf : f < n) (hPf : P f = x) (hmin : ∀ j, j < f → P j ≠ x) :
    ∃ g i : Nat, (w.cell? ⟨g, i * 5, none⟩ = some (.pointer (some ⟨NB, 0, none⟩)) ∧ w.cell? ⟨g, i * 5 + 1, none⟩ = some (.int .u16 x) ∧ w.cell? ⟨g, i * 5 + 2, none⟩ = some (.int .u8 (Q f)) ∧ w.cell? ⟨g, i * 5 + 3, none⟩ = some (.int .u8 0) ∧ w.cell? ⟨g, i * 5 + 4, none⟩ = some (.int .u16 0)) ∧
      Calls Yba.prog 6 #[.pointer (some ⟨T, 0, none⟩), .int .i64 x, .int .i64 1] w fun e w' => e = .returned (.pointer (some ⟨g, i * 5, none⟩)) ∧ w' = w := by
  have hJ := J_first P n x f hf hPf hmin n (Nat.le_refl _) (by omega)
  have ci := K.idx x hx
  rw [hJ] at ci
  obtain ⟨g, rfl, hc⟩ := ks_row K (by omega)
  have e : n - 1 - (n - 1 - f) = f := by omega
  have c0 := hc (n - 1 - f) 0 (by omega) (by omega)
  have c1 := hc (n - 1 - f) 1 (by omega) (by omega)
  have c2 := hc (n - 1 - f) 2 (by omega) (by omega)
  have c3 := hc (n - 1 - f) 3 (by omega) (by omega)
  have c4 := hc (n - 1 - f) 4 (by omega) (by omega)
  rw [e] at c0 c1 c2 c3 c4
  rw [Nat.add_zero] at c0
  have d1 : w.cell? ⟨g, (n - 1 - f) * 5 + 1, none⟩ = some (.int .u16 (x : Int)) := by rw [c1, ← hPf]; rfl
  exact ⟨g, n - 1 - f, ⟨c0, d1, c2, c3, c4⟩, at_hit T G g 64 64 n cap x (n - 1 - f) 0 1 w (by omega) (by omega) hx K.tab.t2 K.tab.t3 ci (by omega) d1 c4 (by omega) (by omega) (by omega)⟩

set_option maxRecDepth 100000 in
set_option maxHeartbeats 1000000 in
theorem walk_short (a0 a1 : Option Addr) (len0 cap0 len1 cap1 p0 q0 p1 q1 : Nat) (F : Nat → Nat) (L : Nat → Int) (w : World) (h0 : len0 ≤ 254) (h1 : len1 ≤ 9223372036854775807) (uF : ∀ j, F j ≤ 65535) (uL : ∀ j, 0 ≤ L j ∧ L j ≤ 255)
    (s0 : len0 = 0 ∨ (a0 = some ⟨p0, q0, none⟩ ∧ ∀ j, j < len0 → w.cell? ⟨p0, q0 + j, none⟩ = some (.int .u16 (F j))))
    (s1 : len1 = 0 ∨ (a1 = some ⟨p1, q1, none⟩ ∧ ∀ j, j < len1 → w.cell? ⟨p1, q1 + j, none⟩ = some (.int .u8 (L j)))) :
    Calls Yba.prog 4 #[.slice a0 len0 cap0, .slice a1 len1 cap1] w fun e w' => e = .returned (.bool true) ∧ Below w.heap.size w w' := by
  obtain ⟨i23, hi, hz0, hz1, hz2⟩ := info_parts tableA.Yba.info23
  obtain ⟨i38, z38, c38, hi38, hz38, hc38, hs38⟩ := info38
  obtain ⟨c44, hb44⟩ := Option.isSome_iff_exists.1 built44
  have H38 := hide (And.intro hi38 (And.intro hz38 hc38))
  have H44 := hide hb44
  clear hi38 hz38 hc38 hb44
  have HS0 := hide s0
  have HS1 := hide s1
  have HUL := hide uL
  have HUF := hide uF
  have HZ := hide hs38
  clear s0 s1 uL uF hs38
  go_enter Yba.func4, Yba.ntmps4
  go_wp2_with (at_make; refine wpList_make_full _ rfl _ _ 22 rfl w.heap.size 23 i23 (.int .u16 0) 1 Yba.underlying22 hi hz0 hz1 .i64 .i64 _ _ 64 rfl rfl rfl rfl ?m2 ?m3 ?m4 ?_)
  case m2 => rw [hz2]; decide
  case m3 => unfold maxLen; decide
  case m4 => exact Nat.le_refl _
  intro w1 hown hgrow
  have HO := hide hown
  have hb1 : Below w.heap.size w w1 := (Below.refl _ _).grown hgrow (Nat.le_refl _) (fun k hk => by cases hk)
  have hG1 : w.heap.size < w1.heap.size := (hown.lt _ rfl).2
  clear hown hgrow hi hz0 hz1 hz2
  go_wp2_with (refine wpList_alloc rfl 38 rfl i38 H38.out.1 z38 H38.out.2.1 c38 H38.out.2.2 ?_)
  have ST := st_start w w1 c38 HO.out HZ.out hb1 hG1 (fun j => F j % 64) (fun j => if j < len1 then L j else 0)
  clear HO hb1
  refine (begin_any ST.tab).mono ?_
  rintro e w2 ⟨rfl, hw2⟩
  replace ST := st_begin ST
  rw [← hw2] at ST
  have HST := hide ST
  clear ST hw2
  obtain ⟨T, hT⟩ : ∃ T, T = w1.heap.size + 1 := ⟨_, rfl⟩
  obtain ⟨V, hV⟩ : ∃ V, V = w1.heap.size := ⟨_, rfl⟩
  rw [← hT, ← hV] at HST
  rw [← hT]
  clear hT hV
  go_wp2_with fail
  go_loopw [28] (fun vi wr => ∃ k : Nat, k ≤ len0 ∧ vi = .int .i64 k ∧ St w wr T w.heap.size V k (fun j => F j % 64) (fun j => if j < len1 then L j else 0)) (fun vi _ => len0 - (intOf vi).toNat)
  case atStart => exact ⟨0, by omega, rfl, HST⟩
  case round =>
    clear HST
    obtain ⟨k, hk, rfl, hS⟩ := hrel
    by_cases hlt : k < len0
    · obtain ⟨e0, hs0⟩ : a0 = some ⟨p0, q0, none⟩ ∧ ∀ j, j < len0 → w.cell? ⟨p0, q0 + j, none⟩ = some (.int .u16 (F j)) := by
        rcases HS0.out with h | h
        · omega
        · exact h
      subst e0
      have c0 : wr.cell? ⟨p0, q0 + k, none⟩ = some (.int .u16 (F k)) := by
        have := hs0 k hlt
        rw [hS.bel.cell (World.block_lt_of_cell? _ _ this), this]
      have bF := HUF.out k
      obtain ⟨bL0, bL1⟩ := HUL.out k
      have hmod : F k % 64 < 64 := by omega
      clear hs0
      by_cases hl1 : k < len1
      · obtain ⟨e1, hs1⟩ : a1 = some ⟨p1, q1, none⟩ ∧ ∀ j, j < len1 → w.cell? ⟨p1, q1 + j, none⟩ = some (.int .u8 (L j)) := by
          rcases HS1.out with h | h
          · omega
          · exact h
        subst e1
        have c1 : wr.cell? ⟨p1, q1 + k, none⟩ = some (.int .u8 (L k)) := by
          have := hs1 k hl1
          rw [hS.bel.cell (World.block_lt_of_cell? _ _ this), this]
        have HR := hide (st_visit hS (by omega) (F k % 64) (L k) rfl (by simp [hl1]))
        have HS := hide hS
        clear hs1 hS
        go_wp2_with fail
        rw [show ((F k : Int) % 64) = ((F k % 64 : Nat) : Int) from by omega]
        refine (visit_nat HS.out.tab HS.out.vis (by omega) (F k % 64) (L k) hmod bL0 bL1 HS.out.ne.2.1).mono ?_
        rintro e w3 ⟨rfl, hw3⟩
        have HR3 : Hid (St w w3 T w.heap.size V (k + 1) (fun j => F j % 64) (fun j => if j < len1 then L j else 0)) := by rw [hw3]; exact HR
        clear hw3 HR HS
        go_wp2
        go_roundw
        case rel => exact ⟨k + 1, by omega, by go_num, HR3.out⟩
        case measure => simp [intOf]; omega
      · have HR := hide (st_visit hS (by omega) (F k % 64) 0 rfl (by simp [hl1]))
        have HS := hide hS
        clear hS
        go_wp2_with fail
        rw [show ((F k : Int) % 64) = ((F k % 64 : Nat) : Int) from by omega]
        refine (visit_nat HS.out.tab HS.out.vis (by omega) (F k % 64) 0 hmod (by omega) (by omega) HS.out.ne.2.1).mono ?_
        rintro e w3 ⟨rfl, hw3⟩
        have HR3 : Hid (St w w3 T w.heap.size V (k + 1) (fun j => F j % 64) (fun j => if j < len1 then L j else 0)) := by rw [hw3]; exact HR
        clear hw3 HR HS
        go_wp2
        go_roundw
        case rel => exact ⟨k + 1, by omega, by go_num, HR3.out⟩
        case measure => simp [intOf]; omega
    · obtain rfl : k = len0 := by omega
      have HS := hide hS
      clear hS
      go_wp2_with fail
      refine (end_any HS.out.tab).mono ?_
      rintro e w4 ⟨rfl, hw4⟩
      have HS4 : Hid (St w w4 T w.heap.size V k (fun j => F j % 64) (fun j => if j < len1 then L j else 0)) := by rw [hw4]; exact st_end HS.out
      clear hw4 HS
      go_wp2_with (refine wpList_build0 rfl 44 rfl c44 H44.out ?_)
      have HK := hide (st_ks (st_alloc HS4.out (Obj.cells c44 44)) w4.heap.size)
      have HQ : Hid (∀ j, 0 ≤ (if j < len1 then L j else 0) ∧ (if j < len1 then L j else 0) ≤ 255) := by
        intro j
        have := HUL.out j
        by_cases h : j < len1
        · simpa [h] using this
        · simp [h]
      have HP : Hid (∀ j, F j % 64 < 64) := fun j => by omega
      clear HS4 H44 H38 HZ
      refine (keep_any HK.out h0 HP.out HQ.out).mono ?_
      rintro e w5 ⟨rfl, ao, cap, hk5⟩
      have t3 := hk5.tab.t3
      have HK5 := hide hk5
      clear hk5 HK
      obtain ⟨NB, hNB⟩ : ∃ NB, NB = w4.heap.size := ⟨_, rfl⟩
      rw [← hNB] at HK5 ⊢
      clear hNB
      go_wp2_with fail
      go_loop [10] (fun vk => ∃ x : Nat, x ≤ 64 ∧ vk = .int .i64 x) (fun vk => 64 - (intOf vk).toNat)
      case atStart => exact ⟨0, by omega, rfl⟩
      case round =>
        obtain ⟨x, hx, rfl⟩ := hrel
        by_cases hx64 : x < 64
        · go_wp2_with fail
          go_loop [11, 70] (fun vf vj => ∃ j : Nat, j ≤ k ∧ vj = .int .i64 j ∧ vf = .int .i64 (-1) ∧ Hid (∀ i, i < j → F i % 64 ≠ x)) (fun _ vj => k - (intOf vj).toNat)
          case atStart => exact ⟨0, by omega, rfl, rfl, fun i h => absurd h (Nat.not_lt_zero _)⟩
          case round =>
            obtain ⟨j, hj, rfl, rfl, hmin⟩ := hrel
            by_cases hjk : j < k
            · obtain ⟨e0, hs0⟩ : a0 = some ⟨p0, q0, none⟩ ∧ ∀ j, j < k → w.cell? ⟨p0, q0 + j, none⟩ = some (.int .u16 (F j)) := by
                rcases HS0.out with h | h
                · omega
                · exact h
              subst e0
              have c0 : w5.cell? ⟨p0, q0 + j, none⟩ = some (.int .u16 (F j)) := by
                have := hs0 j hjk
                rw [HK5.out.bel.cell (World.block_lt_of_cell? _ _ this), this]
              have bF := HUF.out j
              clear hs0
              by_cases hhit : F j % 64 = x
              · have bh : ((F j : Int) % 64 == (x : Int)) = true := by rw [beq_iff_eq]; omega
                obtain ⟨g, i, hcs, hat⟩ := ks_at_yes HK5.out h0 x hx64 j hjk hhit hmin.out
                have HAT := hide hat
                obtain ⟨d0, d1, d2, d3, d4⟩ := hcs
                clear hat hhit
                go_wp2_with fail
                refine HAT.out.mono ?_
                rintro e w6 ⟨rfl, rfl⟩
                have qn := nep
                have hb6 := HK5.out.bel
                clear HAT
                by_cases hl1 : j < len1
                · obtain ⟨e1, hs1⟩ : a1 = some ⟨p1, q1, none⟩ ∧ ∀ j, j < len1 → w.cell? ⟨p1, q1 + j, none⟩ = some (.int .u8 (L j)) := by
                    rcases HS1.out with h | h
                    · omega
                    · exact h
                  subst e1
                  have c1 : w6.cell? ⟨p1, q1 + j, none⟩ = some (.int .u8 (L j)) := by
                    have := hs1 j hl1
                    rw [hb6.cell (World.block_lt_of_cell? _ _ this), this]
                  rw [if_pos hl1] at d2
                  clear hs1
                  go_wp2
                  go_round
                  case rel => exact ⟨x + 1, by omega, by go_num⟩
                  case measure => simp [intOf]; omega
                · rw [if_neg hl1] at d2
                  go_wp2
                  go_round
                  case rel => exact ⟨x + 1, by omega, by go_num⟩
                  case measure => simp [intOf]; omega
              · have bh : ((F j : Int) % 64 == (x : Int)) = false := by rw [beq_eq_false_iff_ne]; omega
                have hm2 : Hid (∀ i, i < j + 1 → F i % 64 ≠ x) := by
                  intro i hi
                  by_cases e : i = j
                  · subst e; exact hhit
                  · exact hmin.out i (by omega)
                clear hhit
                go_wp2
                go_round
                case rel => exact ⟨j + 1, by omega, by go_num, rfl, hm2⟩
                case measure => simp [intOf]; omega
            · obtain rfl : j = k := by omega
              have HAT := hide (ks_at_no HK5.out h0 HP.out x hx64 hmin.out)
              go_wp2_with fail
              refine HAT.out.mono ?_
              rintro e w6 ⟨rfl, rfl⟩
              clear HAT
              go_wp2
              go_round
              case rel => exact ⟨x + 1, by omega, by go_num⟩
              case measure => simp [intOf]; omega
        · have hb5 := HK5.out.bel
          go_wp2
          go_ret
          exact ⟨rfl, hb5⟩

set_option maxRecDepth 100000 in
theorem walk_long (a0 a1 : Option Addr) (len0 cap0 len1 cap1 : Nat) (w : World) (h0 : 254 < len0) (h0' : len0 ≤ 9223372036854775807) :
    Calls Yba.prog 4 #[.slice a0 len0 cap0, .slice a1 len1 cap1] w fun e w' => e = .returned (.bool true) ∧ Below w.heap.size w w' := by
  go_enter Yba.func4, Yba.ntmps4
  go_wp2
  go_ret
  exact ⟨rfl, Below.refl _ _⟩

/-- A row that came in, as the walk asks for it: empty, or its elements' cells. -/
theorem row_view {k : IntKind} {w : World} {a : Option Addr} {len cap : Nat} {zs : List Int} (h : IsRow k w a len cap zs) :
    len ≤ 9223372036854775807 ∧ ∃ p q, (len = 0 ∨ (a = some ⟨p, q, none⟩ ∧ ∀ j, j < len → w.cell? ⟨p, q + j, none⟩ = some (.int k (zs.getD j 0)))) := by
  rcases h with ⟨rfl, rfl, rfl, rfl⟩ | ⟨x, rfl, hl, hm, hz, hc, hwf⟩
  · exact ⟨by omega, 0, 0, .inl rfl⟩
  · unfold maxLen at hm
    refine ⟨by omega, ?_⟩
    obtain ⟨b, off, spot⟩ := x
    by_cases hl0 : len = 0
    · exact ⟨0, 0, .inl hl0⟩
    · have hspot : spot = none := by simpa [Addr.add] using World.cell?_spot (hc 0 (by omega))
      subst hspot
      refine ⟨b, off, .inr ⟨rfl, fun j hj => ?_⟩⟩
      have := hc j (by omega)
      rw [add_plain] at this
      exact this
theorem row_wf {k : IntKind} {w : World} {a : Option Addr} {len cap : Nat} {zs : List Int} (h : IsRow k w a len cap zs) : ∀ n ∈ zs, (Lit.int k n).wf = true := by
  rcases h with ⟨rfl, rfl, rfl, rfl⟩ | ⟨x, rfl, hl, hm, hz, hc, hwf⟩
  · intro n hn; cases hn
  · exact hwf

theorem walk (a0 : Option Addr) (len0 cap0 : Nat) (z0 : List Int) (a1 : Option Addr) (len1 cap1 : Nat) (z1 : List Int) (w : World) (w0 : IsRow .u16 w a0 len0 cap0 z0) (w1 : IsRow .u8 w a1 len1 cap1 z1) :
    Calls Yba.prog 4 #[.slice a0 len0 cap0, .slice a1 len1 cap1] w fun e w' => e = .returned (.bool true) ∧ Below w.heap.size w w' := by
  obtain ⟨m0, p0, q0, s0⟩ := row_view w0
  obtain ⟨m1, p1, q1, s1⟩ := row_view w1
  have u0 : ∀ j, 0 ≤ z0.getD j 0 ∧ z0.getD j 0 ≤ 65535 := by
    intro j
    have := range_u16 (row_wf w0) j
    simpa using this
  have u1 : ∀ j, 0 ≤ z1.getD j 0 ∧ z1.getD j 0 ≤ 255 := by
    intro j
    have := range_u8 (row_wf w1) j
    simpa using this
  by_cases h0 : len0 ≤ 254
  · refine walk_short a0 a1 len0 cap0 len1 cap1 p0 q0 p1 q1 (fun j => (z0.getD j 0).toNat) (fun j => z1.getD j 0) w h0 m1 (fun j => ?_) u1 ?_ s1
    · have := u0 j
      omega
    · refine s0.imp id fun h => ⟨h.1, fun j hj => ?_⟩
      have := u0 j
      rw [h.2 j hj, show ((z0.getD j 0).toNat : Int) = z0.getD j 0 from by omega]
  · exact walk_long a0 a1 len0 cap0 len1 cap1 w (by omega) m0

/-! ### The row's step: the shell's own -/
set_option maxRecDepth 100000 in
theorem lifted (os : Os) (started : os.Started) (H : Type) (enc : TypeId × Value → H) :
    ReturnsInHanded {} Yba.checked os 4 .any (Rows.lawS0537AKeepSpec.pre6 enc Yba.prog Yba.f4 Rows.lawS0537AKeepRow.domain false) (Rows.lawS0537AKeepSpec.post enc Yba.prog Yba.f4 false true false false) := by
  refine returnsInHanded_of_change (C := Yba.checked) own started (by kernel_rfl) Yba.func4
    (ChangeSpec.witness6 (enc := enc) (C := Yba.checked) false ⟨#[], #[.slice none 0 0, .slice none 0 0], []⟩ 8 (by kernel_rfl) (by kernel_rfl) (by kernel_rfl) (by kernel_rfl)) ?_
  intro W base args ds gs before hval0 hW hcnd _
  have hval : ∀ (j : Nat) t v, Yba.f4.params[j]? = some t → args[j]? = some v → Value.okWide Yba.prog W .any base t v := hval0
  have hW' := hW
  obtain ⟨p, q, hA0, hV, rfl, hfz, hnd⟩ := hW
  have hA : DataW.TrodAll enc Yba.prog W 0 (fun _ => true) true Yba.f4.params.toList args.toList ds p := hA0
  rw [Yba.params4] at hA hval
  obtain ⟨v0, vs0, d0, ds0, p0, q0, hargs, rfl, rfl, h0, r0⟩ := trodAll_cons hA
  obtain ⟨v1, vs1, d1, ds1, p1, q1, rfl, rfl, rfl, h1, r1⟩ := trodAll_cons r0
  obtain ⟨rfl, rfl, rfl⟩ := trodAll_nil r1
  obtain rfl : args = #[v0, v1] := by cases args; simp_all
  obtain ⟨rfl, rfl⟩ := trodVars_none hV
  obtain ⟨a0, len0, cap0, rfl⟩ := okWide_slice Yba.underlying22 (hval 0 22 v0 rfl rfl)
  have k0 := h0
  have lt0 : ∀ x ∈ p0, x.block < W.heap.size := by obtain ⟨m, hm⟩ := k0; exact DataW.trod_lt m _ _ _ hm
  obtain ⟨z0, w0⟩ : ∃ zs, IsRow .u16 W a0 len0 cap0 zs := by
    obtain ⟨fuel, hf⟩ := h0
    rcases open_ints Yba.underlying22 Yba.underlying23 (by kernel_rfl) hf with ⟨hcs, _⟩ | ⟨x, l, c, zs, hcs, _, hl, hm, hz, _, hcell, hwz⟩
    · simp [Value.cells] at hcs
      obtain ⟨rfl, rfl, rfl⟩ := hcs
      exact ⟨[], .inl ⟨rfl, rfl, rfl, rfl⟩⟩
    · simp [Value.cells] at hcs
      obtain ⟨rfl, rfl, rfl⟩ := hcs
      exact ⟨zs, .inr ⟨_, rfl, hl, hm, by simpa using hz, hcell, hwz⟩⟩
  obtain ⟨a1, len1, cap1, rfl⟩ := okWide_slice Yba.underlying35 (hval 1 35 v1 rfl rfl)
  have k1 := h1
  have lt1 : ∀ x ∈ p1, x.block < W.heap.size := by obtain ⟨m, hm⟩ := k1; exact DataW.trod_lt m _ _ _ hm
  obtain ⟨z1, w1⟩ : ∃ zs, IsRow .u8 W a1 len1 cap1 zs := by
    obtain ⟨fuel, hf⟩ := h1
    rcases open_ints Yba.underlying35 Yba.underlying5 (by kernel_rfl) hf with ⟨hcs, _⟩ | ⟨x, l, c, zs, hcs, _, hl, hm, hz, _, hcell, hwz⟩
    · simp [Value.cells] at hcs
      obtain ⟨rfl, rfl, rfl⟩ := hcs
      exact ⟨[], .inl ⟨rfl, rfl, rfl, rfl⟩⟩
    · simp [Value.cells] at hcs
      obtain ⟨rfl, rfl, rfl⟩ := hcs
      exact ⟨zs, .inr ⟨_, rfl, hl, hm, by simpa using hz, hcell, hwz⟩⟩
  clear hA0 hval0
  refine (walk a0 len0 cap0 z0 a1 len1 cap1 z1 W w0 w1).mono fun e W' ⟨he, bel⟩ => ?_
  subst he
  exact ⟨_, rfl, _, _, _, [], _, [], hW', trodAll_mk1 (shut_bool Yba.underlying4 _), (trodAll_cons_mk (Below.trod laidOut (by kernel_rfl) (of_decide_eq_true (by kernel_rfl)) k0 bel lt0) (trodAll_cons_mk (Below.trod laidOut (by kernel_rfl) (of_decide_eq_true (by kernel_rfl)) k1 bel lt1) trodAll_mk0)), rfl, bel.frame _, fun h => by cases h⟩

theorem over : Rows.lawS0537AKeepRow.holds Yba.pinned (OpenSpec.ofChange Rows.lawS0537AKeepSpec) :=
  OpenClaim.holds_of_wide 4 Yba.f4 rfl rfl rfl rfl rfl rfl rfl ⟨rfl, rfl, rfl, rfl, rfl⟩ rfl rfl rfl rfl rfl (by kernel_rfl) Yba.func4 (by kernel_rfl)
    (of_decide_eq_true (by kernel_rfl)) (by unfold Func.isWrapper; first | (rw [if_pos (by decide +kernel)]; kernel_rfl) | (rw [if_neg (by decide +kernel)]; exact ⟨rfl, rfl⟩))
    (fun os started H enc _ => lifted os started H enc)

/-- ████ THE STATEMENT ████ -/
theorem proved : Rows.LawS0537AKeepSaid := over
#print axioms proved
end Go.Proofs.Ybulkkce.lawS0537AKeep
