/-
  The contracts of '(*suffixTable).at', over a table in memory: what both laws on suffixTable go by.
-/
import Derived.Test.YbulkkceRows
import Derived.WalkKit
import Derived.WalkSpells
import Derived.WalkSmall
import Derived.ProofKit
import Derived.OpenShut
import Derived.ChangeOld
import Derived.Below
import Derived.Laws.AppendOwnNone
import Derived.LaidEqlPtr
namespace Go.Proofs.Ybulkkce.tableA
open Go.ChangeShapes Go.WideShapes Go.ChangeAt Go.RowKit
set_option linter.unusedVariables false

theorem Yba.info23 : (Yba.prog.info? 23).map (fun i => (i.zero, i.size, i.bytes)) = some (some (.int .u16 0), 1, 2) := by kernel_rfl
theorem Yba.info27 : (Yba.prog.info? 27).map (fun i => (i.zero, i.size, i.bytes)) = some (some (.agg #[.pointer none, .int .u16 0, .int .u8 0, .int .u8 0, .int .u16 0]), 5, 16) := by kernel_rfl

/-- Is there a suffix that was read from o, whose reach lies below the limit? It is number i. -/
def Found (L n : Nat) (I F R : Nat → Int) (o : Nat) (limit : Int) (i : Nat) : Prop := o < L ∧ I o = i ∧ i < n ∧ F i = o ∧ R i < limit

theorem at_past (tb : Nat) (ao : Option Addr) (L ci : Nat) (o : Nat) (limit : Int) (w : World) (hL : L ≤ 1024) (ho : o ≤ 1024)
    (c2 : w.cell? ⟨tb, 2, none⟩ = some (.slice ao L ci)) (h : L ≤ o) :
    Calls Yba.prog 6 #[.pointer (some ⟨tb, 0, none⟩), .int .i64 o, .int .i64 limit] w fun e w' => e = .returned (.pointer none) ∧ w' = w := by
  go_enter Yba.func6, Yba.ntmps6
  go_wp2
  go_ret
  exact ⟨rfl, rfl⟩

theorem at_far (tb gi g : Nat) (L ci n ck : Nat) (o : Nat) (x : Int) (limit : Int) (w : World) (hL : L ≤ 1024) (hn : n ≤ 1024) (h : o < L)
    (c2 : w.cell? ⟨tb, 2, none⟩ = some (.slice (some ⟨gi, 0, none⟩) L ci)) (c3 : w.cell? ⟨tb, 3, none⟩ = some (.slice (some ⟨g, 0, none⟩) n ck))
    (ci0 : w.cell? ⟨gi, o, none⟩ = some (.int .u16 x)) (hx : 0 ≤ x) (hx2 : x ≤ 65535) (h2 : n ≤ x) :
    Calls Yba.prog 6 #[.pointer (some ⟨tb, 0, none⟩), .int .i64 o, .int .i64 limit] w fun e w' => e = .returned (.pointer none) ∧ w' = w := by
  go_enter Yba.func6, Yba.ntmps6
  go_wp2
  go_ret
  exact ⟨rfl, rfl⟩

theorem at_other (tb gi g : Nat) (L ci n ck : Nat) (o i : Nat) (y : Int) (limit : Int) (w : World) (hL : L ≤ 1024) (hn : n ≤ 1024) (h : o < L)
    (c2 : w.cell? ⟨tb, 2, none⟩ = some (.slice (some ⟨gi, 0, none⟩) L ci)) (c3 : w.cell? ⟨tb, 3, none⟩ = some (.slice (some ⟨g, 0, none⟩) n ck))
    (ci0 : w.cell? ⟨gi, o, none⟩ = some (.int .u16 i)) (h2 : i < n) (cy : w.cell? ⟨g, i * 5 + 1, none⟩ = some (.int .u16 y)) (hy0 : 0 ≤ y) (hy1 : y ≤ 65535) (hy : (y != (o : Int)) = true) :
    Calls Yba.prog 6 #[.pointer (some ⟨tb, 0, none⟩), .int .i64 o, .int .i64 limit] w fun e w' => e = .returned (.pointer none) ∧ w' = w := by
  go_enter Yba.func6, Yba.ntmps6
  go_wp2
  go_ret
  exact ⟨rfl, rfl⟩

theorem at_reach (tb gi g : Nat) (L ci n ck : Nat) (o i : Nat) (z : Int) (limit : Int) (w : World) (hL : L ≤ 1024) (hn : n ≤ 1024) (h : o < L)
    (c2 : w.cell? ⟨tb, 2, none⟩ = some (.slice (some ⟨gi, 0, none⟩) L ci)) (c3 : w.cell? ⟨tb, 3, none⟩ = some (.slice (some ⟨g, 0, none⟩) n ck))
    (ci0 : w.cell? ⟨gi, o, none⟩ = some (.int .u16 i)) (h2 : i < n) (cy : w.cell? ⟨g, i * 5 + 1, none⟩ = some (.int .u16 o)) (cz : w.cell? ⟨g, i * 5 + 4, none⟩ = some (.int .u16 z)) (hz0 : 0 ≤ z) (hz1 : z ≤ 65535) (hz : limit ≤ z) :
    Calls Yba.prog 6 #[.pointer (some ⟨tb, 0, none⟩), .int .i64 o, .int .i64 limit] w fun e w' => e = .returned (.pointer none) ∧ w' = w := by
  go_enter Yba.func6, Yba.ntmps6
  go_wp2
  go_ret
  exact ⟨rfl, rfl⟩

theorem at_hit (tb gi g : Nat) (L ci n ck : Nat) (o i : Nat) (z : Int) (limit : Int) (w : World) (hL : L ≤ 1024) (hn : n ≤ 1024) (h : o < L)
    (c2 : w.cell? ⟨tb, 2, none⟩ = some (.slice (some ⟨gi, 0, none⟩) L ci)) (c3 : w.cell? ⟨tb, 3, none⟩ = some (.slice (some ⟨g, 0, none⟩) n ck))
    (ci0 : w.cell? ⟨gi, o, none⟩ = some (.int .u16 i)) (h2 : i < n) (cy : w.cell? ⟨g, i * 5 + 1, none⟩ = some (.int .u16 o)) (cz : w.cell? ⟨g, i * 5 + 4, none⟩ = some (.int .u16 z)) (hz0 : 0 ≤ z) (hz1 : z ≤ 65535) (hz : z < limit) :
    Calls Yba.prog 6 #[.pointer (some ⟨tb, 0, none⟩), .int .i64 o, .int .i64 limit] w fun e w' => e = .returned (.pointer (some ⟨g, i * 5, none⟩)) ∧ w' = w := by
  go_enter Yba.func6, Yba.ntmps6
  go_wp2
  go_ret
  exact ⟨rfl, rfl⟩

/-- A number that a u16 holds. -/
def U16 (f : Nat → Int) : Prop := ∀ j, 0 ≤ f j ∧ f j ≤ 65535

/-- The suffix table in memory, at block tb: the index (L offsets, 'I'), the suffixes (n of them, offsets 'F', reaches 'R'). -/
structure Tbl (w : World) (tb : Nat) (ao : Option Addr) (L ci g n ck : Nat) (I F R : Nat → Int) : Prop where
  c2 : w.cell? ⟨tb, 2, none⟩ = some (.slice ao L ci)
  c3 : w.cell? ⟨tb, 3, none⟩ = some (.slice (some ⟨g, 0, none⟩) n ck)
  idx : 0 < L → ∃ gi, ao = some ⟨gi, 0, none⟩ ∧ ∀ j, j < L → w.cell? ⟨gi, j, none⟩ = some (.int .u16 (I j))
  off : ∀ j, j < n → w.cell? ⟨g, j * 5 + 1, none⟩ = some (.int .u16 (F j))
  rch : ∀ j, j < n → w.cell? ⟨g, j * 5 + 4, none⟩ = some (.int .u16 (R j))
  uI : U16 I
  uF : U16 F
  uR : U16 R

theorem at_found {w : World} {tb : Nat} {ao : Option Addr} {L ci g n ck : Nat} {I F R : Nat → Int} (T : Tbl w tb ao L ci g n ck I F R) (hL : L ≤ 1024) (hn : n ≤ 1024) (o i : Nat) (limit : Int) (h : Found L n I F R o limit i) :
    Calls Yba.prog 6 #[.pointer (some ⟨tb, 0, none⟩), .int .i64 o, .int .i64 limit] w fun e w' => e = .returned (.pointer (some ⟨g, i * 5, none⟩)) ∧ w' = w := by
  obtain ⟨h1, h2, h3, h4, h5⟩ := h
  obtain ⟨gi, rfl, hi⟩ := T.idx (by omega)
  have b := T.uR i
  exact at_hit tb gi g L ci n ck o i (R i) limit w hL hn h1 T.c2 T.c3 (by rw [hi o h1, h2]) h3 (by rw [T.off i h3, h4]) (T.rch i h3) b.1 b.2 h5

theorem at_none {w : World} {tb : Nat} {ao : Option Addr} {L ci g n ck : Nat} {I F R : Nat → Int} (T : Tbl w tb ao L ci g n ck I F R) (hL : L ≤ 1024) (hn : n ≤ 1024) (o : Nat) (ho : o ≤ 1024) (limit : Int) (h : ∀ i, ¬ Found L n I F R o limit i) :
    Calls Yba.prog 6 #[.pointer (some ⟨tb, 0, none⟩), .int .i64 o, .int .i64 limit] w fun e w' => e = .returned (.pointer none) ∧ w' = w := by
  by_cases h1 : o < L
  · obtain ⟨gi, rfl, hi⟩ := T.idx (by omega)
    have bI := T.uI o
    by_cases h2 : (n : Int) ≤ I o
    · exact at_far tb gi g L ci n ck o (I o) limit w hL hn h1 T.c2 T.c3 (hi o h1) bI.1 bI.2 h2
    · obtain ⟨i, hi2⟩ : ∃ i : Nat, I o = i := ⟨(I o).toNat, by omega⟩
      have h3 : i < n := by omega
      have hc : w.cell? ⟨gi, o, none⟩ = some (.int .u16 (i : Int)) := by rw [hi o h1, hi2]
      by_cases h4 : F i = o
      · by_cases h5 : R i < limit
        · exact absurd ⟨h1, hi2, h3, h4, h5⟩ (h i)
        · have b := T.uR i
          exact at_reach tb gi g L ci n ck o i (R i) limit w hL hn h1 T.c2 T.c3 hc h3 (by rw [T.off i h3, h4]) (T.rch i h3) b.1 b.2 (by omega)
      · have b := T.uF i
        exact at_other tb gi g L ci n ck o i (F i) limit w hL hn h1 T.c2 T.c3 hc h3 (T.off i h3) b.1 b.2 (by simpa using h4)
  · exact at_past tb ao L ci o limit w hL ho T.c2 (by omega)

theorem some27 : (Yba.prog.info? 27).isSome = true := by kernel_rfl
theorem eqp (w : World) (a : Addr) : (binOp .eql 32 (.pointer (some a)) (.pointer (some a))).run Yba.prog w = .ok (.bool true) w := by
  obtain ⟨j, hj⟩ := Option.isSome_iff_exists.1 some27
  exact run_eql_ptr_same w a Yba.underlying32 hj

end Go.Proofs.Ybulkkce.tableA
