/-
  A proof of 'Rows.LawS0540BExactSaid': 'func LawS0540BExact(rest int64, index, first uint64, off int64) bool' returns true for every input. The frame is the given shell's; the arithmetic under bits.Mul64 is the kit's (Derived.Lib.Mul64).
-/
import Derived.Test.YbulkkduRows
import Derived.WalkKit
import Derived.ProofKit
import Derived.OpenShut
import Derived.ShutString
import Derived.Lib.Mul64
import Derived.Laws.Bits64b
import Derived.Below
import Derived.ChangeOld
namespace Go.Proofs.Ybulkkdu.lawS0540BExact
open Go.ChangeShapes Go.WideShapes Go.ChangeAt Go.RowKit
open Go.ChangeMaps (open_string shut_string)
set_option linter.unusedVariables false

theorem own : ownKnob Yba.prog.godebug = none := by kernel_rfl

theorem ret_bool {a b : Bool} (h : a = b) : Ending.returned (.bool a) = .returned (.bool b) := by rw [h]
theorem hide {p : Prop} (h : p) : Hid p := h

theorem maskN (a : Nat) (ha : a < 18446744073709551616) : bits .and .u64 (a : Int) 4294967295 = ((a % 4294967296 : Nat) : Int) := by
  have h := bits_and_u64_nat a 4294967295 ha (by omega)
  have e : a &&& 4294967295 = a % 4294967296 := Nat.and_two_pow_sub_one_eq_mod a 32
  rw [e] at h
  exact h
theorem divN (a : Nat) : (a : Int) / 4294967296 = ((a / 4294967296 : Nat) : Int) := by omega
theorem mulN (a b : Nat) : (a : Int) * (b : Int) = ((a * b : Nat) : Int) := (Int.natCast_mul a b).symm
theorem addN (a b : Nat) : (a : Int) + (b : Int) = ((a + b : Nat) : Int) := (Int.natCast_add a b).symm
theorem wrapN (a : Nat) (ha : a < 18446744073709551616) : IntKind.u64.wrap (a : Int) = (a : Int) := by rw [IntKind.wrap_u64]; omega
theorem wrapM (a : Nat) : IntKind.u64.wrap (a : Int) = ((a % 18446744073709551616 : Nat) : Int) := by rw [IntKind.wrap_u64]; omega

set_option maxHeartbeats 1000000 in
/-- math/bits.Mul64: the whole product, as two halves. -/
theorem mul64 (x y : Nat) (hx : x < 18446744073709551616) (hy : y < 18446744073709551616) (w : World) :
    Calls Yba.prog 5 #[.int .u64 x, .int .u64 y] w fun e w' => e = .returned (.tuple #[.int .u64 ((x * y / 18446744073709551616 : Nat) : Int), .int .u64 ((x * y % 18446744073709551616 : Nat) : Int)]) ∧ w' = w := by
  obtain ⟨bd, bt, bw, hhi⟩ := Lib.mul64_hi x y hx hy
  have ba := Lib.half_mul_le (a := x / 4294967296) (b := y / 4294967296) (by omega) (by omega)
  have bb := Lib.half_mul_le (a := x / 4294967296) (b := y % 4294967296) (by omega) (by omega)
  have bc := Lib.half_mul_le (a := x % 4294967296) (b := y / 4294967296) (by omega) (by omega)
  have ba' : x / 4294967296 * (y / 4294967296) < 18446744073709551616 := by omega
  have bb' : x / 4294967296 * (y % 4294967296) < 18446744073709551616 := by omega
  have bc' : x % 4294967296 * (y / 4294967296) < 18446744073709551616 := by omega
  have bh1 : x / 4294967296 * (y / 4294967296) + (x / 4294967296 * (y % 4294967296) + x % 4294967296 * (y % 4294967296) / 4294967296) / 4294967296 < 18446744073709551616 := by omega
  have bh : x / 4294967296 * (y / 4294967296) + (x / 4294967296 * (y % 4294967296) + x % 4294967296 * (y % 4294967296) / 4294967296) / 4294967296 + ((x / 4294967296 * (y % 4294967296) + x % 4294967296 * (y % 4294967296) / 4294967296) % 4294967296 + x % 4294967296 * (y / 4294967296)) / 4294967296 < 18446744073709551616 := by omega
  go_enter Yba.func5, Yba.ntmps5
  go_wp2
  simp only [maskN x hx, maskN y hy, divN, mulN, addN, wrapN _ bd, wrapN _ bb', wrapN _ bt, maskN _ bt, wrapN _ bc', wrapN _ bw, wrapN _ ba', wrapN _ bh1, wrapN _ bh, wrapM (x * y)]
  rw [hhi]
  go_ret2
  exact ⟨rfl, rfl⟩

theorem bounds_no (rest idx first off : Int) (w : World) (hr1 : rest ≤ 9223372036854775807) (hi0 : 0 ≤ idx) (hi1 : idx ≤ 18446744073709551615) (hf0 : 0 ≤ first) (hf1 : first ≤ 18446744073709551615)
    (h : rest < 0 ∨ first < idx ∨ (0 < rest ∧ first = idx)) :
    Calls Yba.prog 4 #[.int .i64 rest, .int .u64 idx, .agg #[.int .u64 first, .int .i64 off]] w fun e w' => e = .returned (.tuple #[.int .i64 0, .int .i64 0, .bool false]) ∧ w' = w.alloc (.cells #[.int .u64 first, .int .i64 off] 26) := by
  by_cases h1 : rest < 0
  · go_enter Yba.func4, Yba.ntmps4
    go_wp2
    go_ret3
    exact ⟨rfl, rfl⟩
  · by_cases h2 : first < idx
    · clear h
      go_enter Yba.func4, Yba.ntmps4
      go_wp2
      go_ret3
      exact ⟨rfl, rfl⟩
    · obtain ⟨h3, rfl⟩ : 0 < rest ∧ first = idx := by omega
      clear h
      go_enter Yba.func4, Yba.ntmps4
      go_wp2
      go_ret3
      exact ⟨rfl, rfl⟩

theorem bounds_some (rest idx first off : Int) (w : World) (hr0 : 0 ≤ rest) (hr1 : rest ≤ 9223372036854775807) (hi0 : 0 ≤ idx) (hi1 : idx ≤ first) (hf1 : first ≤ 18446744073709551615)
    (h : ¬ (0 < rest ∧ first = idx)) :
    Calls Yba.prog 4 #[.int .i64 rest, .int .u64 idx, .agg #[.int .u64 first, .int .i64 off]] w fun e w' => (∃ l m : Int, e = .returned (.tuple #[.int .i64 l, .int .i64 m, .bool true])) ∧ w' = w.alloc (.cells #[.int .u64 first, .int .i64 off] 26) := by
  by_cases h1 : 0 < rest
  · have h2 : idx < first := by omega
    clear h
    go_enter Yba.func4, Yba.ntmps4
    go_wp2
    all_goals
      go_ret3
      exact ⟨⟨_, _, rfl⟩, rfl⟩
  · clear h
    go_enter Yba.func4, Yba.ntmps4
    go_wp2
    all_goals
      go_ret3
      exact ⟨⟨_, _, rfl⟩, rfl⟩

theorem bounds_far1 (rest idx first off : Int) (w : World) (hr0 : 0 < rest) (ho : 0 ≤ off) (hro : rest + off ≤ 9223372036854775807) (hi0 : 0 ≤ idx) (hi1 : idx < first) (hf1 : first ≤ 18446744073709551615)
    (h : 9223372036854775807 - (rest + off) < (first - idx - 1) * 1048584) :
    Calls Yba.prog 4 #[.int .i64 rest, .int .u64 idx, .agg #[.int .u64 first, .int .i64 off]] w fun e w' => e = .returned (.tuple #[.int .i64 (rest + off), .int .i64 9223372036854775807, .bool true]) ∧ w' = w.alloc (.cells #[.int .u64 first, .int .i64 off] 26) := by
  go_enter Yba.func4, Yba.ntmps4
  go_wp2
  go_ret3
  exact ⟨rfl, rfl⟩
theorem bounds_near1 (rest idx first off : Int) (w : World) (hr0 : 0 < rest) (ho : 0 ≤ off) (hro : rest + off ≤ 9223372036854775807) (hi0 : 0 ≤ idx) (hi1 : idx < first) (hf1 : first ≤ 18446744073709551615)
    (h : (first - idx - 1) * 1048584 ≤ 9223372036854775807 - (rest + off)) :
    Calls Yba.prog 4 #[.int .i64 rest, .int .u64 idx, .agg #[.int .u64 first, .int .i64 off]] w fun e w' => e = .returned (.tuple #[.int .i64 (rest + off), .int .i64 (rest + off + (first - idx - 1) * 1048584), .bool true]) ∧ w' = w.alloc (.cells #[.int .u64 first, .int .i64 off] 26) := by
  go_enter Yba.func4, Yba.ntmps4
  go_wp2
  go_ret3
  exact ⟨rfl, rfl⟩
theorem bounds_far0 (idx first off : Int) (w : World) (ho : 0 ≤ off) (hro : off ≤ 9223372036854775807) (hi0 : 0 ≤ idx) (hi1 : idx ≤ first) (hf1 : first ≤ 18446744073709551615)
    (h : 9223372036854775807 - off < (first - idx) * 1048584) :
    Calls Yba.prog 4 #[.int .i64 0, .int .u64 idx, .agg #[.int .u64 first, .int .i64 off]] w fun e w' => e = .returned (.tuple #[.int .i64 off, .int .i64 9223372036854775807, .bool true]) ∧ w' = w.alloc (.cells #[.int .u64 first, .int .i64 off] 26) := by
  go_enter Yba.func4, Yba.ntmps4
  go_wp2
  go_ret3
  exact ⟨rfl, rfl⟩
theorem bounds_near0 (idx first off : Int) (w : World) (ho : 0 ≤ off) (hro : off ≤ 9223372036854775807) (hi0 : 0 ≤ idx) (hi1 : idx ≤ first) (hf1 : first ≤ 18446744073709551615)
    (h : (first - idx) * 1048584 ≤ 9223372036854775807 - off) :
    Calls Yba.prog 4 #[.int .i64 0, .int .u64 idx, .agg #[.int .u64 first, .int .i64 off]] w fun e w' => e = .returned (.tuple #[.int .i64 off, .int .i64 (off + (first - idx) * 1048584), .bool true]) ∧ w' = w.alloc (.cells #[.int .u64 first, .int .i64 off] 26) := by
  go_enter Yba.func4, Yba.ntmps4
  go_wp2
  go_ret3
  exact ⟨rfl, rfl⟩

/-- The product passes K: its upper half is not 0, or its lower half passes K. -/
theorem mul_far (b K : Int) (hb0 : 0 ≤ b) (hb1 : b ≤ 18446744073709551615) (hK : K ≤ 9223372036854775807) (h : K < b * 1048584) (w : World) :
    Calls Yba.prog 5 #[.int .u64 b, .int .u64 1048584] w fun e w' => (∃ hi lo : Int, e = .returned (.tuple #[.int .u64 hi, .int .u64 lo]) ∧ 0 ≤ lo ∧ lo ≤ 18446744073709551615 ∧ ((hi != 0) = true ∨ ((hi != 0) = false ∧ K < lo))) ∧ w' = w := by
  obtain ⟨n, rfl⟩ : ∃ n : Nat, b = n := ⟨b.toNat, by omega⟩
  have hm := mul64 n 1048584 (by omega) (by omega) w
  refine hm.mono ?_
  rintro e w' ⟨rfl, rfl⟩
  refine ⟨⟨_, _, rfl, by omega, by omega, ?_⟩, rfl⟩
  by_cases h0 : n * 1048584 / 18446744073709551616 = 0
  · right
    refine ⟨by rw [h0]; rfl, ?_⟩
    omega
  · left
    rw [bne_iff_ne]
    omega
theorem mul_near (b K : Int) (hb0 : 0 ≤ b) (hb1 : b ≤ 18446744073709551615) (hK : K ≤ 9223372036854775807) (h : b * 1048584 ≤ K) (w : World) :
    Calls Yba.prog 5 #[.int .u64 b, .int .u64 1048584] w fun e w' => e = .returned (.tuple #[.int .u64 0, .int .u64 (b * 1048584)]) ∧ w' = w := by
  obtain ⟨n, rfl⟩ : ∃ n : Nat, b = n := ⟨b.toNat, by omega⟩
  have hm := mul64 n 1048584 (by omega) (by omega) w
  refine hm.mono ?_
  rintro e w' ⟨rfl, rfl⟩
  have e1 : ((n * 1048584 / 18446744073709551616 : Nat) : Int) = 0 := by omega
  have e2 : ((n * 1048584 % 18446744073709551616 : Nat) : Int) = (n : Int) * 1048584 := by omega
  rw [e1, e2]
  exact ⟨rfl, rfl⟩

set_option maxRecDepth 100000 in
set_option maxHeartbeats 1000000 in
theorem walk_no (rest idx first off : Int) (w : World) (hr0 : -9223372036854775808 ≤ rest) (hr1 : rest ≤ 9223372036854775807) (hi0 : 0 ≤ idx) (hi1 : idx ≤ 18446744073709551615) (hf0 : 0 ≤ first) (hf1 : first ≤ 18446744073709551615)
    (h : rest < 0 ∨ first < idx ∨ (0 < rest ∧ first = idx)) :
    Calls Yba.prog 3 #[.int .i64 rest, .int .u64 idx, .int .u64 first, .int .i64 off] w fun e w' => e = .returned (.bool true) ∧ Grown w w' := by
  have HB : Hid (Calls Yba.prog 4 #[.int .i64 rest, .int .u64 idx, .agg #[.int .u64 first, .int .i64 off]] w fun e w' => e = .returned (.tuple #[.int .i64 0, .int .i64 0, .bool false]) ∧ w' = w.alloc (.cells #[.int .u64 first, .int .i64 off] 26)) := bounds_no rest idx first off w hr1 hi0 hi1 hf0 hf1 h
  by_cases h1 : rest < 0
  · clear h
    go_enter Yba.func3, Yba.ntmps3
    go_wp2_with fail
    refine HB.out.mono ?_
    rintro e w' ⟨rfl, rfl⟩
    clear HB
    go_wp2
    go_ret
    exact ⟨rfl, (Grown.refl _).alloc _ _⟩
  · by_cases h2 : first < idx
    · clear h
      go_enter Yba.func3, Yba.ntmps3
      go_wp2_with fail
      refine HB.out.mono ?_
      rintro e w' ⟨rfl, rfl⟩
      clear HB
      go_wp2
      go_ret
      exact ⟨rfl, (Grown.refl _).alloc _ _⟩
    · obtain ⟨h3, rfl⟩ : 0 < rest ∧ first = idx := by omega
      clear h
      go_enter Yba.func3, Yba.ntmps3
      go_wp2_with fail
      refine HB.out.mono ?_
      rintro e w' ⟨rfl, rfl⟩
      clear HB
      go_wp2
      go_ret
      exact ⟨rfl, (Grown.refl _).alloc _ _⟩

set_option maxRecDepth 100000 in
set_option maxHeartbeats 1000000 in
theorem walk_out (rest idx first off : Int) (w : World) (hr0 : 0 ≤ rest) (hr1 : rest ≤ 9223372036854775807) (hi0 : 0 ≤ idx) (hi1 : idx ≤ first) (hf1 : first ≤ 18446744073709551615)
    (hne : ¬ (0 < rest ∧ first = idx)) (h : off < 0 ∨ 9223372036854775807 - rest < off) :
    Calls Yba.prog 3 #[.int .i64 rest, .int .u64 idx, .int .u64 first, .int .i64 off] w fun e w' => e = .returned (.bool true) ∧ Grown w w' := by
  have HB := (hide <| bounds_some rest idx first off w hr0 hr1 hi0 hi1 hf1 hne)
  by_cases h1 : 0 < rest
  · have h2 : idx < first := by omega
    have hfe : (first == idx) = false := by rw [beq_eq_false_iff_ne]; omega
    clear hne
    rcases h with h | h
    · go_enter Yba.func3, Yba.ntmps3
      go_wp2_with fail
      refine HB.out.mono ?_
      rintro e w' ⟨⟨l, m, rfl⟩, rfl⟩
      clear HB
      go_wp2
      go_ret
      exact ⟨rfl, (Grown.refl _).alloc _ _⟩
    · have h3 : 0 ≤ off := by omega
      go_enter Yba.func3, Yba.ntmps3
      go_wp2_with fail
      refine HB.out.mono ?_
      rintro e w' ⟨⟨l, m, rfl⟩, rfl⟩
      clear HB
      go_wp2
      go_ret
      exact ⟨rfl, (Grown.refl _).alloc _ _⟩
  · clear hne
    rcases h with h | h
    · go_enter Yba.func3, Yba.ntmps3
      go_wp2_with fail
      refine HB.out.mono ?_
      rintro e w' ⟨⟨l, m, rfl⟩, rfl⟩
      clear HB
      go_wp2
      go_ret
      exact ⟨rfl, (Grown.refl _).alloc _ _⟩
    · have h3 : 0 ≤ off := by omega
      go_enter Yba.func3, Yba.ntmps3
      go_wp2_with fail
      refine HB.out.mono ?_
      rintro e w' ⟨⟨l, m, rfl⟩, rfl⟩
      clear HB
      go_wp2
      go_ret
      exact ⟨rfl, (Grown.refl _).alloc _ _⟩

set_option maxRecDepth 100000 in
set_option maxHeartbeats 1000000 in
theorem walk_far1 (rest idx first off : Int) (w : World) (hr0 : 0 < rest) (ho : 0 ≤ off) (hro : rest + off ≤ 9223372036854775807) (hi0 : 0 ≤ idx) (hi1 : idx < first) (hf1 : first ≤ 18446744073709551615)
    (h : 9223372036854775807 - (rest + off) < (first - idx - 1) * 1048584) :
    Calls Yba.prog 3 #[.int .i64 rest, .int .u64 idx, .int .u64 first, .int .i64 off] w fun e w' => e = .returned (.bool true) ∧ Grown w w' := by
  have HB := (hide <| bounds_far1 rest idx first off w hr0 ho hro hi0 hi1 hf1 h)
  have HM := fun w => (hide <| mul_far (first - idx - 1) (9223372036854775807 - (rest + off)) (by omega) (by omega) (by omega) h w)
  clear h
  have hfe : (first == idx) = false := by rw [beq_eq_false_iff_ne]; omega
  go_enter Yba.func3, Yba.ntmps3
  go_wp2_with fail
  refine HB.out.mono ?_
  rintro e w' ⟨rfl, rfl⟩
  clear HB
  go_wp2_with fail
  refine (HM _).out.mono ?_
  rintro e w' ⟨⟨hi, lo, rfl, lo0, lo1, hcase⟩, rfl⟩
  clear HM
  rcases hcase with hc | ⟨hc, hlo⟩
  · go_wp2
    go_ret
    exact ⟨rfl, (Grown.refl _).alloc _ _⟩
  · go_wp2
    go_ret
    exact ⟨rfl, (Grown.refl _).alloc _ _⟩

set_option maxRecDepth 100000 in
set_option maxHeartbeats 1000000 in
theorem walk_near1 (rest idx first off : Int) (w : World) (hr0 : 0 < rest) (ho : 0 ≤ off) (hro : rest + off ≤ 9223372036854775807) (hi0 : 0 ≤ idx) (hi1 : idx < first) (hf1 : first ≤ 18446744073709551615)
    (h : (first - idx - 1) * 1048584 ≤ 9223372036854775807 - (rest + off)) :
    Calls Yba.prog 3 #[.int .i64 rest, .int .u64 idx, .int .u64 first, .int .i64 off] w fun e w' => e = .returned (.bool true) ∧ Grown w w' := by
  have HB := (hide <| bounds_near1 rest idx first off w hr0 ho hro hi0 hi1 hf1 h)
  have HM := fun w => (hide <| mul_near (first - idx - 1) (9223372036854775807 - (rest + off)) (by omega) (by omega) (by omega) h w)
  have hfe : (first == idx) = false := by rw [beq_eq_false_iff_ne]; omega
  go_enter Yba.func3, Yba.ntmps3
  go_wp2_with fail
  refine HB.out.mono ?_
  rintro e w' ⟨rfl, rfl⟩
  clear HB
  go_wp2_with fail
  refine (HM _).out.mono ?_
  rintro e w' ⟨rfl, rfl⟩
  clear HM
  go_wp2
  go_ret
  exact ⟨ret_bool (decide_eq_true (by omega)), (Grown.refl _).alloc _ _⟩

set_option maxRecDepth 100000 in
set_option maxHeartbeats 1000000 in
theorem walk_far0 (idx first off : Int) (w : World) (ho : 0 ≤ off) (hro : off ≤ 9223372036854775807) (hi0 : 0 ≤ idx) (hi1 : idx ≤ first) (hf1 : first ≤ 18446744073709551615)
    (h : 9223372036854775807 - off < (first - idx) * 1048584) :
    Calls Yba.prog 3 #[.int .i64 0, .int .u64 idx, .int .u64 first, .int .i64 off] w fun e w' => e = .returned (.bool true) ∧ Grown w w' := by
  have HB := (hide <| bounds_far0 idx first off w ho hro hi0 hi1 hf1 h)
  have HM := fun w => (hide <| mul_far (first - idx) (9223372036854775807 - off) (by omega) (by omega) (by omega) h w)
  clear h
  go_enter Yba.func3, Yba.ntmps3
  go_wp2_with fail
  refine HB.out.mono ?_
  rintro e w' ⟨rfl, rfl⟩
  clear HB
  go_wp2_with fail
  refine (HM _).out.mono ?_
  rintro e w' ⟨⟨hi, lo, rfl, lo0, lo1, hcase⟩, rfl⟩
  clear HM
  rcases hcase with hc | ⟨hc, hlo⟩
  · go_wp2
    go_ret
    exact ⟨rfl, (Grown.refl _).alloc _ _⟩
  · go_wp2
    go_ret
    exact ⟨rfl, (Grown.refl _).alloc _ _⟩

set_option maxRecDepth 100000 in
set_option maxHeartbeats 1000000 in
theorem walk_near0 (idx first off : Int) (w : World) (ho : 0 ≤ off) (hro : off ≤ 9223372036854775807) (hi0 : 0 ≤ idx) (hi1 : idx ≤ first) (hf1 : first ≤ 18446744073709551615)
    (h : (first - idx) * 1048584 ≤ 9223372036854775807 - off) :
    Calls Yba.prog 3 #[.int .i64 0, .int .u64 idx, .int .u64 first, .int .i64 off] w fun e w' => e = .returned (.bool true) ∧ Grown w w' := by
  have HB := (hide <| bounds_near0 idx first off w ho hro hi0 hi1 hf1 h)
  have HM := fun w => (hide <| mul_near (first - idx) (9223372036854775807 - off) (by omega) (by omega) (by omega) h w)
  go_enter Yba.func3, Yba.ntmps3
  go_wp2_with fail
  refine HB.out.mono ?_
  rintro e w' ⟨rfl, rfl⟩
  clear HB
  go_wp2_with fail
  refine (HM _).out.mono ?_
  rintro e w' ⟨rfl, rfl⟩
  clear HM
  go_wp2
  go_ret
  exact ⟨ret_bool (decide_eq_true (by omega)), (Grown.refl _).alloc _ _⟩

theorem walk (a0 : Int) (a1 : Int) (a2 : Int) (a3 : Int) (w0 : (Lit.int .i64 a0).wf = true) (w1 : (Lit.int .u64 a1).wf = true) (w2 : (Lit.int .u64 a2).wf = true) (w3 : (Lit.int .i64 a3).wf = true) (w : World) :
    Calls Yba.prog 3 #[.int .i64 a0, .int .u64 a1, .int .u64 a2, .int .i64 a3] w fun e w' => e = .returned (.bool true) ∧ Grown w w' := by
  obtain ⟨b0, b0'⟩ := bounds_i64 w0
  obtain ⟨b1, b1'⟩ := bounds_u64 w1
  obtain ⟨b2, b2'⟩ := bounds_u64 w2
  obtain ⟨b3, b3'⟩ := bounds_i64 w3
  by_cases hno : a0 < 0 ∨ a2 < a1 ∨ (0 < a0 ∧ a2 = a1)
  · exact walk_no a0 a1 a2 a3 w b0 b0' b1 b1' b2 b2' hno
  · by_cases hout : a3 < 0 ∨ 9223372036854775807 - a0 < a3
    · exact walk_out a0 a1 a2 a3 w (by omega) b0' b1 (by omega) b2' (by omega) hout
    · by_cases hr : 0 < a0
      · by_cases hf : 9223372036854775807 - (a0 + a3) < (a2 - a1 - 1) * 1048584
        · exact walk_far1 a0 a1 a2 a3 w hr (by omega) (by omega) b1 (by omega) b2' hf
        · exact walk_near1 a0 a1 a2 a3 w hr (by omega) (by omega) b1 (by omega) b2' (by omega)
      · obtain rfl : a0 = 0 := by omega
        by_cases hf : 9223372036854775807 - a3 < (a2 - a1) * 1048584
        · exact walk_far0 a1 a2 a3 w (by omega) (by omega) b1 (by omega) b2' hf
        · exact walk_near0 a1 a2 a3 w (by omega) (by omega) b1 (by omega) b2' (by omega)

/-! ### The row's step: the shell's own -/
set_option maxRecDepth 100000 in
theorem lifted (os : Os) (started : os.Started) (H : Type) (enc : TypeId × Value → H) :
    ReturnsInHanded {} Yba.checked os 3 .any (Rows.lawS0540BExactSpec.pre6 enc Yba.prog Yba.f3 Rows.lawS0540BExactRow.domain false) (Rows.lawS0540BExactSpec.post enc Yba.prog Yba.f3 false true false false) := by
  refine returnsInHanded_of_change (C := Yba.checked) own started (by kernel_rfl) Yba.func3
    (ChangeSpec.witness6 (enc := enc) (C := Yba.checked) false ⟨#[], #[.int .i64 0, .int .u64 0, .int .u64 0, .int .i64 0], []⟩ 8 (by kernel_rfl) (by kernel_rfl) (by kernel_rfl) (by kernel_rfl)) ?_
  intro W base args ds gs before hval0 hW hcnd _
  have hval : ∀ (j : Nat) t v, Yba.f3.params[j]? = some t → args[j]? = some v → Value.okWide Yba.prog W .any base t v := hval0
  have hW' := hW
  obtain ⟨p, q, hA0, hV, rfl, hfz, hnd⟩ := hW
  have hA : DataW.TrodAll enc Yba.prog W 0 (fun _ => true) true Yba.f3.params.toList args.toList ds p := hA0
  rw [Yba.params3] at hA hval
  obtain ⟨v0, vs0, d0, ds0, p0, q0, hargs, rfl, rfl, h0, r0⟩ := trodAll_cons hA
  obtain ⟨v1, vs1, d1, ds1, p1, q1, rfl, rfl, rfl, h1, r1⟩ := trodAll_cons r0
  obtain ⟨v2, vs2, d2, ds2, p2, q2, rfl, rfl, rfl, h2, r2⟩ := trodAll_cons r1
  obtain ⟨v3, vs3, d3, ds3, p3, q3, rfl, rfl, rfl, h3, r3⟩ := trodAll_cons r2
  obtain ⟨rfl, rfl, rfl⟩ := trodAll_nil r3
  obtain rfl : args = #[v0, v1, v2, v3] := by cases args; simp_all
  obtain ⟨rfl, rfl⟩ := trodVars_none hV
  obtain ⟨a0, rfl, rfl, rfl, w0⟩ := open_int Yba.underlying2 (hval 0 2 v0 rfl rfl) h0
  obtain ⟨a1, rfl, rfl, rfl, w1⟩ := open_int Yba.underlying22 (hval 1 22 v1 rfl rfl) h1
  obtain ⟨a2, rfl, rfl, rfl, w2⟩ := open_int Yba.underlying22 (hval 2 22 v2 rfl rfl) h2
  obtain ⟨a3, rfl, rfl, rfl, w3⟩ := open_int Yba.underlying2 (hval 3 2 v3 rfl rfl) h3
  clear hA0 hval0
  simp only [List.append_nil] at hW'
  refine (walk a0 a1 a2 a3 w0 w1 w2 w3 W).mono fun e W' ⟨he, hg⟩ => ?_
  subst he
  exact ⟨_, rfl, post_of_same (pa := []) (pv := []) hW' (fun _ _ _ => (trodAll_cons_mk (shut_bool Yba.underlying4 _) trodAll_mk0)) (fun sp _ => (trodAll_cons_mk (shut_int Yba.underlying2 w0) (trodAll_cons_mk (shut_int Yba.underlying22 w1) (trodAll_cons_mk (shut_int Yba.underlying22 w2) (trodAll_cons_mk (shut_int Yba.underlying2 w3) trodAll_mk0))))) (fun _ _ => rfl) rfl
    (hg.frame _) hg.2.1 (ok_one (by kernel_rfl) rfl (okWide_bool_mk Yba.underlying4 _))⟩

theorem over : Rows.lawS0540BExactRow.holds Yba.pinned (OpenSpec.ofChange Rows.lawS0540BExactSpec) :=
  OpenClaim.holds_of_wide 3 Yba.f3 rfl rfl rfl rfl rfl rfl rfl ⟨rfl, rfl, rfl, rfl, rfl⟩ rfl rfl rfl rfl rfl (by kernel_rfl) Yba.func3 (by kernel_rfl)
    (of_decide_eq_true (by kernel_rfl)) (by unfold Func.isWrapper; first | (rw [if_pos (by decide +kernel)]; kernel_rfl) | (rw [if_neg (by decide +kernel)]; exact ⟨rfl, rfl⟩))
    (fun os started H enc _ => lifted os started H enc)

/-- ████ THE STATEMENT ████ -/
theorem proved : Rows.LawS0540BExactSaid :=
  over
#print axioms proved
end Go.Proofs.Ybulkkdu.lawS0540BExact
