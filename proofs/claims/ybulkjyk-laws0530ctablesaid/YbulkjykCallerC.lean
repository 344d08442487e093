/-
  The contracts that both laws on 'caller.userID' go by: strings.LastIndexByte and what lies under it, lastName, zzs0530clast, accountless, userID.
-/
import Derived.Test.YbulkjykRows
import Derived.WalkKit
import Derived.WalkSpells
import Derived.WalkSmall
import Derived.Lib.Strings
import Derived.Lib.LastIndexByte
import Derived.Deep.QuietTactic
import Derived.BigQuiet
namespace Go.Proofs.Ybulkjyk.callerC
open Go.RowKit

theorem byteBang (s : ByteArray) (j : Nat) (hj : j < s.size) : s.data[j]! = s[j] := by
  rw [getElem!_pos s.data j (by simpa using hj)]; rfl

set_option maxRecDepth 100000 in
set_option maxHeartbeats 1000000 in
theorem lastIdx_any (s : ByteArray) (c : Int) (hs : s.size < 4611686018427387904) (w : World) :
    Calls Yba.prog 18 #[.string s, .int .u8 c] w fun e w' => e = .returned (.int .i64 (Lib.lastIndexByte s c)) ∧ w' = w := by
  go_enter Yba.func18, Yba.ntmps18
  go_wp2
  go_loop [5] (fun vi => ∃ k : Nat, k ≤ s.size ∧ vi = .int .i64 ((k : Int) - 1) ∧ Hid (Lib.lastIndexByte s c = Lib.lastIdx s c k)) (fun vi => ((RowKit.intOf vi) + 1).toNat)
  case atStart => exact ⟨s.size, Nat.le_refl _, by first | rfl | go_num | (congr 1; omega), rfl⟩
  case round =>
    obtain ⟨k, hk, rfl, hh⟩ := hrel
    go_wp2
    · have hc : (((s[k - 1]).toNat : Int) == c) = true := by assumption
      have k1 : 1 ≤ k := by omega
      have e1 : Lib.lastIdx s c k = ((k - 1 : Nat) : Int) := by
        have := Lib.lastIdx_hit s c (k - 1) (by rw [byteBang s (k - 1) (by omega)]; simpa using hc)
        rwa [show k - 1 + 1 = k by omega] at this
      have e2 : ((k - 1 : Nat) : Int) = (k : Int) - 1 := by omega
      go_ret
      rw [hh.out, e1, e2]
      exact ⟨rfl, rfl⟩
    · have hc : (((s[k - 1]).toNat : Int) == c) = false := by assumption
      have k1 : 1 ≤ k := by omega
      have e1 : Lib.lastIdx s c k = Lib.lastIdx s c (k - 1) := by
        have := Lib.lastIdx_miss s c (k - 1) (by rw [byteBang s (k - 1) (by omega)]; simpa using hc)
        rwa [show k - 1 + 1 = k by omega] at this
      refine ⟨⟨k - 1, by omega, by congr 1; omega, hh.out.trans e1⟩, ?_⟩
      simp [RowKit.intOf]; omega
    · have k0 : k = 0 := by omega
      subst k0
      go_ret
      rw [hh.out]
      exact ⟨rfl, rfl⟩

theorem lastIndexByte_any (s : ByteArray) (c : Int) (hs : s.size < 4611686018427387904) (w : World) :
    Calls Yba.prog 17 #[.string s, .int .u8 c] w fun e w' => e = .returned (.int .i64 (Lib.lastIndexByte s c)) ∧ w' = w := by
  go_enter Yba.func17, Yba.ntmps17
  go_wp2_with fail
  refine (lastIdx_any s c hs _).mono ?_
  rintro e w' ⟨rfl, rfl⟩
  go_wp2
  go_ret
  exact ⟨rfl, rfl⟩

/-- Where the last name begins. -/
def place (s : ByteArray) (k : Nat) : Nat := (Lib.lastIdx s 47 k + 1).toNat
theorem place_le (s : ByteArray) (k : Nat) : place s k ≤ k := by
  unfold place
  rcases Lib.lastIdx_spec s 47 k with ⟨h, _⟩ | ⟨i, h1, h, _⟩ <;> omega
theorem place_at (s : ByteArray) : ∃ p : Nat, p ≤ s.size ∧ Lib.lastIndexByte s 47 = (p : Int) - 1 ∧ place s s.size = p := by
  refine ⟨place s s.size, place_le s s.size, ?_, rfl⟩
  unfold place Lib.lastIndexByte
  rcases Lib.lastIdx_spec s 47 s.size with ⟨h, _⟩ | ⟨i, h1, h, _⟩ <;> omega

theorem lastName_any (s : ByteArray) (hs : s.size < 4611686018427387904) (w : World) :
    Calls Yba.prog 16 #[.string s] w fun e w' => e = .returned (.string (s.extract (place s s.size) s.size)) ∧ w' = w := by
  obtain ⟨p, hp, h1, h2⟩ := place_at s
  rw [h2]
  have H1 : Hid (Lib.lastIndexByte s 47 = (p : Int) - 1) := h1
  clear h1 h2
  go_enter Yba.func16, Yba.ntmps16
  go_wp2_with fail
  refine (lastIndexByte_any s 47 hs _).mono ?_
  rintro e w' ⟨he, rfl⟩
  rw [H1.out] at he
  subst he
  go_wp2
  go_ret
  exact ⟨rfl, rfl⟩

theorem place_hit (s : ByteArray) (k : Nat) (h0 : 0 < k) (hk : k ≤ s.size) (h : ((s[k - 1]'(by omega)).toNat : Int) = 47) : place s k = k := by
  have := Lib.lastIdx_hit s 47 (k - 1) (by rw [byteBang s (k - 1) (by omega)]; exact h)
  rw [show k - 1 + 1 = k by omega] at this
  unfold place
  omega
theorem place_miss (s : ByteArray) (k : Nat) (h0 : 0 < k) (hk : k ≤ s.size) (h : ((s[k - 1]'(by omega)).toNat : Int) ≠ 47) : place s k = place s (k - 1) := by
  have := Lib.lastIdx_miss s 47 (k - 1) (by rw [byteBang s (k - 1) (by omega)]; exact h)
  rw [show k - 1 + 1 = k by omega] at this
  unfold place
  rw [this]

set_option maxRecDepth 100000 in
theorem clast_any (s : ByteArray) (hs : s.size < 4611686018427387904) (w : World) :
    Calls Yba.prog 12 #[.string s] w fun e w' => e = .returned (.string (s.extract (place s s.size) s.size)) ∧ w' = w := by
  obtain ⟨p, hp⟩ : ∃ p, p = place s s.size := ⟨_, rfl⟩
  rw [← hp]
  have HP : Hid (p = place s s.size) := hp
  clear hp
  go_enter Yba.func12, Yba.ntmps12
  go_wp2
  go_loop [3] (fun vi => ∃ k : Nat, k ≤ s.size ∧ vi = .int .i64 k ∧ Hid (p = place s k)) (fun vi => ((RowKit.intOf vi)).toNat)
  case atStart => exact ⟨s.size, Nat.le_refl _, rfl, HP⟩
  case round =>
    obtain ⟨k, hk, rfl, hh⟩ := hrel
    go_wp2
    · have h0 : 0 < k := by omega
      have hb : (((s[k - 1]'(by omega)).toNat : Int) != 47) = true := by assumption
      go_round
      case rel => exact ⟨k - 1, by omega, by congr 1; omega, hh.out.trans (place_miss s k h0 hk (by simpa using hb))⟩
      case measure => simp [intOf]; omega
    · have h0 : 0 < k := by omega
      have hb : (((s[k - 1]'(by omega)).toNat : Int) != 47) = false := by assumption
      have e : p = k := hh.out.trans (place_hit s k h0 hk (by simpa using hb))
      go_ret
      rw [e]
      exact ⟨rfl, rfl⟩
    · have e : p = k := by
        have h0 : k = 0 := by omega
        subst h0
        exact hh.out
      go_ret
      rw [e]
      exact ⟨rfl, rfl⟩

/-- The cells of a caller. -/
abbrev cells (arn acc : ByteArray) (k : Int) (u s a b c : ByteArray) (d : Bool) : Array Value := #[.string arn, .string acc, .int .i64 k, .string u, .string s, .string a, .string b, .string c, .bool d]

theorem accountless_yes (arn acc : ByteArray) (k : Int) (hk : k = 4 ∨ k = 5) (u s a b c : ByteArray) (d : Bool) (w : World) :
    Calls Yba.prog 13 #[.agg (cells arn acc k u s a b c d)] w fun e w' => e = .returned (.bool true) ∧ Below w.heap.size w w' := by
  rcases hk with rfl | rfl
  all_goals
    go_enter Yba.func13, Yba.ntmps13
    go_wp2
    go_ret
    exact ⟨rfl, (Below.refl _ _).alloc (Nat.le_refl _) _⟩
theorem accountless_no (arn acc : ByteArray) (k : Int) (h4 : (k == 4) = false) (h5 : (k == 5) = false) (u s a b c : ByteArray) (d : Bool) (w : World) :
    Calls Yba.prog 13 #[.agg (cells arn acc k u s a b c d)] w fun e w' => e = .returned (.bool false) ∧ Below w.heap.size w w' := by
  go_enter Yba.func13, Yba.ntmps13
  go_wp2
  go_ret
  exact ⟨rfl, (Below.refl _ _).alloc (Nat.le_refl _) _⟩

/-- What stands below the first new block reads as it did. -/
theorem bcell {W w1 : World} (hb : Below W.heap.size W w1) : (∀ b o, b < W.heap.size → w1.cell? ⟨b, o, none⟩ = W.cell? ⟨b, o, none⟩) ∧ (∀ b o, b < W.heap.size → w1.frozen? ⟨b, o, none⟩ = W.frozen? ⟨b, o, none⟩) :=
  ⟨fun b o h => hb.cell (p := ⟨b, o, none⟩) h, fun b o h => hb.frozen (p := ⟨b, o, none⟩) h⟩

theorem userID_acc (arn acc : ByteArray) (k : Int) (hk : k = 4 ∨ k = 5) (u s a b c : ByteArray) (d : Bool) (w : World) :
    Calls Yba.prog 11 #[.agg (cells arn acc k u s a b c d)] w fun e w' => e = .returned (.tuple #[.string ⟨#[]⟩, .bool false]) ∧ Below w.heap.size w w' := by
  go_enter Yba.func11, Yba.ntmps11
  go_wp2_with fail
  refine (accountless_yes arn acc k hk u s a b c d _).mono ?_
  rintro e w1 ⟨rfl, hb⟩
  have hb' : Below w.heap.size w w1 := ((Below.refl _ _).alloc (Nat.le_refl _) _).trans (hb.mono (by simp))
  clear hb
  go_wp2
  go_ret2
  exact ⟨rfl, hb'⟩

theorem userID_root (arn acc : ByteArray) (u s a b c : ByteArray) (d : Bool) (w : World) :
    Calls Yba.prog 11 #[.agg (cells arn acc 0 u s a b c d)] w fun e w' => e = .returned (.tuple #[.string acc, .bool true]) ∧ Below w.heap.size w w' := by
  go_enter Yba.func11, Yba.ntmps11
  go_wp2_with fail
  refine (accountless_no arn acc 0 rfl rfl u s a b c d _).mono ?_
  rintro e w1 ⟨rfl, hb⟩
  have hb' : Below w.heap.size w w1 := ((Below.refl _ _).alloc (Nat.le_refl _) _).trans (hb.mono (by simp))
  have c1 : w1.cell? ⟨w.heap.size, 1, none⟩ = some (.string acc) := by rw [hb.cell (by simp)]; simp
  have c2 : w1.cell? ⟨w.heap.size, 2, none⟩ = some (.int .i64 0) := by rw [hb.cell (by simp)]; simp
  clear hb
  go_wp2
  go_ret2
  exact ⟨rfl, hb'⟩

theorem userID_else (arn acc : ByteArray) (k : Int) (h4 : (k == 4) = false) (h5 : (k == 5) = false) (h0 : (k == 0) = false) (h3 : (k == 3) = false) (u s a b c : ByteArray) (d : Bool) (w : World) :
    Calls Yba.prog 11 #[.agg (cells arn acc k u s a b c d)] w fun e w' => e = .returned (.tuple #[.string ⟨#[]⟩, .bool true]) ∧ Below w.heap.size w w' := by
  go_enter Yba.func11, Yba.ntmps11
  go_wp2_with fail
  refine (accountless_no arn acc k h4 h5 u s a b c d _).mono ?_
  rintro e w1 ⟨rfl, hb⟩
  have hb' : Below w.heap.size w w1 := ((Below.refl _ _).alloc (Nat.le_refl _) _).trans (hb.mono (by simp))
  have c2 : w1.cell? ⟨w.heap.size, 2, none⟩ = some (.int .i64 k) := by rw [hb.cell (by simp)]; simp
  clear hb
  go_wp2
  go_ret2
  exact ⟨rfl, hb'⟩

set_option maxRecDepth 100000 in
theorem userID_fed (arn acc : ByteArray) (ha : arn.size ≤ 140737488351232) (hc : acc.size ≤ 140737488351232) (u s a b c : ByteArray) (d : Bool) (w : World) :
    Calls Yba.prog 11 #[.agg (cells arn acc 3 u s a b c d)] w fun e w' => e = .returned (.tuple #[.string (acc ++ ⟨#[58]⟩ ++ arn.extract (place arn arn.size) arn.size), .bool true]) ∧ Below w.heap.size w w' := by
  go_enter Yba.func11, Yba.ntmps11
  go_wp2_with fail
  refine (accountless_no arn acc 3 rfl rfl u s a b c d _).mono ?_
  rintro e w1 ⟨rfl, hb⟩
  have hb' : Below w.heap.size w w1 := ((Below.refl _ _).alloc (Nat.le_refl _) _).trans (hb.mono (by simp))
  have c0 : w1.cell? ⟨w.heap.size, 0, none⟩ = some (.string arn) := by rw [hb.cell (by simp)]; simp
  have c1 : w1.cell? ⟨w.heap.size, 1, none⟩ = some (.string acc) := by rw [hb.cell (by simp)]; simp
  have c2 : w1.cell? ⟨w.heap.size, 2, none⟩ = some (.int .i64 3) := by rw [hb.cell (by simp)]; simp
  clear hb
  go_wp2_with fail
  go_quiet ((go_at_call 16; exact Calls.quiet_of_same (lastName_any _ (by omega) _)))
  go_wp2
  go_ret2
  exact ⟨rfl, below_drewN hb' _⟩
end Go.Proofs.Ybulkjyk.callerC
