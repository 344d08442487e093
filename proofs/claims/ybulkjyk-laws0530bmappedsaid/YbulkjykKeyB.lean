import Derived.Test.YbulkjykRows
import Derived.WalkKit
import Derived.WalkSpells
import Derived.Lib.SliceRun
import Derived.WalkSmall
import Derived.Deep.QuietTactic
import Derived.BigQuiet
namespace Go.Proofs.Ybulkjyk.keyB
open Go.RowKit

/-! ### The plain part: over the runes 'f 0', 'f 1' .. -/
/-- A ':' at i, nothing special ahead of it. -/
def Hit (f : Nat → Int) (n i : Nat) : Prop := i < n ∧ f i = 58 ∧ ∀ j, j < i → f j ≠ 58 ∧ f j ≠ -1 ∧ f j ≠ -2
/-- Nothing special below n. -/
def Bare (f : Nat → Int) (n : Nat) : Prop := ∀ j, j < n → f j ≠ 58 ∧ f j ≠ -1 ∧ f j ≠ -2
/-- A wildcard at i, nothing special ahead of it. -/
def Wild (f : Nat → Int) (n i : Nat) : Prop := i < n ∧ (f i = -1 ∨ f i = -2) ∧ ∀ j, j < i → f j ≠ 58 ∧ f j ≠ -1 ∧ f j ≠ -2

theorem three (f : Nat → Int) : ∀ n, (∃ i, Hit f n i) ∨ (∃ i, Wild f n i) ∨ Bare f n
  | 0 => .inr (.inr fun j h => absurd h (Nat.not_lt_zero _))
  | n + 1 => by
    rcases three f n with ⟨i, h1, h2, h3⟩ | ⟨i, h1, h2, h3⟩ | h
    · exact .inl ⟨i, by omega, h2, h3⟩
    · exact .inr (.inl ⟨i, by omega, h2, h3⟩)
    · by_cases a : f n = 58
      · exact .inl ⟨n, by omega, a, h⟩
      · by_cases b : f n = -1 ∨ f n = -2
        · exact .inr (.inl ⟨n, by omega, b, h⟩)
        · refine .inr (.inr fun j hj => ?_)
          by_cases e : j = n
          · subst e; refine ⟨a, ?_, ?_⟩ <;> (intro hh; exact b (by simp [hh]))
          · exact h j (by omega)

/-- 'c' is the first place of a ':' below k, or -1. -/
def FC (f : Nat → Int) (k : Nat) (c : Int) : Prop := (c = -1 ∧ ∀ j, j < k → f j ≠ 58) ∨ ∃ m : Nat, c = m ∧ m < k ∧ f m = 58 ∧ ∀ j, j < m → f j ≠ 58
/-- 'd' is the first place of a wildcard below k, or -1. -/
def FW (f : Nat → Int) (k : Nat) (d : Int) : Prop := (d = -1 ∧ ∀ j, j < k → f j ≠ -1 ∧ f j ≠ -2) ∨ ∃ m : Nat, d = m ∧ m < k ∧ (f m = -1 ∨ f m = -2) ∧ ∀ j, j < m → f j ≠ -1 ∧ f j ≠ -2

theorem fc_bd {f : Nat → Int} {k : Nat} {c : Int} (h : FC f k c) : -1 ≤ c ∧ c ≤ k := by
  rcases h with ⟨rfl, _⟩ | ⟨m, rfl, h, _⟩ <;> omega
theorem fw_bd {f : Nat → Int} {k : Nat} {c : Int} (h : FW f k c) : -1 ≤ c ∧ c ≤ k := by
  rcases h with ⟨rfl, _⟩ | ⟨m, rfl, h, _⟩ <;> omega
theorem fc_zero (f : Nat → Int) : FC f 0 (-1) := .inl ⟨rfl, fun _ h => absurd h (Nat.not_lt_zero _)⟩
theorem fw_zero (f : Nat → Int) : FW f 0 (-1) := .inl ⟨rfl, fun _ h => absurd h (Nat.not_lt_zero _)⟩
theorem fc_new {f : Nat → Int} {k : Nat} {c : Int} (h : FC f k c) (hc : c < 0) (hf : f k = 58) : FC f (k + 1) (k : Int) := by
  rcases h with ⟨_, h⟩ | ⟨m, rfl, _⟩
  · exact .inr ⟨k, rfl, by omega, hf, h⟩
  · omega
theorem fc_keep {f : Nat → Int} {k : Nat} {c : Int} (h : FC f k c) (hf : ¬ (c < 0 ∧ f k = 58)) : FC f (k + 1) c := by
  rcases h with ⟨rfl, h⟩ | ⟨m, rfl, h1, h2⟩
  · refine .inl ⟨rfl, fun j hj => ?_⟩
    by_cases e : j = k
    · subst e; intro hh; exact hf ⟨by omega, hh⟩
    · exact h j (by omega)
  · exact .inr ⟨m, rfl, by omega, h2⟩
theorem fw_new {f : Nat → Int} {k : Nat} {c : Int} (h : FW f k c) (hc : c < 0) (hf : f k = -1 ∨ f k = -2) : FW f (k + 1) (k : Int) := by
  rcases h with ⟨_, h⟩ | ⟨m, rfl, _⟩
  · exact .inr ⟨k, rfl, by omega, hf, h⟩
  · omega
theorem fw_keep {f : Nat → Int} {k : Nat} {c : Int} (h : FW f k c) (hf : ¬ (c < 0 ∧ (f k = -1 ∨ f k = -2))) : FW f (k + 1) c := by
  rcases h with ⟨rfl, h⟩ | ⟨m, rfl, h1, h2⟩
  · refine .inl ⟨rfl, fun j hj => ?_⟩
    by_cases e : j = k
    · subst e; constructor <;> (intro hh; exact hf ⟨by omega, by simp [hh]⟩)
    · exact h j (by omega)
  · exact .inr ⟨m, rfl, by omega, h2⟩

/-- At a hit the model's test says: go on, and the colon is the hit's place. -/
theorem at_hit {f : Nat → Int} {n i : Nat} {c d : Int} (h : Hit f n i) (hc : FC f n c) (hd : FW f n d) : c = i ∧ (d < 0 ∨ c < d) := by
  obtain ⟨h1, h2, h3⟩ := h
  have e : c = i := by
    rcases hc with ⟨_, hc⟩ | ⟨m, rfl, m1, m2, m3⟩
    · exact absurd h2 (hc i h1)
    · by_cases a : m < i
      · exact absurd m2 (h3 m a).1
      · by_cases b : i < m
        · exact absurd h2 (m3 i b)
        · omega
  refine ⟨e, ?_⟩
  rcases hd with ⟨rfl, _⟩ | ⟨m, rfl, m1, m2, m3⟩
  · exact .inl (by omega)
  · by_cases a : m < i
    · have := h3 m a; rcases m2 with m2 | m2
      · exact absurd m2 this.2.1
      · exact absurd m2 this.2.2
    · by_cases b : m = i
      · subst b; rw [h2] at m2; omega
      · exact .inr (by omega)
/-- Where there is none it says: nil, false. -/
theorem at_wild {f : Nat → Int} {n i : Nat} {c d : Int} (h : Wild f n i) (hc : FC f n c) (hd : FW f n d) : c < 0 ∨ (0 ≤ d ∧ d < c) := by
  obtain ⟨h1, h2, h3⟩ := h
  have e : d = i := by
    rcases hd with ⟨_, hd⟩ | ⟨m, rfl, m1, m2, m3⟩
    · have := hd i h1; rcases h2 with h2 | h2
      · exact absurd h2 this.1
      · exact absurd h2 this.2
    · by_cases a : m < i
      · have := h3 m a; rcases m2 with m2 | m2
        · exact absurd m2 this.2.1
        · exact absurd m2 this.2.2
      · by_cases b : i < m
        · have := m3 i b; rcases h2 with h2 | h2
          · exact absurd h2 this.1
          · exact absurd h2 this.2
        · omega
  rcases hc with ⟨rfl, _⟩ | ⟨m, rfl, m1, m2, m3⟩
  · exact .inl (by omega)
  · by_cases a : m < i
    · exact absurd m2 (h3 m a).1
    · by_cases b : m = i
      · subst b; rw [m2] at h2; omega
      · exact .inr (by omega)
theorem at_bare {f : Nat → Int} {n : Nat} {c : Int} (h : Bare f n) (hc : FC f n c) : c < 0 := by
  rcases hc with ⟨rfl, _⟩ | ⟨m, rfl, m1, m2, m3⟩
  · omega
  · exact absurd m2 (h m m1).1

/-! ### The walks -/
theorem eqnil (w : World) (a : Option Addr) (n c n' c' : Nat) : (binOp .eql 32 (.slice a n c) (.slice none n' c')).run Yba.prog w = .ok (.bool a.isNone) w := Lib.run_eql_slice_nil w _ _ a n c n' c' Yba.underlying32

theorem key_hit (f : Nat → Int) (g n cap i : Nat) (w : World) (hn : n ≤ 1024) (hcap : n ≤ cap) (hc : ∀ j, j < n → w.cell? ⟨g, j, none⟩ = some (.int .i32 (f j))) (h : Hit f n i) :
    Calls Yba.prog 14 #[.slice (some ⟨g, 0, none⟩) n cap] w fun e w' => e = .returned (.tuple #[.slice (some ⟨g, 0, none⟩) i cap, .bool true]) ∧ w' = w := by
  obtain ⟨h1, h2, h3⟩ := h
  go_enter Yba.func14, Yba.ntmps14
  go_wp2_with fail
  go_loop [8] (fun vi => ∃ k : Nat, k ≤ i ∧ vi = .int .i64 k) (fun vi => n - (intOf vi).toNat)
  case atStart => exact ⟨0, by omega, rfl⟩
  case round =>
    obtain ⟨k, hk, rfl⟩ := hrel
    have hck := hc k (by omega)
    clear hc
    by_cases hki : k = i
    · subst hki
      have b1 : (f k == 58) = true := by simpa using h2
      clear h2 h3
      go_wp2
      go_ret2
      exact ⟨rfl, rfl⟩
    · obtain ⟨a1, a2, a3⟩ := h3 k (by omega)
      have b1 : (f k == 58) = false := by simpa using a1
      have b2 : (f k == -1) = false := by simpa using a2
      have b3 : (f k == -2) = false := by simpa using a3
      clear h2 h3 a1 a2 a3
      go_wp2
      go_round
      case rel => exact ⟨k + 1, by omega, by go_num⟩
      case measure => simp [intOf]; omega

theorem key_wild (f : Nat → Int) (g n cap i : Nat) (w : World) (hn : n ≤ 1024) (hc : ∀ j, j < n → w.cell? ⟨g, j, none⟩ = some (.int .i32 (f j))) (h : Wild f n i) :
    Calls Yba.prog 14 #[.slice (some ⟨g, 0, none⟩) n cap] w fun e w' => e = .returned (.tuple #[.slice none 0 0, .bool false]) ∧ w' = w := by
  obtain ⟨h1, h2, h3⟩ := h
  go_enter Yba.func14, Yba.ntmps14
  go_wp2_with fail
  go_loop [8] (fun vi => ∃ k : Nat, k ≤ i ∧ vi = .int .i64 k) (fun vi => n - (intOf vi).toNat)
  case atStart => exact ⟨0, by omega, rfl⟩
  case round =>
    obtain ⟨k, hk, rfl⟩ := hrel
    have hck := hc k (by omega)
    clear hc
    by_cases hki : k = i
    · subst hki
      rcases h2 with h2 | h2
      · have b1 : (f k == 58) = false := by simp [h2]
        have b2 : (f k == -1) = true := by simpa using h2
        clear h2 h3
        go_wp2
        go_ret2
        exact ⟨rfl, rfl⟩
      · have b1 : (f k == 58) = false := by simp [h2]
        have b2 : (f k == -1) = false := by simp [h2]
        have b3 : (f k == -2) = true := by simpa using h2
        clear h2 h3
        go_wp2
        go_ret2
        exact ⟨rfl, rfl⟩
    · obtain ⟨a1, a2, a3⟩ := h3 k (by omega)
      have b1 : (f k == 58) = false := by simpa using a1
      have b2 : (f k == -1) = false := by simpa using a2
      have b3 : (f k == -2) = false := by simpa using a3
      clear h2 h3 a1 a2 a3
      go_wp2
      go_round
      case rel => exact ⟨k + 1, by omega, by go_num⟩
      case measure => simp [intOf]; omega

theorem key_bare (f : Nat → Int) (g n cap : Nat) (w : World) (hn : n ≤ 1024) (hc : ∀ j, j < n → w.cell? ⟨g, j, none⟩ = some (.int .i32 (f j))) (h : Bare f n) :
    Calls Yba.prog 14 #[.slice (some ⟨g, 0, none⟩) n cap] w fun e w' => e = .returned (.tuple #[.slice none 0 0, .bool false]) ∧ w' = w := by
  go_enter Yba.func14, Yba.ntmps14
  go_wp2_with fail
  go_loop [8] (fun vi => ∃ k : Nat, k ≤ n ∧ vi = .int .i64 k) (fun vi => n - (intOf vi).toNat)
  case atStart => exact ⟨0, by omega, rfl⟩
  case round =>
    obtain ⟨k, hk, rfl⟩ := hrel
    by_cases hkn : k < n
    · have hck := hc k (by omega)
      clear hc
      obtain ⟨a1, a2, a3⟩ := h k (by omega)
      have b1 : (f k == 58) = false := by simpa using a1
      have b2 : (f k == -1) = false := by simpa using a2
      have b3 : (f k == -2) = false := by simpa using a3
      clear h a1 a2 a3
      go_wp2
      go_round
      case rel => exact ⟨k + 1, by omega, by go_num⟩
      case measure => simp [intOf]; omega
    · clear hc h
      go_wp2
      go_ret2
      exact ⟨rfl, rfl⟩

theorem fc_new' {f : Nat → Int} {k : Nat} {c : Int} (h : FC f k c) (hc : c < 0) (hf : (f k == 58) = true) : FC f (k + 1) (k : Int) := fc_new h hc (by simpa using hf)
theorem fc_keep1 {f : Nat → Int} {k : Nat} {c : Int} (h : FC f k c) (hf : (f k == 58) = false) : FC f (k + 1) c := fc_keep h fun a => by simp [a.2] at hf
theorem fc_keep2 {f : Nat → Int} {k : Nat} {c : Int} (h : FC f k c) (hf : ¬ c < 0) : FC f (k + 1) c := fc_keep h fun a => hf a.1
theorem fw_new1 {f : Nat → Int} {k : Nat} {c : Int} (h : FW f k c) (hc : c < 0) (hf : f k = -1) : FW f (k + 1) (k : Int) := fw_new h hc (.inl hf)
theorem fw_new2 {f : Nat → Int} {k : Nat} {c : Int} (h : FW f k c) (hc : c < 0) (hf : (f k == -1) = true ∨ (f k == -2) = true) : FW f (k + 1) (k : Int) := fw_new h hc (by simpa using hf)
theorem fw_keep1 {f : Nat → Int} {k : Nat} {c : Int} (h : FW f k c) (hf : (f k == -1) = false ∧ (f k == -2) = false) : FW f (k + 1) c := fw_keep h fun a => by rcases a.2 with b | b <;> simp [b] at hf
theorem fw_keep2 {f : Nat → Int} {k : Nat} {c : Int} (h : FW f k c) (hf : ¬ c < 0) : FW f (k + 1) c := fw_keep h fun a => hf a.1

/-- How the model ends. -/
def ModelEnd (f : Nat → Int) (g n cap : Nat) (e : Ending) : Prop := ∃ c d : Int, FC f n c ∧ FW f n d ∧
  (((c < 0 ∨ (0 ≤ d ∧ d < c)) ∧ e = .returned (.tuple #[.slice none 0 0, .bool false])) ∨ (¬ (c < 0 ∨ (0 ≤ d ∧ d < c)) ∧ e = .returned (.tuple #[.slice (some ⟨g, 0, none⟩) c.toNat cap, .bool true])))

set_option maxHeartbeats 400000 in
/-- The model's loop, and what its last test makes of the two places. -/
theorem model_any (f : Nat → Int) (g n cap : Nat) (w : World) (hn : n ≤ 1024) (hcap : n ≤ cap) (hc : ∀ j, j < n → w.cell? ⟨g, j, none⟩ = some (.int .i32 (f j))) :
    Calls Yba.prog 15 #[.slice (some ⟨g, 0, none⟩) n cap] w fun e w' => ModelEnd f g n cap e ∧ w' = w := by
  go_enter Yba.func15, Yba.ntmps15
  go_wp2_with fail
  go_loop [4, 5, 6] (fun vc vd vi => ∃ (k : Nat) (c d : Int), k ≤ n ∧ vi = .int .i64 k ∧ vc = .int .i64 c ∧ vd = .int .i64 d ∧ FC f k c ∧ FW f k d) (fun _ _ vi => n - (intOf vi).toNat)
  case atStart => exact ⟨0, -1, -1, by omega, rfl, rfl, rfl, fc_zero f, fw_zero f⟩
  case round =>
    obtain ⟨k, c, d, hk, rfl, rfl, rfl, hC, hD⟩ := hrel
    have bc := fc_bd hC
    have bd := fw_bd hD
    by_cases hkn : k < n
    · have hck := hc k (by omega)
      clear hc
      go_wp2
      all_goals
        go_round
        case rel => exact ⟨k + 1, _, _, by omega, by go_num, rfl, rfl, by first | exact fc_new' hC ‹_› ‹_› | exact fc_keep1 hC ‹_› | exact fc_keep2 hC ‹_›, by first | exact fw_new1 hD ‹_› ‹_› | exact fw_new2 hD ‹_› ‹_› | exact fw_keep1 hD ‹_› | exact fw_keep2 hD ‹_›⟩
        case measure => simp [intOf]; omega
    · obtain rfl : k = n := by omega
      clear hc
      go_wp2
      all_goals
        go_ret2
        refine ⟨⟨c, d, hC, hD, ?_⟩, rfl⟩
        first | exact .inl ⟨by omega, rfl⟩ | exact .inr ⟨by omega, rfl⟩

set_option maxHeartbeats 400000 in
theorem check_hit (f : Nat → Int) (g n cap i : Nat) (w : World) (hn : n ≤ 1024) (hcap : n ≤ cap) (hc : ∀ j, j < n → w.cell? ⟨g, j, none⟩ = some (.int .i32 (f j))) (h : Hit f n i) :
    Calls Yba.prog 10 #[.slice (some ⟨g, 0, none⟩) n cap] w fun e w' => e = .returned (.bool true) ∧ ∃ m, w' = w.drewN m := by
  have q1 := eqnil
  have hin : i < n := h.1
  go_enter Yba.func10, Yba.ntmps10
  go_wp2_with fail
  refine (key_hit f g n cap i _ hn hcap hc h).mono ?_
  rintro e w' ⟨rfl, rfl⟩
  go_wp2_with fail
  refine (model_any f g n cap _ hn hcap hc).mono ?_
  rintro e w1 ⟨⟨c, d, hC, hD, hE⟩, hw1⟩
  have hh := at_hit h hC hD
  have hE' : e = .returned (.tuple #[.slice (some ⟨g, 0, none⟩) i cap, .bool true]) := by
    rcases hE with ⟨a, _⟩ | ⟨_, b⟩
    · omega
    · rw [b, show c.toNat = i by omega]
  subst hw1 hE'
  clear hE hh hC hD
  go_wp2_with fail
  go_loopw [7] (fun vi wq => ∃ k m : Nat, k ≤ i ∧ vi = .int .i64 k ∧ wq = w1.drewN m) (fun vi _ => i - (intOf vi).toNat)
  case atStart => exact ⟨0, 0, by omega, rfl, rfl⟩
  case round =>
    obtain ⟨k, m, hk, rfl, rfl⟩ := hrel
    by_cases hki : k < i
    · have hck := hc k (by omega)
      clear hc
      go_wp2_with fail
      go_quiet (fail)
      go_wp2
      go_roundw
      case rel => exact ⟨k + 1, _, by omega, by go_num, rfl⟩
      case measure => simp [intOf]; omega
    · clear hc
      go_wp2
      go_ret
      exact ⟨rfl, _, rfl⟩

theorem check_no (f : Nat → Int) (g n cap : Nat) (w : World) (hn : n ≤ 1024) (hcap : n ≤ cap) (hc : ∀ j, j < n → w.cell? ⟨g, j, none⟩ = some (.int .i32 (f j))) (h : (∃ i, Wild f n i) ∨ Bare f n) :
    Calls Yba.prog 10 #[.slice (some ⟨g, 0, none⟩) n cap] w fun e w' => e = .returned (.bool true) ∧ ∃ m, w' = w.drewN m := by
  have q1 := eqnil
  have hk : Calls Yba.prog 14 #[.slice (some ⟨g, 0, none⟩) n cap] w fun e w' => e = .returned (.tuple #[.slice none 0 0, .bool false]) ∧ w' = w := by
    rcases h with ⟨i, h⟩ | h
    · exact key_wild f g n cap i w hn hc h
    · exact key_bare f g n cap w hn hc h
  have HK : Hid (Calls Yba.prog 14 #[.slice (some ⟨g, 0, none⟩) n cap] w fun e w' => e = .returned (.tuple #[.slice none 0 0, .bool false]) ∧ w' = w) := hk
  clear hk
  go_enter Yba.func10, Yba.ntmps10
  go_wp2_with fail
  refine HK.out.mono ?_
  rintro e w' ⟨rfl, rfl⟩
  go_wp2_with fail
  refine (model_any f g n cap _ hn hcap hc).mono ?_
  rintro e w1 ⟨⟨c, d, hC, hD, hE⟩, hw1⟩
  have hh : c < 0 ∨ (0 ≤ d ∧ d < c) := by
    rcases h with ⟨i, h⟩ | h
    · exact at_wild h hC hD
    · exact .inl (at_bare h hC)
  have hE' : e = .returned (.tuple #[.slice none 0 0, .bool false]) := by
    rcases hE with ⟨_, b⟩ | ⟨a, _⟩
    · exact b
    · exact absurd hh a
  subst hw1 hE'
  clear hE hh hC hD HK
  go_wp2
  go_ret
  exact ⟨rfl, 0, rfl⟩

theorem check_any (f : Nat → Int) (g n cap : Nat) (w : World) (hn : n ≤ 1024) (hcap : n ≤ cap) (hc : ∀ j, j < n → w.cell? ⟨g, j, none⟩ = some (.int .i32 (f j))) :
    Calls Yba.prog 10 #[.slice (some ⟨g, 0, none⟩) n cap] w fun e w' => e = .returned (.bool true) ∧ ∃ m, w' = w.drewN m := by
  rcases three f n with ⟨i, h⟩ | h
  · exact check_hit f g n cap i w hn hcap hc h
  · exact check_no f g n cap w hn hcap hc h
end Go.Proofs.Ybulkjyk.keyB
