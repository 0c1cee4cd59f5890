import Derived.Test.Qxb6603323aSpans
import Derived.BigRegion
set_option linter.unusedVariables false
namespace Go.Proofs.Qxb6603323a
open Go.RowKit

set_option maxHeartbeats 400000 in
theorem clone_nil (w : World) : Calls Try.prog 10 #[.slice none 0 0] w fun e w' => e = .returned (.slice none 0 0) ∧ w' = w := by
  have q22 : ∀ (w : World) (a : Option Addr) (n c n' c' : Nat), (binOp .eql 22 (.slice a n c) (.slice none n' c')).run Try.prog w = .ok (.bool a.isNone) w := fun w a n c n' c' => Lib.run_eql_slice_nil w 22 31 a n c n' c' Try.underlying22
  go_enter Try.func10, Try.ntmps10
  go_wp2
  go_ret
  exact ⟨rfl, rfl⟩

set_option maxHeartbeats 1000000 in
theorem clone_empty (a : Addr) (cap : Nat) (w : World) :
    Calls Try.prog 10 #[.slice (some a) 0 cap] w fun e w' => e = .returned (.slice (some ⟨w.heap.size, 0, none⟩) 0 0) ∧ Below w.heap.size w w' := by
  obtain ⟨i0, hi, hz0, hz1, hz2⟩ := info_parts info31
  have q22 : ∀ (w : World) (a : Option Addr) (n c n' c' : Nat), (binOp .eql 22 (.slice a n c) (.slice none n' c')).run Try.prog w = .ok (.bool a.isNone) w := fun w a n c n' c' => Lib.run_eql_slice_nil w 22 31 a n c n' c' Try.underlying22
  go_enter Try.func10, Try.ntmps10
  go_wp2_with (at_make; refine wpList_make_full _ rfl _ _ 22 rfl w.heap.size 31 i0 _ 2 Try.underlying22 hi hz0 hz1 .i64 .i64 _ _ 0 rfl rfl rfl rfl (by rw [hz2]; omega) (by unfold maxLen; omega) (Nat.le_refl _) ?_)
  intro w1 hown hgrow
  have hb1 : Below w.heap.size w w1 := (Below.refl _ _).grown hgrow (Nat.le_refl _) (fun k hk => by cases hk)
  clear hown hgrow hi hz0 hz1 hz2
  go_wp2
  refine wp_loop_rounds 1 ?_
  rw [rounds_succ]
  go_wp2
  go_ret
  exact ⟨rfl, hb1⟩

theorem clone_any (a : Option Addr) (len cap : Nat) (L H : Nat → Int) (w : World) (hlen : len ≤ 65536) (hn : a = none → len = 0 ∧ cap = 0) (hs : SpansAt w a len L H) :
    Calls Try.prog 10 #[.slice a len cap] w fun e w' => ∃ a' c', e = .returned (.slice a' len c') ∧ (a' = none → len = 0 ∧ c' = 0) ∧ SpansAt w' a' len L H ∧ Below w.heap.size w w' := by
  cases a with
  | none =>
    obtain ⟨rfl, rfl⟩ := hn rfl
    refine (clone_nil w).mono ?_
    rintro e w' ⟨rfl, rfl⟩
    exact ⟨none, 0, rfl, fun _ => ⟨rfl, rfl⟩, .inl rfl, Below.refl _ _⟩
  | some x =>
    rcases hs with rfl | ⟨b, off, hx, hc⟩
    · refine (clone_empty x cap w).mono ?_
      rintro e w' ⟨rfl, hb⟩
      exact ⟨_, _, rfl, (fun h => by cases h), .inl rfl, hb⟩
    · cases hx
      refine (clone_some b off len cap L H w hlen hc).mono ?_
      rintro e w' ⟨rfl, hs, hb⟩
      exact ⟨_, _, rfl, (fun h => by cases h), hs, hb⟩

set_option maxHeartbeats 400000 in
theorem to_nil (w : World) : Calls Try.prog 23 #[.slice none 0 0] w fun e w' => e = .returned (.slice none 0 0) ∧ w' = w := by
  have q22 : ∀ (w : World) (a : Option Addr) (n c n' c' : Nat), (binOp .eql 22 (.slice a n c) (.slice none n' c')).run Try.prog w = .ok (.bool a.isNone) w := fun w a n c n' c' => Lib.run_eql_slice_nil w 22 31 a n c n' c' Try.underlying22
  go_enter Try.func23, Try.ntmps23
  go_wp2
  go_ret
  exact ⟨rfl, rfl⟩

set_option maxHeartbeats 1000000 in
theorem to_empty (a : Addr) (cap : Nat) (w : World) :
    Calls Try.prog 23 #[.slice (some a) 0 cap] w fun e w' => e = .returned (.slice (some ⟨w.heap.size, 0, none⟩) 0 0) ∧ Below w.heap.size w w' := by
  obtain ⟨i0, hi, hz0, hz1, hz2⟩ := info_parts info48
  have q22 : ∀ (w : World) (a : Option Addr) (n c n' c' : Nat), (binOp .eql 22 (.slice a n c) (.slice none n' c')).run Try.prog w = .ok (.bool a.isNone) w := fun w a n c n' c' => Lib.run_eql_slice_nil w 22 31 a n c n' c' Try.underlying22
  go_enter Try.func23, Try.ntmps23
  go_wp2_with (at_make; refine wpList_make_full _ rfl _ _ 39 rfl w.heap.size 48 i0 _ 2 Try.underlying39 hi hz0 hz1 .i64 .i64 _ _ 0 rfl rfl rfl rfl (by rw [hz2]; omega) (by unfold maxLen; omega) (Nat.le_refl _) ?_)
  intro w1 hown hgrow
  have hb1 : Below w.heap.size w w1 := (Below.refl _ _).grown hgrow (Nat.le_refl _) (fun k hk => by cases hk)
  clear hown hgrow hi hz0 hz1 hz2
  go_wp2
  refine wp_loop_rounds 1 ?_
  rw [rounds_succ]
  go_wp2
  go_ret
  exact ⟨rfl, hb1⟩

set_option maxHeartbeats 2000000 in
theorem to_some (b off len cap : Nat) (L H : Nat → Int) (w : World) (hlen : len ≤ 65536)
    (hc : ∀ i, i < len → w.cell? ⟨b, off + i * 2, none⟩ = some (.int .i64 (L i)) ∧ w.cell? ⟨b, off + i * 2 + 1, none⟩ = some (.int .i64 (H i))) :
    Calls Try.prog 23 #[.slice (some ⟨b, off, none⟩) len cap] w fun e w' => e = .returned (.slice (some ⟨w.heap.size, 0, none⟩) len len) ∧ SpansAt w' (some ⟨w.heap.size, 0, none⟩) len L H ∧ Below w.heap.size w w' := by
  obtain ⟨i0, hi, hz0, hz1, hz2⟩ := info_parts info48
  have q22 : ∀ (w : World) (a : Option Addr) (n c n' c' : Nat), (binOp .eql 22 (.slice a n c) (.slice none n' c')).run Try.prog w = .ok (.bool a.isNone) w := fun w a n c n' c' => Lib.run_eql_slice_nil w 22 31 a n c n' c' Try.underlying22
  go_enter Try.func23, Try.ntmps23
  go_wp2_with (at_make; refine wpList_make_full _ rfl _ _ 39 rfl w.heap.size 48 i0 _ 2 Try.underlying39 hi hz0 hz1 .i64 .i64 _ _ len rfl rfl rfl rfl (by rw [hz2]; omega) (by unfold maxLen; omega) (Nat.le_refl _) ?_)
  intro w1 hown hgrow
  have hb1 : Below w.heap.size w w1 := (Below.refl _ _).grown hgrow (Nat.le_refl _) (fun k hk => by cases hk)
  have hP1 : PairsIn w1 w.heap.size 48 len 0 L H := PairsIn.start hown
  clear hown hgrow hi hz0 hz1 hz2
  go_wp2
  go_loopw [4] (fun i wr => ∃ k : Nat, k ≤ len ∧ i = .int .i64 k ∧ PairsIn wr w.heap.size 48 len k L H ∧ Below w.heap.size w wr) (fun i _ => len - (intOf i).toNat)
  case atStart => exact ⟨0, Nat.zero_le _, rfl, hP1, hb1⟩
  case round =>
    obtain ⟨k, hk, rfl, hP, hb⟩ := hrel
    clear hP1 hb1
    by_cases hlt : k < len
    · obtain ⟨g1, g2⟩ := hc k hlt
      have hbl := World.block_lt_of_cell? w _ g1
      have h1 := (hb.cell (p := ⟨b, off + k * 2, none⟩) hbl).trans g1
      have h2 := (hb.cell (p := ⟨b, off + k * 2 + 1, none⟩) hbl).trans g2
      obtain ⟨v0, v1, d0, d1, f0, f1⟩ := hP.dest hlt
      have HP := hP.step hlt
      have hki : (k : Int) < (len : Int) := by omega
      have hne : ¬ b = w.heap.size := by have : b < w.heap.size := hbl; omega
      clear hc g1 g2 hbl hP
      go_wp2
      go_region
      all_goals go_wp2
      all_goals
        go_roundw
        case rel => exact ⟨k + 1, by omega, by go_num, HP, ((hb.setCell (p := ⟨w.heap.size, k * 2, none⟩) (Nat.le_refl _) _).setCell (p := ⟨w.heap.size, k * 2 + 1, none⟩) (Nat.le_refl _) _).drew⟩
        case measure => simp [intOf]; omega
    · have e : k = len := by omega
      subst e
      go_wp2
      go_ret
      exact ⟨rfl, hP.spans, hb⟩

theorem to_any (a : Option Addr) (len cap : Nat) (L H : Nat → Int) (w : World) (hlen : len ≤ 65536) (hn : a = none → len = 0 ∧ cap = 0) (hs : SpansAt w a len L H) :
    Calls Try.prog 23 #[.slice a len cap] w fun e w' => ∃ a' c', e = .returned (.slice a' len c') ∧ (a' = none → len = 0 ∧ c' = 0) ∧ SpansAt w' a' len L H ∧ Below w.heap.size w w' := by
  cases a with
  | none =>
    obtain ⟨rfl, rfl⟩ := hn rfl
    refine (to_nil w).mono ?_
    rintro e w' ⟨rfl, rfl⟩
    exact ⟨none, 0, rfl, fun _ => ⟨rfl, rfl⟩, .inl rfl, Below.refl _ _⟩
  | some x =>
    rcases hs with rfl | ⟨b, off, hx, hc⟩
    · refine (to_empty x cap w).mono ?_
      rintro e w' ⟨rfl, hb⟩
      exact ⟨_, _, rfl, (fun h => by cases h), .inl rfl, hb⟩
    · cases hx
      refine (to_some b off len cap L H w hlen hc).mono ?_
      rintro e w' ⟨rfl, hs, hb⟩
      exact ⟨_, _, rfl, (fun h => by cases h), hs, hb⟩

end Go.Proofs.Qxb6603323a
