import Derived.Test.Qxb6603323aBuild
import Derived.WalkKit
import Derived.WalkSpells
import Derived.Deep.QuietTactic
import Derived.BigQuiet
import Derived.Lib.SliceRun
import Derived.Laws.Rows
set_option linter.unusedVariables false
namespace Go.Proofs.Qxb6603323a
open Go.RowKit

/-- The spans lie in memory: two cells each, from the slice's head on. -/
def SpansAt (w : World) (a : Option Addr) (len : Nat) (L H : Nat → Int) : Prop :=
  len = 0 ∨ ∃ b off, a = some ⟨b, off, none⟩ ∧ ∀ i, i < len → w.cell? ⟨b, off + i * 2, none⟩ = some (.int .i64 (L i)) ∧ w.cell? ⟨b, off + i * 2 + 1, none⟩ = some (.int .i64 (H i))

set_option maxHeartbeats 1000000 in
theorem lie_some (b off len cap : Nat) (L H : Nat → Int) (n : Int) (w : World) (hlen : len ≤ 65536)
    (hc : ∀ i, i < len → w.cell? ⟨b, off + i * 2, none⟩ = some (.int .i64 (L i)) ∧ w.cell? ⟨b, off + i * 2 + 1, none⟩ = some (.int .i64 (H i))) :
    Calls Try.prog 9 #[.slice (some ⟨b, off, none⟩) len cap, .int .i64 n] w fun e w' => ∃ r : Bool, e = .returned (.bool r) ∧ (∃ q, w' = w.drewN q) ∧ (r = true → ∀ i, i < len → L i < H i → 0 ≤ L i ∧ H i ≤ n) := by
  go_enter Try.func9, Try.ntmps9
  go_wp2
  go_loopw [5] (fun i wr => ∃ k : Nat, k ≤ len ∧ i = .int .i64 k ∧ (∃ q, wr = w.drewN q) ∧ (∀ i, i < k → L i < H i → 0 ≤ L i ∧ H i ≤ n)) (fun i _ => len - (intOf i).toNat)
  case atStart => exact ⟨0, Nat.zero_le _, rfl, ⟨0, rfl⟩, fun i h => absurd h (Nat.not_lt_zero _)⟩
  case round =>
    obtain ⟨k, hk, rfl, ⟨q, rfl⟩, hall⟩ := hrel
    have HA : Hid (∀ i, i < k → L i < H i → 0 ≤ L i ∧ H i ≤ n) := hall
    clear hall
    by_cases hlt : k < len
    · obtain ⟨h1, h2⟩ := hc k hlt
      clear hc
      have hki : (k : Int) < (len : Int) := by omega
      by_cases ha : L k < H k
      · by_cases hb : L k < 0
        · go_wp2
          go_quiet (fail)
          go_wp2
          go_ret
          exact ⟨false, rfl, ⟨_, World.drewN_drewN _ _ _⟩, fun h => by cases h⟩
        · have hd2 : decide (L k < 0) = false := by simpa using hb
          by_cases hn : n < H k
          · go_wp2
            go_quiet (fail)
            go_wp2
            go_ret
            exact ⟨false, rfl, ⟨_, World.drewN_drewN _ _ _⟩, fun h => by cases h⟩
          · go_wp2
            go_quiet (fail)
            go_wp2
            go_roundw
            case rel =>
              refine ⟨k + 1, by omega, by go_num, ⟨_, rfl⟩, fun i hi hl => ?_⟩
              by_cases e : i = k
              · subst e; omega
              · exact HA.out i (by omega) hl
            case measure => simp [intOf]; omega
      · have hd : decide (L k < H k) = false := by simpa using ha
        go_wp2
        go_quiet (fail)
        go_wp2
        go_roundw
        case rel =>
          refine ⟨k + 1, by omega, by go_num, ⟨_, rfl⟩, fun i hi hl => ?_⟩
          by_cases e : i = k
          · subst e; omega
          · exact HA.out i (by omega) hl
        case measure => simp [intOf]; omega
    · go_wp2
      go_ret
      exact ⟨true, rfl, ⟨q, rfl⟩, fun _ i hi => HA.out i (by omega)⟩

set_option maxHeartbeats 400000 in
theorem lie_none (a : Option Addr) (cap : Nat) (n : Int) (w : World) :
    Calls Try.prog 9 #[.slice a 0 cap, .int .i64 n] w fun e w' => e = .returned (.bool true) ∧ w' = w := by
  go_enter Try.func9, Try.ntmps9
  go_wp2
  refine wp_loop_rounds 1 ?_
  rw [rounds_succ]
  go_wp2
  go_ret
  exact ⟨rfl, rfl⟩

theorem lie_any (a : Option Addr) (len cap : Nat) (L H : Nat → Int) (n : Int) (w : World) (hlen : len ≤ 65536) (hs : SpansAt w a len L H) :
    Calls Try.prog 9 #[.slice a len cap, .int .i64 n] w fun e w' => ∃ r : Bool, e = .returned (.bool r) ∧ (∃ q, w' = w.drewN q) ∧ (r = true → ∀ i, i < len → L i < H i → 0 ≤ L i ∧ H i ≤ n) := by
  rcases hs with rfl | ⟨b, off, rfl, hc⟩
  · refine (lie_none a cap n w).mono ?_
    rintro e w' ⟨rfl, rfl⟩
    exact ⟨true, rfl, ⟨0, rfl⟩, fun _ i hi => absurd hi (Nat.not_lt_zero _)⟩
  · exact lie_some b off len cap L H n w hlen hc

/-! ### Rows of pairs -/
theorem own_block {w : World} {base g n size : Nat} {e : TypeId} {xs : List Value} (h : w.ownsRow base e size (.slice (some ⟨g, 0, none⟩) n n) n xs) :
    ∃ cur : Array Value, w.heap[g]? = some (.cells cur e (0, 0)) ∧ cur.size = n * size ∧ cur.toList = xs := by
  rcases h.2 with ⟨hv, _⟩ | ⟨g', cap, cur, hv, _, hg, _, _, hs, ht⟩
  · cases hv
  · injection hv with h1 h2 h3
    injection h1 with h1
    injection h1 with h1
    subst h1; subst h3
    refine ⟨cur, hg, hs, ?_⟩
    rw [← ht, List.take_of_length_le]
    simp [hs]

theorem pair_set (cs : Array Value) (f g : Nat → Value) (len k : Nat) (hs : cs.size = len * 2) (hk : k < len) (h : ∀ i, i < k → cs[i * 2]? = some (f i) ∧ cs[i * 2 + 1]? = some (g i)) :
    ((cs.setIfInBounds (k * 2) (f k)).setIfInBounds (k * 2 + 1) (g k)).size = len * 2 ∧
    ∀ i, i < k + 1 → ((cs.setIfInBounds (k * 2) (f k)).setIfInBounds (k * 2 + 1) (g k))[i * 2]? = some (f i) ∧ ((cs.setIfInBounds (k * 2) (f k)).setIfInBounds (k * 2 + 1) (g k))[i * 2 + 1]? = some (g i) := by
  refine ⟨by simpa using hs, fun i hi => ?_⟩
  by_cases e : i = k
  · subst e
    constructor
    · rw [Array.getElem?_setIfInBounds, if_neg (by omega), Array.getElem?_setIfInBounds, if_pos rfl, if_pos (by omega)]
    · rw [Array.getElem?_setIfInBounds, if_pos rfl, if_pos (by simp; omega)]
  · have := h i (by omega)
    constructor
    · rw [Array.getElem?_setIfInBounds, if_neg (by omega), Array.getElem?_setIfInBounds, if_neg (by omega)]; exact this.1
    · rw [Array.getElem?_setIfInBounds, if_neg (by omega), Array.getElem?_setIfInBounds, if_neg (by omega)]; exact this.2

theorem info31 : (Try.prog.info? 31).map (fun i => (i.zero, i.size, i.bytes)) = some (some (.agg #[.int .i64 0, .int .i64 0]), 2, 16) := by kernel_rfl
theorem info48 : (Try.prog.info? 48).map (fun i => (i.zero, i.size, i.bytes)) = some (some (.agg #[.int .i64 0, .int .i64 0]), 2, 16) := by kernel_rfl

/-- What the copying loop has done: the first k pairs lie in the new block. -/
def PairsIn (w : World) (B : Nat) (t : TypeId) (len k : Nat) (L H : Nat → Int) : Prop :=
  ∃ cs : Array Value, w.heap[B]? = some (.cells cs t (0, 0)) ∧ cs.size = len * 2 ∧ ∀ i, i < k → cs[i * 2]? = some (.int .i64 (L i)) ∧ cs[i * 2 + 1]? = some (.int .i64 (H i))

theorem PairsIn.spans {w : World} {B : Nat} {t : TypeId} {len : Nat} {L H : Nat → Int} (h : PairsIn w B t len len L H) : SpansAt w (some ⟨B, 0, none⟩) len L H := by
  obtain ⟨cs, hb, _, hc⟩ := h
  refine .inr ⟨B, 0, rfl, fun i hi => ?_⟩
  rw [Lib.cell_of_heap hb, Lib.cell_of_heap hb]
  simpa using hc i hi

theorem SpansAt.below {B : Nat} {w w' : World} {a : Option Addr} {len : Nat} {L H : Nat → Int} (h : SpansAt w a len L H) (hb : Below B w w') (hB : w.heap.size ≤ B) : SpansAt w' a len L H := by
  rcases h with h | ⟨b, off, rfl, hc⟩
  · exact .inl h
  · refine .inr ⟨b, off, rfl, fun i hi => ?_⟩
    obtain ⟨h1, h2⟩ := hc i hi
    have hlt := World.block_lt_of_cell? w _ h1
    exact ⟨(hb.cell (p := ⟨b, off + i * 2, none⟩) (Nat.lt_of_lt_of_le hlt hB)).trans h1, (hb.cell (p := ⟨b, off + i * 2 + 1, none⟩) (Nat.lt_of_lt_of_le hlt hB)).trans h2⟩

theorem PairsIn.start {w w1 : World} {t : TypeId} {len : Nat} {xs : List Value} {L H : Nat → Int} (hown : w1.ownsRow w.heap.size t 2 (.slice (some ⟨w.heap.size, 0, none⟩) len len) len xs) : PairsIn w1 w.heap.size t len 0 L H := by
  obtain ⟨cur, hcur, hsz, _⟩ := own_block hown
  exact ⟨cur, hcur, hsz, fun i hi => absurd hi (Nat.not_lt_zero _)⟩

theorem PairsIn.dest {w : World} {B : Nat} {t : TypeId} {len k : Nat} {L H : Nat → Int} (h : PairsIn w B t len k L H) (hk : k < len) :
    ∃ v0 v1, w.cell? ⟨B, k * 2, none⟩ = some v0 ∧ w.cell? ⟨B, k * 2 + 1, none⟩ = some v1 ∧ w.frozen? ⟨B, k * 2, none⟩ = false ∧ w.frozen? ⟨B, k * 2 + 1, none⟩ = false := by
  obtain ⟨cs, hcs, hsz, _⟩ := h
  refine ⟨_, _, (Lib.cell_of_heap hcs _).trans (Array.getElem?_eq_getElem (by omega)), (Lib.cell_of_heap hcs _).trans (Array.getElem?_eq_getElem (by omega)), Lib.frozen_of_heap hcs _, Lib.frozen_of_heap hcs _⟩

theorem PairsIn.step {w : World} {B : Nat} {t : TypeId} {len k : Nat} {L H : Nat → Int} (h : PairsIn w B t len k L H) (hk : k < len) :
    PairsIn ((w.setCell ⟨B, k * 2, none⟩ (.int .i64 (L k))).setCell ⟨B, k * 2 + 1, none⟩ (.int .i64 (H k))) B t len (k + 1) L H := by
  obtain ⟨cs, hcs, hsz, hpre⟩ := h
  have := pair_set cs (fun i => .int .i64 (L i)) (fun i => .int .i64 (H i)) len k hsz hk hpre
  exact ⟨_, heap_setCell_same _ _ _ _ _ _ (heap_setCell_same _ _ _ _ _ _ hcs), this.1, this.2⟩

theorem PairsIn.drewN {w : World} {B : Nat} {t : TypeId} {len k : Nat} {L H : Nat → Int} (h : PairsIn w B t len k L H) (q : Nat) : PairsIn (w.drewN q) B t len k L H := h

set_option maxHeartbeats 1000000 in
theorem clone_some (b off len cap : Nat) (L H : Nat → Int) (w : World) (hlen : len ≤ 65536)
    (hc : ∀ i, i < len → w.cell? ⟨b, off + i * 2, none⟩ = some (.int .i64 (L i)) ∧ w.cell? ⟨b, off + i * 2 + 1, none⟩ = some (.int .i64 (H i))) :
    Calls Try.prog 10 #[.slice (some ⟨b, off, none⟩) len cap] w fun e w' => e = .returned (.slice (some ⟨w.heap.size, 0, none⟩) len len) ∧ SpansAt w' (some ⟨w.heap.size, 0, none⟩) len L H ∧ Below w.heap.size w w' := by
  obtain ⟨i0, hi, hz0, hz1, hz2⟩ := info_parts info31
  have q22 : ∀ (w : World) (a : Option Addr) (n c n' c' : Nat), (binOp .eql 22 (.slice a n c) (.slice none n' c')).run Try.prog w = .ok (.bool a.isNone) w := fun w a n c n' c' => Lib.run_eql_slice_nil w 22 31 a n c n' c' Try.underlying22
  go_enter Try.func10, Try.ntmps10
  go_wp2_with (at_make; refine wpList_make_full _ rfl _ _ 22 rfl w.heap.size 31 i0 _ 2 Try.underlying22 hi hz0 hz1 .i64 .i64 _ _ len rfl rfl rfl rfl (by rw [hz2]; omega) (by unfold maxLen; omega) (Nat.le_refl _) ?_)
  intro w1 hown hgrow
  have hb1 : Below w.heap.size w w1 := (Below.refl _ _).grown hgrow (Nat.le_refl _) (fun k hk => by cases hk)
  have hP1 : PairsIn w1 w.heap.size 31 len 0 L H := PairsIn.start hown
  clear hown hgrow hi hz0 hz1 hz2
  go_wp2
  go_loopw [4] (fun i wr => ∃ k : Nat, k ≤ len ∧ i = .int .i64 k ∧ PairsIn wr w.heap.size 31 len k L H ∧ Below w.heap.size w wr) (fun i _ => len - (intOf i).toNat)
  case atStart => exact ⟨0, Nat.zero_le _, rfl, hP1, hb1⟩
  case round =>
    obtain ⟨k, hk, rfl, hP, hb⟩ := hrel
    clear hP1 hb1
    by_cases hlt : k < len
    · obtain ⟨g1, g2⟩ := hc k hlt
      have hbl := World.block_lt_of_cell? w _ g1
      have h1 := (hb.cell (p := ⟨b, off + k * 2, none⟩) hbl).trans g1
      have h2 := (hb.cell (p := ⟨b, off + k * 2 + 1, none⟩) hbl).trans g2
      obtain ⟨v0, v1, d0, d1, f0, f1⟩ := hP.dest hlt
      have HP := hP.step hlt
      have hki : (k : Int) < (len : Int) := by omega
      have hne : ¬ b = w.heap.size := by have : b < w.heap.size := hbl; omega
      clear hc g1 g2 hbl hP
      go_wp2
      go_roundw
      case rel => exact ⟨k + 1, by omega, by go_num, HP, (hb.setCell (p := ⟨w.heap.size, k * 2, none⟩) (Nat.le_refl _) _).setCell (p := ⟨w.heap.size, k * 2 + 1, none⟩) (Nat.le_refl _) _⟩
      case measure => simp [intOf]; omega
    · have e : k = len := by omega
      subst e
      go_wp2
      go_ret
      exact ⟨rfl, hP.spans, hb⟩

end Go.Proofs.Qxb6603323a
