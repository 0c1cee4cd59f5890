import Derived.Test.Qxb6603241aCanon
import Derived.Laws.CopyOwn
import Derived.Lib.SliceRun
set_option linter.unusedVariables false
namespace Go.Proofs.Qxb6603241a
open Go.RowKit Plain

theorem own_block {w : World} {base g n size : Nat} {e : TypeId} {xs : List Value} (h : w.ownsRow base e size (.slice (some ⟨g, 0, none⟩) n n) n xs) :
    ∃ cur : Array Value, w.heap[g]? = some (.cells cur e (0, 0)) ∧ cur.size = n * size := by
  rcases h.2 with ⟨hv, _⟩ | ⟨g', cap, cur, hv, _, hg, _, _, hs, ht⟩
  · cases hv
  · injection hv with h1 h2 h3
    injection h1 with h1
    injection h1 with h1
    subst h1; subst h3
    exact ⟨cur, hg, hs⟩

theorem splice_all {L cs : List Value} (h : L.length = cs.length) : splice L 0 cs = cs := by
  unfold splice
  rw [List.drop_eq_nil_of_le (by omega)]; simp

theorem size5 : (Try.prog.info? 5).map (·.size) = some 1 := by kernel_rfl

set_option maxHeartbeats 400000 in
theorem clone_nil (w : World) : Calls Try.prog 6 #[.slice none 0 0] w fun e w' => e = .returned (.slice none 0 0) ∧ w = w' := by
  have q22 : ∀ (w : World) (a : Option Addr) (n c n' c' : Nat), (binOp .eql 22 (.slice a n c) (.slice none n' c')).run Try.prog w = .ok (.bool a.isNone) w := fun w a n c n' c' => Lib.run_eql_slice_nil w 22 5 a n c n' c' Try.underlying22
  go_enter Try.func6, Try.ntmps6
  go_wp2
  go_ret
  exact ⟨rfl, rfl⟩

set_option maxHeartbeats 1000000 in
theorem clone_some (x : Addr) (cap : Nat) (xs : List Int) (w : World) (hl : xs.length ≤ 1048576) (hb : BytesAt w (some x) xs) :
    Calls Try.prog 6 #[.slice (some x) xs.length cap] w fun e w' => e = .returned (.slice (some ⟨w.heap.size, 0, none⟩) xs.length xs.length) ∧ BytesAt w' (some ⟨w.heap.size, 0, none⟩) xs ∧ Below w.heap.size w w' := by
  obtain ⟨i5, hi, hy0, hy1, hy2⟩ := info_parts info5
  have q22 : ∀ (w : World) (a : Option Addr) (n c n' c' : Nat), (binOp .eql 22 (.slice a n c) (.slice none n' c')).run Try.prog w = .ok (.bool a.isNone) w := fun w a n c n' c' => Lib.run_eql_slice_nil w 22 5 a n c n' c' Try.underlying22
  go_enter Try.func6, Try.ntmps6
  go_wp2_with (at_make; refine wpList_make_full _ rfl _ _ 22 rfl w.heap.size 5 i5 _ 1 Try.underlying22 hi hy0 hy1 .i64 .i64 _ _ xs.length rfl rfl rfl rfl (by rw [hy2]; omega) (by unfold maxLen; omega) (Nat.le_refl _) ?_)
  intro w1 hown hgrow
  have hb1 : Below w.heap.size w w1 := (Below.refl _ _).grown hgrow (Nat.le_refl _) (fun k hk => by cases hk)
  obtain ⟨cur, hcur, hsz⟩ := own_block hown
  have hcur' : w1.heap[w.heap.size]? = some (.cells cur.toList.toArray 5 (0, 0)) := by simpa using hcur
  have hcl : cur.toList.length = (cellsI xs).length := by rw [cellsI_len]; simp; omega
  have hsrc : ∀ (j : Nat) (v : Value), (cellsI xs)[j]? = some v → w1.cell? (x.add j) = some v := by
    intro j v hj
    have hjl : j < xs.length := by
      have := (List.getElem?_eq_some_iff.1 hj).1
      rwa [cellsI_len] at this
    rw [cellsI_get xs j hjl] at hj
    rcases hb with rfl | ⟨b, off, hx, hc⟩
    · simp at hjl
    · injection hx with hx
      subst hx
      have h1 := hc j hjl
      rw [Go.WideShapes.add_plain]
      exact ((hb1.cell (p := ⟨b, off + j, none⟩) (World.block_lt_of_cell? w _ h1)).trans h1).trans hj
  clear hown hgrow hi hy0 hy1 hy2 hcur
  go_wp2_with (refine wpList_copy_splice rfl (.tmp 9) (.tmp 10) 22 22 rfl 5 Try.underlying22 size5 _ _ _ _ _ _ rfl rfl w.heap.size 0 cur.toList 5 hcur' (cellsI xs) (by rw [cellsI_len]; exact (Nat.min_self _).symm) (fun _ => ⟨rfl, x, rfl, hsrc⟩) (by rw [hcl]; omega) (cellsI_one xs) w.heap.size w hb1 (Nat.le_refl _) ?_)
  intro w2 hH hb2
  rw [splice_all hcl] at hH
  go_wp2
  go_ret
  refine ⟨rfl, .inr ⟨w.heap.size, 0, rfl, fun i hi => ?_⟩, hb2⟩
  rw [Lib.cell_of_heap hH.out]
  rw [List.getElem?_toArray, Nat.zero_add, cellsI_get xs i hi]

theorem clone_any (a : Option Addr) (cap : Nat) (xs : List Int) (w : World) (hl : xs.length ≤ 1048576) (hn : a = none → xs.length = 0 ∧ cap = 0) (hb : BytesAt w a xs) :
    Calls Try.prog 6 #[.slice a xs.length cap] w fun e w' => ∃ a', e = .returned (.slice a' xs.length xs.length) ∧ (a' = none → xs.length = 0) ∧ BytesAt w' a' xs ∧ Below w.heap.size w w' := by
  cases a with
  | none =>
    obtain ⟨h0, rfl⟩ := hn rfl
    rw [h0]
    refine (clone_nil w).mono ?_
    rintro e w' ⟨rfl, rfl⟩
    exact ⟨none, rfl, fun _ => rfl, .inl (List.eq_nil_of_length_eq_zero h0), Below.refl _ _⟩
  | some x =>
    refine (clone_some x cap xs w hl hb).mono ?_
    rintro e w' ⟨rfl, h, hb'⟩
    exact ⟨_, rfl, (fun h => by cases h), h, hb'⟩

/-- The answer of appendCanonicalString, as the laws read it. -/
def Answer (w' : World) (g cap : Nat) (F : List Int) : Prop :=
  F.length ≤ cap ∧ cap ≤ maxLen ∧ ∀ i, i < F.length → w'.cell? ⟨g, i, none⟩ = some (.int .u8 (F.getD i 0))

theorem Answer.below {w w' : World} {B g cap : Nat} {F : List Int} (h : Answer w g cap F) (hb : Below B w w') (hB : w.heap.size ≤ B) : Answer w' g cap F :=
  ⟨h.1, h.2.1, fun i hi => (hb.cell (p := ⟨g, i, none⟩) (Nat.lt_of_lt_of_le (World.block_lt_of_cell? w _ (h.2.2 i hi)) hB)).trans (h.2.2 i hi)⟩

/-- The whole answer: the buffer, a quote, the bytes as they are written, a quote. -/
def full (zs : List Int) (s : List UInt8) : List Int := zs ++ (34 :: enc s) ++ [34]
theorem full_len (zs : List Int) (s : List UInt8) : (full zs s).length = zs.length + (enc s).length + 2 := by
  simp [full]; omega

theorem pre_full (zs : List Int) (s : ByteArray) : pre zs s.data.toList s.size ++ [34] = full zs s.data.toList := by
  have h : s.data.toList.length = s.size := by simp
  rw [← h, pre_all]; rfl

theorem answer_of {w' : World} {base g cap n : Nat} {F : List Int} {xs : List Value} (h : w'.ownsRow base 5 1 (.slice (some ⟨g, 0, none⟩) n cap) n xs) (hn : n = F.length) (hx : xs = cellsI F) : Answer w' g cap F := by
  have hc : n ≤ cap ∧ cap ≤ maxLen := by
    rcases h.2 with ⟨hv, _⟩ | ⟨g', cap', cur, hv, _, hg, h1, h2, _, _⟩
    · cases hv
    · injection hv with _ _ h3
      subst h3
      exact ⟨h1, h2⟩
  refine ⟨by omega, hc.2, fun i hi => ?_⟩
  rw [h.cellAt i (by omega), hx, cellsI_get F i hi]

theorem canon_full (s : ByteArray) (a : Option Addr) (zs : List Int) (w : World) (hz : zs.length ≤ 1048576) (hs : s.size ≤ 1048576) (hn : a = none → zs.length = 0) (hb : BytesAt w a zs) :
    Calls Try.prog 10 #[.slice a zs.length zs.length, .string s] w fun e w' => ∃ g cap, e = .returned (.slice (some ⟨g, 0, none⟩) (full zs s.data.toList).length cap) ∧ Answer w' g cap (full zs s.data.toList) ∧ Below w.heap.size w w' := by
  refine (canon_any s a zs w hz hs hn hb).mono ?_
  rintro e w1 ⟨g, cap, rfl, hown, hb1⟩
  have hl : (pre zs s.data.toList s.size).length + 1 = (full zs s.data.toList).length := by rw [← pre_full]; simp
  refine ⟨g, cap, by rw [hl], answer_of hown hl ?_, hb1⟩
  rw [← pre_full, cellsI_append]; rfl

set_option maxHeartbeats 400000 in
theorem app_any (s : ByteArray) (a : Option Addr) (zs : List Int) (w : World) (hz : zs.length ≤ 1048576) (hs : s.size ≤ 1048576) (hn : a = none → zs.length = 0) (hb : BytesAt w a zs) :
    Calls Try.prog 7 #[.slice a zs.length zs.length, .string s] w fun e w' => ∃ g cap, e = .returned (.slice (some ⟨g, 0, none⟩) (full zs s.data.toList).length cap) ∧ Answer w' g cap (full zs s.data.toList) ∧ Below w.heap.size w w' := by
  go_enter Try.func7, Try.ntmps7
  go_wp2_with (go_at_call 10; refine (canon_full s a zs w hz hs hn hb).mono ?_; rintro e w1 ⟨g, cap, rfl, hans, hb1⟩)
  go_ret
  exact ⟨g, cap, rfl, hans, hb1⟩

end Go.Proofs.Qxb6603241a
