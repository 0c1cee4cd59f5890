import Derived.Test.Qxb6603241aApp
set_option linter.unusedVariables false
namespace Go.Proofs.Qxb6603241a
open Go.RowKit Plain

/-- One digit out of the table. -/
theorem hex_at (i : Int) (h0 : 0 ≤ i) (h1 : i < 16) (W : World) : (Instr.index 9 (.string ⟨#[48, 49, 50, 51, 52, 53, 54, 55, 56, 57, 97, 98, 99, 100, 101, 102]⟩) (.int .u8 i)).run Try.prog W = .ok (.int .u8 (hexd i.toNat)) W := by
  obtain ⟨n, rfl⟩ := Int.eq_ofNat_of_zero_le h0
  have hn : n < 16 := by omega
  have : n = 0 ∨ n = 1 ∨ n = 2 ∨ n = 3 ∨ n = 4 ∨ n = 5 ∨ n = 6 ∨ n = 7 ∨ n = 8 ∨ n = 9 ∨ n = 10 ∨ n = 11 ∨ n = 12 ∨ n = 13 ∨ n = 14 ∨ n = 15 := by omega
  rcases this with rfl | rfl | rfl | rfl | rfl | rfl | rfl | rfl | rfl | rfl | rfl | rfl | rfl | rfl | rfl | rfl <;> rfl

set_option maxHeartbeats 4000000 in
theorem canon_any (s : ByteArray) (a : Option Addr) (zs : List Int) (w : World) (hz : zs.length ≤ 1048576) (hs : s.size ≤ 1048576) (hn : a = none → zs.length = 0) (hb : BytesAt w a zs) :
    Calls Try.prog 10 #[.slice a zs.length zs.length, .string s] w fun e w' => ∃ g cap, e = .returned (.slice (some ⟨g, 0, none⟩) ((pre zs s.data.toList s.size).length + 1) cap) ∧ w'.ownsRow (w.heap.size + 1) 5 1 (.slice (some ⟨g, 0, none⟩) ((pre zs s.data.toList s.size).length + 1) cap) ((pre zs s.data.toList s.size).length + 1) (cellsI (pre zs s.data.toList s.size) ++ [.int .u8 34]) ∧ Below w.heap.size w w' := by
  obtain ⟨i5, hi, hy0, hy1, hy2⟩ := info_parts info5
  have hh := hb.holds (.cells #[.int .u8 34] 5)
  go_enter Try.func10, Try.ntmps10
  go_wp2_with (at_builtin; refine wpList_append_grows _ rfl (.tmp 7) (.tmp 8) 22 rfl 5 i5 (.int .u8 0) 1 1 Try.underlying22 hi hy0 hy1 hy2 rfl (by decide) a zs.length zs.length (cellsI zs) rfl (fun h => ⟨hn h, hn h⟩) (by rw [cellsI_len]; omega) hh ⟨w.heap.size, 0, none⟩ 1 1 [.int .u8 34] rfl rfl ?c1 ?c2 (by omega) (by unfold maxLen; omega) (by omega) ?_)
  case c1 =>
    intro j u hj
    match j, hj with
    | 0, hj => simp at hj; subst hj; simp [Addr.add]
  case c2 => intro u hu; simp at hu; subst hu; rfl
  intro v1 w1 hown1 hgrow1
  have hb1 : Below w.heap.size w w1 := ((Below.refl _ _).alloc (Nat.le_refl _) _).grown hgrow1 (by simp) (fun k hk => by cases hk)
  have hown1' : w1.ownsRow (w.heap.size + 1) 5 1 v1 (pre zs s.data.toList 0).length (cellsI (pre zs s.data.toList 0)) := by
    have e : cellsI (pre zs s.data.toList 0) = cellsI zs ++ [.int .u8 34] := by rw [pre_zero, cellsI_append]; rfl
    have l : (pre zs s.data.toList 0).length = zs.length + 1 := by rw [pre_zero]; simp
    rw [e, l]
    simpa using hown1
  obtain ⟨g1, p1, rfl⟩ := own_pos hown1' (pre_len zs s.data.toList 0).1
  clear hown1 hgrow1 hh hb hn
  go_wp2
  go_loopw [0, 5] (fun v i wr => ∃ k g c : Nat, k ≤ s.size ∧ i = .int .i64 k ∧ v = .slice (some ⟨g, 0, none⟩) (pre zs s.data.toList k).length c ∧ wr.ownsRow (w.heap.size + 1) 5 1 v (pre zs s.data.toList k).length (cellsI (pre zs s.data.toList k)) ∧ Below w.heap.size w wr) (fun _ i _ => s.size - (intOf i).toNat)
  case atStart => exact ⟨0, _, _, Nat.zero_le _, rfl, rfl, hown1', hb1⟩
  case round =>
    obtain ⟨k, g, c, hk, rfl, rfl, hown, hbr⟩ := hrel
    clear hown1' hb1
    have hpl := pre_len zs s.data.toList k
    have hsz := hbr.size
    have hlt1 : w.heap.size + 1 ≤ wr.heap.size := by
      have := hown.lt g rfl
      omega
    by_cases hkl : k < s.size
    · have hki : (k : Int) < (s.size : Int) := by omega
      have hu : (s[k]'hkl).toNat < 256 := (s[k]'hkl).toNat_lt
      by_cases h34 : (s[k]'hkl).toNat = 34
      · have HE : Hid (cellsI (e1 (s[k]'hkl).toNat) = [.int .u8 92, .int .u8 34]) := by
          have : cellsI (e1 (s[k]'hkl).toNat) = [.int .u8 92, .int .u8 34] := by rw [h34]; rfl
          exact this
        have hx : ((s[k]'hkl).toNat : Int) = 34 := by omega
        clear h34
        go_wp2_with (at_builtin; refine wpList_append_own _ rfl (.tmp 30) (.tmp 32) 22 rfl (w.heap.size + 1) 5 i5 (.int .u8 0) 1 1 Try.underlying22 hi hy0 hy1 hy2 rfl (by decide) _ _ _ rfl (hown.alloc _) ⟨wr.heap.size, 0, none⟩ 2 2 [.int .u8 92, .int .u8 34] rfl rfl (news_at wr #[.int .u8 92, .int .u8 34]) (cellsI_one [92, 34]) (by unfold maxLen; omega) (by omega) (by simp; omega) ?_)
        intro v' w4 hown' hgrow' hnil
        obtain ⟨g', c', rfl, hown2⟩ := pre_own hkl HE.out rfl hown'
        have hb4 := append_below (hbr.alloc (by omega) _) (Nat.le_refl _) (Nat.le_succ _) (hown.alloc _) hgrow'
        clear hgrow' hnil hown' hown hbr
        go_wp2
        go_roundw
        case rel => exact ⟨k + 1, g', c', by omega, by go_num, rfl, hown2, hb4⟩
        case measure => simp [intOf]; omega
      by_cases h92 : (s[k]'hkl).toNat = 92
      · have HE : Hid (cellsI (e1 (s[k]'hkl).toNat) = [.int .u8 92, .int .u8 92]) := by
          have : cellsI (e1 (s[k]'hkl).toNat) = [.int .u8 92, .int .u8 92] := by rw [h92]; rfl
          exact this
        have hx : ((s[k]'hkl).toNat : Int) = 92 := by omega
        clear h92
        go_wp2_with (at_builtin; refine wpList_append_own _ rfl (.tmp 30) (.tmp 32) 22 rfl (w.heap.size + 1) 5 i5 (.int .u8 0) 1 1 Try.underlying22 hi hy0 hy1 hy2 rfl (by decide) _ _ _ rfl (hown.alloc _) ⟨wr.heap.size, 0, none⟩ 2 2 [.int .u8 92, .int .u8 92] rfl rfl (news_at wr #[.int .u8 92, .int .u8 92]) (cellsI_one [92, 92]) (by unfold maxLen; omega) (by omega) (by simp; omega) ?_)
        intro v' w4 hown' hgrow' hnil
        obtain ⟨g', c', rfl, hown2⟩ := pre_own hkl HE.out rfl hown'
        have hb4 := append_below (hbr.alloc (by omega) _) (Nat.le_refl _) (Nat.le_succ _) (hown.alloc _) hgrow'
        clear hgrow' hnil hown' hown hbr
        go_wp2
        go_roundw
        case rel => exact ⟨k + 1, g', c', by omega, by go_num, rfl, hown2, hb4⟩
        case measure => simp [intOf]; omega
      by_cases h8 : (s[k]'hkl).toNat = 8
      · have HE : Hid (cellsI (e1 (s[k]'hkl).toNat) = Lib.strCells ⟨#[92, 98]⟩) := by
          have : cellsI (e1 (s[k]'hkl).toNat) = Lib.strCells ⟨#[92, 98]⟩ := by rw [h8]; rfl
          exact this
        have hx : ((s[k]'hkl).toNat : Int) = 8 := by omega
        clear h8
        go_wp2_with (at_builtin; refine Lib.wpList_append_own_string _ rfl (.tmp 37) _ 22 9 rfl (w.heap.size + 1) 5 i5 Try.underlying22 Try.underlying9 hi hy0 hy1 hy2 _ _ _ rfl hown ⟨#[92, 98]⟩ rfl (show _ + 2 ≤ _ by unfold maxLen; omega) (show _ + 2 ≤ _ by omega) (by omega) ?_)
        intro v' w4 hown' hgrow' hnil
        obtain ⟨g', c', rfl, hown2⟩ := pre_own hkl HE.out rfl hown'
        have hb4 := append_below hbr (Nat.le_refl _) (Nat.le_succ _) hown hgrow'
        clear hgrow' hnil hown' hown hbr
        go_wp2
        go_roundw
        case rel => exact ⟨k + 1, g', c', by omega, by go_num, rfl, hown2, hb4⟩
        case measure => simp [intOf]; omega
      by_cases h9 : (s[k]'hkl).toNat = 9
      · have HE : Hid (cellsI (e1 (s[k]'hkl).toNat) = Lib.strCells ⟨#[92, 116]⟩) := by
          have : cellsI (e1 (s[k]'hkl).toNat) = Lib.strCells ⟨#[92, 116]⟩ := by rw [h9]; rfl
          exact this
        have hx : ((s[k]'hkl).toNat : Int) = 9 := by omega
        clear h9
        go_wp2_with (at_builtin; refine Lib.wpList_append_own_string _ rfl (.tmp 42) _ 22 9 rfl (w.heap.size + 1) 5 i5 Try.underlying22 Try.underlying9 hi hy0 hy1 hy2 _ _ _ rfl hown ⟨#[92, 116]⟩ rfl (show _ + 2 ≤ _ by unfold maxLen; omega) (show _ + 2 ≤ _ by omega) (by omega) ?_)
        intro v' w4 hown' hgrow' hnil
        obtain ⟨g', c', rfl, hown2⟩ := pre_own hkl HE.out rfl hown'
        have hb4 := append_below hbr (Nat.le_refl _) (Nat.le_succ _) hown hgrow'
        clear hgrow' hnil hown' hown hbr
        go_wp2
        go_roundw
        case rel => exact ⟨k + 1, g', c', by omega, by go_num, rfl, hown2, hb4⟩
        case measure => simp [intOf]; omega
      by_cases h10 : (s[k]'hkl).toNat = 10
      · have HE : Hid (cellsI (e1 (s[k]'hkl).toNat) = Lib.strCells ⟨#[92, 110]⟩) := by
          have : cellsI (e1 (s[k]'hkl).toNat) = Lib.strCells ⟨#[92, 110]⟩ := by rw [h10]; rfl
          exact this
        have hx : ((s[k]'hkl).toNat : Int) = 10 := by omega
        clear h10
        go_wp2_with (at_builtin; refine Lib.wpList_append_own_string _ rfl (.tmp 47) _ 22 9 rfl (w.heap.size + 1) 5 i5 Try.underlying22 Try.underlying9 hi hy0 hy1 hy2 _ _ _ rfl hown ⟨#[92, 110]⟩ rfl (show _ + 2 ≤ _ by unfold maxLen; omega) (show _ + 2 ≤ _ by omega) (by omega) ?_)
        intro v' w4 hown' hgrow' hnil
        obtain ⟨g', c', rfl, hown2⟩ := pre_own hkl HE.out rfl hown'
        have hb4 := append_below hbr (Nat.le_refl _) (Nat.le_succ _) hown hgrow'
        clear hgrow' hnil hown' hown hbr
        go_wp2
        go_roundw
        case rel => exact ⟨k + 1, g', c', by omega, by go_num, rfl, hown2, hb4⟩
        case measure => simp [intOf]; omega
      by_cases h12 : (s[k]'hkl).toNat = 12
      · have HE : Hid (cellsI (e1 (s[k]'hkl).toNat) = Lib.strCells ⟨#[92, 102]⟩) := by
          have : cellsI (e1 (s[k]'hkl).toNat) = Lib.strCells ⟨#[92, 102]⟩ := by rw [h12]; rfl
          exact this
        have hx : ((s[k]'hkl).toNat : Int) = 12 := by omega
        clear h12
        go_wp2_with (at_builtin; refine Lib.wpList_append_own_string _ rfl (.tmp 52) _ 22 9 rfl (w.heap.size + 1) 5 i5 Try.underlying22 Try.underlying9 hi hy0 hy1 hy2 _ _ _ rfl hown ⟨#[92, 102]⟩ rfl (show _ + 2 ≤ _ by unfold maxLen; omega) (show _ + 2 ≤ _ by omega) (by omega) ?_)
        intro v' w4 hown' hgrow' hnil
        obtain ⟨g', c', rfl, hown2⟩ := pre_own hkl HE.out rfl hown'
        have hb4 := append_below hbr (Nat.le_refl _) (Nat.le_succ _) hown hgrow'
        clear hgrow' hnil hown' hown hbr
        go_wp2
        go_roundw
        case rel => exact ⟨k + 1, g', c', by omega, by go_num, rfl, hown2, hb4⟩
        case measure => simp [intOf]; omega
      by_cases h13 : (s[k]'hkl).toNat = 13
      · have HE : Hid (cellsI (e1 (s[k]'hkl).toNat) = Lib.strCells ⟨#[92, 114]⟩) := by
          have : cellsI (e1 (s[k]'hkl).toNat) = Lib.strCells ⟨#[92, 114]⟩ := by rw [h13]; rfl
          exact this
        have hx : ((s[k]'hkl).toNat : Int) = 13 := by omega
        clear h13
        go_wp2_with (at_builtin; refine Lib.wpList_append_own_string _ rfl (.tmp 57) _ 22 9 rfl (w.heap.size + 1) 5 i5 Try.underlying22 Try.underlying9 hi hy0 hy1 hy2 _ _ _ rfl hown ⟨#[92, 114]⟩ rfl (show _ + 2 ≤ _ by unfold maxLen; omega) (show _ + 2 ≤ _ by omega) (by omega) ?_)
        intro v' w4 hown' hgrow' hnil
        obtain ⟨g', c', rfl, hown2⟩ := pre_own hkl HE.out rfl hown'
        have hb4 := append_below hbr (Nat.le_refl _) (Nat.le_succ _) hown hgrow'
        clear hgrow' hnil hown' hown hbr
        go_wp2
        go_roundw
        case rel => exact ⟨k + 1, g', c', by omega, by go_num, rfl, hown2, hb4⟩
        case measure => simp [intOf]; omega
      by_cases h32 : (s[k]'hkl).toNat < 32
      · have b32 : ((s[k]'hkl).toNat : Int) < 32 := by omega
        have b34 : (((s[k]'hkl).toNat : Int) == 34) = false := beq_false_of_ne (by omega)
        have b92 : (((s[k]'hkl).toNat : Int) == 92) = false := beq_false_of_ne (by omega)
        have b8 : (((s[k]'hkl).toNat : Int) == 8) = false := beq_false_of_ne (by omega)
        have b9 : (((s[k]'hkl).toNat : Int) == 9) = false := beq_false_of_ne (by omega)
        have b10 : (((s[k]'hkl).toNat : Int) == 10) = false := beq_false_of_ne (by omega)
        have b12 : (((s[k]'hkl).toNat : Int) == 12) = false := beq_false_of_ne (by omega)
        have b13 : (((s[k]'hkl).toNat : Int) == 13) = false := beq_false_of_ne (by omega)
        obtain ⟨ha, hha⟩ : ∃ y : Int, y = hexd ((s[k]'hkl).toNat / 16) := ⟨_, rfl⟩
        obtain ⟨hl, hhl⟩ : ∃ y : Int, y = hexd ((s[k]'hkl).toNat % 16) := ⟨_, rfl⟩
        have HE : Hid (cellsI (e1 (s[k]'hkl).toNat) = [.int .u8 92, .int .u8 117, .int .u8 48, .int .u8 48, .int .u8 ha, .int .u8 hl]) := by
          have : cellsI (e1 (s[k]'hkl).toNat) = [.int .u8 92, .int .u8 117, .int .u8 48, .int .u8 48, .int .u8 ha, .int .u8 hl] := by rw [e1_u _ h32 h8 h9 h10 h12 h13, hha, hhl]; rfl
          exact this
        have i1 : ∀ W, (Instr.index 9 (.string ⟨#[48, 49, 50, 51, 52, 53, 54, 55, 56, 57, 97, 98, 99, 100, 101, 102]⟩) (.int .u8 (((s[k]'hkl).toNat : Int) / 16))).run Try.prog W = .ok (.int .u8 ha) W := fun W => by
          rw [hex_at _ (by omega) (by omega), hha]; rfl
        have i2 : ∀ W, (Instr.index 9 (.string ⟨#[48, 49, 50, 51, 52, 53, 54, 55, 56, 57, 97, 98, 99, 100, 101, 102]⟩) (.int .u8 (((s[k]'hkl).toNat : Int) % 16))).run Try.prog W = .ok (.int .u8 hl) W := fun W => by
          rw [hex_at _ (by omega) (by omega), hhl]; rfl
        have hbits : bits .and .u8 ((s[k]'hkl).toNat : Int) 15 = ((s[k]'hkl).toNat : Int) % 16 := bits_mask .u8 8 (by decide) wraps_u8 4 (by decide) _ (by omega) (by omega)
        clear h34 h92 h8 h9 h10 h12 h13 h32 hha hhl
        go_wp2
        go_region_law (refine step_append_own rfl (.tmp 62) (.tmp 69) 22 rfl (w.heap.size + 1) 5 i5 (.int .u8 0) 1 1 Try.underlying22 hi hy0 hy1 hy2 rfl (by decide) _ _ _ (by simp [Act.eval]) (hown.alloc (.cells #[.int .u8 92, .int .u8 117, .int .u8 48, .int .u8 48, .int .u8 ha, .int .u8 hl] 5)).drew ⟨wr.heap.size, 0, none⟩ 6 6 [.int .u8 92, .int .u8 117, .int .u8 48, .int .u8 48, .int .u8 ha, .int .u8 hl] (by simp [Act.eval]) rfl (news_at wr #[.int .u8 92, .int .u8 117, .int .u8 48, .int .u8 48, .int .u8 ha, .int .u8 hl]) (cellsI_one [92, 117, 48, 48, ha, hl]) (by unfold maxLen; omega) (by omega) (by simp; omega) ?_; intro v' w4 hown' hgrow'; obtain ⟨g', c', rfl, hown2⟩ := pre_own hkl HE.out rfl hown'; have hb4 := append_below (hbr.alloc (by omega) (.cells #[.int .u8 92, .int .u8 117, .int .u8 48, .int .u8 48, .int .u8 ha, .int .u8 hl] 5)).drew (Nat.le_refl _) (Nat.le_succ _) (hown.alloc (.cells #[.int .u8 92, .int .u8 117, .int .u8 48, .int .u8 48, .int .u8 ha, .int .u8 hl] 5)).drew hgrow'; clear hown' hgrow')
        all_goals clear hown hbr
        all_goals go_wp2
        all_goals
          go_roundw
          case rel => exact ⟨k + 1, g', c', by omega, by go_num, rfl, hown2, hb4⟩
          case measure => simp [intOf]; omega
      · have HE : Hid (cellsI (e1 (s[k]'hkl).toNat) = [.int .u8 (s[k]'hkl).toNat]) := by
          have : cellsI (e1 (s[k]'hkl).toNat) = [.int .u8 (s[k]'hkl).toNat] := by rw [e1_self _ (by omega) h34 h92]; rfl
          exact this
        have b34 : (((s[k]'hkl).toNat : Int) == 34) = false := beq_false_of_ne (by omega)
        have b92 : (((s[k]'hkl).toNat : Int) == 92) = false := beq_false_of_ne (by omega)
        have b8 : (((s[k]'hkl).toNat : Int) == 8) = false := beq_false_of_ne (by omega)
        have b9 : (((s[k]'hkl).toNat : Int) == 9) = false := beq_false_of_ne (by omega)
        have b10 : (((s[k]'hkl).toNat : Int) == 10) = false := beq_false_of_ne (by omega)
        have b12 : (((s[k]'hkl).toNat : Int) == 12) = false := beq_false_of_ne (by omega)
        have b13 : (((s[k]'hkl).toNat : Int) == 13) = false := beq_false_of_ne (by omega)
        have b32 : 32 ≤ ((s[k]'hkl).toNat : Int) := by omega
        clear h34 h92 h8 h9 h10 h12 h13 h32
        go_wp2_with (at_builtin; refine wpList_append_own _ rfl (.tmp 19) (.tmp 21) 22 rfl (w.heap.size + 1) 5 i5 (.int .u8 0) 1 1 Try.underlying22 hi hy0 hy1 hy2 rfl (by decide) _ _ _ rfl (hown.alloc _) ⟨wr.heap.size, 0, none⟩ 1 1 [.int .u8 (s[k]'hkl).toNat] rfl rfl (news_at wr #[.int .u8 (s[k]'hkl).toNat]) (cellsI_one [((s[k]'hkl).toNat : Int)]) (by unfold maxLen; omega) (by omega) (by simp; omega) ?_)
        intro v' w4 hown' hgrow' hnil
        obtain ⟨g', c', rfl, hown2⟩ := pre_own hkl HE.out rfl hown'
        have hb4 := append_below (hbr.alloc (by omega) _) (Nat.le_refl _) (Nat.le_succ _) (hown.alloc _) hgrow'
        clear hgrow' hnil hown' hown hbr
        go_wp2
        go_roundw
        case rel => exact ⟨k + 1, g', c', by omega, by go_num, rfl, hown2, hb4⟩
        case measure => simp [intOf]; omega
    · have e : k = s.size := by omega
      subst e
      go_wp2_with (at_builtin; refine wpList_append_own _ rfl (.tmp 71) (.tmp 72) 22 rfl (w.heap.size + 1) 5 i5 (.int .u8 0) 1 1 Try.underlying22 hi hy0 hy1 hy2 rfl (by decide) _ _ _ rfl (hown.alloc _) ⟨wr.heap.size, 0, none⟩ 1 1 [.int .u8 34] rfl rfl ?d1 ?d2 ?d3 ?d4 ?d5 ?_)
      case d1 =>
        intro j u hj
        match j, hj with
        | 0, hj => simp at hj; subst hj; simp [Addr.add]
      case d2 => intro u hu; simp at hu; subst hu; rfl
      case d3 => unfold maxLen; omega
      case d4 => omega
      case d5 => simp; omega
      intro v' w4 hown' hgrow' hnil
      obtain ⟨g', c', rfl⟩ := own_pos hown' (by omega)
      have hb4 := append_below (hbr.alloc (by omega) _) (Nat.le_refl _) (Nat.le_succ _) (hown.alloc _) hgrow'
      go_wp2
      go_ret
      exact ⟨g', c', rfl, hown', hb4⟩

end Go.Proofs.Qxb6603241a
