import Derived.Test.Qxb6603323aRepl
import Derived.Laws.IdiomStrings
set_option linter.unusedVariables false
namespace Go.Proofs.Qxb6603323a
open Go.RowKit Plain

theorem info3 : (Try.prog.info? 3).map (fun i => (i.zero, i.size, i.bytes)) = some (some (.int .i64 0), 1, 8) := by kernel_rfl

theorem dl_store {w : World} {B n k ln hn : Nat} {L H : Nat → Int} (h : w.rowIs B 3 n (fun x => .int .i64 (dl L H k x))) (hl : L k = ln) (hh : H k = hn) (hlt : ln < hn) :
    ((w.setCell ⟨B, ln, none⟩ (.int .i64 (dl L H k ln + 1))).setCell ⟨B, hn, none⟩ (.int .i64 (dl L H k hn - 1))).rowIs B 3 n (fun x => .int .i64 (dl L H (k + 1) x)) := by
  refine ((h.set ln _).set hn _).congr fun x _ => ?_
  have hc : (ln : Int) < (hn : Int) := by omega
  by_cases e1 : x = hn
  · subst e1
    have : ¬ (ln : Int) = (x : Int) := by omega
    simp [dl, hl, hh, hc, this]
  · by_cases e2 : x = ln
    · subst e2
      have : ¬ (hn : Int) = (x : Int) := by omega
      simp [dl, hl, hh, hc, this, e1]
    · have h1 : ¬ (ln : Int) = (x : Int) := by omega
      have h2 : ¬ (hn : Int) = (x : Int) := by omega
      simp [dl, hl, hh, hc, e1, e2, h1, h2]

theorem dl_same {w : World} {B n k : Nat} {L H : Nat → Int} (h : w.rowIs B 3 n (fun x => .int .i64 (dl L H k x))) (hn : ¬ L k < H k) : w.rowIs B 3 n (fun x => .int .i64 (dl L H (k + 1) x)) := by
  refine h.congr fun x _ => ?_
  simp [dl, hn]

theorem dp_store {w : World} {D n k len : Nat} {L H : Nat → Int} (h : w.rowIs D 3 n (fun x => .int .i64 (if x < k then rs L H len (x + 1) else 0))) :
    (w.setCell ⟨D, k, none⟩ (.int .i64 (rs L H len k + dl L H len k))).rowIs D 3 n (fun x => .int .i64 (if x < k + 1 then rs L H len (x + 1) else 0)) := by
  refine (h.set k _).congr fun x _ => ?_
  by_cases e : x = k
  · subst e; simp [rs]
  · have : (x < k + 1) ↔ (x < k) := by omega
    simp only [if_neg e, this]

theorem dp_done {w : World} {D n len : Nat} {L H : Nat → Int} (h : w.rowIs D 3 n (fun x => .int .i64 (if x < n then rs L H len (x + 1) else 0))) (h0 : ∀ j, j < len → L j < H j → 0 ≤ L j) :
    w.rowIs D 3 n (fun x => .int .i64 (cnt L H len x)) := by
  refine h.congr fun x hx => ?_
  rw [if_pos hx, rs_cnt L H len x h0]

theorem out_len {C : Nat → Bool} {T : List UInt8} {mark : ByteArray} {k : Nat} (hk : k ≤ 65536) (hm : mark.size ≤ 4096) : (out C T mark.data.toList k).length ≤ 268500992 := by
  have := len_bd (C := C) (T := T) (mark := mark) hk hm
  rwa [Lib.byteCells_length] at this

theorem own_shape {w : World} {base n : Nat} {e : TypeId} {v : Value} {xs : List Value} (h : w.ownsRow base e 1 v n xs) (hn : ¬ v = .slice none 0 0) :
    ∃ g cap, v = .slice (some ⟨g, 0, none⟩) n cap := by
  rcases h.2 with ⟨hv, _⟩ | ⟨g, cap, cur, hv, _⟩
  · exact absurd hv hn
  · exact ⟨g, cap, hv⟩

theorem own_convert {w : World} {base g cap : Nat} {l : List UInt8} (h : w.ownsRow base 5 1 (.slice (some ⟨g, 0, none⟩) l.length cap) l.length (Lib.byteCells l)) :
    (convert 41 9 (.slice (some ⟨g, 0, none⟩) l.length cap)).run Try.prog w = .ok (.string ⟨l.toArray⟩) w := by
  refine run_convert_bytes_back w 41 9 5 ⟨g, 0, none⟩ cap l Try.underlying41 Try.underlying5 Try.underlying9 fun j hj => ?_
  refine h.cells (g := g) rfl j _ ?_
  simp [Lib.byteCells, hj]

theorem take_cells (l : List UInt8) (mark : ByteArray) (t : Nat) (ht : t < mark.size) : Lib.byteCells (l ++ mark.data.toList.take (t + 1)) = Lib.byteCells (l ++ mark.data.toList.take t) ++ [.int .u8 (mark[t]'ht).toNat] := by
  rw [List.take_succ_eq_append_getElem (by simpa using ht), ← List.append_assoc, Lib.byteCells_append]; rfl

theorem take_len (l : List UInt8) (mark : ByteArray) (t : Nat) (ht : t ≤ mark.size) : (l ++ mark.data.toList.take t).length = l.length + t := by
  have : mark.data.toList.length = mark.size := by simp
  simp only [List.length_append, List.length_take, this]; omega

theorem append_below {B : Nat} {w wr w1 : World} {o : Obj} {v : Value} {n : Nat} {xs : List Value} {e : TypeId} (hb : Below B w wr) (hBw : B ≤ w.heap.size) (hown : wr.ownsRow B e 1 v n xs) (hg : (wr.alloc o).grownBy w1 v.ownBlock) : Below B w w1 := by
  have hsz := hb.size
  exact (hb.alloc (by omega) _).grown hg (by simp; omega) (fun k hk => (hown.lt k hk).1)

set_option maxHeartbeats 4000000 in
theorem model_any (text mark : ByteArray) (a : Option Addr) (len cap : Nat) (L H : Nat → Int) (w : World) (hlen : len ≤ 65536) (ht : text.size ≤ 65536) (hm : mark.size ≤ 4096)
    (hin : ∀ i, i < len → L i < H i → 0 ≤ L i ∧ H i ≤ text.size) (hs : SpansAt w a len L H) :
    Calls Try.prog 12 #[.string text, .slice a len cap, .string mark] w fun e w' => e = .returned (.string ⟨(out (cov L H len) text.data.toList mark.data.toList text.size).toArray⟩) ∧ Below w.heap.size w w' := by
  obtain ⟨i3, hi, hz0, hz1, hz2⟩ := info_parts info3
  go_enter Try.func12, Try.ntmps12
  go_wp2_with (at_make; refine wpList_make_full _ rfl _ _ 27 rfl w.heap.size 3 i3 _ 1 Try.underlying27 hi hz0 hz1 .i64 .i64 _ _ (text.size + 1) rfl rfl (by simp) (by simp) (by rw [hz2]; omega) (by unfold maxLen; omega) (Nat.le_refl _) ?_)
  intro w1 hown hgrow
  have hb1 : Below w.heap.size w w1 := (Below.refl _ _).grown hgrow (Nat.le_refl _) (fun k hk => by cases hk)
  have hR1 : w1.rowIs w.heap.size 3 (text.size + 1) (fun _ => .int .i64 0) := own_row hown
  clear hown hgrow
  go_wp2
  go_loopw [9] (fun i wr => ∃ k : Nat, k ≤ len ∧ i = .int .i64 k ∧ wr.rowIs w.heap.size 3 (text.size + 1) (fun x => .int .i64 (dl L H k x)) ∧ Below w.heap.size w wr) (fun i _ => len - (intOf i).toNat)
  case atStart => exact ⟨0, Nat.zero_le _, rfl, hR1, hb1⟩
  case round =>
    revert wr
    intro wa hrel
    obtain ⟨k, hk, rfl, hR, hb⟩ := hrel
    clear hR1 hb1
    by_cases hlt : k < len
    · rcases hs with h0 | ⟨b, off, rfl, hc⟩
      · omega
      obtain ⟨g1, g2⟩ := hc k hlt
      have hbl := World.block_lt_of_cell? w _ g1
      have h1 := (hb.cell (p := ⟨b, off + k * 2, none⟩) hbl).trans g1
      have h2 := (hb.cell (p := ⟨b, off + k * 2 + 1, none⟩) hbl).trans g2
      have hki : (k : Int) < (len : Int) := by omega
      have hin1 := hin k hlt
      clear hc g1 g2 hbl hin hi hz0 hz1 hz2
      by_cases hLH : L k < H k
      · have hin2 := hin1 hLH
        obtain ⟨ln, hln⟩ := Int.eq_ofNat_of_zero_le hin2.1
        obtain ⟨hn, hhn⟩ := Int.eq_ofNat_of_zero_le (show 0 ≤ H k by omega)
        rw [hln] at h1 hLH hin2
        rw [hhn] at h2 hLH hin2
        have hRn := dl_store hR hln hhn (by omega)
        have hbn := (hb.setCell (p := ⟨w.heap.size, ln, none⟩) (Nat.le_refl _) (.int .i64 (dl L H k ln + 1))).setCell (p := ⟨w.heap.size, hn, none⟩) (Nat.le_refl _) (.int .i64 (dl L H k hn - 1))
        have c1 := hR.cell (i := ln) (by omega)
        have c2 := hR.cell (i := hn) (by omega)
        have f1 := hR.frozen ln
        have f2 := hR.frozen hn
        have b1 := dl_bd L H k ln
        have b2 := dl_bd L H k hn
        clear hR hb hln hhn hin1
        go_wp2
        go_roundw
        case rel => exact ⟨k + 1, by omega, by go_num, hRn, hbn⟩
        case measure => simp [intOf]; omega
      · have hRn := dl_same hR hLH
        clear hR hin1
        go_wp2
        go_roundw
        case rel => exact ⟨k + 1, by omega, by go_num, hRn, hb⟩
        case measure => simp [intOf]; omega
    · have e : len = k := by omega
      subst e
      clear hs hlt hk
      have h0 : ∀ j, j < len → L j < H j → 0 ≤ L j := fun j hj hl => (hin j hj hl).1
      clear hin
      have hBr := hR.lt
      go_wp2_with (at_make; refine wpList_make_full _ rfl _ _ 27 rfl wa.heap.size 3 i3 _ 1 Try.underlying27 hi hz0 hz1 .i64 .i64 _ _ text.size rfl rfl rfl rfl (by rw [hz2]; omega) (by unfold maxLen; omega) (Nat.le_refl _) ?_)
      intro w2 hown hgrow
      have hb2 : Below wa.heap.size wa w2 := (Below.refl _ _).grown hgrow (Nat.le_refl _) (fun k hk => by cases hk)
      have hD2 : w2.rowIs wa.heap.size 3 text.size (fun _ => .int .i64 0) := own_row hown
      have hR2 : w2.rowIs w.heap.size 3 (text.size + 1) (fun x => .int .i64 (dl L H len x)) := hR.of_block (hb2.block _ hBr)
      have hbw2 : Below w.heap.size w w2 := hb.trans (hb2.mono (Nat.le_of_lt hBr))
      clear hown hgrow hi hz0 hz1 hz2 hR hb hb2
      go_wp2
      go_loopw [13, 14] (fun r i wr => ∃ k : Nat, k ≤ text.size ∧ i = .int .i64 k ∧ r = .int .i64 (rs L H len k) ∧ wr.rowIs w.heap.size 3 (text.size + 1) (fun x => .int .i64 (dl L H len x)) ∧ wr.rowIs wa.heap.size 3 text.size (fun x => .int .i64 (if x < k then rs L H len (x + 1) else 0)) ∧ Below w.heap.size w wr) (fun _ i _ => text.size - (intOf i).toNat)
      case atStart => exact ⟨0, Nat.zero_le _, rfl, rfl, hR2, hD2, hbw2⟩
      case round =>
        revert wr
        intro wb hrel
        obtain ⟨k, hk, rfl, rfl, hR, hD, hb⟩ := hrel
        clear hR2 hD2 hbw2
        by_cases hlt : k < text.size
        · have hki : (k : Int) < (text.size : Int) := by omega
          have c1 := hR.cell (i := k) (by omega)
          have c2 := hD.cell (i := k) hlt
          simp only [Nat.lt_irrefl, if_false] at c2
          have f2 := hD.frozen k
          have b1 := rs_bd L H len k h0
          have b2 := dl_bd L H len k
          have hDn := dp_store hD
          have hRn := hR.setOther (a := ⟨wa.heap.size, k, none⟩) (Nat.ne_of_lt hBr) (.int .i64 (rs L H len k + dl L H len k))
          have hbn := hb.setCell (p := ⟨wa.heap.size, k, none⟩) (Nat.le_of_lt hBr) (.int .i64 (rs L H len k + dl L H len k))
          clear hR hD hb
          go_wp2
          go_roundw
          case rel => exact ⟨k + 1, by omega, by go_num, rfl, hRn, hDn, hbn⟩
          case measure => simp [intOf]; omega
        · have e : k = text.size := by omega
          subst e
          have hDc := dp_done hD h0
          clear hR hD hlt hk h0
          obtain ⟨i5, hj, hy0, hy1, hy2⟩ := info_parts info5
          have hBa := hDc.lt
          go_wp2_with (at_make; refine wpList_make_own _ rfl _ _ 41 rfl wb.heap.size 5 i5 _ 1 Try.underlying41 hj hy0 hy1 .i64 .i64 _ text.size rfl rfl rfl (by rw [hy2]; omega) (by unfold maxLen; omega) (Nat.le_refl _) ?_)
          intro w3 hown hgrow
          have hb3 : Below wb.heap.size wb w3 := (Below.refl _ _).grown hgrow (Nat.le_refl _) (fun k hk => by cases hk)
          clear hgrow
          go_wp2
          go_loopw [15, 16] (fun v i wr => ∃ k g c : Nat, k ≤ text.size ∧ i = .int .i64 k ∧ v = .slice (some ⟨g, 0, none⟩) (out (cov L H len) text.data.toList mark.data.toList k).length c ∧ wr.ownsRow wb.heap.size 5 1 v (out (cov L H len) text.data.toList mark.data.toList k).length (Lib.byteCells (out (cov L H len) text.data.toList mark.data.toList k)) ∧ Below wb.heap.size wb wr ∧ (k = 0 ∨ cov L H len (k - 1) = false ∨ k = text.size ∨ cov L H len k = false)) (fun _ i _ => text.size - (intOf i).toNat)
          case atStart => exact ⟨0, _, _, Nat.zero_le _, rfl, rfl, hown, hb3, .inl rfl⟩
          case round =>
            revert wr
            intro wc hrel
            obtain ⟨k, g, c, hk, rfl, rfl, hownk, hbc, hflag⟩ := hrel
            clear hown hb3
            have HF : Hid (k = 0 ∨ cov L H len (k - 1) = false ∨ k = text.size ∨ cov L H len k = false) := hflag
            clear hflag
            have hol := out_len (C := cov L H len) (T := text.data.toList) (mark := mark) (k := k) (by omega) hm
            by_cases hlt : k < text.size
            · have hki : (k : Int) < (text.size : Int) := by omega
              have c1 := (hbc.cell (p := ⟨wa.heap.size, k, none⟩) hBa).trans (hDc.cell (i := k) hlt)
              have cb := cnt_bd L H len k
              by_cases hz : cnt L H len k = 0
              · have hCk0 := (cnt_cov L H len k).1 hz
                rw [hz] at c1
                have HC : Hid (cov L H len k = false) := hCk0
                have HK : Hid (Lib.byteCells (out (cov L H len) text.data.toList mark.data.toList (k + 1)) = Lib.byteCells (out (cov L H len) text.data.toList mark.data.toList k) ++ [.int .u8 (text[k]'hlt).toNat]) := keep_cells hlt hCk0
                have HL : Hid ((out (cov L H len) text.data.toList mark.data.toList (k + 1)).length = (out (cov L H len) text.data.toList mark.data.toList k).length + 1) := by
                  have : (out (cov L H len) text.data.toList mark.data.toList (k + 1)).length = (out (cov L H len) text.data.toList mark.data.toList k).length + 1 := by rw [out_keep hCk0]; simp
                  exact this
                clear hz hCk0 cb
                go_wp2_with (at_builtin; refine wpList_append_own _ rfl (.tmp 82) (.tmp 86) 41 rfl wb.heap.size 5 i5 (.int .u8 0) 1 1 Try.underlying41 hj hy0 hy1 hy2 rfl (by decide) _ _ _ rfl (hownk.alloc _) ⟨wc.heap.size, 0, none⟩ 1 1 [.int .u8 (text[k]'hlt).toNat] rfl rfl ?c1 ?c2 ?c3 ?c4 ?c5 ?_)
                case c1 =>
                  intro j u hj
                  match j, hj with
                  | 0, hj => simp at hj; subst hj; simp [Addr.add]
                case c2 => intro u hu; simp at hu; subst hu; rfl
                case c3 => unfold maxLen; omega
                case c4 => omega
                case c5 => have := hbc.size; simp; omega
                intro v' w4 hown' hgrow' hnil
                obtain ⟨g', c', rfl⟩ := own_shape hown' hnil
                have hb4 := append_below hbc (Nat.le_refl _) hownk hgrow'
                clear hgrow' hnil hownk hbc
                go_wp2
                go_roundw
                case rel => exact ⟨k + 1, g', c', by omega, by go_num, by rw [HL.out], by rw [HL.out, HK.out]; exact hown', hb4, .inr (.inl HC.out)⟩
                case measure => simp [intOf]; omega
              · have hpos : 0 < cnt L H len k := by omega
                have HC : Hid (cov L H len k = true) := cov_of_cnt hpos
                go_wp2
                go_loop [17] (fun j => ∃ jn : Nat, k ≤ jn ∧ jn ≤ text.size ∧ j = .int .i64 jn ∧ ∀ x, k ≤ x → x < jn → cov L H len x = true) (fun j => text.size - (intOf j).toNat)
                case atStart => exact ⟨k, Nat.le_refl _, hk, rfl, fun x h1 h2 => by omega⟩
                case round =>
                  obtain ⟨jn, hkj, hjt, rfl, hrun⟩ := hrel
                  have HR : Hid (∀ x, k ≤ x → x < jn → cov L H len x = true) := hrun
                  clear hrun
                  by_cases hgo : jn < text.size ∧ 0 < cnt L H len jn
                  · obtain ⟨hjl, hjp⟩ := hgo
                    have hji : (jn : Int) < (text.size : Int) := by omega
                    have c2 := (hbc.cell (p := ⟨wa.heap.size, jn, none⟩) hBa).trans (hDc.cell (i := jn) hjl)
                    go_wp2
                    go_round
                    case rel =>
                      refine ⟨jn + 1, by omega, by omega, by go_num, fun x h1 h2 => ?_⟩
                      by_cases e : x = jn
                      · subst e; exact cov_of_cnt hjp
                      · exact HR.out x h1 (by omega)
                    case measure => simp [intOf]; omega
                  · have HE : Hid (jn = text.size ∨ cov L H len jn = false) := by
                      by_cases hjl : jn < text.size
                      · have := cnt_bd L H len jn
                        exact Or.inr ((cnt_cov L H len jn).1 (by omega))
                      · exact Or.inl (by omega)
                    have hkj1 : k + 1 ≤ jn := by
                      rcases HE.out with h | h
                      · omega
                      · by_cases e : k = jn
                        · rw [← e, HC.out] at h; cases h
                        · omega
                    have HJ : Hid (out (cov L H len) text.data.toList mark.data.toList jn = out (cov L H len) text.data.toList mark.data.toList k ++ mark.data.toList) := by
                      have h1 := out_run (C := cov L H len) (text := text.data.toList) (mark := mark.data.toList) jn HR.out hkj1
                      have h2 := out_mark (C := cov L H len) (text := text.data.toList) (mark := mark.data.toList) HC.out (by
                        rcases HF.out with h | h | h | h
                        · exact .inl h
                        · exact .inr h
                        · omega
                        · rw [HC.out] at h; cases h)
                      exact h1.trans h2
                    have c2 : jn < text.size → wc.cell? ⟨wa.heap.size, jn, none⟩ = some (.int .i64 (cnt L H len jn)) := fun h => (hbc.cell (p := ⟨wa.heap.size, jn, none⟩) hBa).trans (hDc.cell (i := jn) h)
                    have hjp : jn < text.size → cnt L H len jn ≤ 0 := fun h => by omega
                    clear hgo hDc
                    have hownm : wc.ownsRow wb.heap.size 5 1 (.slice (some ⟨g, 0, none⟩) ((out (cov L H len) text.data.toList mark.data.toList k).length + 0) c) ((out (cov L H len) text.data.toList mark.data.toList k).length + 0) (Lib.byteCells (out (cov L H len) text.data.toList mark.data.toList k ++ mark.data.toList.take 0)) := by
                      simpa using hownk
                    by_cases hjl : jn < text.size
                    all_goals
                      go_wp2
                      go_loopw [15, 18] (fun v t wr => ∃ tn g c : Nat, tn ≤ mark.size ∧ t = .int .i64 tn ∧ v = .slice (some ⟨g, 0, none⟩) ((out (cov L H len) text.data.toList mark.data.toList k).length + tn) c ∧ wr.ownsRow wb.heap.size 5 1 v ((out (cov L H len) text.data.toList mark.data.toList k).length + tn) (Lib.byteCells (out (cov L H len) text.data.toList mark.data.toList k ++ mark.data.toList.take tn)) ∧ Below wb.heap.size wb wr) (fun _ t _ => mark.size - (intOf t).toNat)
                      case atStart => exact ⟨0, g, c, Nat.zero_le _, rfl, rfl, hownm, hbc⟩
                      case round =>
                        obtain ⟨tn, g5, c5, htn, rfl, rfl, hown5, hb5⟩ := hrel
                        clear hownm hownk
                        by_cases htl : tn < mark.size
                        · have hti : (tn : Int) < (mark.size : Int) := by omega
                          have HK : Hid (Lib.byteCells (out (cov L H len) text.data.toList mark.data.toList k ++ mark.data.toList.take (tn + 1)) = Lib.byteCells (out (cov L H len) text.data.toList mark.data.toList k ++ mark.data.toList.take tn) ++ [.int .u8 (mark[tn]'htl).toNat]) := take_cells _ mark tn htl
                          go_wp2_with (at_builtin; refine wpList_append_own _ rfl (.tmp 109) (.tmp 113) 41 rfl wb.heap.size 5 i5 (.int .u8 0) 1 1 Try.underlying41 hj hy0 hy1 hy2 rfl (by decide) _ _ _ rfl (hown5.alloc _) ⟨wr.heap.size, 0, none⟩ 1 1 [.int .u8 (mark[tn]'htl).toNat] rfl rfl ?d1 ?d2 ?d3 ?d4 ?d5 ?_)
                          case d1 =>
                            intro j u hj
                            match j, hj with
                            | 0, hj => simp at hj; subst hj; simp [Addr.add]
                          case d2 => intro u hu; simp at hu; subst hu; rfl
                          case d3 => unfold maxLen; omega
                          case d4 => omega
                          case d5 => have := hb5.size; simp; omega
                          intro v' w6 hown' hgrow' hnil
                          obtain ⟨g', c', rfl⟩ := own_shape hown' hnil
                          have hb6 := append_below hb5 (Nat.le_refl _) hown5 hgrow'
                          clear hgrow' hnil hown5 hb5
                          go_wp2
                          go_roundw
                          case rel => exact ⟨tn + 1, g', c', by omega, by go_num, rfl, by rw [HK.out]; exact hown', hb6⟩
                          case measure => simp [intOf]; omega
                        · have e : tn = mark.size := by omega
                          subst e
                          have HA : Hid (out (cov L H len) text.data.toList mark.data.toList k ++ mark.data.toList.take mark.size = out (cov L H len) text.data.toList mark.data.toList jn) := by
                            have h : mark.data.toList.take mark.size = mark.data.toList := List.take_of_length_le (by simp)
                            have h2 : out (cov L H len) text.data.toList mark.data.toList k ++ mark.data.toList.take mark.size = out (cov L H len) text.data.toList mark.data.toList jn := by rw [h, HJ.out]
                            exact h2
                          have HN : Hid ((out (cov L H len) text.data.toList mark.data.toList k).length + mark.size = (out (cov L H len) text.data.toList mark.data.toList jn).length) := by
                            have h2 : (out (cov L H len) text.data.toList mark.data.toList k).length + mark.size = (out (cov L H len) text.data.toList mark.data.toList jn).length := by rw [HJ.out]; simp
                            exact h2
                          go_wp2
                          go_roundw
                          case rel =>
                            refine ⟨jn, g5, c5, hjt, rfl, by rw [HN.out], ?_, hb5, ?_⟩
                            · have := hown5
                              rw [HA.out, HN.out] at this
                              rw [HN.out]; exact this
                            · rcases HE.out with h | h
                              · exact .inr (.inr (.inl h))
                              · exact .inr (.inr (.inr h))
                          case measure => simp [intOf]; omega
            · have e : k = text.size := by omega
              subst e
              have hcv := own_convert hownk
              go_wp2
              go_ret
              exact ⟨rfl, hb.trans (hbc.mono (by omega))⟩

end Go.Proofs.Qxb6603323a
