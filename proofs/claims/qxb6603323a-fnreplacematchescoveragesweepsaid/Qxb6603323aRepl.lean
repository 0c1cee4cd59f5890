import Derived.Test.Qxb6603323aConv
import Derived.Test.Qxb6603323aPlain
import Derived.Deep.OwnRows
set_option linter.unusedVariables false
namespace Go.Proofs.Qxb6603323a
open Go.RowKit Plain

theorem info4 : (Try.prog.info? 4).map (fun i => (i.zero, i.size, i.bytes)) = some (some (.bool false), 1, 1) := by kernel_rfl

theorem own_row {w : World} {base g n : Nat} {e : TypeId} {z : Value} (h : w.ownsRow base e 1 (.slice (some ⟨g, 0, none⟩) n n) n (madeCells #[z] n).toList) : w.rowIs g e n (fun _ => z) := by
  obtain ⟨cur, hcur, hsz, hl⟩ := own_block h
  rw [Nat.mul_one] at hsz
  refine ⟨cur, hcur, hsz, fun i hi => ?_⟩
  rw [← Array.getElem?_toList, hl, toList_madeCells_one]
  simp [hi]

theorem row_begin {wr : World} {B n k : Nat} {L H : Nat → Int} (h : wr.rowIs B 4 n (fun x => .bool (cov L H k x))) (o : Obj) :
    (wr.alloc o).rowIs B 4 n (fun x => .bool (cov L H k x || (decide (L k ≤ (x : Int)) && decide ((x : Int) < L k)))) := by
  refine (h.alloc o).congr fun x _ => ?_
  have : (decide (L k ≤ (x : Int)) && decide ((x : Int) < L k)) = false := by
    rw [Bool.eq_false_iff]; simp
  rw [this, Bool.or_false]

theorem row_mark {wi : World} {B n k jn : Nat} {L H : Nat → Int} (h : wi.rowIs B 4 n (fun x => .bool (cov L H k x || (decide (L k ≤ (x : Int)) && decide ((x : Int) < (jn : Int)))))) (hl : L k ≤ (jn : Int)) :
    (wi.setCell ⟨B, jn, none⟩ (.bool true)).rowIs B 4 n (fun x => .bool (cov L H k x || (decide (L k ≤ (x : Int)) && decide ((x : Int) < (jn : Int) + 1)))) := by
  refine (h.set jn (.bool true)).congr fun x _ => ?_
  by_cases e : x = jn
  · subst e
    have : (decide (L k ≤ (x : Int)) && decide ((x : Int) < (x : Int) + 1)) = true := by simp; omega
    simp [this]
  · have : decide ((x : Int) < (jn : Int) + 1) = decide ((x : Int) < (jn : Int)) := decide_eq_decide.2 (by omega)
    simp only [if_neg e, this]

theorem row_done {wi : World} {B n k : Nat} {j : Int} {L H : Nat → Int} (h : wi.rowIs B 4 n (fun x => .bool (cov L H k x || (decide (L k ≤ (x : Int)) && decide ((x : Int) < j))))) (hj : j = L k ∨ (L k < j ∧ j ≤ H k)) (hge : H k ≤ j) :
    wi.rowIs B 4 n (fun x => .bool (cov L H (k + 1) x)) := by
  refine h.congr fun x _ => ?_
  have : (decide (L k ≤ (x : Int)) && decide ((x : Int) < j)) = (decide (L k ≤ (x : Int)) && decide ((x : Int) < H k)) := by
    rw [Bool.eq_iff_iff]; simp; omega
  simp only [cov, this]

theorem keep_cells {C : Nat → Bool} {text : ByteArray} {M : List UInt8} {k : Nat} (hk : k < text.size) (h : C k = false) :
    Lib.byteCells (out C text.data.toList M (k + 1)) = Lib.byteCells (out C text.data.toList M k) ++ [.int .u8 (text[k]'hk).toNat] := by
  rw [out_keep h, Lib.byteCells_append]
  have : text.data.toList.getD k 0 = text[k]'hk := by
    rw [List.getD_eq_getElem?_getD, List.getElem?_eq_getElem (by simpa using hk)]; rfl
  rw [this]; rfl

theorem mark_cells {C : Nat → Bool} {T : List UInt8} {mark : ByteArray} {k : Nat} (h : C k = true) (h' : k = 0 ∨ C (k - 1) = false) :
    Lib.byteCells (out C T mark.data.toList (k + 1)) = Lib.byteCells (out C T mark.data.toList k) ++ Lib.strCells mark := by
  rw [out_mark h h', Lib.byteCells_append]; rfl

theorem len_bd {C : Nat → Bool} {T : List UInt8} {mark : ByteArray} {k : Nat} (hk : k ≤ 65536) (hm : mark.size ≤ 4096) : (Lib.byteCells (out C T mark.data.toList k)).length ≤ 268500992 := by
  rw [Lib.byteCells_length]
  refine Nat.le_trans (out_le C T _ k) ?_
  have e : mark.data.toList.length = mark.size := by simp
  rw [e]
  exact Nat.le_trans (Nat.mul_le_mul hk (Nat.add_le_add_right hm 1)) (by omega)

set_option maxHeartbeats 4000000 in
theorem replace_any (text mark : ByteArray) (a : Option Addr) (len cap : Nat) (L H : Nat → Int) (w : World) (hlen : len ≤ 65536) (ht : text.size ≤ 65536) (hm : mark.size ≤ 4096)
    (hin : ∀ i, i < len → L i < H i → 0 ≤ L i ∧ H i ≤ text.size) (hs : SpansAt w a len L H) :
    Calls Try.prog 22 #[.string text, .slice a len cap, .string mark] w fun e w' => e = .returned (.string ⟨(out (cov L H len) text.data.toList mark.data.toList text.size).toArray⟩) ∧ Below w.heap.size w w' := by
  obtain ⟨i0, hi, hz0, hz1, hz2⟩ := info_parts info4
  go_enter Try.func22, Try.ntmps22
  go_wp2_with (at_make; refine wpList_make_full _ rfl _ _ 42 rfl w.heap.size 4 i0 _ 1 Try.underlying42 hi hz0 hz1 .i64 .i64 _ _ text.size rfl rfl rfl rfl (by rw [hz2]; omega) (by unfold maxLen; omega) (Nat.le_refl _) ?_)
  intro w1 hown hgrow
  have hb1 : Below w.heap.size w w1 := (Below.refl _ _).grown hgrow (Nat.le_refl _) (fun k hk => by cases hk)
  have hR1 : w1.rowIs w.heap.size 4 text.size (fun _ => .bool false) := own_row hown
  clear hown hgrow hi hz0 hz1 hz2
  go_wp2
  go_loopw [18] (fun i wr => ∃ k : Nat, k ≤ len ∧ i = .int .i64 k ∧ wr.rowIs w.heap.size 4 text.size (fun x => .bool (cov L H k x)) ∧ Below w.heap.size w wr) (fun i _ => len - (intOf i).toNat)
  case atStart => exact ⟨0, Nat.zero_le _, rfl, hR1, hb1⟩
  case round =>
    revert wr
    intro wo hrel
    obtain ⟨k, hk, rfl, hR, hb⟩ := hrel
    clear hR1 hb1
    by_cases hlt : k < len
    · rcases hs with h0 | ⟨b, off, rfl, hc⟩
      · omega
      obtain ⟨g1, g2⟩ := hc k hlt
      have hbl := World.block_lt_of_cell? w _ g1
      have h1 := (hb.cell (p := ⟨b, off + k * 2, none⟩) hbl).trans g1
      have h2 := (hb.cell (p := ⟨b, off + k * 2 + 1, none⟩) hbl).trans g2
      have hki : (k : Int) < (len : Int) := by omega
      have hBr := hR.lt
      have hR0 := row_begin hR (.cells #[.int .i64 (L k), .int .i64 (H k)] 48)
      have hb0 := hb.alloc (Nat.le_of_lt hBr) (.cells #[.int .i64 (L k), .int .i64 (H k)] 48)
      have hin1 := hin k hlt
      clear hc g1 g2 hbl hR hb hin
      go_wp2
      go_loopw [10] (fun i wi => ∃ j : Int, (j = L k ∨ (L k < j ∧ j ≤ H k)) ∧ i = .int .i64 j ∧ wi.rowIs w.heap.size 4 text.size (fun x => .bool (cov L H k x || (decide (L k ≤ (x : Int)) && decide ((x : Int) < j)))) ∧ Below w.heap.size w wi ∧ wi.cell? ⟨wo.heap.size, 1, none⟩ = some (.int .i64 (H k))) (fun i _ => (H k - intOf i).toNat)
      case atStart => exact ⟨L k, .inl rfl, rfl, hR0, hb0, by simp⟩
      case round =>
        obtain ⟨j, hjb, rfl, hRi, hbi, hcH⟩ := hrel
        clear hR0 hb0 h1 h2
        by_cases hj : j < H k
        · have hLH : L k < H k := by omega
          have hin2 := hin1 hLH
          clear hin1
          obtain ⟨jn, rfl⟩ := Int.eq_ofNat_of_zero_le (show 0 ≤ j by omega)
          have hjt : jn < text.size := by omega
          obtain ⟨v, hv⟩ : ∃ v, wr.cell? ⟨w.heap.size, jn, none⟩ = some v := ⟨_, hRi.cell hjt⟩
          have hf := hRi.frozen jn
          have hRn := row_mark hRi (by omega)
          have hbn := hbi.setCell (p := ⟨w.heap.size, jn, none⟩) (Nat.le_refl _) (.bool true)
          have hcn : (wr.setCell ⟨w.heap.size, jn, none⟩ (.bool true)).cell? ⟨wo.heap.size, 1, none⟩ = some (.int .i64 (H k)) := by
            rw [World.cell?_setCell_other _ _ _ _ (fun e => by injection e with e; omega)]; exact hcH
          clear hRi hbi
          go_wp2
          go_roundw
          case rel => exact ⟨(jn : Int) + 1, .inr ⟨by omega, by omega⟩, rfl, hRn, hbn, hcn⟩
          case measure => simp [intOf]; omega
        · have hRn := row_done hRi hjb (by omega)
          clear hRi hin1 hjb
          go_wp2
          go_roundw
          case rel => exact ⟨k + 1, by omega, by go_num, hRn, hbi⟩
          case measure => simp [intOf]; omega
    · have e : len = k := by omega
      subst e
      clear hs hin hlt hk
      have hBr := hR.lt
      go_wp2
      go_loopw [12] (fun i wt => ∃ k : Nat, k ≤ text.size ∧ i = .int .i64 k ∧ Lib.IsBuilder 51 5 wo.heap.size wo.heap.size (Lib.byteCells (out (cov L H len) text.data.toList mark.data.toList k)) wt ∧ Below wo.heap.size wo wt) (fun i _ => text.size - (intOf i).toNat)
      case atStart => exact ⟨0, Nat.zero_le _, rfl, Lib.fresh_isBuilder 51 5 wo, (Below.refl _ _).alloc (Nat.le_refl _) _⟩
      case round =>
        obtain ⟨k, hk, rfl, hI, hbt⟩ := hrel
        have hsz := hbt.size
        have hlb := len_bd (C := cov L H len) (T := text.data.toList) (mark := mark) (k := k) (by omega) hm
        by_cases hkt : k < text.size
        · have hcell := (hbt.cell (p := ⟨w.heap.size, k, none⟩) hBr).trans (hR.cell hkt)
          have hki : (k : Int) < (text.size : Int) := by omega
          cases hCk : cov L H len k with
          | false =>
            rw [hCk] at hcell
            have HK : Hid (Lib.byteCells (out (cov L H len) text.data.toList mark.data.toList (k + 1)) = Lib.byteCells (out (cov L H len) text.data.toList mark.data.toList k) ++ [.int .u8 (text[k]'hkt).toNat]) := keep_cells hkt hCk
            clear hCk hR hb
            go_wp2_with (go_at_call 26; refine (writeByte_any wo.heap.size wo.heap.size _ _ _ hI (by omega) (by omega)).mono ?_; rintro e w' ⟨rfl, hI', hb'⟩)
            go_roundw
            case rel => exact ⟨k + 1, by omega, by go_num, by rw [HK.out]; exact hI', hbt.trans hb'⟩
            case measure => simp [intOf]; omega
          | true =>
            rw [hCk] at hcell
            by_cases hk0 : k = 0
            · subst hk0
              have HK : Hid (Lib.byteCells (out (cov L H len) text.data.toList mark.data.toList (0 + 1)) = Lib.byteCells (out (cov L H len) text.data.toList mark.data.toList 0) ++ Lib.strCells mark) := mark_cells hCk (.inl rfl)
              clear hCk hR hb
              go_wp2_with (go_at_call 27; refine (writeString_any wo.heap.size wo.heap.size _ _ _ hI (by omega) (by omega)).mono ?_; rintro e w' ⟨rfl, hI', hb'⟩)
              go_roundw
              case rel => exact ⟨0 + 1, by omega, by go_num, by rw [HK.out]; exact hI', hbt.trans hb'⟩
              case measure => simp [intOf]; omega
            · have hprev := (hbt.cell (p := ⟨w.heap.size, k - 1, none⟩) hBr).trans (hR.cell (show k - 1 < text.size by omega))
              have hk1 : 1 ≤ k := by omega
              have hke : ((k : Int) == 0) = false := by simp; omega
              cases hCp : cov L H len (k - 1) with
              | false =>
                rw [hCp] at hprev
                have HK : Hid (Lib.byteCells (out (cov L H len) text.data.toList mark.data.toList (k + 1)) = Lib.byteCells (out (cov L H len) text.data.toList mark.data.toList k) ++ Lib.strCells mark) := mark_cells hCk (.inr hCp)
                clear hCk hCp hR hb
                go_wp2_with (go_at_call 27; refine (writeString_any wo.heap.size wo.heap.size _ _ _ hI (by omega) (by omega)).mono ?_; rintro e w' ⟨rfl, hI', hb'⟩)
                go_roundw
                case rel => exact ⟨k + 1, by omega, by go_num, by rw [HK.out]; exact hI', hbt.trans hb'⟩
                case measure => simp [intOf]; omega
              | true =>
                rw [hCp] at hprev
                have HK : Hid (out (cov L H len) text.data.toList mark.data.toList (k + 1) = out (cov L H len) text.data.toList mark.data.toList k) := out_skip hCk hk0 hCp
                clear hCk hCp hR hb
                go_wp2
                go_roundw
                case rel => exact ⟨k + 1, by omega, by go_num, by rw [HK.out]; exact hI, hbt⟩
                case measure => simp [intOf]; omega
        · have e : k = text.size := by omega
          subst e
          clear hkt hk hR
          go_wp2_with (go_at_call 28; refine (Try.Builder_String_any wo.heap.size wo.heap.size _ _ hI (by omega)).mono ?_; rintro e w' ⟨rfl, hb'⟩)
          go_ret
          exact ⟨rfl, hb.trans ((hbt.trans hb').mono (Nat.le_of_lt hBr))⟩

end Go.Proofs.Qxb6603323a
