import Derived.Test.Qxb6603241aClone
import Derived.Deep.QuietTactic
import Derived.BigQuiet
set_option linter.unusedVariables false
namespace Go.Proofs.Qxb6603241a
open Go.RowKit Plain

theorem app_named (s : ByteArray) (a : Option Addr) (zs : List Int) (w : World) (hz : zs.length ≤ 1048576) (hs : s.size ≤ 1048576) (hn : a = none → zs.length = 0) (hb : BytesAt w a zs) :
    Calls Try.prog 7 #[.slice a zs.length zs.length, .string s] w fun e w' => ∃ g cap n, e = .returned (.slice (some ⟨g, 0, none⟩) n cap) ∧ Hid (n = (full zs s.data.toList).length) ∧ Answer w' g cap (full zs s.data.toList) ∧ Below w.heap.size w w' := by
  refine (app_any s a zs w hz hs hn hb).mono ?_
  rintro e w' ⟨g, cap, rfl, h1, h2⟩
  exact ⟨g, cap, _, rfl, rfl, h1, h2⟩

/-! ### The plain law of the split -/
theorem data_append (s t : ByteArray) : (s ++ t).data.toList = s.data.toList ++ t.data.toList := by simp

theorem getD_left (A B C : List Int) (i : Nat) (h : i < A.length) : (A ++ B).getD i 0 = (A ++ C).getD i 0 := by
  simp only [List.getD_eq_getElem?_getD, List.getElem?_append_left h]

theorem getD_right (A B A' : List Int) (i j : Nat) (h : A.length ≤ i) (h' : A'.length ≤ j) (e : i - A.length = j - A'.length) : (A ++ B).getD i 0 = (A' ++ B).getD j 0 := by
  simp only [List.getD_eq_getElem?_getD, List.getElem?_append_right h, List.getElem?_append_right h', e]

theorem split_left (zs : List Int) (s t : List UInt8) (i : Nat) (h : i + 1 < (full zs s).length) : (full zs (s ++ t)).getD i 0 = (full zs s).getD i 0 := by
  have hl := full_len zs s
  have e1 : full zs (s ++ t) = (zs ++ (34 :: enc s)) ++ (enc t ++ [34]) := by simp [full, enc_append]
  rw [e1]
  exact getD_left _ _ _ i (by simp; omega)

theorem split_right (zs : List Int) (s t : List UInt8) (j : Nat) (h1 : 1 ≤ j) : (full zs (s ++ t)).getD ((full zs s).length - 1 + j - 1) 0 = (full [] t).getD j 0 := by
  have hl := full_len zs s
  have e1 : full zs (s ++ t) = (zs ++ (34 :: enc s)) ++ (enc t ++ [34]) := by simp [full, enc_append]
  have e2 : full [] t = [34] ++ (enc t ++ [34]) := by simp [full]
  have h2 : (zs ++ (34 :: enc s)).length = zs.length + (enc s).length + 1 := by simp; omega
  have h3 : ([34] : List Int).length = 1 := rfl
  rw [e1, e2]
  exact getD_right _ _ _ _ _ (by omega) (by omega) (by omega)

theorem split_len (zs : List Int) (s t : List UInt8) : (full zs (s ++ t)).length + 2 = (full zs s).length + (full [] t).length := by
  rw [full_len, full_len, full_len, enc_append, List.length_append]; simp; omega

set_option maxHeartbeats 1000000 in
theorem bytes4_any (s t : ByteArray) (a : Option Addr) (len cap : Nat) (w : World) (hs : s.size ≤ maxLen) (ht : t.size ≤ maxLen) (hl : len ≤ maxLen) :
    Calls Try.prog 9 #[.slice a len cap, .string s, .string t] w fun e w' => ∃ r : Bool, e = .returned (.bool r) ∧ w = w' := by
  unfold maxLen at hs ht hl
  go_enter Try.func9, Try.ntmps9
  go_wp2
  all_goals (go_ret; exact ⟨_, rfl, rfl⟩)

set_option maxHeartbeats 4000000 in
theorem split_any (s t : ByteArray) (a : Option Addr) (cap : Nat) (xs : List Int) (w : World) (hs : s.size ≤ maxLen) (ht : t.size ≤ maxLen) (hl : xs.length ≤ maxLen)
    (hn : a = none → xs.length = 0 ∧ cap = 0) (hb : BytesAt w a xs) :
    Calls Try.prog 4 #[.slice a xs.length cap, .string s, .string t] w fun e w' => e = .returned (.bool true) ∧ Below w.heap.size w w' := by
  have hbytes := fun W => bytes4_any s t a xs.length cap W hs ht hl
  unfold maxLen at hs ht hl
  by_cases htot : xs.length + s.size + t.size ≤ 1048576
  · go_enter Try.func4, Try.ntmps4
    go_wp2_with (go_at_call 9; refine (hbytes _).mono ?_; rintro e w' ⟨r, rfl, rfl⟩; cases r)
    · go_ret
      exact ⟨rfl, Below.refl _ _⟩
    · refine (clone_any a cap xs w (by omega) hn hb).mono ?_
      rintro e w1 ⟨a1, rfl, hn1, hb1, bl1⟩
      clear hbytes hn hb
      go_wp2_with fail
      refine (app_named (s ++ t) a1 xs w1 (by omega) (by simp; omega) hn1 hb1).mono ?_
      rintro e w2 ⟨gW, cW, nW, rfl, HW, ansW, bl2⟩
      have hb2 := hb1.below bl2 (Nat.le_refl _)
      go_wp2_with fail
      refine (app_named s a1 xs w2 (by omega) (by omega) hn1 hb2).mono ?_
      rintro e w3 ⟨gL, cL, nL, rfl, HL, ansL, bl3⟩
      clear hb1 hb2 hn1
      go_wp2_with fail
      refine (app_named t none [] w3 (by simp) (by omega) (fun _ => rfl) (.inl rfl)).mono ?_
      rintro e w4 ⟨gR, cR, nR, rfl, HR, ansR, bl4⟩
      have ansW4 := (ansW.below bl3 (Nat.le_refl _)).below bl4 (Nat.le_refl _)
      have ansL4 := ansL.below bl4 (Nat.le_refl _)
      have bl : Below w.heap.size w w4 := bl1.trans ((bl2.trans ((bl3.trans (bl4.mono bl3.size)).mono bl2.size)).mono bl1.size)
      clear ansW ansL bl1 bl2 bl3 bl4
      have hsum : nW + 2 = nL + nR := by
        rw [HW.out, HL.out, HR.out, data_append]; exact split_len xs _ _
      have hL2 : 2 ≤ nL := by rw [HL.out, full_len]; omega
      have hR2 : 2 ≤ nR := by rw [HR.out, full_len]; omega
      have hWb : nW ≤ 8388608 := by
        have := enc_len (s ++ t).data.toList
        have h2 : (s ++ t).data.toList.length = s.size + t.size := by simp
        rw [HW.out, full_len]; omega
      have s1 : nW + 2 ≤ nL + nR := by omega
      have s2 : nL + nR ≤ nW + 2 := by omega
      clear hsum
      have hWL : ∀ k, k + 1 < nL → ∃ x, w4.cell? ⟨gW, k, none⟩ = some (.int .u8 x) ∧ w4.cell? ⟨gL, k, none⟩ = some (.int .u8 x) := fun k hk => by
        have h1 := HL.out
        have h2 := HW.out
        refine ⟨_, ansW4.2.2 k (by omega), ?_⟩
        rw [ansL4.2.2 k (by omega), data_append, split_left xs _ _ k (by omega)]
      have hWR : ∀ k, 1 ≤ k → k < nR → ∃ x, w4.cell? ⟨gW, nL - 1 + k - 1, none⟩ = some (.int .u8 x) ∧ w4.cell? ⟨gR, k, none⟩ = some (.int .u8 x) := fun k hk1 hk => by
        have h1 := HL.out
        have h2 := HW.out
        have h3 := HR.out
        refine ⟨_, ansW4.2.2 (nL - 1 + k - 1) (by omega), ?_⟩
        rw [ansR.2.2 k (by omega), data_append]
        rw [h1, split_right xs _ _ k hk1]
      clear ansW4 ansL4 ansR HW HL HR
      go_wp2
      go_loopw [11] (fun i wr => ∃ k : Nat, k + 1 ≤ nL ∧ i = .int .i64 k ∧ ∃ q, wr = w4.drewN q) (fun i _ => nL - (intOf i).toNat)
      case atStart => exact ⟨0, by omega, rfl, 0, rfl⟩
      case round =>
        obtain ⟨k, hk, rfl, q, rfl⟩ := hrel
        by_cases hlt : k + 1 < nL
        · obtain ⟨x, h1, h2⟩ := hWL k hlt
          clear hWL hWR
          have hkW : (k : Int) < (nW : Int) := by omega
          have hkL : (k : Int) < (nL : Int) := by omega
          go_wp2
          go_quiet (fail)
          go_wp2
          go_roundw
          case rel => exact ⟨k + 1, by omega, by go_num, _, rfl⟩
          case measure => simp [intOf]; omega
        · clear hWL
          go_wp2
          go_loopw [12] (fun i wr => ∃ k : Nat, 1 ≤ k ∧ k ≤ nR ∧ i = .int .i64 k ∧ ∃ q, wr = w4.drewN q) (fun i _ => nR - (intOf i).toNat)
          case atStart => exact ⟨1, by omega, by omega, rfl, q, rfl⟩
          case round =>
            obtain ⟨j, hj1, hj, rfl, q', rfl⟩ := hrel
            by_cases hjl : j < nR
            · obtain ⟨x, h1, h2⟩ := hWR j hj1 hjl
              clear hWR
              have hjW : (nL : Int) - 1 + (j : Int) - 1 < (nW : Int) := by omega
              have hjR : (j : Int) < (nR : Int) := by omega
              go_wp2
              go_quiet (fail)
              go_wp2
              go_roundw
              case rel => exact ⟨j + 1, by omega, by omega, by go_num, _, rfl⟩
              case measure => simp [intOf]; omega
            · clear hWR
              go_wp2
              go_ret
              exact ⟨rfl, bl.trans ⟨rfl, rfl, rfl, Nat.le_refl _, fun _ _ => rfl⟩⟩
  · go_enter Try.func4, Try.ntmps4
    go_wp2_with (go_at_call 9; refine (hbytes _).mono ?_; rintro e w' ⟨r, rfl, rfl⟩; cases r)
    all_goals (go_ret; exact ⟨rfl, Below.refl _ _⟩)

end Go.Proofs.Qxb6603241a
