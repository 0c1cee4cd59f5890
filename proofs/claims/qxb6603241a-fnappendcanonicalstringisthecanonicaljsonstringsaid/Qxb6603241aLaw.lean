import Derived.Test.Qxb6603241aDec
import Derived.Deep.QuietTactic
import Derived.BigQuiet
set_option linter.unusedVariables false
namespace Go.Proofs.Qxb6603241a
open Go.RowKit Plain

set_option maxHeartbeats 1000000 in
theorem bytes3_any (s : ByteArray) (a : Option Addr) (len cap : Nat) (w : World) (hs : s.size ≤ maxLen) (hl : len ≤ maxLen) :
    Calls Try.prog 5 #[.slice a len cap, .string s] w fun e w' => ∃ r : Bool, e = .returned (.bool r) ∧ w = w' := by
  unfold maxLen at hs hl
  go_enter Try.func5, Try.ntmps5
  go_wp2
  all_goals (go_ret; exact ⟨_, rfl, rfl⟩)

/-- The answer, its length under a name. -/
theorem app_named3 (s : ByteArray) (a : Option Addr) (zs : List Int) (w : World) (hz : zs.length ≤ 1048576) (hs : s.size ≤ 1048576) (hn : a = none → zs.length = 0) (hb : BytesAt w a zs) :
    Calls Try.prog 7 #[.slice a zs.length zs.length, .string s] w fun e w' => ∃ g cap n, e = .returned (.slice (some ⟨g, 0, none⟩) n cap) ∧ Hid (n = (full zs s.data.toList).length) ∧ Answer w' g cap (full zs s.data.toList) ∧ Below w.heap.size w w' := by
  refine (app_any s a zs w hz hs hn hb).mono ?_
  rintro e w' ⟨g, cap, rfl, h1, h2⟩
  exact ⟨g, cap, _, rfl, rfl, h1, h2⟩

/-! ### Where the parts of the answer lie -/
theorem full_head (zs : List Int) (s : List UInt8) (i : Nat) (h : i < zs.length) : (full zs s).getD i 0 = zs.getD i 0 := by
  have e : full zs s = zs ++ ((34 :: enc s) ++ [34]) := by simp [full]
  rw [e]
  simp only [List.getD_eq_getElem?_getD, List.getElem?_append_left h]
theorem full_tail (zs : List Int) (s : List UInt8) (i : Nat) : (full zs s).getD (zs.length + i) 0 = ((34 :: enc s) ++ [34]).getD i 0 := by
  have e : full zs s = zs ++ ((34 :: enc s) ++ [34]) := by simp [full]
  rw [e]
  simp only [List.getD_eq_getElem?_getD]
  rw [List.getElem?_append_right (by omega), Nat.add_sub_cancel_left]
theorem full_quote (zs : List Int) (s : List UInt8) : (full zs s).getD zs.length 0 = 34 := by
  have := full_tail zs s 0
  rw [Nat.add_zero] at this
  rw [this]; rfl
theorem full_mid (zs : List Int) (s : List UInt8) (i : Nat) (h : i < (enc s).length) : (full zs s).getD (zs.length + 1 + i) 0 = (enc s).getD i 0 := by
  have := full_tail zs s (i + 1)
  have e : zs.length + (i + 1) = zs.length + 1 + i := by omega
  rw [e] at this
  rw [this]
  simp only [List.getD_eq_getElem?_getD, List.cons_append, List.getElem?_cons_succ]
  rw [List.getElem?_append_left h]
theorem full_last (zs : List Int) (s : List UInt8) : (full zs s).getD (zs.length + ((enc s).length + 1)) 0 = 34 := by
  rw [full_tail]
  simp only [List.getD_eq_getElem?_getD, List.cons_append, List.getElem?_cons_succ]
  rw [List.getElem?_append_right (by omega)]; simp

set_option maxHeartbeats 4000000 in
theorem law_any (s : ByteArray) (a : Option Addr) (cap : Nat) (xs : List Int) (w : World) (hs : s.size ≤ maxLen) (hl : xs.length ≤ maxLen)
    (hn : a = none → xs.length = 0 ∧ cap = 0) (hb : BytesAt w a xs) :
    Calls Try.prog 3 #[.slice a xs.length cap, .string s] w fun e w' => e = .returned (.bool true) ∧ Below w.heap.size w w' := by
  have hbytes := fun W => bytes3_any s a xs.length cap W hs hl
  unfold maxLen at hs hl
  by_cases htot : xs.length + s.size ≤ 1048576
  · go_enter Try.func3, Try.ntmps3
    go_wp2_with (go_at_call 5; refine (hbytes _).mono ?_; rintro e w' ⟨r, rfl, rfl⟩; cases r)
    · go_ret
      exact ⟨rfl, Below.refl _ _⟩
    · refine (clone_any a cap xs w (by omega) hn hb).mono ?_
      rintro e w1 ⟨a1, rfl, hn1, hb1, bl1⟩
      clear hbytes hn hb
      go_wp2_with fail
      refine (app_named3 s a1 xs w1 (by omega) (by omega) hn1 hb1).mono ?_
      rintro e w2 ⟨gO, cO, nO, rfl, HO, ansO, bl2⟩
      have hb2 := hb1.below bl2 (Nat.le_refl _)
      have bl : Below w.heap.size w w2 := bl1.trans (bl2.mono bl1.size)
      obtain ⟨N, hN⟩ : ∃ N, N = (enc s.data.toList).length := ⟨_, rfl⟩
      have hO1 : xs.length + N + 2 ≤ nO := by rw [HO.out, full_len, hN]; omega
      have hO2 : nO ≤ xs.length + N + 2 := by rw [HO.out, full_len, hN]; omega
      have hNb : N ≤ 6291456 := by
        have := enc_len s.data.toList
        have h2 : s.data.toList.length = s.size := by simp
        omega
      have hcap : nO ≤ cO := by rw [HO.out]; exact ansO.1
      have hcm := ansO.2.1
      unfold maxLen at hcm
      have HN : Hid (N = (enc s.data.toList).length) := hN
      clear hN
      have hq0 : w2.cell? ⟨gO, xs.length, none⟩ = some (.int .u8 34) := by
        rw [ansO.2.2 xs.length (by rw [full_len]; omega), full_quote]
      have hql : w2.cell? ⟨gO, xs.length + (nO - xs.length - 1), none⟩ = some (.int .u8 34) := by
        have e : xs.length + (nO - xs.length - 1) = xs.length + ((enc s.data.toList).length + 1) := by rw [← HN.out]; omega
        rw [e, ansO.2.2 _ (by rw [full_len]; omega), full_last]
      have hmid : ∀ i, i < N → w2.cell? ⟨gO, xs.length + 1 + i, none⟩ = some (.int .u8 ((enc s.data.toList).getD i 0)) := fun i hi => by
        have h := HN.out
        rw [ansO.2.2 _ (by rw [full_len]; omega), full_mid _ _ _ (by omega)]
      have hhead : ∀ i, i < xs.length → w2.cell? ⟨gO, i, none⟩ = some (.int .u8 (xs.getD i 0)) := fun i hi => by
        rw [ansO.2.2 _ (by rw [full_len]; omega), full_head _ _ _ hi]
      clear ansO hb1 bl1 bl2 HO
      have hD := fun W (h0 : W.cell? ⟨gO, xs.length, none⟩ = some (.int .u8 34)) h1 h2 => dec_named s gO xs.length N (nO - xs.length) (cO - xs.length) W (by omega) HN (by omega) (by omega) (by omega) (by unfold maxLen; omega) h0 h1 h2
      have hboth : ∀ k, k < xs.length → ∃ b off x, a1 = some ⟨b, off, none⟩ ∧ w2.cell? ⟨gO, k, none⟩ = some (.int .u8 x) ∧ w2.cell? ⟨b, off + k, none⟩ = some (.int .u8 x) := fun k hk => by
        rcases hb2 with h0 | ⟨b, off, ha, hc⟩
        · subst h0; simp at hk
        · exact ⟨b, off, _, ha, hhead k hk, hc k hk⟩
      have hDq : ∀ q, Calls Try.prog 8 #[.slice (some ⟨gO, xs.length, none⟩) (nO - xs.length) (cO - xs.length), .string s] (w2.drewN q) fun e w' => e = .returned (.bool true) ∧ w2.drewN q = w' := fun q => hD (w2.drewN q) hq0 hql hmid
      clear hhead hD hb2 hq0 hql hmid HN hn1
      go_wp2
      go_loopw [6] (fun i wr => ∃ k : Nat, k ≤ xs.length ∧ i = .int .i64 k ∧ ∃ q, wr = w2.drewN q) (fun i _ => xs.length - (intOf i).toNat)
      case atStart => exact ⟨0, Nat.zero_le _, rfl, 0, rfl⟩
      case round =>
        obtain ⟨k, hk, rfl, q, rfl⟩ := hrel
        by_cases hlt : k < xs.length
        · obtain ⟨b, off, x, rfl, h1, h2⟩ := hboth k hlt
          clear hboth hDq
          have hkO : (k : Int) < (nO : Int) := by omega
          have hkX : (k : Int) < (xs.length : Int) := by omega
          go_wp2
          go_quiet (fail)
          go_wp2
          go_roundw
          case rel => exact ⟨k + 1, by omega, by go_num, _, rfl⟩
          case measure => simp [intOf]; omega
        · clear hboth
          go_wp2_with (go_at_call 8; refine (hDq _).mono ?_; rintro e w' ⟨rfl, rfl⟩)
          go_ret
          exact ⟨rfl, bl.trans ⟨rfl, rfl, rfl, Nat.le_refl _, fun _ _ => rfl⟩⟩
  · go_enter Try.func3, Try.ntmps3
    go_wp2_with (go_at_call 5; refine (hbytes _).mono ?_; rintro e w' ⟨r, rfl, rfl⟩; cases r)
    all_goals (go_ret; exact ⟨rfl, Below.refl _ _⟩)

end Go.Proofs.Qxb6603241a
