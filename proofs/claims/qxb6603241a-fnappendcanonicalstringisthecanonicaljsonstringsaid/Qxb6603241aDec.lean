import Derived.Test.Qxb6603241aClone
set_option linter.unusedVariables false
namespace Go.Proofs.Qxb6603241a
open Go.RowKit Plain

set_option maxHeartbeats 400000 in
theorem lower_digit (c : Int) (w : World) (h0 : 48 ≤ c) (h1 : c ≤ 57) : Calls Try.prog 11 #[.int .u8 c] w fun e w' => e = .returned (.int .i64 (c - 48)) ∧ w = w' := by
  go_enter Try.func11, Try.ntmps11
  go_wp2
  go_ret
  exact ⟨rfl, rfl⟩

set_option maxHeartbeats 400000 in
theorem lower_alpha (c : Int) (w : World) (h0 : 97 ≤ c) (h1 : c ≤ 102) : Calls Try.prog 11 #[.int .u8 c] w fun e w' => e = .returned (.int .i64 (c - 97 + 10)) ∧ w = w' := by
  go_enter Try.func11, Try.ntmps11
  go_wp2
  go_ret
  exact ⟨rfl, rfl⟩

theorem lower_hex (n : Nat) (w : World) (hn : n < 16) : Calls Try.prog 11 #[.int .u8 (hexd n)] w fun e w' => e = .returned (.int .i64 n) ∧ w = w' := by
  unfold hexd
  split
  · refine (lower_digit _ w (by omega) (by omega)).mono ?_
    rintro e w' ⟨rfl, rfl⟩
    exact ⟨by congr 2; omega, rfl⟩
  · refine (lower_alpha _ w (by omega) (by omega)).mono ?_
    rintro e w' ⟨rfl, rfl⟩
    exact ⟨by congr 2; omega, rfl⟩

set_option maxHeartbeats 400000 in
theorem no_short (c : Int) (w : World) (h8 : (c == 8) = false) (h9 : (c == 9) = false) (h10 : (c == 10) = false) (h12 : (c == 12) = false) (h13 : (c == 13) = false) :
    Calls Try.prog 12 #[.int .u8 c] w fun e w' => e = .returned (.bool false) ∧ w = w' := by
  go_enter Try.func12, Try.ntmps12
  go_wp2
  go_ret
  exact ⟨rfl, rfl⟩

/-! ### Where the bytes of one step lie -/
theorem body_at (s : List UInt8) (k : Nat) (h : k < s.length) : (enc (s.take k)).length + (e1 (s[k]).toNat).length ≤ (enc s).length ∧
    ∀ t, t < (e1 (s[k]).toNat).length → (enc s).getD ((enc (s.take k)).length + t) 0 = (e1 (s[k]).toNat).getD t 0 := by
  have e : enc s = enc (s.take k) ++ (e1 (s[k]).toNat ++ enc (s.drop (k + 1))) := by
    have h1 : enc s = enc (s.take (k + 1)) ++ enc (s.drop (k + 1)) := by rw [← enc_append, List.take_append_drop]
    rw [h1, enc_take_succ s k h, List.append_assoc]
  constructor
  · have := congrArg List.length e
    simp only [List.length_append] at this
    omega
  · intro t ht
    rw [e]
    simp only [List.getD_eq_getElem?_getD]
    rw [List.getElem?_append_right (by omega), Nat.add_sub_cancel_left, List.getElem?_append_left ht]

theorem step_facts {s : ByteArray} {g off N iN k : Nat} {w : World} (hk : k < s.size) (HI : Hid (iN = (enc (s.data.toList.take k)).length)) (HN : Hid (N = (enc s.data.toList).length))
    (hmid : ∀ i, i < N → w.cell? ⟨g, off + 1 + i, none⟩ = some (.int .u8 ((enc s.data.toList).getD i 0))) {l : List Int} (he : e1 (s[k]'hk).toNat = l) :
    iN + l.length ≤ N ∧ (∀ t, t < l.length → w.cell? ⟨g, off + 1 + (iN + t), none⟩ = some (.int .u8 (l.getD t 0))) ∧ Hid (iN + l.length = (enc (s.data.toList.take (k + 1))).length) := by
  have hk' : k < s.data.toList.length := by simpa using hk
  have e : e1 (s.data.toList[k]'hk').toNat = l := he
  obtain ⟨h1, h2⟩ := body_at s.data.toList k hk'
  have h3 := enc_take_succ s.data.toList k hk'
  rw [e] at h1 h2 h3
  have hI := HI.out
  have hN := HN.out
  refine ⟨by omega, fun t ht => ?_, ?_⟩
  · rw [hmid _ (by omega), hI, h2 t ht]
  · have : iN + l.length = (enc (s.data.toList.take (k + 1))).length := by rw [h3, List.length_append]; omega
    exact this

theorem last_fact {s : ByteArray} {N iN k : Nat} (hk : ¬ k < s.size) (HI : Hid (iN = (enc (s.data.toList.take k)).length)) (HN : Hid (N = (enc s.data.toList).length)) : iN = N := by
  have h : s.data.toList.take k = s.data.toList := List.take_of_length_le (by simp; omega)
  have hI := HI.out
  have hN := HN.out
  rw [h] at hI
  omega

set_option maxHeartbeats 20000000 in
set_option maxRecDepth 20000 in
theorem dec_named (s : ByteArray) (g off N M cap : Nat) (w : World) (hs : s.size ≤ 1048576) (HN : Hid (N = (enc s.data.toList).length)) (hM1 : N + 2 ≤ M) (hM2 : M ≤ N + 2) (hcap : M ≤ cap) (hcm : cap ≤ maxLen)
    (hq0 : w.cell? ⟨g, off, none⟩ = some (.int .u8 34)) (hql : w.cell? ⟨g, off + (M - 1), none⟩ = some (.int .u8 34))
    (hmid : ∀ i, i < N → w.cell? ⟨g, off + 1 + i, none⟩ = some (.int .u8 ((enc s.data.toList).getD i 0))) :
    Calls Try.prog 8 #[.slice (some ⟨g, off, none⟩) M cap, .string s] w fun e w' => e = .returned (.bool true) ∧ w = w' := by
  unfold maxLen at hcm
  have hNb : N ≤ 6291456 := by
    have := enc_len s.data.toList
    have h2 : s.data.toList.length = s.size := by simp
    rw [HN.out]; omega
  have hd : decide ((M : Int) < 2) = false := by simp; omega
  go_enter Try.func8, Try.ntmps8
  go_wp2
  go_loop [6, 7] (fun a i => ∃ k iN : Nat, k ≤ s.size ∧ Hid (iN = (enc (s.data.toList.take k)).length) ∧ a = .int .i64 k ∧ i = .int .i64 iN) (fun a _ => s.size - (intOf a).toNat)
  case atStart => exact ⟨0, 0, Nat.zero_le _, rfl, rfl, rfl⟩
  case round =>
    obtain ⟨k, iN, hk, HI, rfl, rfl⟩ := hrel
    by_cases hkl : k < s.size
    · have hki : (k : Int) < (s.size : Int) := by omega
      have hu : (s[k]'hkl).toNat < 256 := (s[k]'hkl).toNat_lt
      by_cases h34 : (s[k]'hkl).toNat = 34
      · obtain ⟨hle, hc, HX⟩ := step_facts hkl HI HN hmid (l := [92, 34]) (by rw [h34]; rfl)
        have c0 : w.cell? ⟨g, off + 1 + iN, none⟩ = some (.int .u8 92) := hc 0 (by simp)
        have c1 : w.cell? ⟨g, off + 1 + (iN + 1), none⟩ = some (.int .u8 34) := hc 1 (by simp)
        have hle2 : iN + 2 ≤ N := hle
        have hx : ((s[k]'hkl).toNat : Int) = 34 := by omega
        clear h34 hc hmid hle hq0 hql
        go_wp2
        go_round
        case rel => exact ⟨k + 1, iN + 2, by omega, HX, by go_num, by go_num⟩
        case measure => simp [intOf]; omega
      by_cases h92 : (s[k]'hkl).toNat = 92
      · obtain ⟨hle, hc, HX⟩ := step_facts hkl HI HN hmid (l := [92, 92]) (by rw [h92]; rfl)
        have c0 : w.cell? ⟨g, off + 1 + iN, none⟩ = some (.int .u8 92) := hc 0 (by simp)
        have c1 : w.cell? ⟨g, off + 1 + (iN + 1), none⟩ = some (.int .u8 92) := hc 1 (by simp)
        have hle2 : iN + 2 ≤ N := hle
        have hx : ((s[k]'hkl).toNat : Int) = 92 := by omega
        clear h92 hc hmid hle hq0 hql
        go_wp2
        go_round
        case rel => exact ⟨k + 1, iN + 2, by omega, HX, by go_num, by go_num⟩
        case measure => simp [intOf]; omega
      by_cases h8 : (s[k]'hkl).toNat = 8
      · obtain ⟨hle, hc, HX⟩ := step_facts hkl HI HN hmid (l := [92, 98]) (by rw [h8]; rfl)
        have c0 : w.cell? ⟨g, off + 1 + iN, none⟩ = some (.int .u8 92) := hc 0 (by simp)
        have c1 : w.cell? ⟨g, off + 1 + (iN + 1), none⟩ = some (.int .u8 98) := hc 1 (by simp)
        have hle2 : iN + 2 ≤ N := hle
        have hx : ((s[k]'hkl).toNat : Int) = 8 := by omega
        clear h8 hc hmid hle hq0 hql
        go_wp2
        go_round
        case rel => exact ⟨k + 1, iN + 2, by omega, HX, by go_num, by go_num⟩
        case measure => simp [intOf]; omega
      by_cases h9 : (s[k]'hkl).toNat = 9
      · obtain ⟨hle, hc, HX⟩ := step_facts hkl HI HN hmid (l := [92, 116]) (by rw [h9]; rfl)
        have c0 : w.cell? ⟨g, off + 1 + iN, none⟩ = some (.int .u8 92) := hc 0 (by simp)
        have c1 : w.cell? ⟨g, off + 1 + (iN + 1), none⟩ = some (.int .u8 116) := hc 1 (by simp)
        have hle2 : iN + 2 ≤ N := hle
        have hx : ((s[k]'hkl).toNat : Int) = 9 := by omega
        clear h9 hc hmid hle hq0 hql
        go_wp2
        go_round
        case rel => exact ⟨k + 1, iN + 2, by omega, HX, by go_num, by go_num⟩
        case measure => simp [intOf]; omega
      by_cases h10 : (s[k]'hkl).toNat = 10
      · obtain ⟨hle, hc, HX⟩ := step_facts hkl HI HN hmid (l := [92, 110]) (by rw [h10]; rfl)
        have c0 : w.cell? ⟨g, off + 1 + iN, none⟩ = some (.int .u8 92) := hc 0 (by simp)
        have c1 : w.cell? ⟨g, off + 1 + (iN + 1), none⟩ = some (.int .u8 110) := hc 1 (by simp)
        have hle2 : iN + 2 ≤ N := hle
        have hx : ((s[k]'hkl).toNat : Int) = 10 := by omega
        clear h10 hc hmid hle hq0 hql
        go_wp2
        go_round
        case rel => exact ⟨k + 1, iN + 2, by omega, HX, by go_num, by go_num⟩
        case measure => simp [intOf]; omega
      by_cases h12 : (s[k]'hkl).toNat = 12
      · obtain ⟨hle, hc, HX⟩ := step_facts hkl HI HN hmid (l := [92, 102]) (by rw [h12]; rfl)
        have c0 : w.cell? ⟨g, off + 1 + iN, none⟩ = some (.int .u8 92) := hc 0 (by simp)
        have c1 : w.cell? ⟨g, off + 1 + (iN + 1), none⟩ = some (.int .u8 102) := hc 1 (by simp)
        have hle2 : iN + 2 ≤ N := hle
        have hx : ((s[k]'hkl).toNat : Int) = 12 := by omega
        clear h12 hc hmid hle hq0 hql
        go_wp2
        go_round
        case rel => exact ⟨k + 1, iN + 2, by omega, HX, by go_num, by go_num⟩
        case measure => simp [intOf]; omega
      by_cases h13 : (s[k]'hkl).toNat = 13
      · obtain ⟨hle, hc, HX⟩ := step_facts hkl HI HN hmid (l := [92, 114]) (by rw [h13]; rfl)
        have c0 : w.cell? ⟨g, off + 1 + iN, none⟩ = some (.int .u8 92) := hc 0 (by simp)
        have c1 : w.cell? ⟨g, off + 1 + (iN + 1), none⟩ = some (.int .u8 114) := hc 1 (by simp)
        have hle2 : iN + 2 ≤ N := hle
        have hx : ((s[k]'hkl).toNat : Int) = 13 := by omega
        clear h13 hc hmid hle hq0 hql
        go_wp2
        go_round
        case rel => exact ⟨k + 1, iN + 2, by omega, HX, by go_num, by go_num⟩
        case measure => simp [intOf]; omega
      by_cases h32 : (s[k]'hkl).toNat < 32
      · obtain ⟨hv, hhv⟩ : ∃ n : Nat, n = (s[k]'hkl).toNat / 16 := ⟨_, rfl⟩
        obtain ⟨lv, hlv⟩ : ∃ n : Nat, n = (s[k]'hkl).toNat % 16 := ⟨_, rfl⟩
        obtain ⟨ha, hha⟩ : ∃ y : Int, y = hexd hv := ⟨_, rfl⟩
        obtain ⟨hl, hhl⟩ : ∃ y : Int, y = hexd lv := ⟨_, rfl⟩
        have hA : ∀ W, Calls Try.prog 11 #[.int .u8 ha] W fun e w' => e = .returned (.int .i64 hv) ∧ W = w' := fun W => by rw [hha]; exact lower_hex hv W (by omega)
        have hB : ∀ W, Calls Try.prog 11 #[.int .u8 hl] W fun e w' => e = .returned (.int .i64 lv) ∧ W = w' := fun W => by rw [hhl]; exact lower_hex lv W (by omega)
        obtain ⟨hle, hc, HX⟩ := step_facts hkl HI HN hmid (l := [92, 117, 48, 48, ha, hl]) (by rw [e1_u _ h32 h8 h9 h10 h12 h13, hha, hhl, hhv, hlv])
        have c0 : w.cell? ⟨g, off + 1 + iN, none⟩ = some (.int .u8 92) := hc 0 (by simp)
        have c1 : w.cell? ⟨g, off + 1 + (iN + 1), none⟩ = some (.int .u8 117) := hc 1 (by simp)
        have c2 : w.cell? ⟨g, off + 1 + (iN + 2), none⟩ = some (.int .u8 48) := hc 2 (by simp)
        have c3 : w.cell? ⟨g, off + 1 + (iN + 3), none⟩ = some (.int .u8 48) := hc 3 (by simp)
        have c4 : w.cell? ⟨g, off + 1 + (iN + 4), none⟩ = some (.int .u8 ha) := hc 4 (by simp)
        have c5 : w.cell? ⟨g, off + 1 + (iN + 5), none⟩ = some (.int .u8 hl) := hc 5 (by simp)
        have hle2 : iN + 6 ≤ N := hle
        have e1 : hv * 16 + lv ≤ (s[k]'hkl).toNat := by omega
        have e2 : (s[k]'hkl).toNat ≤ hv * 16 + lv := by omega
        have hne : (((s[k]'hkl).toNat : Int) != (hv : Int) * 16 + (lv : Int)) = false := by simp only [bne_eq_false_iff_eq]; omega
        have hv1 : hv < 2 := by omega
        have hl1 : lv < 16 := by omega
        have n8 : (((hv : Int) * 16 + (lv : Int)) == 8) = false := beq_false_of_ne (by omega)
        have n9 : (((hv : Int) * 16 + (lv : Int)) == 9) = false := beq_false_of_ne (by omega)
        have n10 : (((hv : Int) * 16 + (lv : Int)) == 10) = false := beq_false_of_ne (by omega)
        have n12 : (((hv : Int) * 16 + (lv : Int)) == 12) = false := beq_false_of_ne (by omega)
        have n13 : (((hv : Int) * 16 + (lv : Int)) == 13) = false := beq_false_of_ne (by omega)
        have hS := fun W => no_short ((hv : Int) * 16 + (lv : Int)) W n8 n9 n10 n12 n13
        clear h34 h92 h8 h9 h10 h12 h13 h32 hhv hlv hha hhl hc hmid hle hq0 hql n8 n9 n10 n12 n13
        go_wp2_with fail
        refine (hA _).mono ?_
        rintro e w' ⟨rfl, rfl⟩
        go_wp2_with fail
        refine (hB _).mono ?_
        rintro e w' ⟨rfl, rfl⟩
        go_wp2_with fail
        refine (hS _).mono ?_
        rintro e w' ⟨rfl, rfl⟩
        go_wp2
        go_round
        case rel => exact ⟨k + 1, iN + 6, by omega, HX, by go_num, by go_num⟩
        case measure => simp [intOf]; omega
      · obtain ⟨hle, hc, HX⟩ := step_facts hkl HI HN hmid (l := [((s[k]'hkl).toNat : Int)]) (e1_self _ (by omega) h34 h92)
        have c0 : w.cell? ⟨g, off + 1 + iN, none⟩ = some (.int .u8 (s[k]'hkl).toNat) := hc 0 (by simp)
        have hle2 : iN + 1 ≤ N := hle
        have b34 : (((s[k]'hkl).toNat : Int) == 34) = false := beq_false_of_ne (by omega)
        have b92 : (((s[k]'hkl).toNat : Int) == 92) = false := beq_false_of_ne (by omega)
        have b32 : 32 ≤ ((s[k]'hkl).toNat : Int) := by omega
        clear h34 h92 h8 h9 h10 h12 h13 h32 hc hmid hle hq0 hql
        go_wp2
        go_round
        case rel => exact ⟨k + 1, iN + 1, by omega, HX, by go_num, by go_num⟩
        case measure => simp [intOf]; omega
    · obtain rfl := last_fact hkl HI HN
      have hks : k = s.size := by omega
      subst hks
      clear hmid hq0 hql
      go_wp2
      go_ret
      exact ⟨rfl, rfl⟩

end Go.Proofs.Qxb6603241a
