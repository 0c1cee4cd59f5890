/-
  PLAIN LEAN, no Go in sight: what 'replace' and the coverage model both compute.
-/
namespace Go.Proofs.Qxb6603323a.Plain

/-- Byte i is covered by one of the first k spans. -/
def cov (L H : Nat → Int) : Nat → Nat → Bool
  | 0, _ => false
  | k + 1, i => cov L H k i || (decide (L k ≤ (i : Int)) && decide ((i : Int) < H k))

/-- The first k bytes, each maximal run of covered bytes one mark. -/
def out (C : Nat → Bool) (text mark : List UInt8) : Nat → List UInt8
  | 0 => []
  | k + 1 => out C text mark k ++ (if C k = true then (if k = 0 ∨ C (k - 1) = false then mark else []) else [text.getD k 0])

theorem out_keep {C : Nat → Bool} {text mark : List UInt8} {k : Nat} (h : C k = false) : out C text mark (k + 1) = out C text mark k ++ [text.getD k 0] := by
  simp [out, h]
theorem out_mark {C : Nat → Bool} {text mark : List UInt8} {k : Nat} (h : C k = true) (h' : k = 0 ∨ C (k - 1) = false) : out C text mark (k + 1) = out C text mark k ++ mark := by
  simp only [out, h, if_true]; rw [if_pos h']
theorem out_skip {C : Nat → Bool} {text mark : List UInt8} {k : Nat} (h : C k = true) (h0 : k ≠ 0) (h' : C (k - 1) = true) : out C text mark (k + 1) = out C text mark k := by
  simp only [out, h, if_true]; rw [if_neg (by rintro (e | e); exact h0 e; simp [h'] at e)]; simp

/-- A run of covered bytes behind byte i adds nothing. -/
theorem out_run {C : Nat → Bool} {text mark : List UInt8} {i : Nat} (j : Nat) (h : ∀ x, i ≤ x → x < j → C x = true) (hij : i + 1 ≤ j) : out C text mark j = out C text mark (i + 1) := by
  induction j with
  | zero => omega
  | succ j ih =>
    by_cases e : i = j
    · subst e; rfl
    · rw [out_skip (h j (by omega) (by omega)) (by omega) (h (j - 1) (by omega) (by omega))]
      exact ih (fun x h1 h2 => h x h1 (by omega)) (by omega)

theorem out_le (C : Nat → Bool) (text mark : List UInt8) (k : Nat) : (out C text mark k).length ≤ k * (mark.length + 1) := by
  induction k with
  | zero => simp [out]
  | succ k ih =>
    have hm : (k + 1) * (mark.length + 1) = k * (mark.length + 1) + (mark.length + 1) := Nat.succ_mul _ _
    simp only [out]
    split
    · split <;> simp <;> omega
    · simp; omega

/-! ### The sweep -/
def dl (L H : Nat → Int) : Nat → Nat → Int
  | 0, _ => 0
  | k + 1, x => dl L H k x + (if L k < H k ∧ L k = (x : Int) then 1 else 0) - (if L k < H k ∧ H k = (x : Int) then 1 else 0)

def rs (L H : Nat → Int) (k : Nat) : Nat → Int
  | 0 => 0
  | i + 1 => rs L H k i + dl L H k i

def cnt (L H : Nat → Int) : Nat → Nat → Int
  | 0, _ => 0
  | k + 1, i => cnt L H k i + (if L k ≤ (i : Int) ∧ (i : Int) < H k then 1 else 0)

theorem dl_bd (L H : Nat → Int) (k x : Nat) : -(k : Int) ≤ dl L H k x ∧ dl L H k x ≤ k := by
  induction k with
  | zero => simp [dl]
  | succ k ih => simp only [dl]; split <;> split <;> omega

theorem cnt_bd (L H : Nat → Int) (k x : Nat) : 0 ≤ cnt L H k x ∧ cnt L H k x ≤ k := by
  induction k with
  | zero => simp [cnt]
  | succ k ih => simp only [cnt]; split <;> omega

theorem rs_zero (L H : Nat → Int) (i : Nat) : rs L H 0 i = 0 := by
  induction i with
  | zero => rfl
  | succ i ih => simp [rs, dl, ih]

theorem rs_succ (L H : Nat → Int) (k i : Nat) (h : L k < H k → 0 ≤ L k) :
    rs L H (k + 1) i = rs L H k i + (if L k < H k ∧ L k < (i : Int) then 1 else 0) - (if L k < H k ∧ H k < (i : Int) then 1 else 0) := by
  induction i with
  | zero =>
    simp only [rs]
    rw [if_neg (by rintro ⟨a, b⟩; have := h a; simp at b; omega), if_neg (by rintro ⟨a, b⟩; have := h a; simp at b; omega)]; rfl
  | succ i ih =>
    simp only [rs, dl, ih]
    by_cases a : L k < H k
    · have := h a
      simp only [a, true_and]
      split <;> split <;> split <;> split <;> split <;> split <;> omega
    · simp only [a, false_and, if_false]; omega

theorem rs_cnt (L H : Nat → Int) (k i : Nat) (h : ∀ j, j < k → L j < H j → 0 ≤ L j) : rs L H k (i + 1) = cnt L H k i := by
  induction k with
  | zero => simp [rs_zero, cnt]
  | succ k ih =>
    rw [rs_succ L H k (i + 1) (h k (by omega)), ih (fun j hj => h j (by omega))]
    simp only [cnt]
    by_cases a : L k < H k
    · simp only [a, true_and]
      split <;> split <;> split <;> omega
    · simp only [a, false_and, if_false]
      rw [if_neg (by omega)]; omega

theorem rs_bd (L H : Nat → Int) (k i : Nat) (h : ∀ j, j < k → L j < H j → 0 ≤ L j) : 0 ≤ rs L H k i ∧ rs L H k i ≤ k := by
  cases i with
  | zero => simp [rs]
  | succ i => rw [rs_cnt L H k i h]; exact cnt_bd L H k i

theorem cnt_cov (L H : Nat → Int) (k i : Nat) : (cnt L H k i = 0 ↔ cov L H k i = false) := by
  induction k with
  | zero => simp [cnt, cov]
  | succ k ih =>
    have hb := cnt_bd L H k i
    simp only [cnt, cov]
    split
    · next h => simp [h.1, h.2]; omega
    · next h =>
      have : (decide (L k ≤ (i : Int)) && decide ((i : Int) < H k)) = false := by
        rw [Bool.eq_false_iff]; simpa using h
      rw [this]; simp [ih]

theorem cov_of_cnt {L H : Nat → Int} {k i : Nat} (h : 0 < cnt L H k i) : cov L H k i = true := by
  by_cases e : cov L H k i = false
  · have := (cnt_cov L H k i).2 e; omega
  · simpa using e

end Go.Proofs.Qxb6603323a.Plain
