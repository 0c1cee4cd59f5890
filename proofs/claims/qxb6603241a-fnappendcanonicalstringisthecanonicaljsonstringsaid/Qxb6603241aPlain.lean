/-
  PLAIN LEAN, no Go in sight: the canonical JSON string of a list of bytes.
-/
namespace Go.Proofs.Qxb6603241a.Plain

def hexd (n : Nat) : Int := if n < 10 then 48 + (n : Int) else 87 + (n : Int)

/-- What one byte is written as. -/
def e1 (c : Nat) : List Int :=
  if c = 34 ∨ c = 92 then [92, (c : Int)]
  else if c = 8 then [92, 98]
  else if c = 9 then [92, 116]
  else if c = 10 then [92, 110]
  else if c = 12 then [92, 102]
  else if c = 13 then [92, 114]
  else if c < 32 then [92, 117, 48, 48, hexd (c / 16), hexd (c % 16)]
  else [(c : Int)]

def enc (s : List UInt8) : List Int := s.flatMap fun c => e1 c.toNat

theorem e1_len (c : Nat) : 1 ≤ (e1 c).length ∧ (e1 c).length ≤ 6 := by
  unfold e1
  split
  · simp
  split
  · simp
  split
  · simp
  split
  · simp
  split
  · simp
  split
  · simp
  split <;> simp

theorem e1_quote (c : Nat) (h : c = 34 ∨ c = 92) : e1 c = [92, (c : Int)] := by unfold e1; rw [if_pos h]
theorem e1_b : e1 8 = [92, 98] := rfl
theorem e1_t : e1 9 = [92, 116] := rfl
theorem e1_n : e1 10 = [92, 110] := rfl
theorem e1_f : e1 12 = [92, 102] := rfl
theorem e1_r : e1 13 = [92, 114] := rfl
theorem e1_u (c : Nat) (h : c < 32) (h1 : c ≠ 8) (h2 : c ≠ 9) (h3 : c ≠ 10) (h4 : c ≠ 12) (h5 : c ≠ 13) : e1 c = [92, 117, 48, 48, hexd (c / 16), hexd (c % 16)] := by
  unfold e1; rw [if_neg (by omega), if_neg h1, if_neg h2, if_neg h3, if_neg h4, if_neg h5, if_pos h]
theorem e1_self (c : Nat) (h : 32 ≤ c) (h1 : c ≠ 34) (h2 : c ≠ 92) : e1 c = [(c : Int)] := by
  unfold e1; rw [if_neg (by omega), if_neg (by omega), if_neg (by omega), if_neg (by omega), if_neg (by omega), if_neg (by omega), if_neg (by omega)]

/-- The bytes zs, a quote, and the first k bytes of s as they are written. -/
def pre (zs : List Int) (s : List UInt8) (k : Nat) : List Int := zs ++ (34 :: enc (s.take k))

theorem enc_append (a b : List UInt8) : enc (a ++ b) = enc a ++ enc b := by simp [enc]
theorem enc_len (s : List UInt8) : (enc s).length ≤ 6 * s.length := by
  induction s with
  | nil => simp [enc]
  | cons c r ih =>
    have h : enc (c :: r) = e1 c.toNat ++ enc r := rfl
    have := e1_len c.toNat
    rw [h, List.length_append, List.length_cons]; omega
theorem enc_take_succ (s : List UInt8) (k : Nat) (h : k < s.length) : enc (s.take (k + 1)) = enc (s.take k) ++ e1 (s[k]).toNat := by
  rw [List.take_succ_eq_append_getElem h, enc_append]; simp [enc]
theorem pre_zero (zs : List Int) (s : List UInt8) : pre zs s 0 = zs ++ [34] := by simp [pre, enc]
theorem pre_succ (zs : List Int) (s : List UInt8) (k : Nat) (h : k < s.length) : pre zs s (k + 1) = pre zs s k ++ e1 (s[k]).toNat := by
  simp only [pre]; rw [enc_take_succ s k h]; simp
theorem pre_all (zs : List Int) (s : List UInt8) : pre zs s s.length = zs ++ (34 :: enc s) := by simp [pre]
theorem pre_len (zs : List Int) (s : List UInt8) (k : Nat) : 1 ≤ (pre zs s k).length ∧ (pre zs s k).length ≤ zs.length + 1 + 6 * k := by
  have h1 := enc_len (s.take k)
  have h2 : (s.take k).length ≤ k := List.length_take_le _ _
  simp only [pre, List.length_append, List.length_cons]; omega

end Go.Proofs.Qxb6603241a.Plain
