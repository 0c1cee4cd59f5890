import Derived.Test.Qxb6603323aModel
set_option linter.unusedVariables false
namespace Go.Proofs.Qxb6603323a
open Go.RowKit Plain

set_option maxHeartbeats 1000000 in
theorem bytes_any (text mark : ByteArray) (a : Option Addr) (len cap : Nat) (w : World) (ht : text.size ≤ maxLen) (hm : mark.size ≤ maxLen) (hl : len ≤ maxLen) :
    Calls Try.prog 8 #[.string text, .slice a len cap, .string mark] w fun e w' => ∃ r : Bool, e = .returned (.bool r) ∧ w = w' := by
  unfold maxLen at ht hm hl
  go_enter Try.func8, Try.ntmps8
  go_wp2
  all_goals (go_ret; exact ⟨_, rfl, rfl⟩)

set_option maxHeartbeats 1000000 in
theorem zz_any (text mark : ByteArray) (a : Option Addr) (len cap : Nat) (L H : Nat → Int) (w : World) (hlen : len ≤ 65536) (ht : text.size ≤ 65536) (hm : mark.size ≤ 4096)
    (hin : ∀ i, i < len → L i < H i → 0 ≤ L i ∧ H i ≤ text.size) (hn : a = none → len = 0 ∧ cap = 0) (hs : SpansAt w a len L H) :
    Calls Try.prog 11 #[.string text, .slice a len cap, .string mark] w fun e w' => e = .returned (.string ⟨(out (cov L H len) text.data.toList mark.data.toList text.size).toArray⟩) ∧ Below w.heap.size w w' := by
  go_enter Try.func11, Try.ntmps11
  go_wp2_with (first | (go_at_call 23; refine (to_any a len cap L H _ hlen hn hs).mono ?_; rintro e w1 ⟨a', c', rfl, hn', hs', hb1⟩) | (go_at_call 22; refine (replace_any text mark a' len c' L H _ hlen ht hm hin hs').mono ?_; rintro e w2 ⟨rfl, hb2⟩))
  go_ret
  exact ⟨rfl, hb1.trans (hb2.mono hb1.size)⟩

set_option maxHeartbeats 1000000 in
theorem main_any (text mark : ByteArray) (a : Option Addr) (len cap : Nat) (L H : Nat → Int) (w : World) (ht : text.size ≤ maxLen) (hm : mark.size ≤ maxLen) (hl : len ≤ maxLen)
    (hn : a = none → len = 0 ∧ cap = 0) (hs : SpansAt w a len L H) :
    Calls Try.prog 3 #[.string text, .slice a len cap, .string mark] w fun e w' => e = .returned (.bool true) ∧ Below w.heap.size w w' := by
  have hbytes := fun W => bytes_any text mark a len cap W ht hm hl
  unfold maxLen at ht hm hl
  by_cases hlen : len ≤ 65536
  · by_cases ht' : text.size ≤ 65536
    · by_cases hm' : mark.size ≤ 4096
      · go_enter Try.func3, Try.ntmps3
        go_wp2_with (go_at_call 8; refine (hbytes _).mono ?_; rintro e w' ⟨r, rfl, rfl⟩; cases r)
        · go_ret
          exact ⟨rfl, Below.refl _ _⟩
        · go_ret
          exact ⟨rfl, Below.refl _ _⟩
        · go_ret
          exact ⟨rfl, Below.refl _ _⟩
        · refine (lie_any a len cap L H _ w hlen hs).mono ?_
          rintro e w' ⟨r, rfl, ⟨q, rfl⟩, hin⟩
          have hs1 : SpansAt (w.drewN q) a len L H := hs
          have hb0 : Below w.heap.size w (w.drewN q) := ⟨rfl, rfl, rfl, Nat.le_refl _, fun _ _ => rfl⟩
          cases r
          · clear hin hs1 hs
            go_wp2
            go_ret
            exact ⟨rfl, hb0⟩
          · have hin1 := hin rfl
            clear hin hbytes
            go_wp2_with (first | (go_at_call 10; refine (clone_any a len cap L H _ hlen hn hs1).mono ?_; rintro e w1 ⟨a', c', rfl, hn', hs', hb1⟩) | (go_at_call 11; refine (zz_any text mark a' len c' L H _ hlen ht' hm' hin1 hn' hs').mono ?_; rintro e w2 ⟨rfl, hb2⟩; have hs2 := hs'.below hb2 (Nat.le_refl _)) | (go_at_call 12; refine (model_any text mark a' len c' L H _ hlen ht' hm' hin1 hs2).mono ?_; rintro e w3 ⟨rfl, hb3⟩))
            go_ret
            exact ⟨rfl, hb0.trans (hb1.trans ((hb2.trans (hb3.mono hb2.size)).mono hb1.size))⟩
      · go_enter Try.func3, Try.ntmps3
        go_wp2_with (go_at_call 8; refine (hbytes _).mono ?_; rintro e w' ⟨r, rfl, rfl⟩; cases r)
        all_goals (go_ret; exact ⟨rfl, Below.refl _ _⟩)
    · go_enter Try.func3, Try.ntmps3
      go_wp2_with (go_at_call 8; refine (hbytes _).mono ?_; rintro e w' ⟨r, rfl, rfl⟩; cases r)
      all_goals (go_ret; exact ⟨rfl, Below.refl _ _⟩)
  · go_enter Try.func3, Try.ntmps3
    go_wp2_with (go_at_call 8; refine (hbytes _).mono ?_; rintro e w' ⟨r, rfl, rfl⟩; cases r)
    all_goals (go_ret; exact ⟨rfl, Below.refl _ _⟩)

end Go.Proofs.Qxb6603323a
