import Derived.Test.Qxb6603323aRows
import Derived.Test.Qxb6603323aMain
import Derived.WalkKit
import Derived.ProofKit
import Derived.OpenShut
import Derived.ShutString
import Derived.ChangeOld
import Derived.Below
import Derived.Deep.Slices
namespace Go.Proofs.Qxb6603323a.Sweep
open Go.ChangeShapes Go.WideShapes Go.ChangeAt Go.RowKit
open Go.ChangeMaps (open_string shut_string)
set_option linter.unusedVariables false

theorem own : ownKnob Try.prog.godebug = none := by kernel_rfl
theorem laidOut : laidOutB Try.prog = true := by kernel_rfl
theorem cells31 : Try.prog.cellsOf 31 = 2 := by kernel_rfl
theorem cells3 : Try.prog.cellsOf 3 = 1 := by kernel_rfl

/-- A slice of pairs of ints, opened. -/
theorem open_spans {Hh : Type} {enc : TypeId × Value → Hh} {W : World} {base : Nat} {spare : Nat → Bool} {held : Bool} {fuel : Nat} {a : Option Addr} {len cap : Nat} {x : DataW Hh × List MemPlace}
    (h : DataW.trod enc Try.prog W base spare held fuel 22 [.slice a len cap] = some x) :
    (a = none → len = 0 ∧ cap = 0) ∧ len ≤ maxLen ∧ ∃ L H : Nat → Int, SpansAt W a len L H := by
  rcases Go.Deep.open_slice Try.underlying22 h with ⟨hcs, _⟩ | ⟨ad, len', cap', m, n, D, Pl, hcs, _, hl, hm, hmm, _, hel⟩
  · simp at hcs
    obtain ⟨rfl, rfl, rfl⟩ := hcs
    exact ⟨fun _ => ⟨rfl, rfl⟩, Nat.zero_le _, fun _ => 0, fun _ => 0, .inl rfl⟩
  · simp at hcs
    obtain ⟨rfl, rfl, rfl⟩ := hcs
    refine ⟨fun h => (by cases h), by omega, ?_⟩
    have hlm : len ≤ m := by rw [hmm]; split <;> omega
    have hex : ∀ i, i < len → ∃ p : Int × Int, W.cell? (ad.add (i * 2)) = some (.int .i64 p.1) ∧ W.cell? ((ad.add (i * 2)).add 1) = some (.int .i64 p.2) := by
      intro i hi
      obtain ⟨cs', h1, h2⟩ := hel i (by omega)
      rw [cells31] at h1
      obtain ⟨_, hlen, hc⟩ := World.cells?_some h1
      obtain ⟨xs, m', _, _, _, hxl, hxs⟩ := DataW.trod_array Try.underlying31 h2
      rw [cells3] at hxs
      have e0 := hxs 0 (by omega)
      have e1 := hxs 1 (by omega)
      rw [List.getElem?_eq_getElem (by omega)] at e0 e1
      obtain ⟨n0, q0, _, _⟩ := DataW.trod_int Try.underlying3 e0
      obtain ⟨n1, q1, _, _⟩ := DataW.trod_int Try.underlying3 e1
      match cs', hlen, hc, q0, q1 with
      | [c0, c1], _, hc, q0, q1 =>
        simp at q0 q1
        subst q0 q1
        refine ⟨(n0, n1), ?_, ?_⟩
        · have := hc 0 (by omega)
          simpa [Addr.add] using this
        · have := hc 1 (by omega)
          simpa using this
    obtain ⟨p, hp⟩ := Go.Deep.choose_lt (α := Int × Int) (p := fun i p => W.cell? (ad.add (i * 2)) = some (.int .i64 p.1) ∧ W.cell? ((ad.add (i * 2)).add 1) = some (.int .i64 p.2)) hex
    refine ⟨fun i => (p i).1, fun i => (p i).2, ?_⟩
    by_cases h0 : len = 0
    · exact .inl h0
    · obtain ⟨b, off, spot⟩ := ad
      have hspot : spot = none := by simpa [Addr.add] using World.cell?_spot (hp 0 (by omega)).1
      subst hspot
      refine .inr ⟨b, off, rfl, fun i hi => ?_⟩
      have h1 : W.cell? ((⟨b, off, none⟩ : Addr).add (i * 2)) = some (.int .i64 (p i).1) := (hp i hi).1
      have h2 : W.cell? (((⟨b, off, none⟩ : Addr).add (i * 2)).add 1) = some (.int .i64 (p i).2) := (hp i hi).2
      rw [add_plain] at h1 h2
      rw [add_plain] at h2
      exact ⟨h1, h2⟩

/-! ### THE ROW's STEP -/
set_option maxRecDepth 100000 in
theorem lifted (os : Os) (started : os.Started) (H : Type) (enc : TypeId × Value → H) :
    ReturnsInHanded {} Try.checked os 3 .any (Rows.fnReplaceMatchesCoverageSweepSpec.pre6 enc Try.prog Try.f3 Rows.fnReplaceMatchesCoverageSweepRow.domain false) (Rows.fnReplaceMatchesCoverageSweepSpec.post enc Try.prog Try.f3 false true false false) := by
  refine returnsInHanded_of_change (C := Try.checked) own started (by kernel_rfl) Try.func3
    (ChangeSpec.witness6 (enc := enc) (C := Try.checked) false ⟨#[], #[.string ByteArray.empty, .slice none 0 0, .string ByteArray.empty], []⟩ 8 (by kernel_rfl) (by kernel_rfl) (by kernel_rfl) (by kernel_rfl)) ?_
  intro W base args ds gs before hval0 hW hcnd _
  have hval : ∀ (j : Nat) t v, Try.f3.params[j]? = some t → args[j]? = some v → Value.okWide Try.prog W .any base t v := hval0
  have hW' := hW
  obtain ⟨p, q, hA0, hV, rfl, hfz, hnd⟩ := hW
  have hA : DataW.TrodAll enc Try.prog W 0 (fun _ => true) true Try.f3.params.toList args.toList ds p := hA0
  rw [Try.params3] at hA hval
  obtain ⟨v0, vs0, d0, ds0, p0, q0, hargs, rfl, rfl, h0, r0⟩ := trodAll_cons hA
  obtain ⟨v1, vs1, d1, ds1, p1, q1, rfl, rfl, rfl, h1, r1⟩ := trodAll_cons r0
  obtain ⟨v2, vs2, d2, ds2, p2, q2, rfl, rfl, rfl, h2, r2⟩ := trodAll_cons r1
  obtain ⟨rfl, rfl, rfl⟩ := trodAll_nil r2
  obtain rfl : args = #[v0, v1, v2] := by cases args; simp_all
  obtain ⟨rfl, rfl⟩ := trodVars_none hV
  obtain ⟨a0, rfl, rfl, rfl, w0⟩ := open_string Try.underlying9 (hval 0 9 v0 rfl rfl) h0
  obtain ⟨a1, len1, cap1, rfl⟩ := okWide_slice Try.underlying22 (hval 1 22 v1 rfl rfl)
  have k1 := h1
  have lt1 : ∀ x ∈ p1, x.block < W.heap.size := by obtain ⟨m, hm⟩ := k1; exact DataW.trod_lt m _ _ _ hm
  obtain ⟨hn1, hl1, L, Hh, hs1⟩ : (a1 = none → len1 = 0 ∧ cap1 = 0) ∧ len1 ≤ maxLen ∧ ∃ L H : Nat → Int, SpansAt W a1 len1 L H := by
    obtain ⟨fuel, hf⟩ := h1
    exact open_spans hf
  obtain ⟨a2, rfl, rfl, rfl, w2⟩ := open_string Try.underlying9 (hval 2 9 v2 rfl rfl) h2
  clear hA0 hval0
  refine (main_any a0 a2 a1 len1 cap1 L Hh W w0 w2 hl1 hn1 hs1).mono fun e W' ⟨he, bel⟩ => ?_
  subst he
  exact ⟨_, rfl, _, _, _, [], _, [], hW', trodAll_mk1 (shut_bool Try.underlying4 _), (trodAll_cons_mk (shut_string Try.underlying9 w0) (trodAll_cons_mk (Below.trod laidOut (by kernel_rfl) (of_decide_eq_true (by kernel_rfl)) k1 bel lt1) (trodAll_cons_mk (shut_string Try.underlying9 w2) trodAll_mk0))), rfl, bel.frame _, fun h => by cases h⟩

theorem over : Rows.fnReplaceMatchesCoverageSweepRow.holds Try.pinned (OpenSpec.ofChange Rows.fnReplaceMatchesCoverageSweepSpec) :=
  OpenClaim.holds_of_wide 3 Try.f3 rfl rfl rfl rfl rfl rfl rfl ⟨rfl, rfl, rfl, rfl, rfl⟩ rfl rfl rfl rfl rfl (by kernel_rfl) Try.func3 (by kernel_rfl)
    (of_decide_eq_true (by kernel_rfl)) (by unfold Func.isWrapper; first | (rw [if_pos (by decide +kernel)]; kernel_rfl) | (rw [if_neg (by decide +kernel)]; exact ⟨rfl, rfl⟩))
    (fun os started H enc _ => lifted os started H enc)

/-- THE STATEMENT. -/
theorem proved : Rows.FnReplaceMatchesCoverageSweepSaid := over
end Go.Proofs.Qxb6603323a.Sweep
