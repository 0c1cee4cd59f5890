import Derived.Test.Qxb6603241aProg
import Derived.Test.Qxb6603241aPlain
import Derived.WalkKit
import Derived.WalkSpells
import Derived.Lib.AppendStr
import Derived.Lib.Builder
import Derived.BigRegion
import Derived.ArgAppend
import Derived.Deep.RegionLaw
import Derived.Laws.BitsLemmas
set_option linter.unusedVariables false
namespace Go.Proofs.Qxb6603241a
open Go.RowKit Plain

theorem info5 : (Try.prog.info? 5).map (fun i => (i.zero, i.size, i.bytes)) = some (some (.int .u8 0), 1, 1) := by kernel_rfl

def cellsI (l : List Int) : List Value := l.map (Value.int .u8)
theorem cellsI_len (l : List Int) : (cellsI l).length = l.length := by simp [cellsI]
theorem cellsI_append (a b : List Int) : cellsI (a ++ b) = cellsI a ++ cellsI b := by simp [cellsI]
theorem cellsI_one (l : List Int) : ∀ u ∈ cellsI l, u.oneCell' = true := ints_oneCell _ l
theorem cellsI_get (l : List Int) (j : Nat) (h : j < l.length) : (cellsI l)[j]? = some (.int .u8 (l.getD j 0)) := by
  simp [cellsI, List.getD, h]

/-- The bytes lie in memory, from the slice's head on. -/
def BytesAt (w : World) (a : Option Addr) (zs : List Int) : Prop :=
  zs = [] ∨ ∃ b off, a = some ⟨b, off, none⟩ ∧ ∀ i, i < zs.length → w.cell? ⟨b, off + i, none⟩ = some (.int .u8 (zs.getD i 0))

theorem BytesAt.below {B : Nat} {w w' : World} {a : Option Addr} {zs : List Int} (h : BytesAt w a zs) (hb : Below B w w') (hB : w.heap.size ≤ B) : BytesAt w' a zs := by
  rcases h with h | ⟨b, off, rfl, hc⟩
  · exact .inl h
  · refine .inr ⟨b, off, rfl, fun i hi => ?_⟩
    have hlt := World.block_lt_of_cell? w _ (hc i hi)
    exact (hb.cell (p := ⟨b, off + i, none⟩) (Nat.lt_of_lt_of_le hlt hB)).trans (hc i hi)

theorem BytesAt.holds {w : World} {a : Option Addr} {zs : List Int} (h : BytesAt w a zs) (o : Obj) :
    ∀ b, a = some b → ∀ (j : Nat) (u : Value), (cellsI zs)[j]? = some u → (w.alloc o).cell? (b.add j) = some u := by
  intro b hb j u hj
  have hjl : j < zs.length := by
    have := (List.getElem?_eq_some_iff.1 hj).1
    rwa [cellsI_len] at this
  rw [cellsI_get zs j hjl] at hj
  rcases h with rfl | ⟨b', off, ha, hc⟩
  · simp at hjl
  · rw [ha] at hb
    injection hb with hb
    subst hb
    have h1 := hc j hjl
    rw [Go.WideShapes.add_plain, World.cell?_alloc_lt _ _ _ (World.block_lt_of_cell? w _ h1), h1]
    exact hj

theorem own_pos {w : World} {base n : Nat} {e : TypeId} {v : Value} {xs : List Value} (h : w.ownsRow base e 1 v n xs) (hn : 1 ≤ n) :
    ∃ g cap, v = .slice (some ⟨g, 0, none⟩) n cap := by
  rcases h.2 with ⟨_, h0⟩ | ⟨g, cap, cur, hv, _⟩
  · omega
  · exact ⟨g, cap, hv⟩

theorem append_below {B base : Nat} {w wr w1 : World} {v : Value} {n : Nat} {xs : List Value} {e : TypeId} (hb : Below B w wr) (hBw : B ≤ w.heap.size) (hBb : B ≤ base) (hown : wr.ownsRow base e 1 v n xs) (hg : wr.grownBy w1 v.ownBlock) : Below B w w1 := by
  have hsz := hb.size
  exact hb.grown hg (by omega) (fun k hk => Nat.le_trans hBb (hown.lt k hk).1)

/-- One round's append, said as the next round's relation. -/
theorem pre_own {w1 : World} {base m : Nat} {v' : Value} {zs : List Int} {s : ByteArray} {k : Nat} {news : List Value} (hk : k < s.size) (he : cellsI (e1 (s[k]'hk).toNat) = news) (hm : news.length = m)
    (hown : w1.ownsRow base 5 1 v' ((pre zs s.data.toList k).length + m) (cellsI (pre zs s.data.toList k) ++ news)) :
    ∃ g cap, v' = .slice (some ⟨g, 0, none⟩) (pre zs s.data.toList (k + 1)).length cap ∧ w1.ownsRow base 5 1 v' (pre zs s.data.toList (k + 1)).length (cellsI (pre zs s.data.toList (k + 1))) := by
  have hk' : k < s.data.toList.length := by simpa using hk
  have e : pre zs s.data.toList (k + 1) = pre zs s.data.toList k ++ e1 (s[k]'hk).toNat := pre_succ zs s.data.toList k hk'
  have hl : (pre zs s.data.toList (k + 1)).length = (pre zs s.data.toList k).length + m := by
    rw [e, List.length_append, ← hm, ← he, cellsI_len]
  have hc : cellsI (pre zs s.data.toList (k + 1)) = cellsI (pre zs s.data.toList k) ++ news := by rw [e, cellsI_append, he]
  rw [← hl, ← hc] at hown
  obtain ⟨g, cap, hv⟩ := own_pos hown (pre_len zs s.data.toList (k + 1)).1
  exact ⟨g, cap, hv, hown⟩

/-- What a composite literal has just laid. -/
theorem news_at (w : World) (cs : Array Value) (j : Nat) (u : Value) (h : cs.toList[j]? = some u) : (w.alloc (.cells cs 5)).cell? ((⟨w.heap.size, 0, none⟩ : Addr).add j) = some u := by
  rw [Go.WideShapes.add_plain, Lib.cell_of_heap (heap_alloc_new w _)]
  simpa using h

/-- An append onto a row that the call owns, as one step of a region that draws its order. -/
theorem step_append_own {P : Program} {ops : Array Oper} {o : Oper} {a : Act} {w : World} {K : Act → World → Prop} {Q : Exit → Act → World → Prop} {E : Prop} (hgd : o.guard = none)
    (s x : Operand) (t : TypeId) (ho : o.op = Op.call { callee := Callee.builtin Builtin.append, args := #[s, x], argTypes := #[t, t] }) (base : Nat) (e : TypeId) (i : TypeInfo)
    (z : Value) (size bytes : Nat) (ht : P.underlying t = some (.slice e)) (hi : P.info? e = some i) (hz : i.zero = some z) (hsize : i.size = size) (hby : i.bytes = bytes)
    (hzs : z.cells.size = size) (hsz : 0 < size) (v : Value) (n : Nat) (xs : List Value) (hs : a.eval s = v) (hown : w.ownsRow base e size v n xs) (ad : Addr) (m c : Nat) (news : List Value)
    (hx : a.eval x = .slice (some ad) m c) (hl : news.length = m * size) (hnews : ∀ (j : Nat) (u : Value), news[j]? = some u → w.cell? (ad.add j) = some u)
    (h1 : ∀ u ∈ news, u.oneCell' = true) (h63 : n + m ≤ maxLen) (hbytes : (n + m) * bytes ≤ 140737488355328) (hbase : base ≤ w.heap.size)
    (h : ∀ (v' : Value) (w' : World), w'.ownsRow base e size v' (n + m) (xs ++ news) → w.grownBy w' v.ownBlock → K (a.put o.dst v') w') :
    if Region.wanted o (yielded ops a.tmps) = true then Oper.wp P o a w K Q else E := by
  have hw : Region.wanted o (yielded ops a.tmps) = true := by simp [Region.wanted, hgd]
  rw [if_pos hw]
  exact wp_append_own w s x t ho base e i z size bytes ht hi hz hsize hby hzs hsz v n xs hs hown ad m c news hx hl hnews h1 h63 hbytes hbase (fun v' w' a b _ => h v' w' a b)

end Go.Proofs.Qxb6603241a
