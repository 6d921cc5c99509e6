import Derived.Test.Qxb6619861aClone
import Derived.Test.Qxb6619861aPlain
import Derived.Deep.RegionLaw
import Derived.Maps.AppendAt
namespace Go.Proofs.Qxb6619861a
open Go.ChangeShapes Go.WideShapes Go.ChangeAt Go.RowKit

/-- THE RELATION of a slice that is appended to: v holds l in the world wr; of the world w0, in which the call began with v0, only v0's own row may have turned; v lies in v0's row or in a new one. -/
structure Inv (w0 : World) (base : Nat) (v0 v : Value) (l : List Int) (wr : World) : Prop where
  own : wr.ownsRow base 5 1 v l.length (l.map (Value.int .u8))
  grown : w0.grownBy wr v0.ownBlock
  lies : ∀ g, v.ownBlock = some g → v0.ownBlock = some g ∨ w0.heap.size ≤ g
  base_le : base ≤ w0.heap.size

theorem Inv.le {w0 base v0 v l wr} (h : Inv w0 base v0 v l wr) : base ≤ wr.heap.size := Nat.le_trans h.base_le h.grown.size

theorem Inv.start {w0 : World} {base : Nat} {v0 : Value} {l : List Int} (h : w0.ownsRow base 5 1 v0 l.length (l.map (Value.int .u8))) (hb : base ≤ w0.heap.size) : Inv w0 base v0 v0 l w0 :=
  ⟨h, World.grownBy.refl _ _, fun _ hg => .inl hg, hb⟩

theorem Inv.alloc {w0 base v0 v l wr} (h : Inv w0 base v0 v l wr) (o : Obj) : Inv w0 base v0 v l (wr.alloc o) :=
  ⟨h.own.alloc o, h.grown.trans (World.grownBy_alloc _ _ _), h.lies, h.base_le⟩

theorem Inv.drew {w0 base v0 v l wr} (h : Inv w0 base v0 v l wr) : Inv w0 base v0 v l wr.drew :=
  ⟨h.own.drew, ⟨h.grown.os, h.grown.tape, h.grown.output, h.grown.size, h.grown.block⟩, h.lies, h.base_le⟩

/-- Behind one append. -/
theorem Inv.app {w0 base v0 v l W} (h : Inv w0 base v0 v l W) {news : List Int} {nv : List Value} {m : Nat} {v' : Value} {w1 : World} (hv : nv = news.map (Value.int .u8)) (hm : news.length = m) (ho : w1.ownsRow base 5 1 v' (l.length + m) (l.map (Value.int .u8) ++ nv))
    {q : Nat} (hg : W.grownBy w1 v.ownBlock) (hat : v'.ownBlock = v.ownBlock ∨ v'.ownBlock = some q) (hq : q = W.heap.size) : Inv w0 base v0 v' (l ++ news) w1 := by
  subst hm hv hq
  refine ⟨by simpa using ho, ⟨hg.os.trans h.grown.os, hg.tape.trans h.grown.tape, hg.output.trans h.grown.output, Nat.le_trans h.grown.size hg.size, fun k hk hne => ?_⟩, fun g hgv => ?_, h.base_le⟩
  · refine (hg.block k (Nat.lt_of_lt_of_le hk h.grown.size) (fun e => ?_)).trans (h.grown.block k hk hne)
    rcases h.lies k e.symm with h1 | h1
    · exact hne h1.symm
    · omega
  · rcases hat with h1 | h1
    · exact h.lies g (h1 ▸ hgv)
    · rw [h1] at hgv
      cases hgv
      exact .inr h.grown.size

/-- The cells of a row that was just laid. -/
theorem cells_new (w : World) (xs : List Value) (t : TypeId) : ∀ j u, xs[j]? = some u → (w.alloc (.cells xs.toArray t)).cell? ((⟨w.heap.size, 0, none⟩ : Addr).add j) = some u := by
  intro j u hj
  have hadd : (⟨w.heap.size, 0, none⟩ : Addr).add j = ⟨w.heap.size, j, none⟩ := by unfold Addr.add; split <;> simp_all
  rw [hadd, cell_of_row (w.alloc (.cells xs.toArray t)) w.heap.size j xs.toArray t (0, 0) (heap_alloc_new w _)]
  simpa using hj

/-- append onto a slice of the call's own, as one step of a region that draws. -/
theorem step_append_own_at {P : Program} {ops : Array Oper} {o : Oper} {a : Act} {w : World} {K : Act → World → Prop} {Q : Exit → Act → World → Prop} {E : Prop}
    (hgd : o.guard = none) (s x : Operand) (t : TypeId)
    (ho : o.op = .call { callee := .builtin .append, args := #[s, x], argTypes := #[t, t] })
    (base : Nat) (e : TypeId) (i : TypeInfo) (z : Value) (size bytes : Nat) (ht : P.underlying t = some (.slice e)) (hi : P.info? e = some i) (hz : i.zero = some z)
    (hsize : i.size = size) (hby : i.bytes = bytes) (hzs : z.cells.size = size) (hsz : 0 < size)
    (v : Value) (n : Nat) (xs : List Value) (hs : a.eval s = v) (hown : w.ownsRow base e size v n xs)
    (ad : Addr) (m c : Nat) (news : List Value) (hx : a.eval x = .slice (some ad) m c) (hl : news.length = m * size) (hnews : ∀ j u, news[j]? = some u → w.cell? (ad.add j) = some u) (h1 : ∀ u ∈ news, u.oneCell' = true)
    (h63 : n + m ≤ maxLen) (hbytes : (n + m) * bytes ≤ 140737488355328) (hbase : base ≤ w.heap.size)
    (h : ∀ v' w', w'.ownsRow base e size v' (n + m) (xs ++ news) → w.grownBy w' v.ownBlock → (v'.ownBlock = v.ownBlock ∨ v'.ownBlock = some w.heap.size) → K (a.put o.dst v') w') :
    if Region.wanted o (yielded ops a.tmps) = true then Oper.wp P o a w K Q else E := by
  have hw : Region.wanted o (yielded ops a.tmps) = true := by simp [Region.wanted, hgd]
  rw [if_pos hw]
  obtain ⟨v', w', hr, h2, h3, _, h5⟩ := run_append_own_at (P := P) w base t o.type e i z size bytes ht hi hz hsize hby hzs hsz v n xs hown ad m c news hl hnews h1 h63 hbytes hbase
  unfold Oper.wp execOp
  simp only [ho, resolve, invoke, builtin, Sem.run_bind, Sem.run_pure, Result.andThen_ok, List.map_toArray, List.map_cons, List.map_nil, hs, hx, hr]
  exact h v' w' h2 h3 h5

end Go.Proofs.Qxb6619861a
