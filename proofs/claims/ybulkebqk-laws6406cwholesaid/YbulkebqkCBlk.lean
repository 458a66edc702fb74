/-
  Blocks that are known whole, with the type of their cells: two of different types are different blocks. A copy within a row.
-/
import Derived.Test.YbulkebqkCGroup
namespace Go.Proofs.Ybulkebqk
open Go.RowKit
set_option linter.unusedVariables false

/-- Block b is the cells vs, of type t, none frozen. -/
def Blk (w : World) (b : Nat) (t : TypeId) (vs : List Value) : Prop := w.heap[b]? = some (.cells vs.toArray t (0, 0))
section
variable {w w' : World} {b : Nat} {t : TypeId} {vs : List Value}
theorem Blk.row (h : Blk w b t vs) : Row w b vs := row_block (c := vs.toArray) h
theorem Blk.lt (h : Blk w b t vs) : b < w.heap.size := h.row.lt
theorem Blk.cell (h : Blk w b t vs) {i : Nat} {v : Value} (hv : vs[i]? = some v) : w.cell? ⟨b, i, none⟩ = some v := h.row.cell hv
theorem Blk.frozen (h : Blk w b t vs) (i : Nat) : w.frozen? ⟨b, i, none⟩ = false := h.row.frozen i
theorem Blk.same (h : Blk w b t vs) (e : w'.heap[b]? = w.heap[b]?) : Blk w' b t vs := e.trans h
theorem Blk.alloc (h : Blk w b t vs) (o : Obj) : Blk (w.alloc o) b t vs := h.same (Below.heap_alloc w o b h.lt)
theorem Blk.other (h : Blk w b t vs) (a : Addr) (u : Value) (hb : b ≠ a.block) : Blk (w.setCell a u) b t vs := h.same (Below.heap_setCell w a u b hb)
theorem Blk.below {B : Nat} (h : Blk w b t vs) (hb : Below B w w') (hl : b < B) : Blk w' b t vs := h.same (hb.block b hl)
theorem Blk.grown {row : Option Nat} (h : Blk w b t vs) (hb : w.grownBy w' row) (hg : some b ≠ row) : Blk w' b t vs := h.same (hb.block b h.lt hg)
theorem Blk.drewN (h : Blk w b t vs) (n : Nat) : Blk (w.drewN n) b t vs := h
theorem Blk.drew (h : Blk w b t vs) : Blk w.drew b t vs := h
theorem Blk.set (h : Blk w b t vs) (k : Nat) (v : Value) : Blk (w.setCell ⟨b, k, none⟩ v) b t (vs.set k v) := by
  show (w.setCell ⟨b, k, none⟩ v).heap[b]? = _
  rw [setCell_eq_setRow w b k vs.toArray t (0, 0) v h, setRow_heap w b _ _ t (0, 0) h]
  simp
theorem Blk.ne {b' : Nat} {t' : TypeId} {vs' : List Value} (h : Blk w b t vs) (h' : Blk w b' t' vs') (ht : t ≠ t') : b ≠ b' := by
  rintro rfl
  rw [Blk, h'] at h
  simp only [Option.some.injEq, Obj.cells.injEq] at h
  exact ht h.2.1.symm
theorem blk_new (w : World) (vs : List Value) (t : TypeId) : Blk (w.alloc (.cells vs.toArray t)) w.heap.size t vs := heap_alloc_new w _
theorem blk_made (w : World) (z : Value) (n : Nat) (t : TypeId) : Blk (w.alloc (.cells (madeCells #[z] n) t)) w.heap.size t (List.replicate n z) := by
  have h := heap_alloc_new w (.cells (madeCells #[z] n) t)
  rw [Blk, h, ← toList_madeCells_one]
/-- A row that is owned lies in no block of another type. -/
theorem Blk.not_own {base n size : Nat} {e : TypeId} {v : Value} {xs : List Value} (h : Blk w b t vs) (ho : w.ownsRow base e size v n xs) (ht : t ≠ e) : some b ≠ v.ownBlock := by
  rcases ho.2 with ⟨rfl, _⟩ | ⟨g, cap, cur, rfl, _, hg, _⟩
  · simp [Value.ownBlock]
  · intro e'
    simp only [Value.ownBlock, Option.some.injEq] at e'
    subst e'
    rw [Blk, hg] at h
    simp only [Option.some.injEq, Obj.cells.injEq] at h
    exact ht h.2.1.symm
theorem own_not_own {base n size base' n' size' : Nat} {e e' : TypeId} {v v' : Value} {xs xs' : List Value} (h : w.ownsRow base e size v n xs) (ho : w.ownsRow base' e' size' v' n' xs') (ht : e ≠ e') : ∀ g, v.ownBlock = some g → v'.ownBlock ≠ some g := by
  intro g hg hg'
  rcases h.2 with ⟨rfl, _⟩ | ⟨g1, cap, cur, rfl, _, hb, _⟩
  · simp [Value.ownBlock] at hg
  · rcases ho.2 with ⟨rfl, _⟩ | ⟨g2, cap', cur', rfl, _, hb', _⟩
    · simp [Value.ownBlock] at hg'
    · simp only [Value.ownBlock, Option.some.injEq] at hg hg'
      subst hg; subst hg'
      rw [hb] at hb'
      simp only [Option.some.injEq, Obj.cells.injEq] at hb'
      exact ht hb'.2.1
end

/-- Of what lay, the blocks in D alone may have turned. -/
structure Only (D : Nat → Prop) (w w' : World) : Prop where
  os : w'.os = w.os
  tape : w'.tape = w.tape
  output : w'.output = w.output
  size : w.heap.size ≤ w'.heap.size
  block : ∀ k, k < w.heap.size → ¬ D k → w'.heap[k]? = w.heap[k]?
section
variable {D : Nat → Prop} {a w w' : World}
theorem Only.refl (D : Nat → Prop) (w : World) : Only D w w := ⟨rfl, rfl, rfl, Nat.le_refl _, fun _ _ _ => rfl⟩
theorem Only.trans (h : Only D a w) (k : Only D w w') : Only D a w' :=
  ⟨k.os.trans h.os, k.tape.trans h.tape, k.output.trans h.output, Nat.le_trans h.size k.size, fun i hi hd => (k.block i (Nat.lt_of_lt_of_le hi h.size) hd).trans (h.block i hi hd)⟩
theorem Only.mono {D' : Nat → Prop} (h : Only D a w) (hD : ∀ k, k < a.heap.size → D k → D' k) : Only D' a w := ⟨h.os, h.tape, h.output, h.size, fun k hk hd => h.block k hk fun h' => hd (hD k hk h')⟩
theorem Only.alloc (h : Only D a w) (o : Obj) : Only D a (w.alloc o) := h.trans ⟨rfl, rfl, rfl, by simp, fun k hk _ => Below.heap_alloc _ _ _ hk⟩
theorem Only.setCell (h : Only D a w) {p : Addr} (hp : a.heap.size ≤ p.block ∨ D p.block) (u : Value) : Only D a (w.setCell p u) :=
  ⟨h.os, h.tape, h.output, by simp [World.setCell]; exact h.size, fun k hk hd => by
    rw [Below.heap_setCell _ _ _ _ (fun e => by
      rcases hp with hp | hp
      · omega
      · exact hd (e ▸ hp))]
    exact h.block k hk hd⟩
theorem Only.below (h : Only D a w) (hb : Below w.heap.size w w') : Only D a w' := h.trans ⟨hb.os, hb.tape, hb.output, hb.size, fun k hk _ => hb.block k hk⟩
theorem Only.grown {row : Option Nat} (h : Only D a w) (hg : w.grownBy w' row) (hr : ∀ k, row = some k → a.heap.size ≤ k ∨ D k) : Only D a w' :=
  ⟨hg.os.trans h.os, hg.tape.trans h.tape, hg.output.trans h.output, Nat.le_trans h.size hg.size, fun k hk hd => by
    rw [hg.block k (Nat.lt_of_lt_of_le hk h.size) (fun e => by
      rcases hr k e.symm with h' | h'
      · omega
      · exact hd h')]
    exact h.block k hk hd⟩
theorem Only.drewN (h : Only D a w) (n : Nat) : Only D a (w.drewN n) := h.trans ⟨rfl, rfl, rfl, Nat.le_refl _, fun _ _ _ => rfl⟩
theorem Only.drew (h : Only D a w) : Only D a w.drew := h.trans ⟨rfl, rfl, rfl, Nat.le_refl _, fun _ _ _ => rfl⟩
/-- What turns nothing below B. -/
theorem Only.toBelow {B : Nat} (h : Only D a w) (hB : B ≤ a.heap.size) (hD : ∀ k, D k → B ≤ k) : Below B a w := ⟨h.os, h.tape, h.output, h.size, fun k hk => h.block k (by omega) fun h' => by have := hD k h'; omega⟩
theorem Row.only {g : Nat} {vs : List Value} (h : Row a g vs) (ho : Only D a w) (hd : ¬ D g) : Row w g vs := h.same (ho.block g h.lt hd)
theorem Blk.only {g : Nat} {t : TypeId} {vs : List Value} (h : Blk a g t vs) (ho : Only D a w) (hd : ¬ D g) : Blk w g t vs := h.same (ho.block g h.lt hd)
end

/-- A copy into a row that is known whole, at a step of a region that draws: nothing else turns. -/
theorem step_copy_at {P : Program} {ops : Array Oper} {o : Oper} {a : Act} {w : World} {K : Act → World → Prop} {Q : Exit → Act → World → Prop} {E : Prop} (hgd : o.guard = none) (d s : Operand) (dT sT : TypeId)
    (ho : o.op = .call { callee := .builtin .copy, args := #[d, s], argTypes := #[dT, sT] }) (elem : TypeId) (hu : P.underlying dT = some (.slice elem)) (hsz : (P.info? elem).map (·.size) = some 1)
    (dp sp : Option Addr) (dLen dCap sLen sCap : Nat) (hd : a.eval d = .slice dp dLen dCap) (hs : a.eval s = .slice sp sLen sCap)
    (g off : Nat) (cur : List Value) (t : TypeId) (hg : w.heap[g]? = some (.cells cur.toArray t (0, 0))) (cs : List Value) (hn : cs.length = Nat.min sLen dLen)
    (hpos : 0 < cs.length → dp = some ⟨g, off, none⟩ ∧ ∃ ad, sp = some ad ∧ ∀ j v, cs[j]? = some v → w.cell? (ad.add j) = some v)
    (hfit : off + cs.length ≤ cur.length) (h1 : ∀ v ∈ cs, v.oneCell' = true)
    (h : ∀ w', Hid (Blk w' g t (splice cur off cs)) → w.grownBy w' (some g) → K (a.put o.dst (goInt cs.length)) w') :
    if Region.wanted o (yielded ops a.tmps) = true then Oper.wp P o a w K Q else E := by
  have hw : Region.wanted o (yielded ops a.tmps) = true := by simp [Region.wanted, hgd]
  rw [if_pos hw]
  by_cases h0 : cs.length = 0
  · obtain rfl : cs = [] := List.eq_nil_of_length_eq_zero h0
    have hrun := run_copy_none (P := P) w dT sT o.type elem dp sp dLen dCap sLen sCap hu hsz (by simpa using hn.symm)
    unfold Oper.wp
    simp [execOp, ho, resolve, invoke, builtin, hd, hs, hrun, Result.andThen]
    exact h w (show _ = _ by simpa [splice] using hg) ⟨rfl, rfl, rfl, Nat.le_refl _, fun _ _ _ => rfl⟩
  · obtain ⟨rfl, ad, rfl, hsrc⟩ := hpos (by omega)
    have hrun := run_copy_row (P := P) w dT sT o.type elem g off dLen dCap ad sLen sCap cur.toArray t cs hu hsz hg hn hsrc (by simpa using hfit) h1
    unfold Oper.wp
    simp [execOp, ho, resolve, invoke, builtin, hd, hs, hrun, Result.andThen]
    refine h _ (show _ = _ by simpa [splice] using setRow_heap w g _ _ t _ hg) ⟨rfl, rfl, rfl, by simp [World.setRow], fun k hk hne => setRow_other w g k _ (fun e => hne (by rw [e]))⟩

end Go.Proofs.Ybulkebqk
