/-
  indexOps: what it fills in; what it and the function that it is handed leave alone.
-/
import Derived.Test.YbulkebqkCGather
import Derived.Test.YbulkebqkCIndex
import Derived.Test.YbulkebqkCSfind
import Derived.Test.YbulkebqkCProg
namespace Go.Proofs.Ybulkebqk
open Go.RowKit
set_option linter.unusedVariables false

/-- The reads and writes of a schedule. -/
def accs (l : List OpV) : List OpV := l.filter fun o => acc o.k
/-- The first place of v in xs. -/
def plc {α : Type} [DecidableEq α] (xs : List α) (v : α) : Nat := xs.idxOf v
theorem find_plc {α : Type} [DecidableEq α] {xs : List α} {v : α} (h : v ∈ xs) : find xs v = (plc xs v : Int) := by rw [find, if_pos h]; rfl
theorem plc_lt {α : Type} [DecidableEq α] {xs : List α} {v : α} (h : v ∈ xs) : plc xs v < xs.length := List.idxOf_lt_length_iff.2 h
def iop (xs : List Int) (ys : List ByteArray) (o : OpV) : IOp := ⟨o.k, xs.idxOf o.t, plc ys o.i, 0⟩
def iops (xs : List Int) (ys : List ByteArray) (l : List OpV) : List IOp := (accs l).map (iop xs ys)
theorem accs_yes (l : List OpV) (q : Nat) (hq : q < l.length) (h : acc (l.getD q default).k = true) : accs (l.take (q + 1)) = accs (l.take q) ++ [l.getD q default] := by
  rw [accs, accs, take_succ_getD l q hq, List.filter_append, List.filter_cons, h]
  rfl
theorem accs_no (l : List OpV) (q : Nat) (hq : q < l.length) (h : acc (l.getD q default).k = false) : accs (l.take (q + 1)) = accs (l.take q) := by
  rw [accs, accs, take_succ_getD l q hq, List.filter_append, List.filter_cons, h]
  simp
theorem accs_len (l : List OpV) (q : Nat) : (accs (l.take q)).length ≤ q := Nat.le_trans (List.length_filter_le _ _) (by simp; omega)
theorem iops_len (xs : List Int) (ys : List ByteArray) (l : List OpV) : (iops xs ys l).length = (accs l).length := by simp [iops]
theorem iops_yes (xs : List Int) (ys : List ByteArray) (l : List OpV) (q : Nat) (hq : q < l.length) (h : acc (l.getD q default).k = true) : iops xs ys (l.take (q + 1)) = iops xs ys (l.take q) ++ [iop xs ys (l.getD q default)] := by
  rw [iops, accs_yes l q hq h, List.map_append]; rfl
theorem iops_no (xs : List Int) (ys : List ByteArray) (l : List OpV) (q : Nat) (hq : q < l.length) (h : acc (l.getD q default).k = false) : iops xs ys (l.take (q + 1)) = iops xs ys (l.take q) := by
  rw [iops, accs_no l q hq h]; rfl

/-- By transaction, how many reads and writes precede its end. -/
def endsUp (xs : List Int) (l : List OpV) : Nat → List Nat
  | 0 => List.replicate xs.length 0
  | q + 1 => (endsUp xs l q).set (xs.idxOf (l.getD q default).t) (accs (l.take (q + 1))).length
theorem endsUp_len (xs : List Int) (l : List OpV) : ∀ q, (endsUp xs l q).length = xs.length
  | 0 => by simp [endsUp]
  | q + 1 => by rw [endsUp, List.length_set]; exact endsUp_len xs l q
/-- By transaction, whether it aborts; none where none does. -/
def absUp (xs : List Int) (l : List OpV) : Nat → Option (List Bool)
  | 0 => none
  | q + 1 => if (l.getD q default).k = 3 then some (((absUp xs l q).getD (List.replicate xs.length false)).set (xs.idxOf (l.getD q default).t) true) else absUp xs l q
theorem absUp_len (xs : List Int) (l : List OpV) : ∀ q bs, absUp xs l q = some bs → bs.length = xs.length
  | 0, bs, h => by simp [absUp] at h
  | q + 1, bs, h => by
    rw [absUp] at h
    split at h
    · simp only [Option.some.injEq] at h
      rw [← h, List.length_set]
      cases hb : absUp xs l q with
      | none => simp
      | some b => exact absUp_len xs l q b hb
    · exact absUp_len xs l q bs h
/-- What the field aborts holds. -/
def AbAt (w : World) (n N1 : Nat) (v : Value) : Option (List Bool) → Prop
  | none => v = .slice none 0 0
  | some bs => ∃ g, v = .slice (some ⟨g, 0, none⟩) n n ∧ N1 ≤ g ∧ Blk w g 4 (bools bs)

/-- Blocks that indexOps' own work leaves alone: below N1, or of a type that it does not write. -/
def Calm (X N1 N : Nat) (w w' : World) : Prop :=
  w.heap.size ≤ w'.heap.size ∧ ∀ b, b < w.heap.size → b ≠ X → (b < N1 ∨ ∀ c t f, w.heap[b]? = some (.cells c t f) → t ≠ 79 ∧ t ≠ 4 ∧ (t = 3 → b < N)) → w'.heap[b]? = w.heap[b]?
section
variable {X N1 N : Nat} {a w w' : World}
theorem Calm.refl (X N1 N : Nat) (w : World) : Calm X N1 N w w := ⟨Nat.le_refl _, fun _ _ _ _ => rfl⟩
theorem Calm.trans (h : Calm X N1 N a w) (k : Calm X N1 N w w') : Calm X N1 N a w' :=
  ⟨Nat.le_trans h.1 k.1, fun b hb hx hc => by
    have e := h.2 b hb hx hc
    refine (k.2 b (Nat.lt_of_lt_of_le hb h.1) hx ?_).trans e
    rcases hc with hc | hc
    · exact .inl hc
    · exact .inr fun c t f ht => hc c t f (e ▸ ht)⟩
theorem Calm.of_only {D : Nat → Prop} (ho : Only D w w') (hD : ∀ b, b < w.heap.size → D b → b = X ∨ (N1 ≤ b ∧ ∃ c t f, w.heap[b]? = some (.cells c t f) ∧ (t = 79 ∨ t = 4 ∨ (t = 3 ∧ N ≤ b)))) : Calm X N1 N w w' :=
  ⟨ho.size, fun b hb hx hc => ho.block b hb fun hd => by
    rcases hD b hb hd with h | ⟨h1, c, t, f, ht, h2⟩
    · exact hx h
    · rcases hc with hc | hc
      · omega
      · obtain ⟨h3, h4, h5⟩ := hc c t f ht
        rcases h2 with h2 | h2 | ⟨h2, h6⟩
        · exact h3 h2
        · exact h4 h2
        · have := h5 h2; omega⟩
theorem Calm.below (hb : Below w.heap.size w w') : Calm X N1 N w w' := ⟨hb.size, fun b h _ _ => hb.block b h⟩
theorem Calm.alloc (w : World) (o : Obj) : Calm X N1 N w (w.alloc o) := ⟨by simp, fun b h _ _ => Below.heap_alloc _ _ _ h⟩
theorem Calm.drew (w : World) : Calm X N1 N w w.drew := ⟨Nat.le_refl _, fun _ _ _ _ => rfl⟩
theorem Calm.drewN (w : World) (n : Nat) : Calm X N1 N w (w.drewN n) := ⟨Nat.le_refl _, fun _ _ _ _ => rfl⟩
theorem Calm.setX (w : World) (i : Nat) (v : Value) : Calm X N1 N w (w.setCell ⟨X, i, none⟩ v) := ⟨by simp [World.setCell], fun b h hx _ => Below.heap_setCell _ _ _ _ hx⟩
theorem Calm.set {g : Nat} {t : TypeId} {vs : List Value} (h : Blk w g t vs) (hg : N1 ≤ g) (ht : t = 79 ∨ t = 4 ∨ (t = 3 ∧ N ≤ g)) (i : Nat) (v : Value) : Calm X N1 N w (w.setCell ⟨g, i, none⟩ v) := by
  refine Calm.of_only ((Only.refl (fun b => b = g) w).setCell (p := ⟨g, i, none⟩) (.inr rfl) v) fun b hb e => .inr ?_
  subst e
  refine ⟨hg, _, t, _, h, ?_⟩
  rcases ht with h | h | h
  · exact .inl h
  · exact .inr (.inl h)
  · exact .inr (.inr ⟨h.1, by omega⟩)
theorem Calm.grown {g : Nat} {base n size : Nat} {e : TypeId} {cap : Nat} {xs : List Value} (h : w.ownsRow base e size (.slice (some ⟨g, 0, none⟩) n cap) n xs) (hb : N1 ≤ base) (he : e = 79) (hg : w.grownBy w' (some g)) : Calm X N1 N w w' := by
  refine Calm.of_only ((Only.refl (fun b => b = g) w).grown hg (fun k hk => by cases hk; exact .inr rfl)) fun b hb' e' => .inr ?_
  rcases h.2 with ⟨h, _⟩ | ⟨g', cap', cur, hv, hbg, hgg, _⟩
  · cases h
  · simp only [Value.slice.injEq, Option.some.injEq, Addr.mk.injEq] at hv
    obtain ⟨⟨rfl, _⟩, _, rfl⟩ := hv
    subst e'
    exact ⟨by omega, cur, e, _, hgg, .inl he⟩
theorem Calm.row {g : Nat} {vs : List Value} (h : Calm X N1 N w w') (hr : Row w g vs) (hx : g ≠ X) (hg : g < N1) : Row w' g vs := hr.same (h.2 g hr.lt hx (.inl hg))
end

/-- Blocks that the function handed to indexOps leaves alone. -/
def Keep (N1 N : Nat) (w : World) (b : Nat) : Prop := b < N1 ∨ ∃ c t f, w.heap[b]? = some (.cells c t f) ∧ (t = 79 ∨ t = 4 ∨ t = 66 ∨ t = 64 ∨ (t = 3 ∧ N ≤ b))
theorem keep_blk {N1 N : Nat} {w : World} {b : Nat} {t : TypeId} {vs : List Value} (h : Blk w b t vs) (ht : t = 79 ∨ t = 4 ∨ t = 66 ∨ t = 64 ∨ (t = 3 ∧ N ≤ b)) : Keep N1 N w b := .inr ⟨_, _, _, h, ht⟩

structure CloOk (l : List OpV) (xs : List Int) (ys : List ByteArray) (X N1 N fid c0 c1 : Nat) (J : Nat → World → Value → Prop) (Bad : Prop) : Prop where
  enter : ∀ args w, (callFunc fid args).run Yba.prog w = .ok (.enter fid args) w
  skip : ∀ q w v1, q < l.length → acc (l.getD q default).k = false → J q w v1 → J (q + 1) w v1
  calm : ∀ q w w' v1, J q w v1 → Calm X N1 N w w' → J q w' v1
  form : ∀ w v1, J l.length w v1 → (∃ a c, v1 = .slice a ys.length c) ∧ ∀ o, o ∈ accs l → o.i ∈ ys
  call : ∀ q w v1 vs, q < l.length → acc (l.getD q default).k = true → J q w v1 → Blk w X 75 vs → vs.length = 12 → vs[1]? = some v1 → N ≤ w.heap.size →
    Calls Yba.prog fid #[.agg #[.int .u8 (l.getD q default).k, .int .i64 (l.getD q default).t, .string (l.getD q default).i], .int .i64 (xs.idxOf (l.getD q default).t : Nat), .pointer (some ⟨c0, 0, none⟩), .pointer (some ⟨c1, 0, none⟩)] w fun e w' =>
      Only (fun b => b = X ∨ ¬ Keep N1 N w b) w w' ∧
      ((∃ v1', e = .returned (.tuple #[.int .i64 (plc ys (l.getD q default).i : Nat), .bool true]) ∧ J (q + 1) w' v1' ∧ Blk w' X 75 (vs.set 1 v1')) ∨ (∃ z, e = .returned (.tuple #[.int .i64 z, .bool false]) ∧ Bad))
end Go.Proofs.Ybulkebqk
