/-
  numberTransactions at whatever schedule; what is known of an index; slices of indexOps' outcome.
-/
import Derived.Test.YbulkebqkCClo1
namespace Go.Proofs.Ybulkebqk
open Go.RowKit
set_option linter.unusedVariables false

theorem tx_len {l : List OpV} {xs : List Int} (h : Tx l xs) : xs.length ≤ l.length := by
  rw [h.unique (txOf_tx l)]
  exact Nat.le_trans (Lib.compact_length_le _) (by simp)
theorem num_any (g n cap : Nat) (l : List OpV) (w : World) (hn : l.length = n) (hb : n ≤ 65536) (hS : Small l) (hR : Row w g (opCells l)) :
    Calls Yba.prog 39 #[.slice (some ⟨g, 0, none⟩) n cap] w fun e w' => ∃ (g' c' n10 : Nat) (xs : List Int) (z9 : Int) (a10 : Option Addr) (b11 : Option Nat), e = .returned (.tuple #[.slice (some ⟨g', 0, none⟩) xs.length c', .agg #[.int .i64 z9, .slice a10 n10 n10, .map b11]]) ∧ w.heap.size ≤ g' ∧ Tx l xs ∧ xs.length ≤ n ∧ Row w' g' (ints .i64 xs) ∧ NumAt w.heap.size w' l xs (.agg #[.int .i64 z9, .slice a10 n10 n10, .map b11]) ∧ Below w.heap.size w w' := by
  rcases Nat.eq_zero_or_pos n with h0 | h0
  · subst h0
    have hl : l = [] := List.eq_nil_of_length_eq_zero hn
    subst hl
    refine (num39_nil g cap w hR).mono ?_
    rintro e w' ⟨g', rfl, h1, h2, h3, h4⟩
    exact ⟨g', 0, 0, [], _, _, _, rfl, h1, ⟨List.Pairwise.nil, fun z => by simp⟩, by simp, h3, .inl ⟨rfl, rfl⟩, h4⟩
  · refine (num39 g n cap l w hn h0 hb hS hR).mono ?_
    rintro e w' ⟨g', c', xs, nv, rfl, h1, h2, h3, h4, h5⟩
    have hlen : xs.length ≤ n := by rw [← hn]; exact tx_len h2
    rcases h4 with ⟨e1, _⟩ | ⟨a1, a2, b, a3, rfl, a4⟩ | ⟨a1, a2, g2, m, a3, a4, rfl, a5⟩
    · rw [e1] at hn; simp at hn; omega
    · exact ⟨g', c', 0, xs, _, _, _, rfl, h1, h2, hlen, h3, .inr (.inl ⟨a1, a2, b, a3, rfl, a4⟩), h5⟩
    · exact ⟨g', c', m, xs, _, _, _, rfl, h1, h2, hlen, h3, .inr (.inr ⟨a1, a2, g2, m, a3, a4, rfl, a5⟩), h5⟩

/-- A numbering lies in the blocks from B on: where those that were there are as they were, it stands. -/
theorem NumAt.kept {B N1 : Nat} {w w' : World} {l : List OpV} {xs : List Int} {nv : Value} (h : NumAt B w l xs nv) (hN : w.heap.size ≤ N1) (hs : ∀ b, B ≤ b → b < N1 → w'.heap[b]? = w.heap[b]?) : NumAt B w' l xs nv := by
  rcases h with h | ⟨a1, a2, b, a3, e, a4⟩ | ⟨a1, a2, g, m, a3, a4, e, a5⟩
  · exact .inl h
  · refine .inr (.inl ⟨a1, a2, b, a3, e, ?_⟩)
    obtain ⟨es, clock, h1, rest⟩ := a4
    exact ⟨es, clock, (hs b a3 (by have := (Array.getElem?_eq_some_iff.1 h1).1; omega)).trans h1, rest⟩
  · exact .inr (.inr ⟨a1, a2, g, m, a3, a4, e, a5.same (hs g a3 (by have := a5.lt; omega))⟩)
theorem NumAt.mono {B B' : Nat} {w : World} {l : List OpV} {xs : List Int} {nv : Value} (h : NumAt B w l xs nv) (hB : B' ≤ B) : NumAt B' w l xs nv := by
  rcases h with h | ⟨a1, a2, b, a3, e, a4⟩ | ⟨a1, a2, g, m, a3, a4, e, a5⟩
  · exact .inl h
  · exact .inr (.inl ⟨a1, a2, b, by omega, e, a4⟩)
  · exact .inr (.inr ⟨a1, a2, g, m, by omega, a4, e, a5⟩)

/-- An index of the schedule l, with the transactions xs and the items ys, lies at block X. -/
def IxAt (w : World) (X : Nat) (l : List OpV) (xs : List Int) (ys : List ByteArray) : Prop :=
  ∃ (gT cT c1 G cO Sg Lg ml Pg E n1 : Nat) (a1 : Option Addr) (abv t9 t10 t11 : Value) (os : List IOp) (T I : List Nat), os = iops xs ys l ∧ T = os.map (·.t) ∧ I = os.map (·.x) ∧ n1 = xs.length + 1 ∧
    Blk w X 75 (ixCells (.slice (some ⟨gT, 0, none⟩) xs.length cT) (.slice a1 ys.length c1) (.slice (some ⟨G, 0, none⟩) os.length cO) (.slice (some ⟨Sg, 0, none⟩) n1 n1) (.slice (some ⟨Lg, 0, none⟩) ml ml) (.int .i64 (cnt T I xs.length : Nat)) (.slice (some ⟨Pg, 0, none⟩) n1 n1) (.slice (some ⟨E, 0, none⟩) xs.length xs.length) abv t9 t10 t11) ∧
    Row w gT (ints .i64 xs) ∧ At w a1 (strs ys) ∧ Row w G (ioCells (paired T I os)) ∧ ml = start T xs.length ∧ Row w Sg (nats (starts T xs.length)) ∧ Row w Lg (nats (flat (pos T) xs.length)) ∧ Row w Pg (nats (pairStarts T I xs.length)) ∧ Row w E (nats (endsUp xs l l.length)) ∧ AbAt w xs.length 0 abv (absUp xs l l.length) ∧ NumAt 0 w l xs (.agg #[t9, t10, t11])
end Go.Proofs.Ybulkebqk
