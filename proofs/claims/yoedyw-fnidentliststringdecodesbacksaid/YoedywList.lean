/-
  THE LIST IN MEMORY: what the walks are told of an *IdentList and of its []*Ident; what one round of buildIdentList | buildNamesOnly makes of it. No walk here.
-/
import Derived.Test.YoedywBase
import Derived.Deep.AppendLies
namespace Go.Proofs.Yoedyw
open Go.RowKit

/-- n pointers to n Idents (S j, Z j) lie behind the address ad. -/
def PtrRow (w : World) (ad : Option Addr) (n : Nat) (S : Nat → ByteArray) (Z : Nat → Int) : Prop :=
  n = 0 ∨ ∃ g off, ad = some ⟨g, off, none⟩ ∧ ∀ j, j < n → ∃ b, w.cell? ⟨g, off + j, none⟩ = some (.pointer (some ⟨b, 0, none⟩)) ∧ w.cell? ⟨b, 0, none⟩ = some (.string (S j)) ∧ w.cell? ⟨b, 1, none⟩ = some (.int .i64 (Z j))

/-- An IdentList of n Idents lies in block p. -/
def ListAt (w : World) (p : Nat) (lp rp : Int) (va : Bool) (n : Nat) (S : Nat → ByteArray) (Z : Nat → Int) : Prop :=
  ∃ ad cap, w.cell? ⟨p, 0, none⟩ = some (.int .i64 lp) ∧ w.cell? ⟨p, 1, none⟩ = some (.bool va) ∧ w.cell? ⟨p, 2, none⟩ = some (.slice ad n cap) ∧ w.cell? ⟨p, 3, none⟩ = some (.int .i64 rp) ∧ PtrRow w ad n S Z

theorem PtrRow.later {w w' : World} {ad : Option Addr} {n : Nat} {S : Nat → ByteArray} {Z : Nat → Int} (h : PtrRow w ad n S Z) (hb : Below w.heap.size w w') : PtrRow w' ad n S Z := by
  rcases h with h | ⟨g, off, ha, hc⟩
  · exact .inl h
  · refine .inr ⟨g, off, ha, fun j hj => ?_⟩
    obtain ⟨b, h1, h2, h3⟩ := hc j hj
    exact ⟨b, cell_later hb h1, cell_later hb h2, cell_later hb h3⟩
theorem ListAt.later {w w' : World} {p : Nat} {lp rp : Int} {va : Bool} {n : Nat} {S : Nat → ByteArray} {Z : Nat → Int} (h : ListAt w p lp rp va n S Z) (hb : Below w.heap.size w w') : ListAt w' p lp rp va n S Z := by
  obtain ⟨ad, cap, h0, h1, h2, h3, hr⟩ := h
  exact ⟨ad, cap, cell_later hb h0, cell_later hb h1, cell_later hb h2, cell_later hb h3, hr.later hb⟩

def ptr (b : Nat) : Value := .pointer (some ⟨b, 0, none⟩)

/-- k Idents have been made and gathered; base: the heap's size when the call began. -/
def Built (base : Nat) (w wr : World) (v : Value) (k : Nat) (S : Nat → ByteArray) (Z : Nat → Int) : Prop :=
  ∃ bs : List Nat, bs.length = k ∧ wr.ownsRow base 43 1 v k (bs.map ptr) ∧ (∀ (j b : Nat), bs[j]? = some b → wr.heap[b]? = some (.cells #[.string (S j), .int .i64 (Z j)] 45 (0, 0))) ∧ Below base w wr

theorem Built.start (w : World) (S : Nat → ByteArray) (Z : Nat → Int) : Built w.heap.size w w (.slice none 0 0) 0 S Z :=
  ⟨[], rfl, World.ownsRow_nil _ _ _ _, fun j b h => by simp at h, Below.refl _ _⟩

theorem Built.row {base : Nat} {w wr : World} {v : Value} {k : Nat} {S : Nat → ByteArray} {Z : Nat → Int} (h : Built base w wr v k S Z) : ∃ xs, wr.ownsRow base 43 1 v k xs := by
  obtain ⟨bs, _, h, _, _⟩ := h
  exact ⟨_, h⟩
theorem Built.below {base : Nat} {w wr : World} {v : Value} {k : Nat} {S : Nat → ByteArray} {Z : Nat → Int} (h : Built base w wr v k S Z) : Below base w wr := by
  obtain ⟨bs, _, _, _, h⟩ := h
  exact h

theorem two_new (wr : World) (o p : Obj) : ((wr.alloc o).alloc p).heap[wr.heap.size + 1]? = some p := by
  have := heap_alloc_new (wr.alloc o) p
  simpa using this

/-- What one round makes of it: an Ident in a new block, the pointer to it in a block of its own, the append. -/
theorem Built.step {base : Nat} {w wr w1 : World} {v v' : Value} {k : Nat} {S : Nat → ByteArray} {Z : Nat → Int} {xs : List Value} (hB : base ≤ wr.heap.size) (h : Built base w wr v k S Z) (hx : wr.ownsRow base 43 1 v k xs) (o : Obj)
    (hown : w1.ownsRow base 43 1 v' (k + 1) (xs ++ [ptr wr.heap.size]))
    (hg : ((wr.alloc (.cells #[.string (S k), .int .i64 (Z k)] 45)).alloc o).grownBy w1 v.ownBlock) : Built base w w1 v' (k + 1) S Z := by
  obtain ⟨bs, hl, hr, hc, hb⟩ := h
  have hxs : xs = bs.map ptr := by
    rcases hx.2 with ⟨rfl, h0⟩ | ⟨g, cap, cur, hv, _, hg1, _, _, _, ht⟩
    · have e1 : xs = [] := List.eq_nil_of_length_eq_zero (by rw [hx.1, h0])
      have e2 : bs = [] := List.eq_nil_of_length_eq_zero (by rw [hl, h0])
      rw [e1, e2]; rfl
    · rcases hr.2 with ⟨hv2, _⟩ | ⟨g2, cap2, cur2, hv2, _, hg2, _, _, _, ht2⟩
      · rw [hv] at hv2; cases hv2
      · rw [hv] at hv2
        simp only [Value.slice.injEq, Option.some.injEq, Addr.mk.injEq, true_and, and_true] at hv2
        obtain ⟨rfl, rfl⟩ := hv2
        rw [hg1] at hg2
        simp only [Option.some.injEq, Obj.cells.injEq, and_true] at hg2
        rw [← ht, ← ht2, hg2]
  subst hxs
  have hbelow : Below base w w1 := (((hb.alloc hB _).alloc (by simp; omega) _)).grown hg (by simp; omega) (fun q hq => (hr.lt q hq).1)
  -- a block of another type than the row's is not the row
  have far : ∀ (b : Nat) (cs : Array Value), ((wr.alloc (.cells #[.string (S k), .int .i64 (Z k)] 45)).alloc o).heap[b]? = some (.cells cs 45 (0, 0)) → some b ≠ v.ownBlock := by
    intro b cs hbk e
    have hr' := (hr.alloc (.cells #[.string (S k), .int .i64 (Z k)] 45)).alloc o
    rcases hr'.2 with ⟨rfl, _⟩ | ⟨g, cap, cur, rfl, _, hg2, _⟩
    · simp [Value.ownBlock] at e
    · simp only [Value.ownBlock, Option.some.injEq] at e
      subst e
      rw [hbk] at hg2
      simp at hg2
  have keep : ∀ (b : Nat) (cs : Array Value), ((wr.alloc (.cells #[.string (S k), .int .i64 (Z k)] 45)).alloc o).heap[b]? = some (.cells cs 45 (0, 0)) → w1.heap[b]? = some (.cells cs 45 (0, 0)) := by
    intro b cs hbk
    rw [hg.block b (Array.getElem?_eq_some_iff.1 hbk).1 (far b cs hbk)]
    exact hbk
  refine ⟨bs ++ [wr.heap.size], by simp [hl], by simpa using hown, fun j b hj => ?_, hbelow⟩
  rw [List.getElem?_append] at hj
  by_cases hjl : j < bs.length
  · rw [if_pos hjl] at hj
    refine keep b _ ?_
    have h1 := hc j b hj
    have hlt := (Array.getElem?_eq_some_iff.1 h1).1
    rw [heap_alloc_old _ _ (by simp; omega), heap_alloc_old _ _ hlt]
    exact h1
  · rw [if_neg hjl] at hj
    have hj0 : j - bs.length = 0 := by
      have := (List.getElem?_eq_some_iff.1 hj).1
      simp at this
      omega
    rw [hj0] at hj
    simp only [List.getElem?_cons_zero, Option.some.injEq] at hj
    subst hj
    have hjk : j = k := by omega
    subst hjk
    refine keep _ _ ?_
    rw [heap_alloc_old _ _ (by simp)]
    exact heap_alloc_new _ _

/-- The finished slice, boxed into an IdentList. -/
theorem Built.done {base : Nat} {w wr : World} {ao : Option Addr} {cv k : Nat} {S : Nat → ByteArray} {Z : Nat → Int} (hB : base ≤ wr.heap.size) (h : Built base w wr (.slice ao k cv) k S Z) (lp rp : Int) (va : Bool) :
    ListAt (wr.alloc (.cells #[.int .i64 lp, .bool va, .slice ao k cv, .int .i64 rp] 47)) wr.heap.size lp rp va k S Z ∧ Below base w (wr.alloc (.cells #[.int .i64 lp, .bool va, .slice ao k cv, .int .i64 rp] 47)) := by
  obtain ⟨bs, hl, hr, hc, hb⟩ := h
  have hn := heap_alloc_new wr (.cells #[.int .i64 lp, .bool va, .slice ao k cv, .int .i64 rp] 47)
  refine ⟨⟨ao, cv, by rw [cell_of_row _ _ _ _ _ _ hn]; rfl, by rw [cell_of_row _ _ _ _ _ _ hn]; rfl, by rw [cell_of_row _ _ _ _ _ _ hn]; rfl, by rw [cell_of_row _ _ _ _ _ _ hn]; rfl, ?_⟩, hb.alloc hB _⟩
  rcases hr.2 with ⟨_, h0⟩ | ⟨g, cap, cur, hv, _, hg, _⟩
  · exact .inl h0
  · simp only [Value.slice.injEq, true_and] at hv
    obtain ⟨rfl, rfl⟩ := hv
    refine .inr ⟨g, 0, rfl, fun j hj => ?_⟩
    obtain ⟨b, hbj⟩ : ∃ b, bs[j]? = some b := ⟨_, List.getElem?_eq_getElem (by omega)⟩
    have hblk := hc j b hbj
    have hblt := (Array.getElem?_eq_some_iff.1 hblk).1
    have hglt := (Array.getElem?_eq_some_iff.1 hg).1
    have hblk' : (wr.alloc (.cells #[.int .i64 lp, .bool va, .slice (some ⟨g, 0, none⟩) k cv, .int .i64 rp] 47)).heap[b]? = some (.cells #[.string (S j), .int .i64 (Z j)] 45 (0, 0)) := by rw [heap_alloc_old _ _ hblt]; exact hblk
    refine ⟨b, ?_, ?_, ?_⟩
    · have h1 := (hr.alloc (.cells #[.int .i64 lp, .bool va, .slice (some ⟨g, 0, none⟩) k cv, .int .i64 rp] 47)).cellAt j (by omega)
      rw [Nat.zero_add, h1, List.getElem?_map, hbj]
      rfl
    · rw [cell_of_row _ _ _ _ _ _ hblk']; rfl
    · rw [cell_of_row _ _ _ _ _ _ hblk']; rfl

/-- A call that makes an IdentList and turns nothing that was there. -/
def Makes (w : World) (lp rp : Int) (va : Bool) (n : Nat) (S : Nat → ByteArray) (Z : Nat → Int) (e : Ending) (w' : World) : Prop :=
  ∃ p, e = .returned (.pointer (some ⟨p, 0, none⟩)) ∧ ListAt w' p lp rp va n S Z ∧ Below w.heap.size w w'

end Go.Proofs.Yoedyw
