/-
  'appendElements', 'appendReturned': the plain function and the lemmas on worlds, outside the walks.
-/
import Derived.Test.YbulkbrcuDoorSearch
import Derived.Test.YbulkbrcuDoorAppendInt
namespace Go.Proofs.YbulkbrcuDoor
open Go.RowKit

/-! ### the plain function: what the first j writes leave (es: their elements; ab: when their transactions aborted) -/
def emit (a : Int) (es : Nat → Nat) (ab : Nat → Int) : Nat → List UInt8 × Bool
  | 0 => ([], true)
  | j + 1 => if keepB (ab j) a then ((emit a es ab j).1 ++ (if (emit a es ab j).2 then [] else [44]) ++ Lib.decDigits (es j), false) else emit a es ab j

theorem emit_drop {a : Int} {es : Nat → Nat} {ab : Nat → Int} {j : Nat} (h : keepB (ab j) a = false) : emit a es ab (j + 1) = emit a es ab j := by
  simp [emit, h]
theorem emit_first {a : Int} {es : Nat → Nat} {ab : Nat → Int} {j : Nat} (h : keepB (ab j) a = true) (hf : (emit a es ab j).2 = true) : emit a es ab (j + 1) = ((emit a es ab j).1 ++ Lib.decDigits (es j), false) := by
  simp [emit, h, hf]
theorem emit_next {a : Int} {es : Nat → Nat} {ab : Nat → Int} {j : Nat} (h : keepB (ab j) a = true) (hf : (emit a es ab j).2 = false) : emit a es ab (j + 1) = ((emit a es ab j).1 ++ [44] ++ Lib.decDigits (es j), false) := by
  simp [emit, h, hf]

theorem emit_le (a : Int) (es : Nat → Nat) (ab : Nat → Int) (n : Nat) (h : ∀ j, j < n → es j ≤ 100000) : ∀ j, j ≤ n → (emit a es ab j).1.length ≤ 21 * j
  | 0, _ => by simp [emit]
  | j + 1, hj => by
    have ih := emit_le a es ab n h j (by omega)
    have hd := dec_le (es j) (h j (by omega))
    unfold emit
    split
    · simp only [List.length_append]
      split <;> simp <;> omega
    · omega

/-! ### worlds -/
/-- Block xB is the ListAppend; its 'obj' is the slice v, which owns the bytes bs. -/
def ObjIs (B xB : Nat) (v : Value) (bs : List UInt8) (w : World) : Prop :=
  (∃ c : Array Value, w.heap[xB]? = some (.cells c 44) ∧ c[2]? = some v) ∧ OwnsB w B v bs.length (Lib.byteCells bs)

theorem cell_of_heap {w : World} {b o : Nat} {cs : Array Value} {t : TypeId} {v : Value} (h : w.heap[b]? = some (.cells cs t)) (hv : cs[o]? = some v) : w.cell? ⟨b, o, none⟩ = some v ∧ w.frozen? ⟨b, o, none⟩ = false := by
  simp [World.cell?, World.frozen?, h, hv]

theorem ObjIs.load {B xB : Nat} {v : Value} {bs : List UInt8} {w : World} (h : ObjIs B xB v bs w) : w.cell? ⟨xB, 2, none⟩ = some v ∧ w.frozen? ⟨xB, 2, none⟩ = false := by
  obtain ⟨⟨c, h1, h2⟩, _⟩ := h
  exact cell_of_heap h1 h2

theorem ObjIs.lt {B xB : Nat} {v : Value} {bs : List UInt8} {w : World} (h : ObjIs B xB v bs w) : xB < w.heap.size := by
  obtain ⟨⟨c, h1, _⟩, _⟩ := h
  exact (Array.getElem?_eq_some_iff.1 h1).1

/-- A row of bytes is not the block of another type. -/
theorem own_tag {B : Nat} {v : Value} {n : Nat} {xs : List Value} {w : World} (h : OwnsB w B v n xs) {k : Nat} {o : Obj} (hk : w.heap[k]? = some o) (ho : ∀ c fz, o ≠ .cells c 5 fz) : v.ownBlock ≠ some k := by
  intro e
  obtain ⟨_, g, cap, cur, fr, rfl, _, hg, _⟩ := h
  simp [Value.ownBlock] at e
  subst e
  rw [hg] at hk
  cases hk
  exact ho _ _ rfl

/-- Behind a new block and an append to the bytes v: other blocks are kept. -/
theorem kept_of_grown {B : Nat} {v : Value} {n : Nat} {xs : List Value} {w w1 : World} (h : OwnsB w B v n xs) (hg : w.grownBy w1 v.ownBlock) : Lib.OthersKept 5 none w w1 := by
  intro k o hk _ ho
  have hlt : k < w.heap.size := (Array.getElem?_eq_some_iff.1 hk).1
  rw [hg.block k hlt (Ne.symm (own_tag h hk ho))]
  exact hk

/-- 'x.obj = v'': v' owns bs'. -/
theorem obj_put {B xB : Nat} {v : Value} {bs bs' : List UInt8} {w w1 : World} {g cap : Nat} (h : ObjIs B xB v bs w) (hBx : B ≤ xB) (hk : Lib.OthersKept 5 none w w1) (hb : Below B w w1)
    (hown : OwnsB w1 B (.slice (some ⟨g, 0, none⟩) bs'.length cap) bs'.length (Lib.byteCells bs')) :
    ObjIs B xB (.slice (some ⟨g, 0, none⟩) bs'.length cap) bs' (w1.setCell ⟨xB, 2, none⟩ (.slice (some ⟨g, 0, none⟩) bs'.length cap)) ∧ Lib.OthersKept 5 (some xB) w (w1.setCell ⟨xB, 2, none⟩ (.slice (some ⟨g, 0, none⟩) bs'.length cap)) ∧ Below B w (w1.setCell ⟨xB, 2, none⟩ (.slice (some ⟨g, 0, none⟩) bs'.length cap)) := by
  obtain ⟨⟨c, h1, h2⟩, _⟩ := h
  have hx1 := hk xB _ h1 (by simp) (by intro c' fz e; cases e)
  have hgx : g ≠ xB := fun e => own_tag hown hx1 (by intro c' fz e; cases e) (by rw [e]; rfl)
  have hsz : 2 < c.size := (Array.getElem?_eq_some_iff.1 h2).1
  refine ⟨⟨⟨c.setIfInBounds 2 (.slice (some ⟨g, 0, none⟩) bs'.length cap), ?_, set_at hsz _⟩, ?_⟩, ?_, hb.setCell (by exact hBx) _⟩
  · simp only [World.setCell, Array.getElem?_modify, ↓reduceIte, hx1, Option.map_some]
    rfl
  · refine hown.at (fun g' hg' => ?_)
    simp [Value.ownBlock] at hg'
    subst hg'
    exact Below.heap_setCell _ _ _ _ (by exact hgx)
  · intro k o hk' hne ho
    rw [Below.heap_setCell _ _ _ _ (by show k ≠ xB; intro e; exact hne (by rw [e]))]
    exact hk k o hk' (by simp) ho

/-- 'x.obj = append(x.obj, c)'. -/
theorem obj_push {B xB : Nat} {v : Value} {bs : List UInt8} {w w1 : World} {o : Obj} {g cap : Nat} (c : UInt8) {cv : Int} (hcv : cv = (c.toNat : Int)) (h : ObjIs B xB v bs w) (hBx : B ≤ xB)
    (hgrow : (w.alloc o).grownBy w1 v.ownBlock) (hown : OwnsB w1 B (.slice (some ⟨g, 0, none⟩) (bs.length + 1) cap) (bs.length + 1) (Lib.byteCells bs ++ [.int .u8 cv])) :
    ObjIs B xB (.slice (some ⟨g, 0, none⟩) (bs.length + 1) cap) (bs ++ [c]) (w1.setCell ⟨xB, 2, none⟩ (.slice (some ⟨g, 0, none⟩) (bs.length + 1) cap)) ∧ Lib.OthersKept 5 (some xB) w (w1.setCell ⟨xB, 2, none⟩ (.slice (some ⟨g, 0, none⟩) (bs.length + 1) cap)) ∧ Below B w (w1.setCell ⟨xB, 2, none⟩ (.slice (some ⟨g, 0, none⟩) (bs.length + 1) cap)) := by
  have hlt := h.lt
  have hall : w.grownBy w1 v.ownBlock := (World.grownBy_alloc w o _).trans hgrow
  have hb : Below B w w1 := Below.grown (Below.refl _ _) hall (by omega) (fun k hk => (h.2.lt k hk).1)
  have e1 : (bs ++ [c]).length = bs.length + 1 := by simp
  have e2 : Lib.byteCells (bs ++ [c]) = Lib.byteCells bs ++ [.int .u8 cv] := by rw [hcv]; simp [Lib.byteCells]
  have := obj_put (bs' := bs ++ [c]) (g := g) (cap := cap) h hBx (kept_of_grown h.2 hall) hb (by rw [e1, e2]; exact hown)
  rw [e1] at this
  exact this

theorem obj_far {B xB : Nat} {v : Value} {bs : List UInt8} {w w1 : World} {o : Obj} (h : ObjIs B xB v bs w) (hgrow : (w.alloc o).grownBy w1 v.ownBlock) : w1.cell? ⟨xB, 2, none⟩ = some v ∧ w1.frozen? ⟨xB, 2, none⟩ = false := by
  obtain ⟨⟨c, h1, h2⟩, h3⟩ := h
  exact cell_of_heap (kept_of_grown h3 ((World.grownBy_alloc w o _).trans hgrow) xB _ h1 (by simp) (by intro c' fz e; cases e)) h2

/-- The writes: a row of structs: an element, a transaction. -/
def WritesAre (wsB m : Nat) (es tb : Nat → Nat) (w : World) : Prop :=
  ∃ cur : Array Value, w.heap[wsB]? = some (.cells cur 31) ∧ ∀ j, j < m → cur[j * 2]? = some (.int .i64 (es j : Int)) ∧ cur[j * 2 + 1]? = some (.pointer (some ⟨tb j, 0, none⟩))
/-- Each write's transaction, and when it aborted. -/
def TxnsAre (m : Nat) (tb : Nat → Nat) (ab : Nat → Int) (w : World) : Prop := ∀ j, j < m → ∃ c : Array Value, w.heap[tb j]? = some (.cells c 28) ∧ c[3]? = some (.int .i64 (ab j))
/-- The access: block p3: the item's pointer, the place a. -/
def AccessIs (p3 : Nat) (a : Int) (w : World) : Prop := ∃ c : Array Value, w.heap[p3]? = some (.cells c 47) ∧ c[1]? = some (.int .i64 a)

theorem kept_tag {xB k : Nat} {t : TypeId} {c cx : Array Value} {w w' : World} (hx : w.heap[xB]? = some (.cells cx 44)) (hk : Lib.OthersKept 5 (some xB) w w') (h : w.heap[k]? = some (.cells c t)) (h44 : t ≠ 44) (h5 : t ≠ 5) : w'.heap[k]? = some (.cells c t) := by
  refine hk k _ h ?_ (by intro c' fz e; cases e; exact h5 rfl)
  intro e
  cases e
  rw [hx] at h
  cases h
  exact h44 rfl

theorem WritesAre.kept {wsB m B xB : Nat} {es tb : Nat → Nat} {v : Value} {bs : List UInt8} {w w' : World} (h : WritesAre wsB m es tb w) (hO : ObjIs B xB v bs w) (hk : Lib.OthersKept 5 (some xB) w w') : WritesAre wsB m es tb w' := by
  obtain ⟨cur, h1, h2⟩ := h
  obtain ⟨⟨c, hx, _⟩, _⟩ := hO
  exact ⟨cur, kept_tag hx hk h1 (by decide) (by decide), h2⟩
theorem TxnsAre.kept {m B xB : Nat} {tb : Nat → Nat} {ab : Nat → Int} {v : Value} {bs : List UInt8} {w w' : World} (h : TxnsAre m tb ab w) (hO : ObjIs B xB v bs w) (hk : Lib.OthersKept 5 (some xB) w w') : TxnsAre m tb ab w' := by
  intro j hj
  obtain ⟨c, h1, h2⟩ := h j hj
  obtain ⟨⟨cx, hx, _⟩, _⟩ := hO
  exact ⟨c, kept_tag hx hk h1 (by decide) (by decide), h2⟩
theorem AccessIs.kept {p3 B xB : Nat} {a : Int} {v : Value} {bs : List UInt8} {w w' : World} (h : AccessIs p3 a w) (hO : ObjIs B xB v bs w) (hk : Lib.OthersKept 5 (some xB) w w') : AccessIs p3 a w' := by
  obtain ⟨c, h1, h2⟩ := h
  obtain ⟨⟨cx, hx, _⟩, _⟩ := hO
  exact ⟨c, kept_tag hx hk h1 (by decide) (by decide), h2⟩

theorem kept_below {xB : Nat} {w w' : World} (h : Below w.heap.size w w') : Lib.OthersKept 5 (some xB) w w' := by
  intro k o hk _ _
  rw [h.block k (Array.getElem?_eq_some_iff.1 hk).1]
  exact hk

theorem ObjIs.later {B xB : Nat} {v : Value} {bs : List UInt8} {w w' : World} (h : ObjIs B xB v bs w) (hb : Below w.heap.size w w') : ObjIs B xB v bs w' := by
  obtain ⟨⟨c, h1, h2⟩, h3⟩ := h
  refine ⟨⟨c, (hb.block xB (Array.getElem?_eq_some_iff.1 h1).1).trans h1, h2⟩, ?_⟩
  exact h3.at (fun g hg => hb.block g (h3.lt g hg).2)

theorem ObjIs.drew {B xB : Nat} {v : Value} {bs : List UInt8} {w : World} (h : ObjIs B xB v bs w) : ObjIs B xB v bs w.drew := h

theorem obj_far0 {B xB : Nat} {v : Value} {bs : List UInt8} {w w1 : World} (h : ObjIs B xB v bs w) (hgrow : w.grownBy w1 v.ownBlock) : w1.cell? ⟨xB, 2, none⟩ = some v ∧ w1.frozen? ⟨xB, 2, none⟩ = false := by
  obtain ⟨⟨c, h1, h2⟩, h3⟩ := h
  exact cell_of_heap (kept_of_grown h3 hgrow xB _ h1 (by simp) (by intro c' fz e; cases e)) h2

/-- 'x.obj = strconv.AppendInt(x.obj, N, 10)'. -/
theorem obj_int {B xB : Nat} {v : Value} {bs : List UInt8} {w w1 : World} {g cap N : Nat} (h : ObjIs B xB v bs w) (hBx : B ≤ xB) (hgrow : w.grownBy w1 v.ownBlock)
    (hown : OwnsB w1 B (.slice (some ⟨g, 0, none⟩) (bs.length + (Lib.decDigits N).length) cap) (bs.length + (Lib.decDigits N).length) (Lib.byteCells bs ++ Lib.byteCells (Lib.decDigits N))) :
    ObjIs B xB (.slice (some ⟨g, 0, none⟩) (bs.length + (Lib.decDigits N).length) cap) (bs ++ Lib.decDigits N) (w1.setCell ⟨xB, 2, none⟩ (.slice (some ⟨g, 0, none⟩) (bs.length + (Lib.decDigits N).length) cap)) ∧ Lib.OthersKept 5 (some xB) w (w1.setCell ⟨xB, 2, none⟩ (.slice (some ⟨g, 0, none⟩) (bs.length + (Lib.decDigits N).length) cap)) ∧ Below B w (w1.setCell ⟨xB, 2, none⟩ (.slice (some ⟨g, 0, none⟩) (bs.length + (Lib.decDigits N).length) cap)) := by
  have e1 : (bs ++ Lib.decDigits N).length = bs.length + (Lib.decDigits N).length := by simp
  have hlt := h.lt
  have hb : Below B w w1 := Below.grown (Below.refl _ _) hgrow (by omega) (fun k hk => (h.2.lt k hk).1)
  have := obj_put (bs' := bs ++ Lib.decDigits N) (g := g) (cap := cap) h hBx (kept_of_grown h.2 hgrow) hb (by rw [e1, Lib.byteCells_append]; exact hown)
  rw [e1] at this
  exact this

end Go.Proofs.YbulkbrcuDoor
