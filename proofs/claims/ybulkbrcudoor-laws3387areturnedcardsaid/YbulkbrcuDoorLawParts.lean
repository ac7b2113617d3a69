/-
  'LawS3387AReturned': the lemmas outside the walk: the pool of transactions, the row of writes.
-/
import Derived.Test.YbulkbrcuDoorReturned
import Derived.Lib.SlBytesConst
import Derived.Deep.AppendLies
namespace Go.Proofs.YbulkbrcuDoor
open Go.RowKit

theorem make4 (w : World) : (Instr.makeSlice 24 (.int .i64 4) (.int .i64 4)).run Ybad.prog w = .ok (.slice (some ⟨w.heap.size, 0, none⟩) 4 4) (w.alloc (.cells #[.pointer none, .pointer none, .pointer none, .pointer none] 25)) := by kernel_rfl
theorem info31 : (Ybad.prog.info? 31).map (fun i => (i.zero, i.size, i.bytes)) = some (some (.agg #[.int .i64 0, .pointer none]), 2, 16) := by kernel_rfl

/-! ### the pool -/
structure Pool (w : World) (abf : Nat → Int) (k : Nat) (wr : World) : Prop where
  below : Below w.heap.size w wr
  size : wr.heap.size = w.heap.size + 1 + k
  arr : ∃ cs : Array Value, wr.heap[w.heap.size]? = some (.cells cs 25) ∧ cs.size = 4 ∧ ∀ j, j < k → cs[j]? = some (.pointer (some ⟨w.heap.size + 1 + j, 0, none⟩))
  txn : ∀ j, j < k → ∃ c : Array Value, wr.heap[w.heap.size + 1 + j]? = some (.cells c 28) ∧ c[3]? = some (.int .i64 (abf j))

theorem pool_start (w : World) (abf : Nat → Int) : Pool w abf 0 (w.alloc (.cells #[.pointer none, .pointer none, .pointer none, .pointer none] 25)) :=
  ⟨(Below.refl _ _).alloc (Nat.le_refl _) _, by simp, ⟨_, heap_alloc_new w _, rfl, fun j hj => by omega⟩, fun j hj => by omega⟩

theorem pool_step {w : World} {abf : Nat → Int} {k : Nat} {wr : World} (N : Pool w abf k wr) (hk : k < 4) {x : Int} (hx : x = abf k) :
    Pool w abf (k + 1) ((wr.setCell ⟨w.heap.size, k, none⟩ (.pointer (some ⟨wr.heap.size, 0, none⟩))).alloc (.cells #[.int .i64 (k : Int), .slice none 0 0, .bool false, .int .i64 x] 28)) := by
  obtain ⟨hb, hs, ⟨cs, hcs, hcz, hcj⟩, ht⟩ := N
  have hsz : (wr.setCell ⟨w.heap.size, k, none⟩ (.pointer (some ⟨wr.heap.size, 0, none⟩))).heap.size = wr.heap.size := by simp [World.setCell]
  have old : ∀ b, b < wr.heap.size → b ≠ w.heap.size → ((wr.setCell ⟨w.heap.size, k, none⟩ (.pointer (some ⟨wr.heap.size, 0, none⟩))).alloc (.cells #[.int .i64 (k : Int), .slice none 0 0, .bool false, .int .i64 x] 28)).heap[b]? = wr.heap[b]? := fun b hlt hne => by
    rw [Below.heap_alloc _ _ _ (by rw [hsz]; exact hlt), Below.heap_setCell _ _ _ _ (by exact hne)]
  refine ⟨?_, ?_, ⟨cs.setIfInBounds k (.pointer (some ⟨wr.heap.size, 0, none⟩)), ?_, by simp [hcz], ?_⟩, ?_⟩
  · exact (hb.setCell (by exact Nat.le_refl _) _).alloc (by rw [hsz]; omega) _
  · simp [hsz]; omega
  · rw [Below.heap_alloc _ _ _ (by rw [hsz]; omega)]
    simp only [World.setCell, Array.getElem?_modify, ↓reduceIte, hcs, Option.map_some]
    rfl
  · intro j hj
    by_cases e : j = k
    · subst e
      rw [set_at (by omega), hs]
    · rw [Array.getElem?_setIfInBounds, if_neg (by omega)]
      exact hcj j (by omega)
  · intro j hj
    by_cases e : j = k
    · subst e
      refine ⟨#[.int .i64 (j : Int), .slice none 0 0, .bool false, .int .i64 (abf j)], ?_, rfl⟩
      · rw [show w.heap.size + 1 + j = (wr.setCell ⟨w.heap.size, j, none⟩ (.pointer (some ⟨wr.heap.size, 0, none⟩))).heap.size by rw [hsz, hs]]
        rw [hx]
        exact heap_alloc_new _ _
    · obtain ⟨c, h1, h2⟩ := ht j (by omega)
      exact ⟨c, (old _ (by omega) (by omega)).trans h1, h2⟩

/-! ### the writes -/
/-- e behind k rounds -/
def acc (dz : Nat → Nat) : Nat → Nat
  | 0 => 0
  | k + 1 => acc dz k + (1 + dz k % 2)
def esOf (dz : Nat → Nat) (j : Nat) : Nat := acc dz (j + 1)

theorem acc_le (dz : Nat → Nat) : ∀ k, acc dz k ≤ 2 * k
  | 0 => Nat.le_refl _
  | k + 1 => by have := acc_le dz k; simp only [acc]; omega
theorem acc_mono (dz : Nat → Nat) : ∀ i d, acc dz i ≤ acc dz (i + d)
  | _, 0 => Nat.le_refl _
  | i, d + 1 => by have := acc_mono dz i d; show _ ≤ acc dz (i + d) + _; omega
theorem acc_pos (dz : Nat → Nat) (k : Nat) : 1 ≤ acc dz (k + 1) := by simp only [acc]; omega
theorem es_mono (dz : Nat → Nat) {i j : Nat} (h : i ≤ j) : esOf dz i ≤ esOf dz j := by
  have := acc_mono dz (i + 1) (j - i)
  unfold esOf
  rw [show i + 1 + (j - i) = j + 1 by omega] at this
  exact this

/-- The first k writes' cells. -/
def wcells (es tb : Nat → Nat) : Nat → List Value
  | 0 => []
  | k + 1 => wcells es tb k ++ [.int .i64 (es k : Int), .pointer (some ⟨tb k, 0, none⟩)]

theorem wcells_length (es tb : Nat → Nat) : ∀ k, (wcells es tb k).length = k * 2
  | 0 => rfl
  | k + 1 => by simp only [wcells, List.length_append, wcells_length es tb k, List.length_cons, List.length_nil]; omega

theorem wcells_at (es tb : Nat → Nat) : ∀ k j, j < k → (wcells es tb k)[j * 2]? = some (.int .i64 (es j : Int)) ∧ (wcells es tb k)[j * 2 + 1]? = some (.pointer (some ⟨tb j, 0, none⟩))
  | 0, j, h => by omega
  | k + 1, j, h => by
    have hl := wcells_length es tb k
    simp only [wcells]
    by_cases e : j = k
    · subst e
      rw [List.getElem?_append_right (by omega), List.getElem?_append_right (by omega), hl]
      simp [show j * 2 + 1 - j * 2 = 1 by omega]
    · obtain ⟨h1, h2⟩ := wcells_at es tb k j (by omega)
      rw [List.getElem?_append_left (by omega), List.getElem?_append_left (by omega)]
      exact ⟨h1, h2⟩

theorem writes_of_row {w : World} {base wsB n cap : Nat} {es tb : Nat → Nat} (h : w.ownsRow base 31 2 (.slice (some ⟨wsB, 0, none⟩) n cap) n (wcells es tb n)) : WritesAre wsB n es tb w := by
  rcases h.2 with ⟨h0, _⟩ | ⟨g, cap', cur, hv, _, hg, hle, _, hs, ht⟩
  · cases h0
  · simp at hv
    obtain ⟨rfl, rfl⟩ := hv
    refine ⟨cur, hg, fun j hj => ?_⟩
    obtain ⟨h1, h2⟩ := wcells_at es tb n j hj
    rw [← ht, List.getElem?_take, if_pos (by omega)] at h1 h2
    exact ⟨by simpa using h1, by simpa using h2⟩

/-- One write more. -/
theorem row_step {wsB k n : Nat} {es tb : Nat → Nat} {wp wr w3 : World} {o : Obj} {x : Int} {t : Nat} (hown : w3.ownsRow wsB 31 2 (.slice (some ⟨wsB, 0, none⟩) (k + 1) n) (k + 1) (wcells es tb k ++ [.int .i64 x, .pointer (some ⟨t, 0, none⟩)])) (hg : (wr.alloc o).grownBy w3 (some wsB)) (hb : Below wsB wp wr) (hsz : wsB ≤ wr.heap.size)
    (hx : (es k : Int) = x) (ht : t = tb k) : w3.ownsRow wsB 31 2 (.slice (some ⟨wsB, 0, none⟩) (k + 1) n) (k + 1) (wcells es tb (k + 1)) ∧ Below wsB wp w3 := by
  refine ⟨by simp only [wcells]; rw [hx, ← ht]; exact hown, ?_⟩
  exact (hb.alloc hsz o).grown hg (by simp; omega) (fun j hj => by cases hj; exact Nat.le_refl _)

theorem WritesAre.later {wsB m T : Nat} {es tb : Nat → Nat} {w w' : World} (h : WritesAre wsB m es tb w) (hb : Below T w w') (hT : T = w.heap.size) : WritesAre wsB m es tb w' := by
  obtain ⟨cur, h1, h2⟩ := h
  exact ⟨cur, (hb.block wsB (by rw [hT]; exact (Array.getElem?_eq_some_iff.1 h1).1)).trans h1, h2⟩
theorem TxnsAre.later {m T : Nat} {tb : Nat → Nat} {ab : Nat → Int} {w w' : World} (h : TxnsAre m tb ab w) (hb : Below T w w') (hT : T = w.heap.size) : TxnsAre m tb ab w' := by
  intro j hj
  obtain ⟨c, h1, h2⟩ := h j hj
  exact ⟨c, (hb.block (tb j) (by rw [hT]; exact (Array.getElem?_eq_some_iff.1 h1).1)).trans h1, h2⟩

/-- 'string(b)', b owned. -/
theorem owns_string {w : World} {base g cap : Nat} {L : List UInt8} (h : OwnsB w base (.slice (some ⟨g, 0, none⟩) L.length cap) L.length (Lib.byteCells L)) : ∀ q, (convert 22 9 (.slice (some ⟨g, 0, none⟩) L.length cap)).run Ybad.prog (w.drewN q) = .ok (.string ⟨L.toArray⟩) (w.drewN q) := fun q =>
  run_convert_bytes_back (P := Ybad.prog) (w.drewN q) 22 9 5 ⟨g, 0, none⟩ cap L Ybad.underlying22 Ybad.underlying5 Ybad.underlying9 (fun j hj => by
    rw [Lib.add_plain, World.cell?_drewN, Nat.zero_add]
    exact h.cells (g := g) rfl j _ (by simp [Lib.byteCells, hj]))

/-- A byte more. -/
theorem owns_snoc {w : World} {base : Nat} {v : Value} {L : List UInt8} {n : Nat} (c : UInt8) {cv : Int} (hcv : cv = (c.toNat : Int)) (hn : n = L.length + 1) (h : OwnsB w base v n (Lib.byteCells L ++ [.int .u8 cv])) : OwnsB w base v (L ++ [c]).length (Lib.byteCells (L ++ [c])) := by
  have e1 : (L ++ [c]).length = n := by simp [hn]
  have e2 : Lib.byteCells (L ++ [c]) = Lib.byteCells L ++ [.int .u8 cv] := by rw [hcv]; simp [Lib.byteCells]
  rw [e1, e2]
  exact h

theorem cell_one_at {w : World} {v : Value} {t : TypeId} {b : Nat} (hb : w.heap.size = b) : ∀ j u, [v][j]? = some u → (w.alloc (.cells #[v] t)).cell? ((⟨b, 0, none⟩ : Addr).add j) = some u := by
  subst hb
  exact cell_one_new _ _ _

/-- The bytes that lie in old memory, behind whatever is done from T on. -/
theorem owns_later {w w' : World} {base T : Nat} {v : Value} {n : Nat} {xs : List Value} (h : OwnsB w base v n xs) (hb : Below T w w') (hT : T = w.heap.size) : OwnsB w' base v n xs :=
  h.at (fun g hg => hb.block g (by rw [hT]; exact (h.lt g hg).2))

/-- An append to the bytes that lie from T on. -/
theorem below_append {w wx w5 : World} {T : Nat} {v : Value} {n : Nat} {xs : List Value} (hb : Below T w wx) (hw : OwnsB wx T v n xs) (hg : wx.grownBy w5 v.ownBlock) (hT : T ≤ wx.heap.size) : Below T w w5 :=
  hb.grown hg hT (fun k hk => (hw.lt k hk).1)

theorem owns_app {w : World} {base : Nat} {v : Value} {L D : List UInt8} {n : Nat} (hn : n = L.length + D.length) (h : OwnsB w base v n (Lib.byteCells L ++ Lib.byteCells D)) : OwnsB w base v (L ++ D).length (Lib.byteCells (L ++ D)) := by
  rw [Lib.byteCells_append, show (L ++ D).length = n by simp [hn]]
  exact h

/-- The round's own variable is as it was behind an append. -/
theorem far_elem {wr w5 : World} {T n : Nat} {v : Value} {xs : List Value} {x : Int} {p : Value} {o : Obj} (h : OwnsB wr T v n xs) (hg : ((wr.alloc (.cells #[.int .i64 x, p] 31)).alloc o).grownBy w5 v.ownBlock) : w5.cell? ⟨wr.heap.size, 0, none⟩ = some (.int .i64 x) := by
  rw [hg.cell_far _ (show wr.heap.size < _ by simp; omega) (fun e => by have := (h.lt wr.heap.size e.symm).2; omega)]
  exact (cell_of_heap ((Below.heap_alloc _ o wr.heap.size (by simp)).trans (heap_alloc_new wr _)) (o := 0) rfl).1

/-! ### the plain law: both loops stop at the same place -/
theorem stop_at {a : Int} {es : Nat → Nat} {n b j : Nat} (hbn : b ≤ n) (hlo : ∀ i, i < b → (es i : Int) < a) (hhi : b < n → a ≤ (es b : Int)) (hj : ∀ i, i < j → (es i : Int) < a) (hjn : j ≤ n) (hstop : j = n ∨ a ≤ (es j : Int)) : j = b := by
  rcases Nat.lt_trichotomy j b with h | h | h
  · rcases hstop with e | e
    · omega
    · have := hlo j h; omega
  · exact h
  · have := hj b h
    have := hhi (by omega)
    omega

end Go.Proofs.YbulkbrcuDoor
