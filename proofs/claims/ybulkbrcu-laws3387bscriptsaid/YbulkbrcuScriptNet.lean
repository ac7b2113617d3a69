/-
  'LawS3387BScript': the second loop's lemmas on worlds: eight rows (four 'succ', four 'model'), each the call's own, no two in one block.
-/
import Derived.Test.YbulkbrcuScriptParts
namespace Go.Proofs.Ybulkbrcu
open Go.RowKit Go.Maps

/-- Where row s's slice lies: 1 to 4: node s's 'succ'; 5 to 8: model[s - 4]. -/
def rowAt (nb : Nat → Nat) (Mo s : Nat) : Addr := if s ≤ 4 then ⟨nb s, 3, none⟩ else ⟨Mo, s - 4, none⟩

/-- What does not hang on the world. -/
structure Ground (w : World) (T Mo : Nat) (nb : Nat → Nat) : Prop where
  top : T = Mo + 1
  lo : w.heap.size + 3 ≤ Mo
  node : ∀ j, 1 ≤ j → j ≤ 4 → w.heap.size + 3 ≤ nb j ∧ nb j < Mo
  inj : ∀ j j', 1 ≤ j → j ≤ 4 → 1 ≤ j' → j' ≤ 4 → nb j = nb j' → j = j'

theorem Ground.rowAt_lt {w : World} {T Mo : Nat} {nb : Nat → Nat} (G : Ground w T Mo nb) {s : Nat} (h1 : 1 ≤ s) : (rowAt nb Mo s).block < T ∧ w.heap.size + 3 ≤ (rowAt nb Mo s).block := by
  have := G.top
  have := G.lo
  unfold rowAt
  split
  · have := G.node s h1 (by assumption)
    show nb s < T ∧ _ ≤ nb s
    omega
  · show Mo < T ∧ _ ≤ Mo
    omega

theorem Ground.rowAt_inj {w : World} {T Mo : Nat} {nb : Nat → Nat} (G : Ground w T Mo nb) {s s' : Nat} (h1 : 1 ≤ s) (h1' : 1 ≤ s') (hne : s ≠ s') : rowAt nb Mo s ≠ rowAt nb Mo s' := by
  intro e
  unfold rowAt at e
  split at e <;> split at e
  · simp only [Addr.mk.injEq, and_true] at e
    exact hne (G.inj s s' h1 (by assumption) h1' (by assumption) e)
  · simp only [Addr.mk.injEq, and_true] at e
    have := G.node s h1 (by assumption)
    omega
  · simp only [Addr.mk.injEq, and_true] at e
    have := G.node s' h1' (by assumption)
    omega
  · simp only [Addr.mk.injEq, and_true] at e
    omega

structure Net2 (w : World) (T Mo : Nat) (nb : Nat → Nat) (v : Nat → Value) (l : Nat → List Int) (c : Nat) (wr : World) : Prop where
  below : Below w.heap.size w wr
  size : T ≤ wr.heap.size
  g0 : wr.cell? ⟨w.heap.size + 1, 0, none⟩ = some (.map (some w.heap.size))
  g4 : wr.cell? ⟨w.heap.size + 1, 4, none⟩ = some (.int .i64 (c : Int))
  f4 : wr.frozen? ⟨w.heap.size + 1, 4, none⟩ = false
  ns : ∀ j, 1 ≤ j → j ≤ 4 → wr.cell? ⟨w.heap.size + 1 + 1, j, none⟩ = some (.pointer (some ⟨nb j, 0, none⟩))
  num : ∀ j : Nat, 1 ≤ j → j ≤ 4 → wr.cell? ⟨nb j, 0, none⟩ = some (.int .i64 (j : Int))
  map : ∃ D : DataW Unit, wr.ownsMap Yba.prog 3 ptrElem w.heap.size 4 D ∧ Maps.size D = 4 ∧ ∀ j : Nat, 1 ≤ j → j ≤ 4 → D.atKey (.int .i64 (j : Int)) .nil = .lit (.int .i64 (nb j : Int))
  cell : ∀ s, 1 ≤ s → s ≤ 8 → wr.cell? (rowAt nb Mo s) = some (v s)
  free : ∀ s, 1 ≤ s → s ≤ 8 → wr.frozen? (rowAt nb Mo s) = false
  own : ∀ s, 1 ≤ s → s ≤ 8 → wr.ownsRow T 3 1 (v s) (l s).length ((l s).map (Value.int .i64))
  apart : ∀ s s', 1 ≤ s → s ≤ 8 → 1 ≤ s' → s' ≤ 8 → s ≠ s' → ∀ k, (v s).ownBlock = some k → (v s').ownBlock ≠ some k

theorem Net2.kept {w : World} {T Mo : Nat} {nb : Nat → Nat} {v : Nat → Value} {l : Nat → List Int} {c : Nat} {wr wr' : World} (G : Ground w T Mo nb) (N : Net2 w T Mo nb v l c wr) (h : Below wr.heap.size wr wr') : Net2 w T Mo nb v l c wr' := by
  have hs := N.size
  have ht := G.top
  have hlo := G.lo
  have cl : ∀ a : Addr, a.block < T → wr'.cell? a = wr.cell? a := fun a ha => h.cell (by omega)
  have fl : ∀ a : Addr, a.block < T → wr'.frozen? a = wr.frozen? a := fun a ha => h.frozen (by omega)
  refine ⟨N.below.trans (h.mono (by omega)), Nat.le_trans hs h.size, ?_, ?_, ?_, ?_, ?_, ?_, ?_, ?_, ?_, N.apart⟩
  · rw [cl _ (show _ + 1 < T by omega)]; exact N.g0
  · rw [cl _ (show _ + 1 < T by omega)]; exact N.g4
  · rw [fl _ (show _ + 1 < T by omega)]; exact N.f4
  · intro j a b; rw [cl _ (show _ + 1 + 1 < T by omega)]; exact N.ns j a b
  · intro j a b; rw [cl _ (show nb j < T by have := G.node j a b; omega)]; exact N.num j a b
  · obtain ⟨D, ⟨es, clock, hb, r⟩, r2⟩ := N.map
    exact ⟨D, ⟨es, clock, (h.block _ (by omega)).trans hb, r⟩, r2⟩
  · intro s a b; rw [cl _ (G.rowAt_lt a).1]; exact N.cell s a b
  · intro s a b; rw [fl _ (G.rowAt_lt a).1]; exact N.free s a b
  · intro s a b
    exact (N.own s a b).kept (row := none) ⟨h.os, h.tape, h.output, h.size, fun k hk _ => h.block k hk⟩ (by cases (v s).ownBlock <;> simp)

/-- ROW s IS APPENDED TO: its slice is v', it holds x besides; nothing else has turned but the graph's count. -/
theorem Net2.slot {w : World} {T Mo : Nat} {nb : Nat → Nat} {v : Nat → Value} {l : Nat → List Int} {c c' : Nat} {wr wr' : World} (G : Ground w T Mo nb) (N : Net2 w T Mo nb v l c wr) {s : Nat} (h1 : 1 ≤ s) (h8 : s ≤ 8) {v' : Value} {x : Int}
    (hos : wr'.os = wr.os) (htape : wr'.tape = wr.tape) (hout : wr'.output = wr.output) (hsz : wr.heap.size ≤ wr'.heap.size)
    (hblk : ∀ k, k < wr.heap.size → k ≠ w.heap.size + 1 → k ≠ (rowAt nb Mo s).block → some k ≠ (v s).ownBlock → wr'.heap[k]? = wr.heap[k]?)
    (hcell : ∀ a : Addr, a.block < T → a ≠ rowAt nb Mo s → a ≠ ⟨w.heap.size + 1, 4, none⟩ → wr'.cell? a = wr.cell? a)
    (hfro : ∀ a : Addr, a.block < T → wr'.frozen? a = wr.frozen? a)
    (hg4 : wr'.cell? ⟨w.heap.size + 1, 4, none⟩ = some (.int .i64 (c' : Int)))
    (hnew : wr'.cell? (rowAt nb Mo s) = some v') (hown : wr'.ownsRow T 3 1 v' ((l s).length + 1) ((l s).map (Value.int .i64) ++ [.int .i64 x]))
    (hat : ∀ g, v'.ownBlock = some g → (v s).ownBlock = some g ∨ wr.heap.size ≤ g) :
    Net2 w T Mo nb (upd v s v') (upd l s (l s ++ [x])) c' wr' := by
  have hs := N.size
  have ht := G.top
  have hlo := G.lo
  have hrow := G.rowAt_lt h1
  have hvT : ∀ s', 1 ≤ s' → s' ≤ 8 → ∀ k, (v s').ownBlock = some k → T ≤ k ∧ k < wr.heap.size := fun s' a b k hk => (N.own s' a b).lt k hk
  have hlow : ∀ k, k < T → some k ≠ (v s).ownBlock := fun k hk e => by have := hvT s h1 h8 k e.symm; omega
  have hr3 : ∀ b o, b < w.heap.size + 3 → (⟨b, o, none⟩ : Addr) ≠ rowAt nb Mo s := fun b o hb e => by
    have h2 := congrArg Addr.block e
    have h3 : b = (rowAt nb Mo s).block := h2
    omega
  refine ⟨?_, by omega, ?_, hg4, ?_, ?_, ?_, ?_, ?_, ?_, ?_, ?_⟩
  · refine N.below.trans ⟨hos, htape, hout, hsz, fun k hk => hblk k (by omega) (by omega) (by omega) (hlow k (by omega))⟩
  · rw [hcell _ (show _ + 1 < T by omega) (hr3 _ _ (by omega)) (by simp)]; exact N.g0
  · rw [hfro _ (show _ + 1 < T by omega)]; exact N.f4
  · intro j a b
    rw [hcell _ (show _ + 1 + 1 < T by omega) (hr3 _ _ (by omega)) (by simp)]; exact N.ns j a b
  · intro j a b
    have hj := G.node j a b
    rw [hcell _ (show nb j < T by omega) ?_ (by simp)]
    · exact N.num j a b
    · unfold rowAt
      split
      · simp
      · simp only [ne_eq, Addr.mk.injEq, and_true]; omega
  · obtain ⟨D, ⟨es, clock, hb, r⟩, r2⟩ := N.map
    exact ⟨D, ⟨es, clock, (hblk _ (by omega) (by omega) (by omega) (hlow _ (by omega))).trans hb, r⟩, r2⟩
  · intro s' a b
    by_cases e : s' = s
    · subst e; rw [upd_same]; exact hnew
    · rw [upd_other _ _ e, hcell _ (G.rowAt_lt a).1 (G.rowAt_inj a h1 e) ?_]
      · exact N.cell s' a b
      · intro e2
        have h2 := congrArg Addr.block e2
        have h3 : (rowAt nb Mo s').block = w.heap.size + 1 := h2
        have := (G.rowAt_lt a (s := s')).2
        omega
  · intro s' a b
    rw [hfro _ (G.rowAt_lt a).1]; exact N.free s' a b
  · intro s' a b
    by_cases e : s' = s
    · subst e; rw [upd_same, upd_same]; simpa using hown
    · rw [upd_other _ _ e, upd_other _ _ e]
      obtain ⟨o1, o2⟩ := N.own s' a b
      refine ⟨o1, ?_⟩
      rcases o2 with o2 | ⟨g, cap, cur, hv, hb, hg, r⟩
      · exact .inl o2
      · refine .inr ⟨g, cap, cur, hv, hb, ?_, r⟩
        have hgl : g < wr.heap.size := (Array.getElem?_eq_some_iff.1 hg).1
        have hob : (v s').ownBlock = some g := by rw [hv]; rfl
        rw [hblk g hgl (by omega) (by omega) (fun e2 => N.apart s' s a b h1 h8 e g hob e2.symm)]
        exact hg
  · intro s1 s2 a1 b1 a2 b2 hne k hk
    by_cases e1 : s1 = s
    · subst e1
      rw [upd_same] at hk
      rw [upd_other _ _ (Ne.symm hne)]
      rcases hat k hk with h | h
      · exact N.apart s1 s2 a1 b1 a2 b2 hne k h
      · intro e
        have := hvT s2 a2 b2 k e
        omega
    · rw [upd_other _ _ e1] at hk
      by_cases e2 : s2 = s
      · subst e2
        rw [upd_same]
        intro e
        rcases hat k e with h | h
        · exact N.apart s1 s2 a1 b1 a2 b2 hne k hk h
        · have := hvT s1 a1 b1 k hk
          omega
      · rw [upd_other _ _ e2]
        exact N.apart s1 s2 a1 b1 a2 b2 hne k hk

/-- behind 'edge(f, ns[t])' that adds -/
theorem Net2.edged {w : World} {T Mo : Nat} {nb : Nat → Nat} {v : Nat → Value} {l : Nat → List Int} {c : Nat} {wr wr' : World} (G : Ground w T Mo nb) (N : Net2 w T Mo nb v l c wr) {f : Nat} (h1 : 1 ≤ f) (h4 : f ≤ 4) (hc : c ≤ 1024) {x : Int}
    (E : Edged (w.heap.size + 1) (nb f) (v f) T (l f).length ((l f).map (Value.int .i64)) x (c : Int) wr wr') : ∃ v', Net2 w T Mo nb (upd v f v') (upd l f (l f ++ [x])) (c + 1) wr' := by
  have hs := N.size
  have ht := G.top
  have hrow : rowAt nb Mo f = ⟨nb f, 3, none⟩ := by simp [rowAt, h4]
  have hvT : ∀ k, (v f).ownBlock = some k → T ≤ k := fun k hk => ((N.own f h1 (by omega)).lt k hk).1
  obtain ⟨gg, cap, k1, k2, k3⟩ := E.succ
  refine ⟨_, N.slot G h1 (by omega) E.os E.tape E.output E.size ?_ ?_ ?_ ?_ (by rw [hrow]; exact k1) k2 ?_⟩
  · intro k hk a b d
    rw [hrow] at b
    exact E.block k hk a b d
  · intro a ha hb hd
    rw [hrow] at hb
    exact E.cell a (by omega) (fun e => by have := hvT _ e.symm; omega) hb hd
  · intro a ha
    exact E.frozen a (by omega) (fun e => by have := hvT _ e.symm; omega)
  · rw [E.sized]
    have : wrap64 ((c : Int) + 1) = ((c + 1 : Nat) : Int) := by
      rw [IntWalk.wrap64_in _ ⟨by omega, by omega⟩]; omega
    rw [this]
  · intro g hg
    simp [Value.ownBlock] at hg
    subst hg
    exact k3

/-- behind 'model[f] = append(model[f], x)' -/
theorem Net2.modelled {w : World} {T Mo : Nat} {nb : Nat → Nat} {v : Nat → Value} {l : Nat → List Int} {c : Nat} {wr w1 : World} (G : Ground w T Mo nb) (N : Net2 w T Mo nb v l c wr) {f : Nat} (h1 : 1 ≤ f) (h4 : f ≤ 4) {x : Int} {gg cap : Nat}
    (hown1 : w1.ownsRow T 3 1 (.slice (some ⟨gg, 0, none⟩) ((l (f + 4)).length + 1) cap) ((l (f + 4)).length + 1) ((l (f + 4)).map (Value.int .i64) ++ [.int .i64 x])) (hgrow : wr.grownBy w1 (v (f + 4)).ownBlock)
    (hat : (v (f + 4)).ownBlock = some gg ∨ wr.heap.size ≤ gg) :
    Net2 w T Mo nb (upd v (f + 4) (.slice (some ⟨gg, 0, none⟩) ((l (f + 4)).length + 1) cap)) (upd l (f + 4) (l (f + 4) ++ [x])) c (w1.setCell ⟨Mo, f, none⟩ (.slice (some ⟨gg, 0, none⟩) ((l (f + 4)).length + 1) cap)) := by
  have hs := N.size
  have ht := G.top
  have hlo := G.lo
  have hrow : rowAt nb Mo (f + 4) = ⟨Mo, f, none⟩ := by simp [rowAt]; omega
  have hvT : ∀ k, (v (f + 4)).ownBlock = some k → T ≤ k := fun k hk => ((N.own (f + 4) (by omega) (by omega)).lt k hk).1
  have hlow : ∀ k, k < T → some k ≠ (v (f + 4)).ownBlock := fun k hk e => by have := hvT k e.symm; omega
  have hg : gg ≠ Mo := by
    rcases hat with h | h
    · have := hvT gg h; omega
    · omega
  have c0 : w1.cell? ⟨Mo, f, none⟩ = some (v (f + 4)) := by
    rw [hgrow.cell_far _ (show Mo < _ by omega) (hlow _ (show Mo < T by omega)), ← hrow]
    exact N.cell (f + 4) (by omega) (by omega)
  refine N.slot G (s := f + 4) (by omega) (by omega) hgrow.os hgrow.tape hgrow.output ?_ ?_ ?_ ?_ ?_ ?_ ?_ ?_
  · have := hgrow.size
    simpa [World.setCell] using this
  · intro k hk a b d
    rw [hrow] at b
    rw [Below.heap_setCell _ _ _ _ b]
    exact hgrow.block k hk d
  · intro a ha hb hd
    rw [hrow] at hb
    rw [World.cell?_setCell_other _ _ _ _ (Ne.symm hb)]
    exact hgrow.cell_far a (by omega) (hlow _ ha)
  · intro a ha
    rw [World.frozen?_setCell]
    exact hgrow.frozen_far a (by omega) (hlow _ ha)
  · rw [World.cell?_setCell_other _ _ _ _ (by simp only [ne_eq, Addr.mk.injEq]; omega), hgrow.cell_far _ (show _ + 1 < _ by omega) (hlow _ (show _ + 1 < T by omega))]
    exact N.g4
  · rw [hrow]
    exact World.cell?_setCell_same _ _ _ c0
  · obtain ⟨o1, o2⟩ := hown1
    refine ⟨o1, ?_⟩
    rcases o2 with o2 | ⟨g, cap', cur, hv, hb, hh, r⟩
    · exact .inl o2
    · refine .inr ⟨g, cap', cur, hv, hb, ?_, r⟩
      have e : gg = g := by simp at hv; exact hv.1
      subst e
      rw [Below.heap_setCell _ _ _ _ (by exact hg)]
      exact hh
  · intro g hg
    simp [Value.ownBlock] at hg
    subst hg
    exact hat

/-- from the first loop's end: all rows are nil -/
theorem net2_start {w : World} {nb : Nat → Nat} {wr : World} (N : Net1 w 5 nb wr) (o : Array Value) (ho : ∀ j, j < 5 → o[j]? = some (.slice none 0 0)) :
    Ground w (wr.heap.size + 1) wr.heap.size nb ∧ Net2 w (wr.heap.size + 1) wr.heap.size nb (fun _ => .slice none 0 0) (fun _ => []) 0 (wr.alloc (.cells o 35)) := by
  have hs := N.size
  have G : Ground w (wr.heap.size + 1) wr.heap.size nb := by
    refine ⟨rfl, hs, fun j a b => ?_, fun j j' a b a' b' e => N.inj j j' a (by omega) a' (by omega) e⟩
    obtain ⟨n1, n2⟩ := N.node j a (by omega)
    exact ⟨n2, (Array.getElem?_eq_some_iff.1 n1).1⟩
  refine ⟨G, ?_⟩
  have blk : ∀ b, b < wr.heap.size → (wr.alloc (.cells o 35)).heap[b]? = wr.heap[b]? := fun b hb => Below.heap_alloc _ _ _ hb
  have hnew : (wr.alloc (.cells o 35)).heap[wr.heap.size]? = some (.cells o 35) := heap_alloc_new wr _
  have hconf := (blk _ (by omega)).trans N.conf
  obtain ⟨cs, ha, hcs, hcj⟩ := N.arr
  have hns := (blk _ (by omega)).trans ha
  have hnode : ∀ j : Nat, 1 ≤ j → j ≤ 4 → (wr.alloc (.cells o 35)).heap[nb j]? = some (nodeObj j (.slice none 0 0)) := fun j a b => (blk _ (G.node j a b).2).trans (N.node j a (by omega)).1
  have hrow : ∀ s, 1 ≤ s → s ≤ 8 → (wr.alloc (.cells o 35)).cell? (rowAt nb wr.heap.size s) = some (.slice none 0 0) ∧ (wr.alloc (.cells o 35)).frozen? (rowAt nb wr.heap.size s) = false := by
    intro s a b
    unfold rowAt
    split
    · exact cell_of_heap (hnode s a (by assumption)) rfl
    · exact cell_of_heap hnew (ho _ (by omega))
  refine ⟨N.below.alloc (by omega) _, by simp, (cell_of_heap hconf rfl).1, (cell_of_heap hconf rfl).1, (cell_of_heap hconf rfl).2, fun j a b => (cell_of_heap hns (hcj j a (by omega))).1, fun j a b => (cell_of_heap (hnode j a b) rfl).1, ?_, fun s a b => (hrow s a b).1, fun s a b => (hrow s a b).2, fun s _ _ => World.ownsRow_nil _ _ _ _, fun s s' _ _ _ _ _ k hk => by simp [Value.ownBlock] at hk⟩
  obtain ⟨D, hown, hsz, hat, _⟩ := N.map
  exact ⟨D, hown.alloc _, hsz, fun j a b => hat j a (by omega)⟩

/-- The lists behind a round that adds. -/
theorem same_step {l : Nat → List Int} {f k : Nat} (h1 : 1 ≤ f) (h4 : f ≤ 4) (hsame : ∀ j, 1 ≤ j → j ≤ 4 → l j = l (j + 4)) (hll : ∀ s, (l s).length ≤ k) (x : Int) (l3 l4 : Nat → List Int) (e3 : l3 = upd l f (l f ++ [x])) (e4 : l4 = upd l3 (f + 4) (l3 (f + 4) ++ [x])) :
    (∀ j, 1 ≤ j → j ≤ 4 → l4 j = l4 (j + 4)) ∧ ∀ s, (l4 s).length ≤ k + 1 := by
  subst e4
  subst e3
  constructor
  · intro j a b
    by_cases e : j = f
    · subst e
      rw [upd_other _ _ (by omega), upd_same, upd_same, upd_other _ _ (by omega), hsame j a b]
    · rw [upd_other _ _ (by omega), upd_other _ _ (by omega), upd_other _ _ (by omega), upd_other _ _ (by omega)]
      exact hsame j a b
  · intro s
    have := hll s
    by_cases e : s = f + 4
    · subst e
      rw [upd_same, upd_other _ _ (by omega)]
      simp; omega
    · rw [upd_other _ _ e]
      by_cases e2 : s = f
      · subst e2
        rw [upd_same]
        simp; omega
      · rw [upd_other _ _ e2]
        omega

/-- What row s's slice looks like, and its numbers. -/
theorem row_form {w : World} {T : Nat} {v : Value} {l : List Int} (h : w.ownsRow T 3 1 v l.length (l.map (Value.int .i64))) :
    ∃ ao cap, v = .slice ao l.length cap ∧ ∀ j, j < l.length → ∃ gg, ao = some ⟨gg, 0, none⟩ ∧ w.cell? ⟨gg, j, none⟩ = some (.int .i64 (l.getD j 0)) := by
  rcases h.2 with ⟨rfl, h0⟩ | ⟨g, cap, cur, hv, _⟩
  · exact ⟨none, 0, by rw [h0], fun j hj => by omega⟩
  · refine ⟨_, _, hv, fun j hj => ⟨g, rfl, ?_⟩⟩
    have := h.cells (g := g) (by rw [hv]; rfl) j (.int .i64 (l.getD j 0)) (by simp [hj])
    rwa [add_head] at this

end Go.Proofs.Ybulkbrcu
