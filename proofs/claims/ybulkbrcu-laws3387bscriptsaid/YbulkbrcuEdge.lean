/-
  '(*conflicts).edge' (function 7): her contracts.
-/
import Derived.Test.YbulkbrcuRows
import Derived.WalkKit
import Derived.WalkSpells
import Derived.StillTactics
import Derived.OwnWalk
import Derived.Laws.Pointers
import Derived.Deep.RegionLaw
import Derived.Deep.AppendLies
import Derived.KernelRfl
namespace Go.Proofs.Ybulkbrcu
open Go.RowKit

theorem Yba.info3 : (Yba.prog.info? 3).map (fun i => (i.zero, i.size, i.bytes)) = some (some (.int .i64 0), 1, 8) := by kernel_rfl

/-- 'edge(0, n)': nothing happens. -/
theorem edge_zero (gp np : Value) (w : World) :
    Calls Yba.prog 7 #[gp, .int .i64 0, np] w fun e w' => e = .returned (.tuple #[]) ∧ w' = w := by
  go_enter Yba.func7, Yba.ntmps7
  go_wp2
  exact bodyPost_ret (v := .tuple #[]) (results_none rfl _ _ _) rfl ⟨rfl, rfl⟩

/-- 'edge(n.number, n)': nothing happens. -/
theorem edge_self (gp : Value) (nB : Nat) (num : Int) (w : World) (h0 : (num == 0) = false) (hn : w.cell? ⟨nB, 0, none⟩ = some (.int .i64 num)) :
    Calls Yba.prog 7 #[gp, .int .i64 num, .pointer (some ⟨nB, 0, none⟩)] w fun e w' => e = .returned (.tuple #[]) ∧ w' = w := by
  go_enter Yba.func7, Yba.ntmps7
  go_wp2
  exact bodyPost_ret (v := .tuple #[]) (results_none rfl _ _ _) rfl ⟨rfl, rfl⟩

/-- WHAT 'edge' LEAVES where it adds: the source's 'succ' (cell 3 of block sB, value v ahead of it) is the slice gg of n + 1 numbers; the size (cell 4 of block gB) is one more; nothing else of the old memory has turned but the row of v. -/
structure Edged (gB sB : Nat) (v : Value) (base n : Nat) (xs : List Value) (num sz : Int) (w w' : World) : Prop where
  os : w'.os = w.os
  tape : w'.tape = w.tape
  output : w'.output = w.output
  size : w.heap.size ≤ w'.heap.size
  block : ∀ k, k < w.heap.size → k ≠ gB → k ≠ sB → some k ≠ v.ownBlock → w'.heap[k]? = w.heap[k]?
  cell : ∀ a : Addr, a.block < w.heap.size → some a.block ≠ v.ownBlock → a ≠ ⟨sB, 3, none⟩ → a ≠ ⟨gB, 4, none⟩ → w'.cell? a = w.cell? a
  frozen : ∀ a : Addr, a.block < w.heap.size → some a.block ≠ v.ownBlock → w'.frozen? a = w.frozen? a
  sized : w'.cell? ⟨gB, 4, none⟩ = some (.int .i64 (wrap64 (sz + 1)))
  succ : ∃ gg cap, w'.cell? ⟨sB, 3, none⟩ = some (.slice (some ⟨gg, 0, none⟩) (n + 1) cap) ∧ w'.ownsRow base 3 1 (.slice (some ⟨gg, 0, none⟩) (n + 1) cap) (n + 1) (xs ++ [.int .i64 num]) ∧ (v.ownBlock = some gg ∨ w.heap.size ≤ gg)

theorem edged_of {gB sB : Nat} {v : Value} {base n : Nat} {xs : List Value} {num sz : Int} {w w1 : World} {o : Obj} {gg cap : Nat} {u : Value}
    (hs : w.cell? ⟨sB, 3, none⟩ = some u) (hg : w.cell? ⟨gB, 4, none⟩ = some (.int .i64 sz))
    (ag : v.ownBlock ≠ some gB) (as_ : v.ownBlock ≠ some sB) (sbase : gg ≠ sB) (gbase : gg ≠ gB)
    (hown1 : w1.ownsRow base 3 1 (.slice (some ⟨gg, 0, none⟩) (n + 1) cap) (n + 1) (xs ++ [.int .i64 num])) (hgrow : (w.alloc o).drew.grownBy w1 v.ownBlock) (hat : v.ownBlock = some gg ∨ gg = w.heap.size + 1) :
    Edged gB sB v base n xs num sz w ((w1.setCell ⟨sB, 3, none⟩ (.slice (some ⟨gg, 0, none⟩) (n + 1) cap)).setCell ⟨gB, 4, none⟩ (.int .i64 (wrap64 (sz + 1)))) := by
  have lg := World.block_lt_of_cell? w _ hg
  have ls := World.block_lt_of_cell? w _ hs
  have hall : w.grownBy w1 v.ownBlock := (World.grownBy_alloc w o _).trans ⟨hgrow.os, hgrow.tape, hgrow.output, hgrow.size, hgrow.block⟩
  have hs1 := hall.cell_far ⟨sB, 3, none⟩ ls (Ne.symm as_)
  have hg1 := hall.cell_far ⟨gB, 4, none⟩ lg (Ne.symm ag)
  have hne : (⟨sB, 3, none⟩ : Addr) ≠ ⟨gB, 4, none⟩ := by simp
  refine ⟨hall.os, hall.tape, hall.output, ?_, ?_, ?_, ?_, ?_, gg, cap, ?_, ?_, ?_⟩
  · have := hall.size
    simpa [World.setCell] using this
  · intro k hk h1 h2 h3
    rw [Below.heap_setCell _ _ _ _ h1, Below.heap_setCell _ _ _ _ h2]
    exact hall.block k hk h3
  · intro a ha h1 h2 h3
    rw [World.cell?_setCell_other _ _ _ _ (Ne.symm h3), World.cell?_setCell_other _ _ _ _ (Ne.symm h2)]
    exact hall.cell_far a ha h1
  · intro a ha h1
    simp only [World.frozen?_setCell]
    exact hall.frozen_far a ha h1
  · refine World.cell?_setCell_same _ _ _ (u := .int .i64 sz) ?_
    rw [World.cell?_setCell_other _ _ _ _ hne, hg1, hg]
  · rw [World.cell?_setCell_other _ _ _ _ (Ne.symm hne)]
    exact World.cell?_setCell_same _ _ _ (hs1.trans hs)
  · obtain ⟨h1, h2⟩ := hown1
    refine ⟨h1, ?_⟩
    rcases h2 with h2 | ⟨g, cap', cur, hv, hb, hh, r⟩
    · exact .inl h2
    · refine .inr ⟨g, cap', cur, hv, hb, ?_, r⟩
      have e : gg = g := by simp at hv; exact hv.1
      subst e
      rw [Below.heap_setCell _ _ _ _ (by exact gbase), Below.heap_setCell _ _ _ _ (by exact sbase)]
      exact hh
  · rcases hat with h | h
    · exact .inl h
    · exact .inr (by omega)

set_option maxRecDepth 100000 in
set_option maxHeartbeats 3200000 in
theorem edge_add (gB mB sB nB : Nat) (v : Value) (base n : Nat) (xs : List Value) (fr num sz : Int) (w : World)
    (h0 : (fr == 0) = false) (h1 : (fr == num) = false)
    (hm : w.cell? ⟨gB, 0, none⟩ = some (.map (some mB))) (hlook : (Instr.lookup 27 (.map (some mB)) (.int .i64 fr) false).run Yba.prog w = .ok (.pointer (some ⟨sB, 0, none⟩)) w)
    (hs : w.cell? ⟨sB, 3, none⟩ = some v) (hsf : w.frozen? ⟨sB, 3, none⟩ = false) (hn : w.cell? ⟨nB, 0, none⟩ = some (.int .i64 num))
    (hg : w.cell? ⟨gB, 4, none⟩ = some (.int .i64 sz)) (hgf : w.frozen? ⟨gB, 4, none⟩ = false)
    (hown : w.ownsRow base 3 1 v n xs) (hbase : base ≤ w.heap.size) (hlen : n ≤ 1000000)
    (ag : v.ownBlock ≠ some gB) (as_ : v.ownBlock ≠ some sB) :
    Calls Yba.prog 7 #[.pointer (some ⟨gB, 0, none⟩), .int .i64 fr, .pointer (some ⟨nB, 0, none⟩)] w fun e w' => e = .returned (.tuple #[]) ∧ Edged gB sB v base n xs num sz w w' := by
  obtain ⟨i0, hi0, hz0, hz1, hz2⟩ := info_parts Yba.info3
  have lg := World.block_lt_of_cell? w _ hg
  have ls := World.block_lt_of_cell? w _ hs
  have ln := World.block_lt_of_cell? w _ hn
  go_enter Yba.func7, Yba.ntmps7
  go_wp2_with fail
  go_region_law ((refine step_append_lies _ (by rfl) _ _ _ (by rfl) base 3 i0 _ 1 8 Yba.underlying22 hi0 hz0 hz1 hz2 rfl (by omega) v n xs (by rfl) ((hown.alloc _).drew) ⟨w.heap.size, 0, none⟩ 1 1 [.int .i64 num] (by rfl) (by rfl) (World.news_of_block (cs := #[.int .i64 num]) (t := 3) (fr := (0, 0)) (heap_alloc_new w _)) (by simp [Value.oneCell']) (by omega) (by unfold maxLen; omega) (by omega) (by simp; omega) (w.heap.size + 1) (by simp) ?_; intro gg cap w1 hown1 hgrow hat hlt; have hs1 := hgrow.cell_far ⟨sB, 3, none⟩ (by simp; omega) (Ne.symm as_); have hsf1 := hgrow.frozen_far ⟨sB, 3, none⟩ (by simp; omega) (Ne.symm as_)))
  all_goals
    have hg1 := hgrow.cell_far ⟨gB, 4, none⟩ (by simp; omega) (Ne.symm ag)
    have hgf1 := hgrow.frozen_far ⟨gB, 4, none⟩ (by simp; omega) (Ne.symm ag)
    have sb1 : gg ≠ sB := by rcases hat with h | h; (intro e; subst e; exact as_ h); omega
    have gb1 : gg ≠ gB := by rcases hat with h | h; (intro e; subst e; exact ag h); omega
    have E := edged_of (o := .cells #[.int .i64 num] 3) hs hg ag as_ sb1 gb1 hown1 hgrow hat
    clear hown1 hgrow hat hown
    go_wp2
    go_end0
    exact ⟨rfl, E⟩

end Go.Proofs.Ybulkbrcu
