/-
  'embedding.LawS3397APick' (function 4): the walks.
-/
import Derived.Test.YbulkbrieFmtEnum
import Derived.OpenShut
namespace Go.Proofs.YbulkbrieFmt
open Go.RowKit Go.Extern.Stop Go.Stop Go.Extern

set_option maxRecDepth 100000 in
theorem pick_long (typ : ByteArray) (a : Option Addr) (len cap : Nat) (n st : Int) (w : World) (hl : (1024 : Int) < (len : Int)) :
    Calls Ybaf.prog 4 #[.string typ, .slice a len cap, .int .u64 n, .int .i64 st] w fun e w' => e = .returned (.bool true) ∧ Below w.heap.size w w' := by
  go_enter Ybaf.func4, Ybaf.ntmps4
  go_wp2
  go_ret
  exact ⟨rfl, Below.refl _ _⟩

/-- Two blocks that the call lays: the table's head and 'e'. -/
theorem two_new (w : World) (c : Array Value) (st : Int) (W : World) (hW : W = (w.alloc (.cells c 25)).alloc (.cells #[.int .i64 st] 3)) :
    Below w.heap.size w W ∧ W.heap.size = w.heap.size + 1 + 1 ∧ W.heap[w.heap.size]? = some (.cells c 25) ∧ W.heap[w.heap.size + 1]? = some (.cells #[.int .i64 st] 3) := by
  subst hW
  refine ⟨(below_alloc w _).alloc (by simp) _, by simp, ?_, ?_⟩
  · rw [Below.heap_alloc _ _ _ (by simp)]
    exact heap_alloc_new w _
  · have := heap_alloc_new (w.alloc (.cells c 25)) (.cells #[.int .i64 st] 3)
    simpa using this

/-- 'n.unmarshal([]byte(typ), &e)' at an empty table. -/
theorem miss_at (F : Interp) (typ : ByteArray) (a : Option Addr) (cap : Nat) (st : Int) (w : World) (hF : F.answers w.tape) (cs : Array Value) (c : Nat) :
    Calls Ybaf.prog 5 #[.agg #[.string typ, .slice a 0 cap], .slice (some ⟨w.heap.size + 1 + 1, 0, none⟩) typ.size c, .pointer (some ⟨w.heap.size + 1, 0, none⟩)] (Lib.bytesWorld ((w.alloc (.cells cs 25)).alloc (.cells #[.int .i64 st] 3)) 5 typ)
      fun e w' => ∃ q, e = .returned (.iface 49 (.pointer (some q))) ∧ w'.cell? ⟨w.heap.size + 1, 0, none⟩ = some (.int .i64 st) ∧ Below w.heap.size w w' := by
  obtain ⟨W, hW⟩ : ∃ W, W = (w.alloc (.cells cs 25)).alloc (.cells #[.int .i64 st] 3) := ⟨_, rfl⟩
  obtain ⟨b1, b2, b3, b4⟩ := two_new w cs st W hW
  rw [← hW, ← b2]
  have bb := b1.trans ((below_bytes W typ).mono b1.size)
  refine (unmarshal_miss F typ a cap W.heap.size c typ _ (Lib.bytesWorld W 5 typ) (by rw [bb.tape]; exact hF) (bytes_new W typ)).mono ?_
  rintro e w' ⟨q, rfl, hb⟩
  refine ⟨q, rfl, ?_, bb.trans (hb.mono bb.size)⟩
  have h1 : (Lib.bytesWorld W 5 typ).heap[w.heap.size + 1]? = some (.cells #[.int .i64 st] 3) := (Lib.bytesWorld_at_old W 5 typ _ (by omega)).trans b4
  exact (cellOf ((hb.block _ (Array.getElem?_eq_some_iff.1 h1).1).trans h1) rfl).1

set_option maxRecDepth 100000 in
theorem pick_none (F : Interp) (typ : ByteArray) (a : Option Addr) (cap : Nat) (n st : Int) (w : World) (hF : F.answers w.tape) :
    Calls Ybaf.prog 4 #[.string typ, .slice a 0 cap, .int .u64 n, .int .i64 st] w fun e w' => e = .returned (.bool true) ∧ Below w.heap.size w w' := by
  have ks := fun (w : World) => Lib.run_convert_string_bytes (P := Ybaf.prog) w 9 23 5 typ Ybaf.underlying9 Ybaf.underlying23 Ybaf.underlying5
  have hM := miss_at F typ a cap st w hF #[.string typ, .slice a 0 cap]
  clear hF
  go_enter Ybaf.func4, Ybaf.ntmps4
  go_wp2_with (first
    | (go_at_call 5; refine (hM _).mono ?_; rintro e w1 ⟨q, rfl, hce, hb⟩)
    | go_in)
  go_ret
  exact ⟨rfl, hb⟩

/-- 'n.unmarshal([]byte(s), &e)' at a text of the table: what is told of the world behind it. -/
theorem hit_at (typ : ByteArray) (a : Option Addr) (len cap : Nat) (T : Nat → ByteArray) (st : Int) (s : ByteArray) (w : World) (hl : (len : Int) ≤ 1024) (hT : Strs w a len T) (k : Nat) (hk : First len T s (k : Int)) (x y : Value) (c : Nat) :
    Calls Ybaf.prog 5 #[.agg #[.string typ, .slice a len cap], .slice (some ⟨w.heap.size + 1 + 1, 0, none⟩) s.size c, .pointer (some ⟨w.heap.size + 1, 0, none⟩)] (Lib.bytesWorld ((w.alloc (.cells #[x, y] 25)).alloc (.cells #[.int .i64 st] 3)) 5 s)
      fun e w' => e = .returned .nilIface ∧ w'.cell? ⟨w.heap.size + 1, 0, none⟩ = some (.int .i64 (k : Int)) ∧ w'.cell? ⟨w.heap.size, 0, none⟩ = some x ∧ w'.cell? ⟨w.heap.size, 1, none⟩ = some y ∧ Strs w' a len T ∧ Below w.heap.size w w' := by
  obtain ⟨W, hW⟩ : ∃ W, W = (w.alloc (.cells #[x, y] 25)).alloc (.cells #[.int .i64 st] 3) := ⟨_, rfl⟩
  obtain ⟨b1, b2, b3, b4⟩ := two_new w #[x, y] st W hW
  rw [← hW, ← b2]
  have bb := b1.trans ((below_bytes W s).mono b1.size)
  have h0 : (Lib.bytesWorld W 5 s).heap[w.heap.size]? = some (.cells #[x, y] 25) := (Lib.bytesWorld_at_old W 5 s _ (by omega)).trans b3
  have h1 : (Lib.bytesWorld W 5 s).heap[w.heap.size + 1]? = some (.cells #[.int .i64 st] 3) := (Lib.bytesWorld_at_old W 5 s _ (by omega)).trans b4
  have hs := Lib.bytesWorld_size W 5 s
  refine (unmarshal_hit typ a len cap T W.heap.size c s (w.heap.size + 1) (.int .i64 st) (Lib.bytesWorld W 5 s) hl (hT.later bb) (bytes_new W s) (cellOf h1 rfl).1 (cellOf h1 rfl).2 k hk).mono ?_
  rintro e w' ⟨rfl, o, rfl⟩
  have e1 : (((Lib.bytesWorld W 5 s).setCell ⟨w.heap.size + 1, 0, none⟩ (.int .i64 (k : Int))).alloc o).heap[w.heap.size + 1]? = some (.cells #[.int .i64 (k : Int)] 3) := by
    rw [Below.heap_alloc _ _ _ (by simp; omega)]
    simp only [World.setCell, Array.getElem?_modify, ↓reduceIte, h1, Option.map_some]
    rfl
  have e0 : (((Lib.bytesWorld W 5 s).setCell ⟨w.heap.size + 1, 0, none⟩ (.int .i64 (k : Int))).alloc o).heap[w.heap.size]? = some (.cells #[x, y] 25) := by
    rw [Below.heap_alloc _ _ _ (by simp; omega), Below.heap_setCell _ _ _ _ (by show w.heap.size ≠ w.heap.size + 1; omega)]
    exact h0
  have hb : Below w.heap.size w (((Lib.bytesWorld W 5 s).setCell ⟨w.heap.size + 1, 0, none⟩ (.int .i64 (k : Int))).alloc o) := (bb.setCell (p := ⟨w.heap.size + 1, 0, none⟩) (by show w.heap.size ≤ w.heap.size + 1; omega) _).alloc (by simp; omega) _
  exact ⟨rfl, (cellOf e1 rfl).1, (cellOf e0 rfl).1, (cellOf e0 rfl).1, hT.later hb, hb⟩

theorem Strs.drewN {w : World} {a : Option Addr} {len : Nat} {T : Nat → ByteArray} (h : Strs w a len T) (q : Nat) : Strs (w.drewN q) a len T := by
  intro j hj
  obtain ⟨b, off, e, hc⟩ := h j hj
  exact ⟨b, off, e, by simpa using hc⟩

theorem below_drewN {B : Nat} {a w : World} (h : Below B a w) (q : Nat) : Below B a (w.drewN q) := ⟨h.os, h.tape, h.output, h.size, h.block⟩

/-- 'zzs3397afirst(names, s)' where the answer is known. -/
theorem first_at (a : Option Addr) (len cap : Nat) (T : Nat → ByteArray) (s : ByteArray) (w : World) (hl : (len : Int) ≤ 1024) (hT : Strs w a len T) (k : Nat) (hk : First len T s (k : Int)) :
    Calls Ybaf.prog 6 #[.slice a len cap, .string s] w fun e w' => e = .returned (.int .i64 (k : Int)) ∧ w' = w := by
  refine (first_any a len cap T s w hl hT).mono ?_
  rintro e w' ⟨r, rfl, rfl, hr⟩
  rw [hr.unique hk]
  exact ⟨rfl, rfl⟩

/-- 'n.marshal(e)': the text comes back. -/
theorem marshal_at (typ : ByteArray) (a : Option Addr) (len cap : Nat) (T : Nat → ByteArray) (s : ByteArray) (k : Nat) (w : World) (hT : Strs w a len T) (hk : First len T s (k : Int)) :
    Calls Ybaf.prog 7 #[.agg #[.string typ, .slice a len cap], .int .i64 (k : Int)] w fun e w' => ∃ g c, e = .returned (.tuple #[.slice (some ⟨g, 0, none⟩) s.size c, .nilIface]) ∧ (convert 23 9 (.slice (some ⟨g, 0, none⟩) s.size c)).run Ybaf.prog w' = .ok (.string s) w' ∧ Below w.heap.size w w' := by
  obtain ⟨hkl, hks⟩ : k < len ∧ T k = s := by
    rcases hk with ⟨h, _⟩ | ⟨i, hi, e, ht, _⟩
    · omega
    · obtain rfl : k = i := by omega
      exact ⟨hi, ht⟩
  refine (marshal_hit typ a len cap T k w hT hkl).mono ?_
  rintro e w' ⟨g, c, rfl, hB, hb⟩
  rw [hks] at hB ⊢
  exact ⟨g, c, rfl, Lib.run_convert_whole (P := Ybaf.prog) w' 23 5 9 Ybaf.underlying23 Ybaf.underlying5 Ybaf.underlying9 g 0 s hB c, hb⟩

set_option maxRecDepth 100000 in
set_option maxHeartbeats 1000000 in
theorem pick_some (typ : ByteArray) (a : Option Addr) (len cap : Nat) (n st : Int) (T : Nat → ByteArray) (w : World) (hl : (len : Int) ≤ 1024) (h0 : 0 < len) (hn : (Lit.int .u64 n).wf = true) (hT : Strs w a len T) (j k : Nat) (hj : (n % (len : Int)) = (j : Int)) (hjl : j < len) (hk : First len T (T j) (k : Int)) :
    Calls Ybaf.prog 4 #[.string typ, .slice a len cap, .int .u64 n, .int .i64 st] w fun e w' => e = .returned (.bool true) ∧ Below w.heap.size w w' := by
  obtain ⟨pb, off, hax, hc⟩ := hT j hjl
  subst hax
  generalize hs : T j = s at hc hk
  have ks := fun (w : World) => Lib.run_convert_string_bytes (P := Ybaf.prog) w 9 23 5 s Ybaf.underlying9 Ybaf.underlying23 Ybaf.underlying5
  have hM := hit_at typ (some ⟨pb, off, none⟩) len cap T st s w hl hT k hk (.string typ) (.slice (some ⟨pb, off, none⟩) len cap)
  have HK : Hid (First len T s (k : Int)) := hk
  have hz : ((len : Int) == 0) = false := by simp; omega
  have hz2 : (len : Int) ≠ 0 := by omega
  have hnb := bounds_u64 hn
  have hlt := World.block_lt_of_cell? w _ hc
  have hlt1 : pb < w.heap.size + 1 := Nat.lt_succ_of_lt hlt
  clear hT hk hs
  go_enter Ybaf.func4, Ybaf.ntmps4
  go_wp2_with (first
    | (go_at_call 5; refine (hM _).mono ?_; rintro e w1 ⟨rfl, ce, c0, c1, S1, hb⟩)
    | fail)
  clear hM ks hc
  have hF6 := fun q => first_at (some ⟨pb, off, none⟩) len cap T s (w1.drewN q) hl (S1.drewN q) k HK.out
  have hM7 := fun q => marshal_at typ (some ⟨pb, off, none⟩) len cap T s k (w1.drewN q) (S1.drewN q) HK.out
  go_quiet ((refine (hF6 _).mono ?_; rintro e w2 ⟨rfl, rfl⟩; exact ⟨rfl, _, rfl⟩))
  go_wp2_with (first
    | (go_at_call 7; refine (hM7 _).mono ?_; rintro e w3 ⟨g, c, rfl, hcv, hb3⟩)
    | fail)
  go_ret
  exact ⟨rfl, (below_drewN hb _).trans (hb3.mono hb.size)⟩

end Go.Proofs.YbulkbrieFmt
