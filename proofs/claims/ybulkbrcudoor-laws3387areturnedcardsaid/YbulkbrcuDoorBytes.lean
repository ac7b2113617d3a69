/-
  A slice of bytes that the call owns, ITS ROW MARKED OR NOT: '[]byte(s)' lays a row with a mark behind its last cell, of which the guide's 'ownsRow' (no mark) does not speak. The two appends onto it: from memory, and from a string.
-/
import Derived.WalkKit
import Derived.ArgAppend
import Derived.Lib.AppendStr
import Derived.Lib.UnsafeStr
import Derived.Lib.BufferWrite
import Derived.Lib.ConvBytes
namespace Go.Proofs.YbulkbrcuDoor
open Go.RowKit

def OwnsB (w : World) (base : Nat) (v : Value) (n : Nat) (xs : List Value) : Prop :=
  xs.length = n ∧ ∃ (g cap : Nat) (cur : Array Value) (fr : Nat × Nat), v = .slice (some ⟨g, 0, none⟩) n cap ∧ base ≤ g ∧ w.heap[g]? = some (.cells cur 5 fr) ∧ (fr.2 ≤ fr.1 ∨ cur.size ≤ fr.1) ∧ n ≤ cap ∧ cap ≤ maxLen ∧ cur.size = cap ∧ cur.toList.take n = xs

section
variable {w : World} {base : Nat} {v : Value} {n : Nat} {xs : List Value}

theorem OwnsB.of_row (h : w.ownsRow base 5 1 v n xs) (hn : 0 < n) : OwnsB w base v n xs := by
  obtain ⟨h1, h2⟩ := h
  refine ⟨by omega, ?_⟩
  rcases h2 with ⟨_, h0⟩ | ⟨g, cap, cur, hv, hb, hg, hle, hm, hs, ht⟩
  · omega
  · exact ⟨g, cap, cur, (0, 0), hv, hb, hg, .inl (Nat.le_refl _), hle, hm, by omega, by simpa using ht⟩

theorem OwnsB.lt (h : OwnsB w base v n xs) : ∀ k, v.ownBlock = some k → base ≤ k ∧ k < w.heap.size := by
  obtain ⟨_, g, cap, cur, fr, rfl, hb, hg, _⟩ := h
  intro k hk
  simp [Value.ownBlock] at hk
  subst hk
  exact ⟨hb, (Array.getElem?_eq_some_iff.1 hg).1⟩

theorem OwnsB.kept {w' : World} {row : Option Nat} (h : OwnsB w base v n xs) (hg : w.grownBy w' row) (hne : v.ownBlock ≠ row ∨ row = none) : OwnsB w' base v n xs := by
  obtain ⟨h1, g, cap, cur, fr, rfl, hb, hh, r⟩ := h
  refine ⟨h1, g, cap, cur, fr, rfl, hb, ?_, r⟩
  rw [hg.block g (Array.getElem?_eq_some_iff.1 hh).1 (by rcases hne with h | h; exact h; rw [h]; simp)]
  exact hh

theorem OwnsB.alloc (h : OwnsB w base v n xs) (o : Obj) : OwnsB (w.alloc o) base v n xs := h.kept (World.grownBy_alloc w o none) (.inr rfl)

theorem OwnsB.at {w' : World} (h : OwnsB w base v n xs) (hb : ∀ g, v.ownBlock = some g → w'.heap[g]? = w.heap[g]?) : OwnsB w' base v n xs := by
  obtain ⟨h1, g, cap, cur, fr, rfl, hb', hh, r⟩ := h
  exact ⟨h1, g, cap, cur, fr, rfl, hb', (hb g rfl).trans hh, r⟩

theorem OwnsB.mono {base' : Nat} (h : OwnsB w base v n xs) (hb : ∀ g, v.ownBlock = some g → base' ≤ g) : OwnsB w base' v n xs := by
  obtain ⟨h1, g, cap, cur, fr, rfl, _, r⟩ := h
  exact ⟨h1, g, cap, cur, fr, rfl, hb g rfl, r⟩

theorem OwnsB.form (h : OwnsB w base v n xs) : ∃ g cap, v = .slice (some ⟨g, 0, none⟩) n cap := by
  obtain ⟨_, g, cap, cur, fr, rfl, _⟩ := h
  exact ⟨g, cap, rfl⟩

theorem OwnsB.cells (h : OwnsB w base v n xs) {g : Nat} (hg : v.ownBlock = some g) : ∀ j u, xs[j]? = some u → w.cell? ⟨g, j, none⟩ = some u := by
  obtain ⟨h1, g', cap, cur, fr, rfl, hb, hh, hfr, hn, hm, hs, ht⟩ := h
  simp [Value.ownBlock] at hg
  subst hg
  intro j u hj
  have hjn : j < n := by
    have := (List.getElem?_eq_some_iff.1 hj).1
    omega
  rw [← ht, List.getElem?_take, if_pos hjn] at hj
  simp [World.cell?, hh]
  simpa using hj
end

/-- What 'setCells' leaves of the block's row. -/
theorem heap_setCells (g : Nat) (t : TypeId) (fr : Nat × Nat) : ∀ (vs : List Value) (o : Nat) (cur : Array Value) (w : World), w.heap[g]? = some (.cells cur t fr) → o + vs.length ≤ cur.size →
    (w.setCells g o vs).heap[g]? = some (.cells (cur.toList.take o ++ vs ++ cur.toList.drop (o + vs.length)).toArray t fr)
  | [], o, cur, w, hg, _ => by
    simp only [World.setCells, List.append_nil, List.length_nil, Nat.add_zero, List.take_append_drop]
    simpa using hg
  | x :: r, o, cur, w, hg, hl => by
    simp only [List.length_cons] at hl
    have h1 : (w.setCell ⟨g, o, none⟩ x).heap[g]? = some (.cells (cur.setIfInBounds o x) t fr) := by
      simp only [World.setCell, Array.getElem?_modify, ↓reduceIte, hg, Option.map_some]
      rfl
    have ih := heap_setCells g t fr r (o + 1) (cur.setIfInBounds o x) (w.setCell ⟨g, o, none⟩ x) h1 (by simp; omega)
    simp only [World.setCells]
    rw [ih]
    congr 3
    have hlo : o < cur.toList.length := by simp; omega
    simp only [Array.toList_setIfInBounds]
    rw [List.take_succ_eq_append_getElem (by simpa using hlo)]
    simp [List.drop_set, Nat.add_assoc, Nat.add_comm 1 r.length]
    exact List.take_set_of_le (Nat.le_refl _)

theorem heap_setCells_other (g k : Nat) (hk : k ≠ g) : ∀ (vs : List Value) (o : Nat) (w : World), (w.setCells g o vs).heap[k]? = w.heap[k]?
  | [], _, _ => rfl
  | x :: r, o, w => by
    simp only [World.setCells]
    rw [heap_setCells_other g k hk r (o + 1) _]
    exact Below.heap_setCell _ _ _ _ hk

theorem setCells_still (g : Nat) : ∀ (vs : List Value) (o : Nat) (w : World), (w.setCells g o vs).os = w.os ∧ (w.setCells g o vs).tape = w.tape ∧ (w.setCells g o vs).output = w.output ∧ (w.setCells g o vs).heap.size = w.heap.size
  | [], _, _ => ⟨rfl, rfl, rfl, rfl⟩
  | x :: r, o, w => by
    obtain ⟨h1, h2, h3, h4⟩ := setCells_still g r (o + 1) (w.setCell ⟨g, o, none⟩ x)
    exact ⟨h1, h2, h3, h4.trans (by simp [World.setCell])⟩

section
variable {w : World} {base : Nat} {v : Value} {n : Nat} {xs : List Value}

/-- The row behind an append for which there is room. -/
theorem OwnsB.room {g cap m : Nat} {news : List Value} (h : OwnsB w base (.slice (some ⟨g, 0, none⟩) n cap) n xs) (hl : news.length = m) (hr : n + m ≤ cap) :
    OwnsB (w.setCells g n news) base (.slice (some ⟨g, 0, none⟩) (n + m) cap) (n + m) (xs ++ news) ∧ w.grownBy (w.setCells g n news) (some g) ∧
      (∀ j, j < news.length → (w.cell? ⟨g, n + j, none⟩).isSome = true ∧ w.frozen? ⟨g, n + j, none⟩ = false) := by
  obtain ⟨h1, g', cap', cur, fr, hv, hb, hh, hfr, hn, hm, hs, ht⟩ := h
  simp at hv
  obtain ⟨rfl, rfl⟩ := hv
  have hset := heap_setCells g 5 fr news n cur w hh (by omega)
  obtain ⟨s1, s2, s3, s4⟩ := setCells_still g news n w
  refine ⟨⟨by simp; omega, g, cap, _, fr, rfl, hb, hset, ?_, hr, hm, ?_, ?_⟩, ⟨s1, s2, s3, Nat.le_of_eq s4.symm, fun k hk hne => heap_setCells_other g k (fun e => hne (by rw [e])) news n w⟩, ?_⟩
  · rcases hfr with h | h
    · exact .inl h
    · refine .inr (Nat.le_trans ?_ h)
      simp
      omega
  · simp
    omega
  · rw [ht, List.append_assoc, ← List.append_assoc, List.toList_toArray]
    rw [show n + m = (xs ++ news).length by simp; omega]
    exact List.take_left
  · intro j hj
    have hjc : n + j < cur.size := by omega
    refine ⟨by simp [World.cell?, hh, hjc], ?_⟩
    simp only [World.frozen?, hh]
    rcases hfr with h | h
    · by_cases hq : fr.1 ≤ n + j
      · simp; omega
      · simp; omega
    · simp; omega

variable {P : Program}

/-- append(b, c...), b OWNED, c's CELLS KNOWN. -/
theorem run_append_b (w : World) (t ty : TypeId) (i : TypeInfo) (ht : P.underlying t = some (.slice 5)) (hi : P.info? 5 = some i) (hz : i.zero = some (.int .u8 0)) (hsize : i.size = 1) (hby : i.bytes = 1)
    (v : Value) (n : Nat) (xs : List Value) (hown : OwnsB w base v n xs) (ad : Addr) (m c : Nat) (news : List Value) (hl : news.length = m) (hnews : ∀ j u, news[j]? = some u → w.cell? (ad.add j) = some u) (h1 : ∀ u ∈ news, u.oneCell' = true)
    (_hm : 0 < m) (hlim : n + m ≤ 1000000000) (hbase : base ≤ w.heap.size) :
    ∃ g cap w', (Builtin.append_ #[t, t] ty #[v, .slice (some ad) m c]).run P w = .ok (.slice (some ⟨g, 0, none⟩) (n + m) cap) w' ∧ OwnsB w' base (.slice (some ⟨g, 0, none⟩) (n + m) cap) (n + m) (xs ++ news) ∧ w.grownBy w' v.ownBlock ∧ (v.ownBlock = some g ∨ w.heap.size ≤ g) := by
  obtain ⟨g, cap, rfl⟩ := hown.form
  by_cases hr : n + m ≤ cap
  · obtain ⟨r1, r2, r3⟩ := hown.room (m := m) hl hr
    have hrun := run_append_room_cells (P := P) w t ty 5 i ht hi g 0 n cap ad m c news (by rw [hsize]; omega) hnews h1 hr (fun j hj => by rw [hsize]; simpa using (r3 j hj).1) (fun j hj => by rw [hsize]; simpa using (r3 j hj).2)
    rw [hsize] at hrun
    simp only [Nat.zero_add, Nat.mul_one] at hrun
    exact ⟨g, cap, _, hrun, r1, r2, .inl rfl⟩
  · obtain ⟨v', w', hrun, r1, r2⟩ := run_append_arg_grows (P := P) w t ty 5 i (.int .u8 0) 1 1 ht hi hz hsize hby rfl (by omega) ⟨g, 0, none⟩ n cap xs (by rw [hown.1]; omega) (fun j u hj => by rw [Addr.add_lit]; simpa using hown.cells (g := g) rfl j u hj) ad m c news (by omega) hnews (by omega) (by unfold maxLen; omega) (by omega)
    have r3 := OwnsB.of_row r1 (by omega)
    obtain ⟨g', cap', rfl⟩ := r3.form
    have hge := (r3.lt g' rfl).1
    exact ⟨g', cap', w', hrun, r3.mono (fun k hk => by simp [Value.ownBlock] at hk; omega), ⟨r2.os, r2.tape, r2.output, r2.size, fun k hk _ => r2.block k hk (by simp)⟩, .inr hge⟩

/-- append(b, s...), b OWNED, s A STRING THAT IS NOT EMPTY. -/
theorem run_append_b_string (w : World) (t u ty : TypeId) (i : TypeInfo) (ht : P.underlying t = some (.slice 5)) (hu : P.underlying u = some .string) (hi : P.info? 5 = some i) (hz : i.zero = some (.int .u8 0)) (hsize : i.size = 1) (hby : i.bytes = 1)
    (v : Value) (n : Nat) (xs : List Value) (hown : OwnsB w base v n xs) (s : ByteArray) (hlim : n + s.size ≤ 1000000000) (hbase : base ≤ w.heap.size) :
    ∃ g cap w', (Builtin.append_ #[t, u] ty #[v, .string s]).run P w = .ok (.slice (some ⟨g, 0, none⟩) (n + s.size) cap) w' ∧ OwnsB w' base (.slice (some ⟨g, 0, none⟩) (n + s.size) cap) (n + s.size) (xs ++ Lib.strCells s) ∧ w.grownBy w' v.ownBlock ∧ (v.ownBlock = some g ∨ w.heap.size ≤ g) := by
  obtain ⟨g, cap, rfl⟩ := hown.form
  by_cases hr : n + s.size ≤ cap
  · obtain ⟨r1, r2, r3⟩ := hown.room (m := s.size) (Lib.strCells_length s) hr
    have hf := Lib.run_firstCells_string (P := P) w 1 s
    have hst := run_storeCells_cells (P := P) g n (Lib.strCells s) 0 w (by simpa using fun j hj => (r3 j hj).1) (by simpa using fun j hj => (r3 j hj).2) (Lib.strCells_oneCell s)
    simp only [Nat.add_zero] at hst
    refine ⟨g, cap, _, ?_, r1, r2, .inl rfl⟩
    simp [Builtin.append_, run_underlying ht, run_underlying hu, sizeOf, typeInfo, hi, hsize, Builtin.lenOf, hr, hf, Addr.add_lit, hst]
  · have hge := grownCap_ge w (n + s.size) cap 5
    have hcm : grownCap w (n + s.size) cap 5 ≤ maxLen := grownCap_le_maxLen w (n + s.size) cap 5 (by unfold maxLen; omega)
    have hrun := Lib.run_append_grow_string (P := P) w t u ty 5 i (.int .u8 0) ht hu hi hz ⟨g, 0, none⟩ n cap xs (by rw [hown.1, hsize]; omega) (fun j u hj => by rw [Addr.add_lit]; simpa using hown.cells (g := g) rfl j u hj) s (by omega) (by omega) (growslice_fits (by omega) (by rw [hby]; omega))
    refine ⟨w.heap.size, _, _, hrun, ⟨by rw [List.length_append, hown.1, Lib.strCells_length], w.heap.size, _, _, (0, 0), rfl, hbase, heap_alloc_new w.drew _, .inl (Nat.le_refl _), hge, hcm, ?_, ?_⟩, ⟨rfl, rfl, rfl, by simp, fun k hk _ => Below.heap_alloc w.drew _ k hk⟩, .inr (Nat.le_refl _)⟩
    · have hz1 : (Value.int IntKind.u8 0).cells.size = 1 := rfl
      simp only [Array.size_append, List.size_toArray, size_zeroCells, hz1, hown.1, Lib.strCells_length]
      omega
    · simp only [Array.toList_append, List.append_assoc]
      rw [← List.append_assoc, show n + s.size = (xs ++ Lib.strCells s).length by rw [List.length_append, hown.1, Lib.strCells_length]]
      exact List.take_left

/-- At the operation, for the walk. -/
theorem wpList_append_b (w : World) {ops : Array Oper} {rest : List Oper} {o : Oper} {a : Act} {Q : Exit → Act → World → Prop} (hgd : o.guard = none) (s x : Operand) (t : TypeId)
    (ho : o.op = .call { callee := .builtin .append, args := #[s, x], argTypes := #[t, t] })
    (i : TypeInfo) (ht : P.underlying t = some (.slice 5)) (hi : P.info? 5 = some i) (hz : i.zero = some (.int .u8 0)) (hsize : i.size = 1) (hby : i.bytes = 1)
    (base : Nat) (v : Value) (n : Nat) (xs : List Value) (hs : a.eval s = v) (hown : OwnsB w base v n xs)
    (ad : Addr) (m c : Nat) (news : List Value) (hx : a.eval x = .slice (some ad) m c) (hl : news.length = m) (hnews : ∀ j u, news[j]? = some u → w.cell? (ad.add j) = some u) (h1 : ∀ u ∈ news, u.oneCell' = true)
    (hm : 0 < m) (hlim : n + m ≤ 1000000000) (hbase : base ≤ w.heap.size)
    (h : ∀ g cap w', OwnsB w' base (.slice (some ⟨g, 0, none⟩) (n + m) cap) (n + m) (xs ++ news) → w.grownBy w' v.ownBlock → (v.ownBlock = some g ∨ w.heap.size ≤ g) → wpList P ops Q rest (a.put o.dst (.slice (some ⟨g, 0, none⟩) (n + m) cap)) w') : wpList P ops Q (o :: rest) a w := by
  refine wpList_plain hgd fun K hK => ?_
  obtain ⟨g, cap, w', hr, h2, h3, h4⟩ := run_append_b (P := P) w t o.type i ht hi hz hsize hby v n xs hown ad m c news hl hnews h1 hm hlim hbase
  unfold Oper.wp execOp
  simp only [ho, resolve, invoke, builtin, Sem.run_bind, Sem.run_pure, Result.andThen_ok, List.map_toArray, List.map_cons, List.map_nil, hs, hx, hr]
  exact hK _ _ (h g cap w' h2 h3 h4)

theorem wpList_append_b_string (w : World) {ops : Array Oper} {rest : List Oper} {o : Oper} {a : Act} {Q : Exit → Act → World → Prop} (hgd : o.guard = none) (s x : Operand) (t u : TypeId)
    (ho : o.op = .call { callee := .builtin .append, args := #[s, x], argTypes := #[t, u] })
    (i : TypeInfo) (ht : P.underlying t = some (.slice 5)) (hu : P.underlying u = some .string) (hi : P.info? 5 = some i) (hz : i.zero = some (.int .u8 0)) (hsize : i.size = 1) (hby : i.bytes = 1)
    (base : Nat) (v : Value) (n : Nat) (xs : List Value) (hs : a.eval s = v) (hown : OwnsB w base v n xs)
    (str : ByteArray) (hx : a.eval x = .string str) (hlim : n + str.size ≤ 1000000000) (hbase : base ≤ w.heap.size)
    (h : ∀ g cap w', OwnsB w' base (.slice (some ⟨g, 0, none⟩) (n + str.size) cap) (n + str.size) (xs ++ Lib.strCells str) → w.grownBy w' v.ownBlock → (v.ownBlock = some g ∨ w.heap.size ≤ g) → wpList P ops Q rest (a.put o.dst (.slice (some ⟨g, 0, none⟩) (n + str.size) cap)) w') : wpList P ops Q (o :: rest) a w := by
  refine wpList_plain hgd fun K hK => ?_
  obtain ⟨g, cap, w', hr, h2, h3, h4⟩ := run_append_b_string (P := P) w t u o.type i ht hu hi hz hsize hby v n xs hown str hlim hbase
  unfold Oper.wp execOp
  simp only [ho, resolve, invoke, builtin, Sem.run_bind, Sem.run_pure, Result.andThen_ok, List.map_toArray, List.map_cons, List.map_nil, hs, hx, hr]
  exact hK _ _ (h g cap w' h2 h3 h4)

/-- '[]byte(s)'. -/
theorem owns_bytesWorld (w : World) (s : ByteArray) (hs : s.size ≤ 1000000) (base : Nat) (hb : base ≤ w.heap.size) : OwnsB (Lib.bytesWorld w 5 s) base (.slice (some ⟨w.heap.size, 0, none⟩) s.size (grownCap w s.size 0 5)) s.size (Lib.byteCells s.data.toList) := by
  have hge := grownCap_ge w s.size 0 5
  have hcm : grownCap w s.size 0 5 ≤ maxLen := grownCap_le_maxLen w s.size 0 5 (by unfold maxLen; omega)
  have hsz : s.data.size = s.size := rfl
  refine ⟨by simp [Lib.byteCells], w.heap.size, _, _, _, rfl, hb, Lib.bytesWorld_at_new w 5 s, .inr (Nat.le_refl _), hge, hcm, ?_, ?_⟩
  · simp [Lib.bytesCells]
    omega
  · simp [Lib.bytesCells, Lib.byteCells]
end

end Go.Proofs.YbulkbrcuDoor
