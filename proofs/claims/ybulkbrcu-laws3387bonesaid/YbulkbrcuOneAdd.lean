/-
  'LawS3387BOne', where an edge is added: the walks.
-/
import Derived.Test.YbulkbrcuOneParts
import Derived.OpenShut
namespace Go.Proofs.Ybulkbrcu
open Go.RowKit Go.Maps

set_option maxRecDepth 100000 in
set_option maxHeartbeats 1600000 in
/-- an edge from a source whose list is nil. -/
theorem one_addnil (m f num : Int) (sz : Int) (w : World) (hnum : (Lit.int .i64 num).wf = true) (hfw : (Lit.int .i64 f).wf = true) (hm : (m.tmod 3 == 0) = false) (hm1 : (m.tmod 3 == 1) = false) (hf0 : (f == 0) = false) (hfn : (f == num) = false) :
    Calls Yba.prog 3 #[.int .u8 m, .int .i64 f, .int .i64 num, .slice none 0 0, .int .i64 sz] w fun e w' => e = .returned (.bool true) ∧ Below w.heap.size w w' := by
  have hf02 : (f != 0) = true := by simpa using hf0
  have hfn2 : (f != num) = true := by simpa using hfn
  have HN : Hid (f ≠ num) := fun e => by simp [e] at hfn
  have hsn := fun wx => run_neq_slice_nil_any (P := Yba.prog) wx 22 3 none 0 0 0 0 Yba.underlying22
  have hmm := @run_makeMap Yba.prog
  have hpe := ptr_eql
  have hpn := ptr_neq
  go_enter Yba.func3, Yba.ntmps3
  go_wp2_with (first
    | (at_mapUpdate; refine wpList_mapUpdate_own _ rfl (.tmp 36) (.tmp 37) (.tmp 38) 27 rfl 3 23 law3 Yba.underlying27 ptrElem (w.heap.size + 1) 0 (.map []) rfl ((made_at (by simp)).alloc _) (by unfold maxLen; omega) _ _ _ rfl rfl (keyOf_int_mk Yba.underlying3 hnum) _ [] (ptrElem_mk w.heap.size) ?_; intro w1 hown1 hgrow1; have L := laid_of hgrow1; clear hgrow1; have hg0 := fun o => (L.boxed o).g0)
    | (at_mapUpdate; refine wpList_mapUpdate_own _ rfl (.tmp 61) (.tmp 62) (.tmp 63) 27 rfl 3 23 law3 Yba.underlying27 ptrElem (w.heap.size + 1) 1 _ rfl (hown1.alloc _) (by unfold maxLen; omega) _ _ _ rfl rfl (keyOf_int_mk Yba.underlying3 hfw) _ [] (ptrElem_mk w1.heap.size) ?_; intro w2 hown2 hgrow2))
  have L2 := (L.boxed _).stored hgrow2
  have hS := src_of L hgrow2
  have hls := L.size
  have hlk2 := (map_two HN.out _ rfl (B := w.heap.size) (S := w1.heap.size)).2.1
  refine (edge_add (w.heap.size + 1 + 1) (w.heap.size + 1) w1.heap.size w.heap.size (.slice none 0 0) (w.heap.size + 3) 0 [] f num sz w2 hf0 hfn L2.g0 (ptr_look hown2 hfw hlk2) hS.1 hS.2.1 L2.n0 L2.g4 L2.f4 (World.ownsRow_nil _ _ _ _) L2.size (by omega) (by simp [Value.ownBlock]) (by simp [Value.ownBlock])).mono ?_
  rintro e w3 ⟨rfl, E⟩
  have A := after_edge L2 HN.out hnum hfw hown2 E hls (by simp [Value.ownBlock])
  clear E hlk2 hown2 hown1 hS L2 L hgrow2 hls hg0
  have a1 := A.n3
  have a2 := A.g0
  have a3 := A.g4
  have a4 := A.lkn
  have a5 := A.lkf
  have a6 := A.len
  obtain ⟨gg, cap, s3, hrow⟩ := A.succ
  have r0 := hrow 0 (.int .i64 num) rfl
  clear hrow
  go_wp2
  refine wp_loop_rounds 1 ?_
  rw [rounds_succ]
  go_wp2
  go_ret
  exact ⟨by simp, A.below⟩

/-- The row that 'make' has laid. -/
theorem made_row {w : World} {base M len : Nat} {xs : List Value} (h : w.ownsRow base 3 1 (.slice (some ⟨M, 0, none⟩) len len) len xs) : ∃ cur : List Value, w.heap[M]? = some (.cells cur.toArray 3 (0, 0)) ∧ cur.length = len := by
  rcases h.2 with ⟨h, _⟩ | ⟨g, cap, cur, hv, _, hg, _, _, hs, _⟩
  · cases h
  · simp at hv
    obtain ⟨rfl, rfl⟩ := hv
    exact ⟨cur.toList, by simpa using hg, by simpa using hs⟩

theorem src_cells {w wm : World} {x : Addr} {zs : List Int} {len : Nat} (hb : Below w.heap.size w wm) (hc : ∀ i, i < zs.length → w.cell? (x.add i) = some (.int .i64 (zs.getD i 0))) :
    ∀ j v, ((zs.take len).map (Value.int .i64))[j]? = some v → wm.cell? (x.add j) = some v := by
  intro j v hj
  rw [List.getElem?_map, List.getElem?_take] at hj
  split at hj
  · rcases Nat.lt_or_ge j zs.length with hjl | hjl
    · rw [List.getElem?_eq_getElem hjl] at hj
      simp at hj
      have h1 := hc j hjl
      rw [hb.cell (World.block_lt_of_cell? w _ h1), h1, ← hj]
      simp [hjl]
    · rw [List.getElem?_eq_none hjl] at hj
      cases hj
  · cases hj

theorem row_copied {w : World} {base M len : Nat} {cur cs : List Value} (h : w.heap[M]? = some (.cells (splice cur 0 cs).toArray 3 (0, 0))) (hc : cur.length = len) (hs : cs.length = len) (hb : base ≤ M) (hm : len ≤ maxLen) :
    w.ownsRow base 3 1 (.slice (some ⟨M, 0, none⟩) len len) len cs := by
  have e : splice cur 0 cs = cs := by
    simp [splice]
    omega
  rw [e] at h
  exact ⟨by omega, .inr ⟨M, len, cs.toArray, rfl, hb, h, Nat.le_refl _, hm, by simp [hs], by simp [List.take_of_length_le (Nat.le_of_eq hs)]⟩⟩

theorem map_kept {B M n : Nat} {D : DataW Unit} {w1 wc : World} (h : w1.ownsMap Yba.prog 3 ptrElem (B + 1) n D) (hB : B + 3 ≤ M) (hb : Below M w1 wc) : wc.ownsMap Yba.prog 3 ptrElem (B + 1) n D := by
  obtain ⟨es, clock, hm, r⟩ := h
  exact ⟨es, clock, (hb.block _ (by omega)).trans hm, r⟩

theorem info3sz : (Yba.prog.info? 3).map (·.size) = some 1 := by kernel_rfl

set_option maxRecDepth 100000 in
set_option maxHeartbeats 1600000 in
/-- an edge from a source whose list is not nil. -/
theorem one_addsome (m f num : Int) (sz : Int) (x : Addr) (len cap : Nat) (zs : List Int) (w : World) (hnum : (Lit.int .i64 num).wf = true) (hfw : (Lit.int .i64 f).wf = true) (hm : (m.tmod 3 == 0) = false) (hm1 : (m.tmod 3 == 1) = false) (hf0 : (f == 0) = false) (hfn : (f == num) = false)
    (hlen : (len : Int) ≤ 1024) (hz : len ≤ zs.length) (hc : ∀ i, i < zs.length → w.cell? (x.add i) = some (.int .i64 (zs.getD i 0))) :
    Calls Yba.prog 3 #[.int .u8 m, .int .i64 f, .int .i64 num, .slice (some x) len cap, .int .i64 sz] w fun e w' => e = .returned (.bool true) ∧ Below w.heap.size w w' := by
  have hf02 : (f != 0) = true := by simpa using hf0
  have hfn2 : (f != num) = true := by simpa using hfn
  have HN : Hid (f ≠ num) := fun e => by simp [e] at hfn
  have hsn := fun wx => run_neq_slice_nil_any (P := Yba.prog) wx 22 3 (some x) len cap 0 0 Yba.underlying22
  have hmm := @run_makeMap Yba.prog
  have hpe := ptr_eql
  have hpn := ptr_neq
  obtain ⟨i0, hi0, hz0, hz1, hz2⟩ := info_parts Yba.info3
  obtain ⟨cs, hcs⟩ : ∃ cs, cs = (zs.take len).map (Value.int .i64) := ⟨_, rfl⟩
  have hcl : cs.length = len := by rw [hcs]; simp; omega
  have H1 : Hid (∀ v ∈ cs, v.oneCell' = true) := by
    rw [hcs]; intro v hv; obtain ⟨a, _, rfl⟩ := List.mem_map.1 hv; rfl
  have HC : Hid (cs = (zs.take len).map (Value.int .i64)) := hcs
  clear hcs
  have HL : Hid (cs.length = len) := hcl
  clear hcl
  have HX : Hid (∀ i, i < zs.length → w.cell? (x.add i) = some (.int .i64 (zs.getD i 0))) := hc
  clear hc
  go_enter Yba.func3, Yba.ntmps3
  go_wp2_with (first
    | (at_mapUpdate; refine wpList_mapUpdate_own _ rfl (.tmp 36) (.tmp 37) (.tmp 38) 27 rfl 3 23 law3 Yba.underlying27 ptrElem (w.heap.size + 1) 0 (.map []) rfl ((made_at (by simp)).alloc _) (by unfold maxLen; omega) _ _ _ rfl rfl (keyOf_int_mk Yba.underlying3 hnum) _ [] (ptrElem_mk w.heap.size) ?_; intro w1 hown1 hgrow1; have L := laid_of hgrow1; clear hgrow1)
    | (at_make; refine wpList_make_full _ rfl (.tmp 49) (.tmp 49) 22 rfl (w.heap.size + 3) 3 i0 (.int .i64 0) 1 Yba.underlying22 hi0 hz0 hz1 .i64 .i64 _ _ len rfl rfl rfl rfl (by rw [hz2]; omega) (by unfold maxLen; omega) L.size ?_; intro wm hom hgm; obtain ⟨cur, hcur, hcurl⟩ := made_row hom; have hcurl' : Hid (cur.length = len) := hcurl; clear hom hcurl; have hbm := Below.grown (Below.refl w1.heap.size w1) hgm (Nat.le_refl _) (fun k hk => by cases hk); clear hgm)
    | (have _t := hcur; refine wpList_copy_splice rfl (.tmp 51) (.tmp 52) 22 22 rfl 3 Yba.underlying22 info3sz _ _ len len len cap rfl rfl w1.heap.size 0 cur 3 hcur cs (by rw [HL.out]; exact (Nat.min_self _).symm) (fun _ => ⟨rfl, x, rfl, by rw [HC.out]; exact src_cells (L.below.trans (hbm.mono (by have := L.size; omega))) HX.out⟩) (by rw [HL.out, hcurl'.out]; omega) H1.out w1.heap.size w1 hbm (Nat.le_refl _) ?_; intro wc HGc hBc; have Lc := L.kept hBc L.size; have hg0 := fun o => (Lc.boxed o).g0; clear hcur hbm)
    | (at_mapUpdate; refine wpList_mapUpdate_own _ rfl (.tmp 61) (.tmp 62) (.tmp 63) 27 rfl 3 23 law3 Yba.underlying27 ptrElem (w.heap.size + 1) 1 _ rfl ((map_kept hown1 L.size hBc).alloc _) (by unfold maxLen; omega) _ _ _ rfl rfl (keyOf_int_mk Yba.underlying3 hfw) _ [] (ptrElem_mk wc.heap.size) ?_; intro w2 hown2 hgrow2))
  have L2 := (Lc.boxed _).stored hgrow2
  have hS := src_of Lc hgrow2
  have hls := L.size
  have hls2 := hBc.size
  have hlk2 := (map_two HN.out _ rfl (B := w.heap.size) (S := wc.heap.size)).2.1
  have hmwc : w1.heap.size < wc.heap.size := (Array.getElem?_eq_some_iff.1 HGc.out).1
  have hownr := row_copied (base := w.heap.size + 3) HGc.out hcurl'.out HL.out hls (by unfold maxLen; omega)
  have hownr2 := hownr.alloc (nodeObj f (.slice (some ⟨w1.heap.size, 0, none⟩) len len))
  refine (edge_add (w.heap.size + 1 + 1) (w.heap.size + 1) wc.heap.size w.heap.size (.slice (some ⟨w1.heap.size, 0, none⟩) len len) (w.heap.size + 3) len cs f num sz w2 hf0 hfn L2.g0 (ptr_look hown2 hfw hlk2) hS.1 hS.2.1 L2.n0 L2.g4 L2.f4 (hownr2.kept hgrow2 (.inr (by simp [Value.ownBlock]; omega))) L2.size (by omega) (by simp [Value.ownBlock]; omega) (by simp [Value.ownBlock]; omega)).mono ?_
  rintro e w3 ⟨rfl, E⟩
  have A := after_edge L2 HN.out hnum hfw hown2 E (by omega) (by intro k hk; simp [Value.ownBlock] at hk; omega)
  clear hlk2 hown2 hown1 hS hgrow2 hg0 hownr hownr2
  have a1 := A.n3
  have a2 := A.g0
  have a3 := A.g4
  have a4 := A.lkn
  have a5 := A.lkf
  have a6 := A.len
  obtain ⟨gg, cap', s3, hrow⟩ := A.succ
  have r0 : w3.cell? ⟨gg, len, none⟩ = some (.int .i64 num) := hrow len (.int .i64 num) (by rw [List.getElem?_append_right (by rw [HL.out]; exact Nat.le_refl _), HL.out]; simp)
  have HR : Hid (∀ j u, (cs ++ [.int .i64 num])[j]? = some u → w3.cell? ⟨gg, j, none⟩ = some u) := hrow
  clear hrow E L2 Lc L hBc HGc
  go_wp2
  go_loopw [15] (fun i wr => ∃ k : Nat, k ≤ len ∧ i = .int .i64 k ∧ ∃ q, wr = w3.drewN q) (fun i _ => len - (intOf i).toNat)
  case atStart => exact ⟨0, Nat.zero_le _, rfl, 0, rfl⟩
  case round =>
    obtain ⟨k, hk, rfl, hwr⟩ := hrel
    have HW : Hid (∃ q, wr = w3.drewN q) := hwr
    have e3 : wr.cell? ⟨wc.heap.size, 3, none⟩ = some (.slice (some ⟨gg, 0, none⟩) (len + 1) cap') := by obtain ⟨q, rfl⟩ := hwr; exact s3
    have er0 : wr.cell? ⟨gg, len, none⟩ = some (.int .i64 num) := by obtain ⟨q, rfl⟩ := hwr; exact r0
    by_cases hlt : k < len
    · have hkz : k < zs.length := by omega
      obtain ⟨b, off, hxx, hcx⟩ := ints_at HX.out (by omega)
      have c2w := hcx k hkz
      have hlb := World.block_lt_of_cell? w _ c2w
      have c2 : wr.cell? ⟨b, off + k, none⟩ = some (.int .i64 (zs.getD k 0)) := by
        obtain ⟨q, rfl⟩ := hwr
        exact (A.below.cell hlb).trans c2w
      have c1 : wr.cell? ⟨gg, k, none⟩ = some (.int .i64 (zs.getD k 0)) := by
        obtain ⟨q, rfl⟩ := hwr
        refine HR.out k _ ?_
        rw [List.getElem?_append_left (by rw [HL.out]; exact hlt), HC.out]
        simp [hlt, hkz]
      clear hwr hcx c2w a1 a2 a3 a4 a5 a6 r0 s3
      generalize zs.getD k 0 = z at c1 c2
      subst hxx
      have hk0 : (0 : Int) ≤ (k : Int) := Int.natCast_nonneg _
      have hk1 : (k : Int) < (len : Int) := by omega
      have hk2 : (k : Int) < (len : Int) + 1 := by omega
      go_wp2
      go_quiet (fail)
      go_wp2
      go_roundw
      case rel => exact ⟨k + 1, by omega, by go_num, by obtain ⟨q, hq⟩ := HW.out; exact ⟨q + nq, by rw [hq, World.drewN_drewN]⟩⟩
      case measure => simp [intOf]; omega
    · go_wp2
      go_ret
      exact ⟨rfl, by obtain ⟨q, hq⟩ := HW.out; rw [hq]; exact below_drewN A.below q⟩
end Go.Proofs.Ybulkbrcu
