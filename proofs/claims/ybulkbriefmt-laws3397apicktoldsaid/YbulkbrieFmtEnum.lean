/-
  '(enumNames[int]).unmarshal' (function 5) and '(enumNames[int]).marshal' (function 7).
-/
import Derived.Test.YbulkbrieFmtFind
import Derived.Lib.SlBytesRow
import Derived.Lib.ConvBytes
import Derived.Deep.RegionWith
import Derived.RegionTactic
import Derived.BigRegion
import Derived.BigQuiet
import Derived.Deep.RegionHeld3
namespace Go.Proofs.YbulkbrieFmt
open Go.RowKit Go.Extern.Stop Go.Stop Go.Extern

theorem Strs.later {w w' : World} {a : Option Addr} {len : Nat} {T : Nat → ByteArray} (h : Strs w a len T) (hb : Below w.heap.size w w') : Strs w' a len T := by
  intro j hj
  obtain ⟨b, off, e, hc⟩ := h j hj
  exact ⟨b, off, e, (hb.cell (p := ⟨b, off + j, none⟩) (World.block_lt_of_cell? w _ hc)).trans hc⟩

theorem bytes_later {w w' : World} {g : Nat} {s : ByteArray} (h : Lib.Bytes w g 0 s) (hb : Below w.heap.size w w') : Lib.Bytes w' g 0 s := by
  intro i hi
  have hc := h i hi
  exact (hb.cell (p := ⟨g, 0 + i, none⟩) (World.block_lt_of_cell? w _ hc)).trans hc

theorem below_alloc (w : World) (o : Obj) : Below w.heap.size w (w.alloc o) := (Below.refl _ w).alloc (Nat.le_refl _) o

set_option maxRecDepth 100000 in
theorem unmarshal_hit (typ : ByteArray) (a : Option Addr) (len cap : Nat) (T : Nat → ByteArray) (g c : Nat) (s : ByteArray) (eb : Nat) (v : Value) (w : World) (hl : (len : Int) ≤ 1024) (hT : Strs w a len T) (hB : Lib.Bytes w g 0 s)
    (he : w.cell? ⟨eb, 0, none⟩ = some v) (hf : w.frozen? ⟨eb, 0, none⟩ = false) (k : Nat) (hk : First len T s (k : Int)) :
    Calls Ybaf.prog 5 #[.agg #[.string typ, .slice a len cap], .slice (some ⟨g, 0, none⟩) s.size c, .pointer (some ⟨eb, 0, none⟩)] w fun e w' => e = .returned .nilIface ∧ ∃ o, w' = (w.setCell ⟨eb, 0, none⟩ (.int .i64 (k : Int))).alloc o := by
  have hcv := fun o => Lib.run_convert_whole (P := Ybaf.prog) (w.alloc o) 23 5 9 Ybaf.underlying23 Ybaf.underlying5 Ybaf.underlying9 g 0 s (bytes_later hB (below_alloc w o)) c
  have hI := fun o => index_any a len cap T s (w.alloc o) hl (hT.later (below_alloc w o))
  have HK : Hid (First len T s (k : Int)) := hk
  have helt := World.block_lt_of_cell? w _ he
  have hk0 : (0 : Int) ≤ (k : Int) := Int.natCast_nonneg _
  clear hk hT hB
  go_enter Ybaf.func5, Ybaf.ntmps5
  go_wp2_with (first
    | (go_at_call 8; refine (hI _).mono ?_; rintro e w1 ⟨r, rfl, hw, hr⟩; obtain rfl : (k : Int) = r := (HK.out).unique hr; subst hw; clear hr)
    | go_in)
  go_ret
  exact ⟨rfl, _, rfl⟩

theorem nums_cells {w : World} {g : Nat} {s : ByteArray} (h : Lib.Bytes w g 0 s) : ∀ j v, ((nums s).map (Value.int .u8))[j]? = some v → w.cell? ((⟨g, 0, none⟩ : Addr).add j) = some v := by
  intro j v hj
  have hlt : j < s.size := by
    have := (List.getElem?_eq_some_iff.1 hj).1
    rwa [List.length_map, nums_length] at this
  have hc := h j hlt
  rw [WideShapes.add_plain, hc]
  have hb : s.data.toList[j]? = some s[j] := by
    rw [Array.getElem?_toList]
    exact Array.getElem?_eq_getElem hlt
  simp [nums, hb] at hj
  rw [← hj]

theorem cellOf {w : World} {b o : Nat} {cs : Array Value} {t : TypeId} {v : Value} (h : w.heap[b]? = some (.cells cs t)) (hv : cs[o]? = some v) : w.cell? ⟨b, o, none⟩ = some v ∧ w.frozen? ⟨b, o, none⟩ = false := by
  simp [World.cell?, World.frozen?, h, hv]

/-- fmt.Errorf at the call's own three operands. -/
theorem errorf_new (F : Interp) (w W : World) (hb : Below w.heap.size w W) (hF : F.answers w.tape) (g c : Nat) (s typ t : ByteArray) (hB : Lib.Bytes w g 0 s) :
    Calls Ybaf.prog 9 #[.string ⟨#[37, 113, 32, 105, 115, 32, 110, 111, 32, 37, 115, 58, 32, 119, 97, 110, 116, 32, 111, 110, 101, 32, 111, 102, 32, 37, 115]⟩, .slice (some ⟨W.heap.size, 0, none⟩) 3 3] (W.alloc (.cells #[.iface 23 (.slice (some ⟨g, 0, none⟩) s.size c), .iface 9 (.string typ), .iface 9 (.string t)] 20))
      fun e w' => ∃ q, e = .returned (.iface 49 (.pointer (some q))) ∧ Below W.heap.size W w' := by
  have hn := heap_alloc_new W (.cells #[.iface 23 (.slice (some ⟨g, 0, none⟩) s.size c), .iface 9 (.string typ), .iface 9 (.string t)] 20)
  have hb2 := hb.alloc hb.size (.cells #[.iface 23 (.slice (some ⟨g, 0, none⟩) s.size c), .iface 9 (.string typ), .iface 9 (.string t)] 20)
  refine (errorf_any F _ (by rw [hb2.tape]; exact hF) W.heap.size ⟨g, 0, none⟩ c (nums s) typ t ?_ ?_ ?_ (nums_cells (bytes_later hB hb2))).mono ?_
  · rw [nums_length]
    exact (cellOf hn rfl).1
  · exact (cellOf hn rfl).1
  · exact (cellOf hn rfl).1
  · rintro e w' ⟨q, rfl, hb3⟩
    exact ⟨q, rfl, (below_alloc W _).trans (hb3.mono (by simp))⟩

set_option maxRecDepth 100000 in
set_option maxHeartbeats 1000000 in
theorem unmarshal_miss (F : Interp) (typ : ByteArray) (a : Option Addr) (cap : Nat) (g c : Nat) (s : ByteArray) (p : Value) (w : World) (hF : F.answers w.tape) (hB : Lib.Bytes w g 0 s) :
    Calls Ybaf.prog 5 #[.agg #[.string typ, .slice a 0 cap], .slice (some ⟨g, 0, none⟩) s.size c, p] w fun e w' => ∃ q, e = .returned (.iface 49 (.pointer (some q))) ∧ Below w.heap.size w w' := by
  have hcv := fun o => Lib.run_convert_whole (P := Ybaf.prog) (w.alloc o) 23 5 9 Ybaf.underlying23 Ybaf.underlying5 Ybaf.underlying9 g 0 s (bytes_later hB (below_alloc w o)) c
  have hI := fun o => index_any a 0 cap (fun _ => s) s (w.alloc o) (by omega) (fun j hj => by omega)
  have HF : Hid (F.answers w.tape) := hF
  have HB : Hid (Lib.Bytes w g 0 s) := hB
  clear hF hB
  go_enter Ybaf.func5, Ybaf.ntmps5
  go_wp2_with (first
    | (go_at_call 8; refine (hI _).mono ?_; rintro e w1 ⟨r, rfl, hw, hr⟩; obtain rfl : r = -1 := (by rcases hr with ⟨h, _⟩ | ⟨k, hk, _⟩; exact h; omega); subst hw; clear hr)
    | go_in)
  clear hcv hI
  obtain ⟨W, hW⟩ : ∃ W, W = w.alloc (.cells #[.string typ, .slice a 0 cap] 25) := ⟨_, rfl⟩
  have hWb : Below w.heap.size w W := by rw [hW]; exact below_alloc w _
  have hn : W.heap[w.heap.size]? = some (.cells #[.string typ, .slice a 0 cap] 25) := by rw [hW]; exact heap_alloc_new w _
  have c0 : W.cell? ⟨w.heap.size, 0, none⟩ = some (.string typ) := (cellOf hn rfl).1
  have c1 : W.cell? ⟨w.heap.size, 1, none⟩ = some (.slice a 0 cap) := (cellOf hn rfl).1
  rw [← hW]
  clear hW hn
  have n0 := World.new_ne W _ c0
  have hlt : w.heap.size < W.heap.size := World.block_lt_of_cell? W _ c0
  go_region_held3 (fun w' => w'.cell? ⟨w.heap.size, 0, none⟩ = some (.string typ) ∧ w'.cell? ⟨w.heap.size, 1, none⟩ = some (.slice a 0 cap)) (go_keep)
    (first
      | (go_at_call 10; refine (join_none _ _ _ _).mono ?_; rintro e w2 ⟨rfl, rfl⟩)
      | (go_at_call 9; refine (errorf_new F w _ hWb.drew HF.out g c s typ _ HB.out).mono ?_; rintro e w3 ⟨q, rfl, hb3⟩; have k0 : w3.cell? ⟨w.heap.size, 0, none⟩ = some (.string typ) := (hb3.cell (p := ⟨w.heap.size, 0, none⟩) hlt).trans c0; have k1 : w3.cell? ⟨w.heap.size, 1, none⟩ = some (.slice a 0 cap) := (hb3.cell (p := ⟨w.heap.size, 1, none⟩) hlt).trans c1))
  all_goals go_wp2
  all_goals
    go_ret
    exact ⟨q, rfl, hWb.drew.trans (hb3.mono hWb.size)⟩

theorem bytes_new (w : World) (s : ByteArray) : Lib.Bytes (Lib.bytesWorld w 5 s) w.heap.size 0 s := by
  intro i hi
  rw [Nat.zero_add, Lib.bytesWorld_cell w 5 s i hi]
  have hb : s.data.toList[i]? = some s[i] := by
    rw [Array.getElem?_toList]
    exact Array.getElem?_eq_getElem hi
  simp [List.getD, hb]

theorem below_bytes (w : World) (s : ByteArray) : Below w.heap.size w (Lib.bytesWorld w 5 s) :=
  ⟨by unfold Lib.bytesWorld World.freeze; split <;> rfl, by unfold Lib.bytesWorld World.freeze; split <;> rfl, by unfold Lib.bytesWorld World.freeze; split <;> rfl, by rw [Lib.bytesWorld_size]; omega, fun k hk => Lib.bytesWorld_at_old w 5 s k hk⟩

set_option maxRecDepth 100000 in
/-- 'marshal' of a value that has a text: a row of the call's own that holds its bytes. -/
theorem marshal_hit (typ : ByteArray) (a : Option Addr) (len cap : Nat) (T : Nat → ByteArray) (k : Nat) (w : World) (hT : Strs w a len T) (hk : k < len) :
    Calls Ybaf.prog 7 #[.agg #[.string typ, .slice a len cap], .int .i64 (k : Int)] w fun e w' => ∃ g c, e = .returned (.tuple #[.slice (some ⟨g, 0, none⟩) (T k).size c, .nilIface]) ∧ Lib.Bytes w' g 0 (T k) ∧ Below w.heap.size w w' := by
  have hk0 : (0 : Int) ≤ (k : Int) := Int.natCast_nonneg _
  have hk1 : (k : Int) < (len : Int) := by omega
  obtain ⟨b, off, hax, hc⟩ := hT k hk
  subst hax
  have hlt := World.block_lt_of_cell? w _ hc
  have ks := fun (w : World) => Lib.run_convert_string_bytes (P := Ybaf.prog) w 9 23 5 (T k) Ybaf.underlying9 Ybaf.underlying23 Ybaf.underlying5
  clear hT
  go_enter Ybaf.func7, Ybaf.ntmps7
  go_wp2
  go_ret2
  exact ⟨w.heap.size + 1, ⟨_, rfl⟩, by simpa using bytes_new (w.alloc (.cells #[.string typ, .slice (some ⟨b, off, none⟩) len cap] 25)) (T k), (below_alloc w _).trans ((below_bytes _ (T k)).mono (by simp))⟩

end Go.Proofs.YbulkbrieFmt
