/-
  fmt.Errorf (function 9) at the one format and the three operands of 'unmarshal' ("%q is no %s: want one of %s"; a slice of bytes, two strings), over fmt.errorf's stop: whatever text it is given, the error is not nil. The facts after the guide's CheckFmt.lean, TagSlice.lean.
-/
import Derived.Test.YbulkbrieFmtRows
import Derived.WalkKit
import Derived.WalkSpells
import Derived.Stop.CallBack
import Derived.Stop.IfaceNil
import Derived.Laws.Cells
import Derived.Stop.FmtTextSlices
import GoSem.ClaimData
namespace Go.Proofs.YbulkbrieFmt
open Go.RowKit Go.Extern.Stop Go.Stop Go.Extern

@[go_sem] theorem call12 (args : Array Value) (w : World) : (callFunc 12 args).run Ybaf.prog w = ((FmtStop.errorf #[9, 39] #[27] args).run Ybaf.prog w).andThen fun v w' => .ok (.value v) w' :=
  run_callFunc_extern Ybaf.func12 (by kernel_rfl) (by kernel_rfl) (by kernel_rfl) (by kernel_rfl) args w
@[go_sem] theorem guard_ok (name : String) (w : World) : (FmtStop.guard name).run Ybaf.prog w = .ok () w := by kernel_rfl
@[go_sem] theorem form3 (w : World) : (FmtDoors.printed ⟨#[37, 113, 32, 105, 115, 32, 110, 111, 32, 37, 115, 58, 32, 119, 97, 110, 116, 32, 111, 110, 101, 32, 111, 102, 32, 37, 115]⟩ 3).run Ybaf.prog w = .ok [(0, 113, false), (1, 115, false), (2, 115, false)] w := by kernel_rfl
def shape9 : List UInt8 := [12, 6, 0, 0, 0, 0, 0, 0, 0, 115, 116, 114, 105, 110, 103]
@[go_sem] theorem op9 (name : String) (x : ByteArray) (w : World) : (FmtStop.operand name true 115 false (.iface 9 (.string x))).run Ybaf.prog w = .ok (shape9, FmtStop.pack x.data.toList) w := by kernel_rfl
@[go_sem] theorem ptr49 (w : World) : (FmtStop.ptrTo "errors.errorString").run Ybaf.prog w = .ok 49 w := by kernel_rfl
@[go_sem] theorem elem49 (w : World) : (elemOf 49).run Ybaf.prog w = .ok 51 w := by kernel_rfl

def shape23 : List UInt8 := 13 :: (FmtStop.pack "[]uint8".toUTF8.data.toList ++ 6 :: FmtStop.pack "uint8".toUTF8.data.toList)
theorem value5 (name : String) (x : Int) (w : World) : (FmtStop.value name FmtStop.depth 5 [.int .u8 x]).run Ybaf.prog w = .ok (digits 8 (x % 2 ^ 64).toNat) w := by kernel_rfl
theorem values5 (name : String) (w : World) : ∀ xs : List Int, (List.mapM ((fun c => FmtStop.value name FmtStop.depth 5 [c]) ∘ Value.int IntKind.u8) xs).run Ybaf.prog w = .ok (xs.map fun x => digits 8 (x % 18446744073709551616).toNat) w
  | [] => by simp [List.mapM_nil]
  | x :: xs => by
    have ih := values5 name w xs
    have h := value5 name x w
    simp [List.mapM_cons, h, ih, Result.andThen]

theorem opBytes (name : String) (a : Addr) (cap : Nat) (xs : List Int) (w : World) (hc : ∀ j v, (xs.map (Value.int .u8))[j]? = some v → w.cell? (a.add j) = some v) :
    (FmtStop.operand name true 113 false (.iface 23 (.slice (some a) xs.length cap))).run Ybaf.prog w = .ok (shape23, 1 :: (digits 8 xs.length ++ FmtText.intValues xs)) w := by
  have h1 : (typeStr 23).run Ybaf.prog w = .ok "[]uint8" w := by kernel_rfl
  have d2 : Ybaf.t23.desc = .slice 5 := rfl
  have hb : (FmtStop.bare (FmtStop.asked true 113 false) 23).run Ybaf.prog w = .ok true w := by kernel_rfl
  have hs : (FmtStop.scalar 5).run Ybaf.prog w = .ok true w := by kernel_rfl
  have hy : (Extern.Stop.isByte 5).run Ybaf.prog w = .ok true w := by kernel_rfl
  have hw : Ybaf.prog.funcs.any (·.name == FmtStop.writeWord) = true := by kernel_rfl
  have hsh : (FmtStop.shape name (FmtStop.asked true 113 false) FmtStop.depth 5).run Ybaf.prog w = .ok (6 :: FmtStop.pack "uint8".toUTF8.data.toList) w := by kernel_rfl
  have hl := run_loadCells_list (P := Ybaf.prog) w a (xs.map (Value.int .u8)) hc
  rw [List.length_map] at hl
  simp [FmtStop.operand, h1, hb, hs, hy, hsh, hl, values5, shape23, FmtText.intValues]
  intro hno
  obtain ⟨i, hi, _, _, he⟩ := Array.any_iff_exists.1 hw
  exact absurd (by simpa using he) (hno i hi)

/-- The bytes of a string, as the numbers that a row of bytes holds. -/
def nums (s : ByteArray) : List Int := s.data.toList.map fun x => (x.toNat : Int)
theorem nums_length (s : ByteArray) : (nums s).length = s.size := by
  unfold nums
  rw [List.length_map]
  exact Array.length_toList

set_option maxRecDepth 100000 in
theorem errorf_any (F : Interp) (w : World) (hF : F.answers w.tape) (b : Nat) (a : Addr) (cap : Nat) (xs : List Int) (typ t : ByteArray)
    (h0 : w.cell? ⟨b, 0, none⟩ = some (.iface 23 (.slice (some a) xs.length cap))) (h1 : w.cell? ⟨b, 1, none⟩ = some (.iface 9 (.string typ))) (h2 : w.cell? ⟨b, 2, none⟩ = some (.iface 9 (.string t)))
    (hc : ∀ j v, (xs.map (Value.int .u8))[j]? = some v → w.cell? (a.add j) = some v) :
    Calls Ybaf.prog 9 #[.string ⟨#[37, 113, 32, 105, 115, 32, 110, 111, 32, 37, 115, 58, 32, 119, 97, 110, 116, 32, 111, 110, 101, 32, 111, 102, 32, 37, 115]⟩, .slice (some ⟨b, 0, none⟩) 3 3] w fun e w' => ∃ p, e = .returned (.iface 49 (.pointer (some p))) ∧ Below w.heap.size w w' := by
  have hF' := answers_open hF
  have hop := opBytes "fmt.errorf" a cap xs w hc
  go_enter Ybaf.func9, Ybaf.ntmps9
  go_wp2

  go_ret
  exact ⟨_, rfl, ((Below.refl _ w).alloc (Nat.le_refl _) _).drew⟩

end Go.Proofs.YbulkbrieFmt
