/-
  CLOSED FACTS ON fmt's STOPPED FRONTS AT THIS DUMP, after the guide's GuardFmt.lean (typed by hand: the tool that writes such a text does not lie here), and the contract of '(*Decoder).fail'.
-/
import Derived.Test.Qxb6613165aFmtRows
import Derived.Stop.CallBack
import Derived.Stop.IfaceNil
import Derived.WalkKit
import Derived.ProofKit
import Derived.OpenShut
import Derived.Below
import Derived.Outline
import Derived.WalkSpells
import Derived.WalkLawsBesides
namespace Go.Proofs.Qxb6613165aFmt
open Go.Extern.Stop Go.Stop Go.Extern
open Go.ChangeShapes Go.WideShapes Go.ChangeAt Go.RowKit

theorem call18 (args : Array Value) (w : World) : (callFunc 18 args).run Tryf.prog w = ((FmtStop.errorf #[9, 47] #[34] args).run Tryf.prog w).andThen fun v w' => .ok (.value v) w' :=
  run_callFunc_extern Tryf.func18 (by kernel_rfl) (by kernel_rfl) (by kernel_rfl) (by kernel_rfl) args w
theorem call13 (args : Array Value) (w : World) : (callFunc 13 args).run Tryf.prog w = ((FmtStop.sprintf #[9, 47] #[9] args).run Tryf.prog w).andThen fun v w' => .ok (.value v) w' :=
  run_callFunc_extern Tryf.func13 (by kernel_rfl) (by kernel_rfl) (by kernel_rfl) (by kernel_rfl) args w
theorem fguard (name : String) (w : World) : (FmtStop.guard name).run Tryf.prog w = .ok () w := by kernel_rfl
-- the format of fail: 2 operands, 0
theorem fmt0 : FmtStop.printed? ⟨#[37, 115, 58, 32, 37, 119]⟩ 2 = some [(0, 115, false), (1, 119, false)] := by kernel_rfl
theorem fmt0r (w : World) : (FmtDoors.printed ⟨#[37, 115, 58, 32, 37, 119]⟩ 2).run Tryf.prog w = .ok [(0, 115, false), (1, 119, false)] w := by kernel_rfl
theorem fmt1 : FmtStop.printed? ⟨#[37, 115, 58, 32, 37, 119]⟩ 0 = some [] := by kernel_rfl
theorem fmt1r (w : World) : (FmtDoors.printed ⟨#[37, 115, 58, 32, 37, 119]⟩ 0).run Tryf.prog w = .ok [] w := by kernel_rfl
-- the format of Count: 3 operands, 0
theorem fmt2 : FmtStop.printed? ⟨#[37, 100, 32, 37, 115, 32, 105, 110, 32, 37, 100, 32, 98, 121, 116, 101, 115]⟩ 3 = some [(0, 100, false), (1, 115, false), (2, 100, false)] := by kernel_rfl
theorem fmt2r (w : World) : (FmtDoors.printed ⟨#[37, 100, 32, 37, 115, 32, 105, 110, 32, 37, 100, 32, 98, 121, 116, 101, 115]⟩ 3).run Tryf.prog w = .ok [(0, 100, false), (1, 115, false), (2, 100, false)] w := by kernel_rfl
theorem fmt3 : FmtStop.printed? ⟨#[37, 100, 32, 37, 115, 32, 105, 110, 32, 37, 100, 32, 98, 121, 116, 101, 115]⟩ 0 = some [] := by kernel_rfl
theorem fmt3r (w : World) : (FmtDoors.printed ⟨#[37, 100, 32, 37, 115, 32, 105, 110, 32, 37, 100, 32, 98, 121, 116, 101, 115]⟩ 0).run Tryf.prog w = .ok [] w := by kernel_rfl
-- operands: string, int, uint64
def shape9 : List UInt8 := [12, 6, 0, 0, 0, 0, 0, 0, 0, 115, 116, 114, 105, 110, 103]
theorem op9_115 (name : String) (x : ByteArray) (w : World) : (FmtStop.operand name false 115 false (.iface 9 (.string x))).run Tryf.prog w = .ok (shape9, FmtStop.pack x.data.toList) w := by kernel_rfl
theorem op9_115w (name : String) (x : ByteArray) (w : World) : (FmtStop.operand name true 115 false (.iface 9 (.string x))).run Tryf.prog w = .ok (shape9, FmtStop.pack x.data.toList) w := by kernel_rfl
def shape3 : List UInt8 := [5, 3, 0, 0, 0, 0, 0, 0, 0, 105, 110, 116]
theorem op3_100 (name : String) (x : Int) (w : World) : (FmtStop.operand name false 100 false (.iface 3 (.int .i64 x))).run Tryf.prog w = .ok (shape3, Go.Extern.Stop.digits 8 (x % 2 ^ 64).toNat) w := by kernel_rfl
-- *errors.errorString as an operand
theorem ptr50 (w : World) : (FmtStop.ptrTo "errors.errorString").run Tryf.prog w = .ok 50 w := by kernel_rfl
theorem elem50 (w : World) : (elemOf 50).run Tryf.prog w = .ok 52 w := by kernel_rfl
theorem isError50 (w : World) : (FmtDoors.textMethod 50 "Error").run Tryf.prog w = .ok true w := by kernel_rfl
theorem opPlain50_119w : ∃ pl : List UInt8, ∀ (name : String) (a : Addr) (s : ByteArray) (w : World), w.cell? a = some (.string s) →
    (FmtStop.operand name true 119 false (.iface 50 (.pointer (some a)))).run Tryf.prog w = .ok (pl, s.data.toList) w := by
  refine ⟨14 :: FmtStop.pack ((Tryf.prog.typeName? 3 50).getD "").toUTF8.data.toList, fun name a s w hc => ?_⟩
  have h1 : (typeStr 50).run Tryf.prog w = .ok ((Tryf.prog.typeName? 3 50).getD "") w := by kernel_rfl
  have d2 : Tryf.t50.desc = .pointer 52 := rfl
  have d3 : Tryf.t52.desc = .named "errors.errorString" 51 := rfl
  simp [FmtStop.operand, h1, d2, d3, run_load, hc]
-- *fmt.wrapError
theorem ptr49 (w : World) : (FmtStop.ptrTo "fmt.wrapError").run Tryf.prog w = .ok 49 w := by kernel_rfl
theorem elem49 (w : World) : (elemOf 49).run Tryf.prog w = .ok 72 w := by kernel_rfl
theorem isError49 (w : World) : (FmtDoors.textMethod 49 "Error").run Tryf.prog w = .ok true w := by kernel_rfl

def shape29 : List UInt8 := [9, 6, 0, 0, 0, 0, 0, 0, 0, 117, 105, 110, 116, 54, 52]
theorem op29_100 (name : String) (x : Int) (w : World) : (FmtStop.operand name false 100 false (.iface 29 (.int .u64 x))).run Tryf.prog w = .ok (shape29, Go.Extern.Stop.digits 8 (x % 2 ^ 64).toNat) w := by kernel_rfl

section
attribute [local go_sem] call18 call13 fguard fmt0 fmt0r fmt1 fmt1r fmt2 fmt2r fmt3 fmt3r op9_115 op9_115w op3_100 ptr50 elem50 isError50 ptr49 elem49 isError49 op29_100

/-- The decoder's block: its buffer, its error, its mark. -/
def DecAt (w : World) (D : Nat) (bv ev : Value) (lo : Bool) : Prop := w.heap[D]? = some (.cells #[bv, ev, .bool lo] 36 (0, 0))

theorem DecAt.cell0 {w : World} {D : Nat} {bv ev : Value} {lo : Bool} (h : DecAt w D bv ev lo) : w.cell? ⟨D, 0, none⟩ = some bv := by rw [cell_of_row _ _ _ _ _ _ h]; rfl
theorem DecAt.cell1 {w : World} {D : Nat} {bv ev : Value} {lo : Bool} (h : DecAt w D bv ev lo) : w.cell? ⟨D, 1, none⟩ = some ev := by rw [cell_of_row _ _ _ _ _ _ h]; rfl
theorem DecAt.cell2 {w : World} {D : Nat} {bv ev : Value} {lo : Bool} (h : DecAt w D bv ev lo) : w.cell? ⟨D, 2, none⟩ = some (.bool lo) := by rw [cell_of_row _ _ _ _ _ _ h]; rfl
theorem DecAt.free {w : World} {D : Nat} {bv ev : Value} {lo : Bool} (h : DecAt w D bv ev lo) (j : Nat) : w.frozen? ⟨D, j, none⟩ = false := frozen_of_row _ _ _ _ _ h
theorem DecAt.lt {w : World} {D : Nat} {bv ev : Value} {lo : Bool} (h : DecAt w D bv ev lo) : D < w.heap.size := (Array.getElem?_eq_some_iff.1 h).1
theorem DecAt.set0 {w : World} {D : Nat} {bv ev : Value} {lo : Bool} (h : DecAt w D bv ev lo) (v : Value) : DecAt (w.setCell ⟨D, 0, none⟩ v) D v ev lo := heap_setCell_same _ _ _ _ _ _ h
theorem DecAt.set1 {w : World} {D : Nat} {bv ev : Value} {lo : Bool} (h : DecAt w D bv ev lo) (v : Value) : DecAt (w.setCell ⟨D, 1, none⟩ v) D bv v lo := heap_setCell_same _ _ _ _ _ _ h
theorem DecAt.set2 {w : World} {D : Nat} {bv ev : Value} {lo : Bool} (h : DecAt w D bv ev lo) (b : Bool) : DecAt (w.setCell ⟨D, 2, none⟩ (.bool b)) D bv ev b := heap_setCell_same _ _ _ _ _ _ h
theorem DecAt.alloc {w : World} {D : Nat} {bv ev : Value} {lo : Bool} (h : DecAt w D bv ev lo) (o : Obj) : DecAt (w.alloc o) D bv ev lo := (Below.heap_alloc _ _ _ h.lt).trans h
theorem DecAt.drew {w : World} {D : Nat} {bv ev : Value} {lo : Bool} (h : DecAt w D bv ev lo) : DecAt w.drew D bv ev lo := h
theorem DecAt.later {w w' : World} {D : Nat} {bv ev : Value} {lo : Bool} (h : DecAt w D bv ev lo) {B : Nat} (hb : Below B w w') (hB : D < B) : DecAt w' D bv ev lo := (hb.block _ hB).trans h

theorem below_fail {D : Nat} {w : World} (hD : D < w.heap.size) (v1 v2 : Value) (o1 o2 : Obj) : Below D w ((((w.setCell ⟨D, 1, none⟩ v1).setCell ⟨D, 0, none⟩ v2).alloc o1).alloc o2).drew := by
  have b2 : Below D w ((w.setCell ⟨D, 1, none⟩ v1).setCell ⟨D, 0, none⟩ v2) := ((Below.refl D w).setCell (p := ⟨D, 1, none⟩) (Nat.le_refl D) v1).setCell (p := ⟨D, 0, none⟩) (Nat.le_refl D) v2
  have s2 := b2.size
  have b3 := b2.alloc (by omega) o1
  have s3 := b3.size
  exact (b3.alloc (by omega) o2).drew

set_option maxHeartbeats 800000 in
theorem fail_first (F : Interp) (D : Nat) (bv : Value) (lo : Bool) (what : ByteArray) (a : Addr) (s : ByteArray) (w : World) (hF : F.answers w.tape)
    (hd : DecAt w D bv .nilIface lo) (hg : w.cell? ⟨0, 0, none⟩ = some (.iface 50 (.pointer (some a)))) (hs : w.cell? a = some (.string s)) :
    Calls Tryf.prog 12 #[.pointer (some ⟨D, 0, none⟩), .string what] w fun e w' => e = .returned (.tuple #[]) ∧ ∃ ev, DecAt w' D (.slice none 0 0) ev lo ∧ Below D w w' := by
  have hF' := answers_open hF
  have halt : a.block < w.heap.size := World.block_lt_of_cell? w _ hs
  obtain ⟨pl, hpl⟩ := opPlain50_119w
  have hop := fun (o : Obj) => hpl "fmt.errorf" a s (w.alloc o) ((World.cell?_alloc_lt _ _ _ halt).trans hs)
  clear hpl
  have h0 := hd.cell0
  have h1 := hd.cell1
  have hf := hd.free
  have hD := hd.lt
  go_enter Tryf.func12, Tryf.ntmps12
  go_wp2
  go_end0
  exact ⟨rfl, _, ((((hd.set1 _).set0 _).alloc _).alloc _).drew, below_fail hD _ _ _ _⟩
end
end Go.Proofs.Qxb6613165aFmt
