/-
  GROUND FOR THE TWO STREAM LAWS: what a call leaves of the heap ('Kept'); copy with the world told block by block; closed facts on fmt's stopped front at this dump (typed by hand, after the guide's GuardFmt.lean).
-/
import Derived.Test.Qxb6613781aFmtRows
import Derived.Stop.CallBack
import Derived.Stop.IfaceNil
import Derived.Stop.LaidErr
import Derived.WalkKit
import Derived.ProofKit
import Derived.OpenShut
import Derived.Below
import Derived.Outline
import Derived.WalkSpells
import Derived.WalkLawsBesides
import Derived.Laws.CopyOwn
import Derived.LaidEql
import Derived.Deep.QuietTactic
import Derived.BigQuiet
import Derived.Deep.RegionHeld3
import Derived.Deep.CutRange
import Derived.Lib.VarintMem
namespace Go.Proofs.Qxb6613781aFmt
open Go.Extern.Stop Go.Stop Go.Extern
open Go.ChangeShapes Go.WideShapes Go.ChangeAt Go.RowKit

theorem hide {p : Prop} (h : p) : Hid p := h

/-- What a call leaves: every block that was there is as it was, but for those of the list S. -/
structure Kept (S : List Nat) (w w' : World) : Prop where
  os : w'.os = w.os
  tape : w'.tape = w.tape
  output : w'.output = w.output
  size : w.heap.size ≤ w'.heap.size
  block : ∀ k, k < w.heap.size → k ∉ S → w'.heap[k]? = w.heap[k]?

theorem Kept.refl (S : List Nat) (w : World) : Kept S w w := ⟨rfl, rfl, rfl, Nat.le_refl _, fun _ _ _ => rfl⟩
theorem Kept.trans {S : List Nat} {a b c : World} (h : Kept S a b) (k : Kept S b c) : Kept S a c :=
  ⟨k.os.trans h.os, k.tape.trans h.tape, k.output.trans h.output, Nat.le_trans h.size k.size, fun i hi hS => (k.block i (Nat.lt_of_lt_of_le hi h.size) hS).trans (h.block i hi hS)⟩
theorem Kept.mono {S T : List Nat} {w w' : World} (h : Kept S w w') (hT : ∀ k ∈ S, k ∈ T) : Kept T w w' := ⟨h.os, h.tape, h.output, h.size, fun k hk hn => h.block k hk fun hs => hn (hT k hs)⟩
theorem Kept.of_below {S : List Nat} {w w' : World} (h : Below w.heap.size w w') : Kept S w w' := ⟨h.os, h.tape, h.output, h.size, fun k hk _ => h.block k hk⟩
theorem Kept.below {S : List Nat} {B : Nat} {w w' : World} (h : Kept S w w') (hB : B ≤ w.heap.size) (hS : ∀ k ∈ S, B ≤ k) : Below B w w' :=
  ⟨h.os, h.tape, h.output, h.size, fun k hk => h.block k (by omega) fun hs => by have := hS k hs; omega⟩
theorem Kept.cell {S : List Nat} {w w' : World} (h : Kept S w w') {p : Addr} (hp : p.block < w.heap.size) (hn : p.block ∉ S) : w'.cell? p = w.cell? p := World.cell?_of_block (h.block p.block hp hn)
theorem Kept.setCell {S : List Nat} {a w : World} (h : Kept S a w) {p : Addr} (hp : p.block ∈ S) (v : Value) : Kept S a (w.setCell p v) :=
  h.trans ⟨rfl, rfl, rfl, by simp [World.setCell], fun k _ hn => Below.heap_setCell _ _ _ _ fun e => hn (e ▸ hp)⟩
theorem Kept.setRow {S : List Nat} {a w : World} (h : Kept S a w) {g : Nat} (hg : g ∈ S) (cs : Array Value) : Kept S a (w.setRow g cs) :=
  h.trans ⟨rfl, rfl, rfl, by simp [World.setRow], fun k _ hn => setRow_other w g k cs fun e => hn (e ▸ hg)⟩
theorem Kept.alloc {S : List Nat} {a w : World} (h : Kept S a w) (o : Obj) : Kept S a (w.alloc o) :=
  h.trans ⟨rfl, rfl, rfl, by simp, fun k hk _ => Below.heap_alloc _ _ _ hk⟩
theorem Kept.drew {S : List Nat} {a w : World} (h : Kept S a w) : Kept S a w.drew := ⟨h.os, h.tape, h.output, h.size, h.block⟩
theorem Kept.drewN {S : List Nat} {a w : World} (h : Kept S a w) (n : Nat) : Kept S a (w.drewN n) := h.trans ⟨rfl, rfl, rfl, Nat.le_refl _, fun _ _ _ => rfl⟩

/-- A row of bytes. -/
def Row (w : World) (g : Nat) (l : List UInt8) : Prop := w.heap[g]? = some (.cells (Lib.byteCells l).toArray 5 (0, 0))
theorem Row.lt {w : World} {g : Nat} {l : List UInt8} (h : Row w g l) : g < w.heap.size := (Array.getElem?_eq_some_iff.1 h).1
theorem Row.later {S : List Nat} {w w' : World} {g : Nat} {l : List UInt8} (h : Row w g l) (k : Kept S w w') (hn : g ∉ S) : Row w' g l := (k.block g h.lt hn).trans h
theorem Row.cell {w : World} {g : Nat} {l : List UInt8} (h : Row w g l) (j : Nat) (hj : j < l.length) : w.cell? ⟨g, j, none⟩ = some (.int .u8 (l.getD j 0).toNat) := by
  rw [cell_of_row _ _ _ _ _ _ h, List.getElem?_toArray]
  simp [Lib.byteCells, List.getD, List.getElem?_eq_getElem hj]

theorem bytes_splice (l : List UInt8) (o : Nat) (x : List UInt8) : Lib.byteCells (splice l o x) = splice (Lib.byteCells l) o (Lib.byteCells x) := by
  simp [splice, Lib.byteCells]

/-- What a law on copy asks of its source where a byte goes over at all. -/
def SrcPos (sp : Option Addr) (x : List UInt8) (w : World) : Prop := 0 < x.length → ∃ ad, sp = some ad ∧ ∀ j v, (Lib.byteCells x)[j]? = some v → w.cell? (ad.add j) = some v
def DstPos (dp : Option Addr) (g o : Nat) (x : List UInt8) : Prop := 0 < x.length → dp = some ⟨g, o, none⟩

theorem bytes_one (l : List UInt8) : ∀ v ∈ Lib.byteCells l, v.oneCell' = true := by
  intro v hv
  simp only [Lib.byteCells, List.mem_map] at hv
  obtain ⟨_, _, rfl⟩ := hv
  rfl

theorem wpList_copy_kept {P : Program} {w : World} {ops : Array Oper} {rest : List Oper} {o : Oper} {a : Act} {Q : Exit → Act → World → Prop} (hgd : o.guard = none) (d s : Operand) (dT sT : TypeId)
    (ho : o.op = .call { callee := .builtin .copy, args := #[d, s], argTypes := #[dT, sT] }) (hu : P.underlying dT = some (.slice 5)) (hsz : (P.info? 5).map (·.size) = some 1)
    (dp sp : Option Addr) (dLen dCap sLen sCap : Nat) (hd : a.eval d = .slice dp dLen dCap) (hs : a.eval s = .slice sp sLen sCap)
    (g off : Nat) (l x : List UInt8) (hg : Row w g l) (hn : x.length = Nat.min sLen dLen) (hdp : DstPos dp g off x) (hsp : SrcPos sp x w) (hfit : off + x.length ≤ l.length)
    (h : ∀ w', Hid (Row w' g (splice l off x)) → Kept [g] w w' → wpList P ops Q rest (a.put o.dst (goInt x.length)) w') :
    wpList P ops Q (o :: rest) a w := by
  by_cases h0 : x.length = 0
  · obtain rfl : x = [] := List.eq_nil_of_length_eq_zero h0
    refine wpList_copy_nothing hgd d s dT sT ho 5 hu hsz dp sp dLen dCap sLen sCap hd hs (by simpa using hn.symm) ?_
    exact h w (show Row _ _ _ by simpa [splice] using hg) (Kept.refl _ _)
  · obtain ⟨ad, rfl, hsrc⟩ := hsp (by omega)
    obtain rfl := hdp (by omega)
    have hlen : (Lib.byteCells x).length = x.length := by simp [Lib.byteCells]
    have hll : (Lib.byteCells l).length = l.length := by simp [Lib.byteCells]
    refine wpList_copy_own hgd d s dT sT ho 5 hu hsz g off dLen dCap ad sLen sCap hd hs (Lib.byteCells l).toArray 5 hg (Lib.byteCells x) (by rw [hlen]; exact hn) hsrc (by simpa [hlen, hll] using hfit) (bytes_one x) ?_
    rw [hlen]
    refine h _ (show Row _ _ _ from ?_) ((Kept.refl _ _).setRow (by simp) _)
    unfold Row
    rw [bytes_splice, setRow_heap w g _ _ 5 _ hg]
    simp [splice, hlen]

theorem step_copy_kept {P : Program} {ops : Array Oper} {o : Oper} {a : Act} {w : World} {K : Act → World → Prop} {Q : Exit → Act → World → Prop} {E : Prop} (hgd : o.guard = none) (d s : Operand) (dT sT : TypeId)
    (ho : o.op = .call { callee := .builtin .copy, args := #[d, s], argTypes := #[dT, sT] }) (hu : P.underlying dT = some (.slice 5)) (hsz : (P.info? 5).map (·.size) = some 1)
    (dp sp : Option Addr) (dLen dCap sLen sCap : Nat) (hd : a.eval d = .slice dp dLen dCap) (hs : a.eval s = .slice sp sLen sCap)
    (g off : Nat) (l x : List UInt8) (hg : Row w g l) (hn : x.length = Nat.min sLen dLen) (hdp : DstPos dp g off x) (hsp : SrcPos sp x w) (hfit : off + x.length ≤ l.length)
    (h : ∀ w', Hid (Row w' g (splice l off x)) → Kept [g] w w' → K (a.put o.dst (goInt x.length)) w') :
    if Region.wanted o (yielded ops a.tmps) = true then Oper.wp P o a w K Q else E := by
  have hw : Region.wanted o (yielded ops a.tmps) = true := by simp [Region.wanted, hgd]
  rw [if_pos hw]
  by_cases h0 : x.length = 0
  · obtain rfl : x = [] := List.eq_nil_of_length_eq_zero h0
    have hrun := run_copy_none (P := P) w dT sT o.type 5 dp sp dLen dCap sLen sCap hu hsz (by simpa using hn.symm)
    unfold Oper.wp
    simp [execOp, ho, resolve, invoke, builtin, hd, hs, hrun, Result.andThen]
    exact h w (show Row _ _ _ by simpa [splice] using hg) (Kept.refl _ _)
  · obtain ⟨ad, rfl, hsrc⟩ := hsp (by omega)
    obtain rfl := hdp (by omega)
    have hlen : (Lib.byteCells x).length = x.length := by simp [Lib.byteCells]
    have hll : (Lib.byteCells l).length = l.length := by simp [Lib.byteCells]
    have hrun := run_copy_row (P := P) w dT sT o.type 5 g off dLen dCap ad sLen sCap (Lib.byteCells l).toArray 5 (Lib.byteCells x) hu hsz hg (by rw [hlen]; exact hn) hsrc (by simpa [hlen, hll] using hfit) (bytes_one x)
    unfold Oper.wp
    simp [execOp, ho, resolve, invoke, builtin, hd, hs, hrun, Result.andThen]
    rw [hlen]
    refine h _ (show Row _ _ _ from ?_) ((Kept.refl _ _).setRow (by simp) _)
    unfold Row
    rw [bytes_splice, setRow_heap w g _ _ 5 _ hg]
    simp [splice, hlen]

theorem at_copy {P : Program} {ops : Array Oper} {Q : Exit → Act → World → Prop} {rest : List Oper} {dst : Option Tmp} {args : Array Operand} {tys : Array TypeId} {ty : TypeId} {pos : String} {after : Array Edge} {gd : Option (Nat × Bool)} {a : Act} {w : World}
    (h : wpList P ops Q ({ dst := dst, op := .call { callee := .builtin .copy, args := args, argTypes := tys }, type := ty, pos := pos, after := after, guard := gd } :: rest) a w) :
    wpList P ops Q ({ dst := dst, op := .call { callee := .builtin .copy, args := args, argTypes := tys }, type := ty, pos := pos, after := after, guard := gd } :: rest) a w := h

theorem row_of_made {w1 : World} {base g n : Nat} (hown : w1.ownsRow base 5 1 (.slice (some ⟨g, 0, none⟩) n n) n (madeCells #[.int .u8 0] n).toList) : Row w1 g (List.replicate n 0) := by
  rcases hown.2 with ⟨h, _⟩ | ⟨g', cap, cur, h, _, hg, _, _, hs, ht⟩
  · simp at h
  · simp only [Value.slice.injEq, Option.some.injEq, Addr.mk.injEq, and_true, true_and] at h
    obtain ⟨rfl, rfl⟩ := h
    have : cur.toList = List.replicate n (Value.int .u8 0) := by
      rw [List.take_of_length_le (by simp [hs])] at ht
      rw [ht, toList_madeCells_one]
    unfold Row
    rw [hg]
    simp [Lib.byteCells, ← this]

theorem Tryf.info5 : (Tryf.prog.info? 5).map (fun i => (i.zero, i.size, i.bytes)) = some (some (.int .u8 0), 1, 1) := by kernel_rfl
theorem Tryf.size5 : (Tryf.prog.info? 5).map (·.size) = some 1 := by kernel_rfl

-- fmt.errorf: function 17: a plain stop
theorem call17 (args : Array Value) (w : World) : (callFunc 17 args).run Tryf.prog w = ((FmtStop.errorf #[9, 48] #[26] args).run Tryf.prog w).andThen fun v w' => .ok (.value v) w' :=
  run_callFunc_extern Tryf.func17 (by kernel_rfl) (by kernel_rfl) (by kernel_rfl) (by kernel_rfl) args w
theorem fguard (name : String) (w : World) : (FmtStop.guard name).run Tryf.prog w = .ok () w := by kernel_rfl
-- the format of stream: 4 operands, 0
theorem fmt0 : FmtStop.printed? ⟨#[37, 115, 32, 101, 110, 100, 115, 32, 97, 116, 32, 98, 121, 116, 101, 32, 37, 100, 44, 32, 98, 101, 102, 111, 114, 101, 32, 37, 115, 32, 97, 116, 32, 98, 121, 116, 101, 32, 37, 100]⟩ 4 = some [(0, 115, false), (1, 100, false), (2, 115, false), (3, 100, false)] := by kernel_rfl
theorem fmt0r (w : World) : (FmtDoors.printed ⟨#[37, 115, 32, 101, 110, 100, 115, 32, 97, 116, 32, 98, 121, 116, 101, 32, 37, 100, 44, 32, 98, 101, 102, 111, 114, 101, 32, 37, 115, 32, 97, 116, 32, 98, 121, 116, 101, 32, 37, 100]⟩ 4).run Tryf.prog w = .ok [(0, 115, false), (1, 100, false), (2, 115, false), (3, 100, false)] w := by kernel_rfl
theorem fmt1 : FmtStop.printed? ⟨#[37, 115, 32, 101, 110, 100, 115, 32, 97, 116, 32, 98, 121, 116, 101, 32, 37, 100, 44, 32, 98, 101, 102, 111, 114, 101, 32, 37, 115, 32, 97, 116, 32, 98, 121, 116, 101, 32, 37, 100]⟩ 0 = some [] := by kernel_rfl
theorem fmt1r (w : World) : (FmtDoors.printed ⟨#[37, 115, 32, 101, 110, 100, 115, 32, 97, 116, 32, 98, 121, 116, 101, 32, 37, 100, 44, 32, 98, 101, 102, 111, 114, 101, 32, 37, 115, 32, 97, 116, 32, 98, 121, 116, 101, 32, 37, 100]⟩ 0).run Tryf.prog w = .ok [] w := by kernel_rfl
-- the format of endsInside: 4 operands, 0
theorem fmt2 : FmtStop.printed? ⟨#[37, 115, 32, 101, 110, 100, 115, 32, 97, 116, 32, 98, 121, 116, 101, 32, 37, 100, 44, 32, 105, 110, 115, 105, 100, 101, 32, 37, 115, 32, 97, 116, 32, 98, 121, 116, 101, 32, 37, 100]⟩ 4 = some [(0, 115, false), (1, 100, false), (2, 115, false), (3, 100, false)] := by kernel_rfl
theorem fmt2r (w : World) : (FmtDoors.printed ⟨#[37, 115, 32, 101, 110, 100, 115, 32, 97, 116, 32, 98, 121, 116, 101, 32, 37, 100, 44, 32, 105, 110, 115, 105, 100, 101, 32, 37, 115, 32, 97, 116, 32, 98, 121, 116, 101, 32, 37, 100]⟩ 4).run Tryf.prog w = .ok [(0, 115, false), (1, 100, false), (2, 115, false), (3, 100, false)] w := by kernel_rfl
theorem fmt3 : FmtStop.printed? ⟨#[37, 115, 32, 101, 110, 100, 115, 32, 97, 116, 32, 98, 121, 116, 101, 32, 37, 100, 44, 32, 105, 110, 115, 105, 100, 101, 32, 37, 115, 32, 97, 116, 32, 98, 121, 116, 101, 32, 37, 100]⟩ 0 = some [] := by kernel_rfl
theorem fmt3r (w : World) : (FmtDoors.printed ⟨#[37, 115, 32, 101, 110, 100, 115, 32, 97, 116, 32, 98, 121, 116, 101, 32, 37, 100, 44, 32, 105, 110, 115, 105, 100, 101, 32, 37, 115, 32, 97, 116, 32, 98, 121, 116, 101, 32, 37, 100]⟩ 0).run Tryf.prog w = .ok [] w := by kernel_rfl
-- operands: string, int64
def shape9 : List UInt8 := [12, 6, 0, 0, 0, 0, 0, 0, 0, 115, 116, 114, 105, 110, 103]
theorem op9_115w (name : String) (x : ByteArray) (w : World) : (FmtStop.operand name true 115 false (.iface 9 (.string x))).run Tryf.prog w = .ok (shape9, FmtStop.pack x.data.toList) w := by kernel_rfl
def shape2 : List UInt8 := [5, 5, 0, 0, 0, 0, 0, 0, 0, 105, 110, 116, 54, 52]
theorem op2_100w (name : String) (x : Int) (w : World) : (FmtStop.operand name true 100 false (.iface 2 (.int .i64 x))).run Tryf.prog w = .ok (shape2, Go.Extern.Stop.digits 8 (x % 2 ^ 64).toNat) w := by kernel_rfl
-- *errors.errorString, which fmt.errorf makes
theorem ptr52 (w : World) : (FmtStop.ptrTo "errors.errorString").run Tryf.prog w = .ok 52 w := by kernel_rfl
theorem elem52 (w : World) : (elemOf 52).run Tryf.prog w = .ok 54 w := by kernel_rfl
theorem isError52 (w : World) : (FmtDoors.textMethod 52 "Error").run Tryf.prog w = .ok true w := by kernel_rfl

/-- The file's block: its reader, where it stands, its reader at offsets, its room. -/
def FlAt (w : World) (B : Nat) (rv : Value) (pos : Int) (av pv : Value) : Prop := w.heap[B]? = some (.cells #[rv, .int .i64 pos, av, .int .i64 (-1), .bool false, pv] 37 (0, 0))
/-- The reader's block: its bytes, where it stands, its mark. -/
def RdAt (w : World) (R : Nat) (sv : Value) (i pr : Int) : Prop := w.heap[R]? = some (.cells #[sv, .int .i64 i, .int .i64 pr] 40 (0, 0))

theorem below_two {w : World} (o1 o2 : Obj) : Below w.heap.size w ((w.alloc o1).alloc o2).drew :=
  (((Below.refl w.heap.size w).alloc (Nat.le_refl _) o1).alloc (by simp) o2).drew

section
attribute [local go_sem] call17 fguard fmt0 fmt0r fmt1 fmt1r fmt2 fmt2r fmt3 fmt3r op9_115w op2_100w ptr52 elem52 isError52

set_option maxHeartbeats 800000 in
theorem ends_inside (F : Interp) (B : Nat) (rv : Value) (pos : Int) (av pv : Value) (en off : Int) (what : ByteArray) (w : World) (hF : F.answers w.tape) (hf : FlAt w B rv pos av pv) :
    Calls Tryf.prog 16 #[.pointer (some ⟨B, 0, none⟩), .int .i64 en, .string what, .int .i64 off] w fun e w' => ∃ a, e = .returned (.iface 52 (.pointer (some a))) ∧ Below w.heap.size w w' := by
  have hF' := answers_open hF
  have h4 : w.cell? ⟨B, 4, none⟩ = some (.bool false) := by rw [cell_of_row _ _ _ _ _ _ hf]; rfl
  go_enter Tryf.func16, Tryf.ntmps16
  go_wp2
  go_ret
  exact ⟨_, rfl, below_two _ _⟩
end

theorem FlAt.lt {w : World} {B : Nat} {rv : Value} {pos : Int} {av pv : Value} (h : FlAt w B rv pos av pv) : B < w.heap.size := (Array.getElem?_eq_some_iff.1 h).1
theorem FlAt.later {S : List Nat} {w w' : World} {B : Nat} {rv : Value} {pos : Int} {av pv : Value} (h : FlAt w B rv pos av pv) (k : Kept S w w') (hn : B ∉ S) : FlAt w' B rv pos av pv := (k.block B h.lt hn).trans h
theorem FlAt.free {w : World} {B : Nat} {rv : Value} {pos : Int} {av pv : Value} (h : FlAt w B rv pos av pv) (j : Nat) : w.frozen? ⟨B, j, none⟩ = false := frozen_of_row _ _ _ _ _ h
theorem FlAt.cell0 {w : World} {B : Nat} {rv : Value} {pos : Int} {av pv : Value} (h : FlAt w B rv pos av pv) : w.cell? ⟨B, 0, none⟩ = some rv := by rw [cell_of_row _ _ _ _ _ _ h]; rfl
theorem FlAt.cell1 {w : World} {B : Nat} {rv : Value} {pos : Int} {av pv : Value} (h : FlAt w B rv pos av pv) : w.cell? ⟨B, 1, none⟩ = some (.int .i64 pos) := by rw [cell_of_row _ _ _ _ _ _ h]; rfl
theorem FlAt.cell2 {w : World} {B : Nat} {rv : Value} {pos : Int} {av pv : Value} (h : FlAt w B rv pos av pv) : w.cell? ⟨B, 2, none⟩ = some av := by rw [cell_of_row _ _ _ _ _ _ h]; rfl
theorem FlAt.cell4 {w : World} {B : Nat} {rv : Value} {pos : Int} {av pv : Value} (h : FlAt w B rv pos av pv) : w.cell? ⟨B, 4, none⟩ = some (.bool false) := by rw [cell_of_row _ _ _ _ _ _ h]; rfl
theorem FlAt.cell5 {w : World} {B : Nat} {rv : Value} {pos : Int} {av pv : Value} (h : FlAt w B rv pos av pv) : w.cell? ⟨B, 5, none⟩ = some pv := by rw [cell_of_row _ _ _ _ _ _ h]; rfl
theorem FlAt.set1 {w : World} {B : Nat} {rv : Value} {pos : Int} {av pv : Value} (h : FlAt w B rv pos av pv) (n : Int) : FlAt (w.setCell ⟨B, 1, none⟩ (.int .i64 n)) B rv n av pv := heap_setCell_same _ _ _ _ _ _ h
theorem FlAt.set5 {w : World} {B : Nat} {rv : Value} {pos : Int} {av pv : Value} (h : FlAt w B rv pos av pv) (v : Value) : FlAt (w.setCell ⟨B, 5, none⟩ v) B rv pos av v := heap_setCell_same _ _ _ _ _ _ h
theorem RdAt.lt {w : World} {R : Nat} {sv : Value} {i pr : Int} (h : RdAt w R sv i pr) : R < w.heap.size := (Array.getElem?_eq_some_iff.1 h).1
theorem RdAt.later {S : List Nat} {w w' : World} {R : Nat} {sv : Value} {i pr : Int} (h : RdAt w R sv i pr) (k : Kept S w w') (hn : R ∉ S) : RdAt w' R sv i pr := (k.block R h.lt hn).trans h
theorem RdAt.free {w : World} {R : Nat} {sv : Value} {i pr : Int} (h : RdAt w R sv i pr) (j : Nat) : w.frozen? ⟨R, j, none⟩ = false := frozen_of_row _ _ _ _ _ h
theorem RdAt.cell0 {w : World} {R : Nat} {sv : Value} {i pr : Int} (h : RdAt w R sv i pr) : w.cell? ⟨R, 0, none⟩ = some sv := by rw [cell_of_row _ _ _ _ _ _ h]; rfl
theorem RdAt.cell1 {w : World} {R : Nat} {sv : Value} {i pr : Int} (h : RdAt w R sv i pr) : w.cell? ⟨R, 1, none⟩ = some (.int .i64 i) := by rw [cell_of_row _ _ _ _ _ _ h]; rfl
theorem RdAt.cell2 {w : World} {R : Nat} {sv : Value} {i pr : Int} (h : RdAt w R sv i pr) : w.cell? ⟨R, 2, none⟩ = some (.int .i64 pr) := by rw [cell_of_row _ _ _ _ _ _ h]; rfl
theorem RdAt.set1 {w : World} {R : Nat} {sv : Value} {i pr : Int} (h : RdAt w R sv i pr) (n : Int) : RdAt (w.setCell ⟨R, 1, none⟩ (.int .i64 n)) R sv n pr := heap_setCell_same _ _ _ _ _ _ h
theorem RdAt.set2 {w : World} {R : Nat} {sv : Value} {i pr : Int} (h : RdAt w R sv i pr) (n : Int) : RdAt (w.setCell ⟨R, 2, none⟩ (.int .i64 n)) R sv i n := heap_setCell_same _ _ _ _ _ _ h

/-- A slice of bytes of the call's own, or one without elements: where it has an element it lies at a row's head, and the row holds just its bytes. -/
def DataAt (w : World) (a : Option Addr) (n : Nat) (l : List UInt8) : Prop := 0 < n → ∃ g, a = some ⟨g, 0, none⟩ ∧ Row w g l
theorem DataAt.later {S : List Nat} {w w' : World} {a : Option Addr} {n : Nat} {l : List UInt8} (h : DataAt w a n l) (k : Kept S w w') (hn : ∀ g, a = some ⟨g, 0, none⟩ → g ∉ S) : DataAt w' a n l := by
  intro h0
  obtain ⟨g, rfl, hr⟩ := h h0
  exact ⟨g, rfl, hr.later k (hn g rfl)⟩

/-- A slice of bytes that came in. -/
def ArgAt (w : World) (a : Option Addr) (n : Nat) (l : List UInt8) : Prop := (a = none ∧ n = 0) ∨ ∃ ad, a = some ad ∧ ∀ j, j < n → w.cell? (ad.add j) = some (.int .u8 (l.getD j 0).toNat)
theorem ArgAt.later {B : Nat} {w w' : World} {a : Option Addr} {n : Nat} {l : List UInt8} (h : ArgAt w a n l) (k : Below B w w') (hB : w.heap.size ≤ B) : ArgAt w' a n l := by
  rcases h with h | ⟨ad, rfl, hc⟩
  · exact .inl h
  · exact .inr ⟨ad, rfl, fun j hj => (k.cell (by have := World.block_lt_of_cell? w _ (hc j hj); omega)).trans (hc j hj)⟩
theorem ArgAt.src {w : World} {a : Option Addr} {n : Nat} {l : List UInt8} (h : ArgAt w a n l) (hl : l.length = n) : SrcPos a l w := by
  intro h0
  rcases h with ⟨_, h⟩ | ⟨ad, rfl, hc⟩
  · omega
  · refine ⟨ad, rfl, fun j v hv => ?_⟩
    have hj : j < l.length := by have := (List.getElem?_eq_some_iff.1 hv).1; simpa [Lib.byteCells] using this
    rw [hc j (by omega), ← hv]
    simp [Lib.byteCells, List.getD, List.getElem?_eq_getElem hj]

theorem splice_all (l x : List UInt8) (h : l.length = x.length) : splice l 0 x = x := by
  simp [splice, ← h]

theorem clone_nil (c : Nat) (w : World) : Calls Tryf.prog 6 #[.slice none 0 c] w fun e w' => e = .returned (.slice none 0 0) ∧ w = w' := by
  have hq := fun (w : World) (a : Option Addr) (n c n' c' : Nat) => Lib.run_eql_slice_nil (P := Tryf.prog) w 22 5 a n c n' c' Tryf.underlying22
  go_enter Tryf.func6, Tryf.ntmps6
  go_wp2
  go_ret
  exact ⟨rfl, rfl⟩

theorem clone_some (ad : Addr) (n c : Nat) (l : List UInt8) (w : World) (hn : n ≤ 1048576) (hl : l.length = n) (h : ArgAt w (some ad) n l) :
    Calls Tryf.prog 6 #[.slice (some ad) n c] w fun e w' => e = .returned (.slice (some ⟨w.heap.size, 0, none⟩) n n) ∧ Row w' w.heap.size l ∧ Below w.heap.size w w' := by
  have hq := fun (w : World) (a : Option Addr) (n c n' c' : Nat) => Lib.run_eql_slice_nil (P := Tryf.prog) w 22 5 a n c n' c' Tryf.underlying22
  obtain ⟨i0, hi, hz0, hz1, hz2⟩ := info_parts Tryf.info5
  go_enter Tryf.func6, Tryf.ntmps6
  go_wp2_with (at_make; refine wpList_make_full _ rfl (.tmp 7) (.tmp 7) 22 rfl w.heap.size 5 i0 (.int .u8 0) 1 Tryf.underlying22 hi hz0 hz1 _ _ _ _ n rfl rfl rfl rfl (by rw [hz2]; omega) (by unfold maxLen; omega) (by omega) ?_)
  intro w1 hown hgrow
  have HR := hide (row_of_made hown)
  have hb1 : Below w.heap.size w w1 := (Below.refl _ _).grown hgrow (Nat.le_refl _) (by simp)
  have hs : SrcPos (some ad) l w1 := (h.later hb1 (Nat.le_refl _)).src hl
  have hd : DstPos (some ⟨w.heap.size, 0, none⟩) w.heap.size 0 l := fun _ => rfl
  have hn1 : l.length = Nat.min n n := by rw [hl]; simp
  have hfit : 0 + l.length ≤ (List.replicate n (0 : UInt8)).length := by simp [hl]
  clear hown hgrow hi hz0 hz1 hz2 hq
  go_wp2_with ((with_reducible refine at_copy ?_); refine wpList_copy_kept rfl (.tmp 9) (.tmp 10) 22 22 rfl Tryf.underlying22 Tryf.size5 _ _ _ _ _ _ rfl rfl w.heap.size 0 (List.replicate n 0) l HR.out hn1 hd hs hfit ?_)
  intro w2 HR2 hk2
  have e2 : splice (List.replicate n (0 : UInt8)) 0 l = l := splice_all _ _ (by simp [hl])
  rw [e2] at HR2
  have hb2 := hide (hb1.trans (hk2.below hb1.size (by simp)))
  clear HR hb1 hs hd hn1 hfit hk2 e2
  go_wp2_with fail
  go_ret
  exact ⟨rfl, HR2.out, hb2.out⟩

theorem clone_at (a : Option Addr) (n c : Nat) (l : List UInt8) (w : World) (hn : n ≤ 1048576) (hl : l.length = n) (h : ArgAt w a n l) :
    Calls Tryf.prog 6 #[.slice a n c] w fun e w' => ∃ a' c', e = .returned (.slice a' n c') ∧ n ≤ c' ∧ (a' = none ∨ ∃ g, a' = some ⟨g, 0, none⟩) ∧ (∀ g, a' = some ⟨g, 0, none⟩ → w.heap.size ≤ g ∧ g < w'.heap.size) ∧ DataAt w' a' n l ∧ Below w.heap.size w w' := by
  rcases h with ⟨rfl, rfl⟩ | ⟨ad, rfl, hc⟩
  · refine (clone_nil c w).mono fun e w' ⟨he, hw⟩ => ?_
    subst hw
    exact ⟨none, 0, he, Nat.le_refl _, .inl rfl, (fun _ h => nomatch h), (fun h => absurd h (by omega)), Below.refl _ _⟩
  · refine (clone_some ad n c l w hn hl (.inr ⟨ad, rfl, hc⟩)).mono fun e w' ⟨he, hr, hb⟩ => ?_
    exact ⟨_, n, he, Nat.le_refl _, .inr ⟨_, rfl⟩, (fun g h => by cases h; exact ⟨Nat.le_refl _, hr.lt⟩), (fun _ => ⟨_, rfl, hr⟩), hb⟩
end Go.Proofs.Qxb6613781aFmt
