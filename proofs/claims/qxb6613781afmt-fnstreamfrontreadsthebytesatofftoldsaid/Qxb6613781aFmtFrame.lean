/-
  THE FRAME THAT BOTH CARDS OF THIS SEAT SHARE: closed facts, one start that fits, what 'laid' gives at io.EOF and io.ErrUnexpectedEOF, an argument that is a slice of bytes.
-/
import Derived.Test.Qxb6613781aFmtCards
import Derived.Test.Qxb6613781aFmtTie
import Derived.Test.Qxb6613781aFmtBase
import Derived.ChangeSame
import Derived.ChangeVars
import Derived.ChangeMaps5
import Derived.JoinedOf
import Derived.RowKit
import Derived.RowKitTokens
import Derived.Stop.JoinedAt
import Derived.Stop.JoinedTold
import Derived.Stop.Texts
import Derived.Stop.ErrReads
import Derived.Stop.LaidErr
import Derived.Stop.LaidTwo
import Derived.SevenTiedAt
import Derived.WalkSmall
namespace Go.Proofs.Qxb6613781aFmt
open Go.ChangeShapes Go.WideShapes Go.ChangeAt Go.RowKit Go.Kit
open Go.ChangeMaps (open_string shut_string)
open Go.Extern.Stop Go.Stop Go.Extern

theorem own : ownKnob Tryf.prog.godebug = none := by kernel_rfl
theorem laidOut : laidOutB Tryf.pinned.checked.prog = true := by kernel_rfl
theorem stops : Tryf.pinned.checked.prog.stops = ["fmt.errorf"] := by kernel_rfl
theorem stopKnobs : Tryf.pinned.checked.prog.stopKnobs = [] := by kernel_rfl
theorem quiet (os : Os) : Stop.quiet Tryf.pinned.checked.prog os := by
  intro k hk
  rw [stopKnobs] at hk
  cases hk

theorem gE : Tryf.prog.globalNamed "io.EOF" = some 0 := by kernel_rfl
theorem gU : Tryf.prog.globalNamed "io.ErrUnexpectedEOF" = some 1 := by kernel_rfl
theorem gEType : (Tryf.prog.globals[0]?).map (·.type) = some 26 := by kernel_rfl
theorem gUType : (Tryf.prog.globals[1]?).map (·.type) = some 26 := by kernel_rfl
theorem cells54 : Tryf.prog.cellsOf 54 = 1 := by kernel_rfl
theorem cells9 : Tryf.prog.cellsOf 9 = 1 := by kernel_rfl
theorem cells5 : Tryf.prog.cellsOf 5 = 1 := by kernel_rfl

/-- The settled world with three blocks more, each an errors.errorString; the three variables hold pointers to them. -/
def setVar (w : World) (g b : Nat) : World :=
  { w with heap := w.heap.modify g fun
      | .cells _ t frozen => .cells #[.iface 52 (.pointer (some ⟨b, 0, none⟩))] t frozen
      | o => o }
def laidWorld (P : Program) (os : Os) (low : Nat) : World :=
  setVar (setVar (setVar (World.holding P os ⟨#[.cells #[.string { data := #[69, 79, 70] }] 54, .cells #[.string { data := #[117, 110, 101, 120, 112, 101, 99, 116, 101, 100, 32, 69, 79, 70] }] 54, .cells #[.string { data := #[115, 104, 111, 114, 116, 32, 98, 117, 102, 102, 101, 114] }] 54], #[], []⟩) 0 low) 1 (low + 1)) 2 (low + 2)
theorem laid_met (os : Os) (args : Array Value) : laidMet Tryf.prog Rows.fnStreamAtReadsTheBytesAtOffRow.laid ((laidWorld Tryf.prog os 8).forCall (fun _ _ => 0) ⟨#[], args, []⟩).memory :=
  laidMet_of_run (ps := [.cell 2 0, .cell 10 0, .cell 0 0, .cell 8 0, .cell 1 0, .cell 9 0]) 8 (by kernel_rfl) (by kernel_rfl) (by kernel_rfl)

/-- What 'laid' gives: io.EOF and io.ErrUnexpectedEOF are two pointers to two errors. -/
theorem sentinels {W : World} (hL : laidMet Tryf.prog Rows.fnStreamAtReadsTheBytesAtOffRow.laid W) :
    ∃ aE aU : Addr, W.cell? ⟨0, 0, none⟩ = some (.iface 52 (.pointer (some aE))) ∧ W.cell? ⟨1, 0, none⟩ = some (.iface 52 (.pointer (some aU))) ∧ aE ≠ aU ∧ (∃ ca ta, W.heap[aE.block]? = some (.cells ca ta (0, 0))) ∧ ∃ ca ta, W.heap[aU.block]? = some (.cells ca ta (0, 0)) := by
  have hL2 := laidMet.tail hL
  obtain ⟨a0, a1, s0, s1, c0, c1, t0, t1, hv0, hv1, hc0, hs0, hz0, hc1, hs1, hz1, hne, hb0, hb1⟩ := laid_sentinels2 hL2 gE gEType gU gUType Tryf.underlying26
    (fun u h => typeName_ptr_named (nm := "errors.errorString") (by kernel_rfl) (by kernel_rfl) (by decide) u (h.trans (congrArg some (by decide)))) Tryf.underlying52 Tryf.underlying54 rfl rfl Tryf.underlying9 cells54 cells9
  exact ⟨a0, a1, by simpa using World.var?_cell gE hv0 0, by simpa using World.var?_cell gU hv1 0, hne, ⟨c0, t0, hb0⟩, ⟨c1, t1, hb1⟩⟩

/-- Numbers that fit a byte, as bytes. -/
def bytesOf (zs : List Int) : List UInt8 := zs.map fun z => z.toNat.toUInt8
theorem bytesOf_get {zs : List Int} (h : ∀ n ∈ zs, (Lit.int .u8 n).wf = true) (i : Nat) (hi : i < zs.length) : (((bytesOf zs).getD i 0).toNat : Int) = zs.getD i 0 := by
  have hb := bounds_u8 (h (zs[i]) (List.getElem_mem hi))
  simp only [bytesOf, List.getD, List.getElem?_map, List.getElem?_eq_getElem hi, Option.map_some, Option.getD_some]
  have : (zs[i].toNat.toUInt8).toNat = zs[i].toNat := by
    rw [Nat.toUInt8_eq, UInt8.toNat_ofNat']
    exact Nat.mod_eq_of_lt (by omega)
  omega

/-- A slice of bytes among the arguments, opened. -/
theorem open_bytes {H : Type} {enc : TypeId × Value → H} {W : World} {a : Option Addr} {n c : Nat} {d : DataW H} {p : List MemPlace} (h : DataW.Trod enc Tryf.prog W 0 (fun _ => true) true 22 (.slice a n c) d p) :
    n ≤ 9223372036854775807 ∧ ∃ l : List UInt8, l.length = n ∧ ArgAt W a n l := by
  obtain ⟨fuel, hf⟩ := h
  rcases open_ints Tryf.underlying22 Tryf.underlying5 cells5 hf with ⟨hcs, _⟩ | ⟨x, l, c', zs, hcs, _, hl, hm, hz, _, hcell, hwz⟩
  · simp [Value.cells] at hcs
    obtain ⟨rfl, rfl, rfl⟩ := hcs
    exact ⟨by omega, [], rfl, .inl ⟨rfl, rfl⟩⟩
  · simp [Value.cells] at hcs
    obtain ⟨rfl, rfl, rfl⟩ := hcs
    have hz' : zs.length = c := by simpa using hz
    unfold maxLen at hm
    refine ⟨by omega, (bytesOf zs).take n, by simp [bytesOf]; omega, .inr ⟨x, rfl, fun j hj => ?_⟩⟩
    have e : ((bytesOf zs).take n).getD j 0 = (bytesOf zs).getD j 0 := by simp [List.getD, hj]
    rw [e, bytesOf_get hwz j (by omega)]
    exact hcell j (by omega)
end Go.Proofs.Qxb6613781aFmt
