/-
  'Rows.FnRestAfterCountIsTheListBodyToldSaid', proved: the told and tied card. After the guide's GuardProofs.lean, GuardTold.lean, PortSeven.lean. The walks: Qxb6613165aFmtFail, Math, Model, Parts, Uv, Count, Law.
-/
import Derived.Test.Qxb6613165aFmtCards
import Derived.Test.Qxb6613165aFmtTie
import Derived.Test.Qxb6613165aFmtLaw
import Derived.ChangeSame
import Derived.ChangeVars
import Derived.ChangeMaps5
import Derived.JoinedOf
import Derived.RowKit
import Derived.RowKitTokens
import Derived.Stop.JoinedAt
import Derived.Stop.JoinedTold
import Derived.Stop.Texts
import Derived.Stop.ErrReads
import Derived.Stop.LaidErr
import Derived.SevenTiedAt
import Derived.WalkSmall
namespace Go.Proofs.Qxb6613165aFmt
open Go.ChangeShapes Go.WideShapes Go.ChangeAt Go.RowKit Go.Kit
open Go.Extern.Stop Go.Stop Go.Extern

theorem own : ownKnob Tryf.prog.godebug = none := by kernel_rfl
theorem laidOut : laidOutB Tryf.pinned.checked.prog = true := by kernel_rfl
theorem stops : Tryf.pinned.checked.prog.stops = ["fmt.Sprintf", "fmt.errorf"] := by kernel_rfl
theorem stopKnobs : Tryf.pinned.checked.prog.stopKnobs = [] := by kernel_rfl
theorem quiet (os : Os) : Stop.quiet Tryf.pinned.checked.prog os := by
  intro k hk
  rw [stopKnobs] at hk
  cases hk

-- the listed variable: number 0, of type 'error'; the type of the sentinel's pointer: 50
theorem gE (n : String) (h : Rows.fnRestAfterCountIsTheListBodySpec.vars = [n]) : Tryf.prog.globalNamed n = some 0 := by
  cases h; kernel_rfl
theorem gEType : (Tryf.prog.globals[0]?).map (·.type) = some 34 := by kernel_rfl
theorem cells52 : Tryf.prog.cellsOf 52 = 1 := by kernel_rfl
theorem cells9 : Tryf.prog.cellsOf 9 = 1 := by kernel_rfl
theorem cells5 : Tryf.prog.cellsOf 5 = 1 := by kernel_rfl

/-- The settled world with one block more, an errors.errorString; variable 0 holds a pointer to it. -/
def laidWorld (P : Program) (os : Os) (low : Nat) (s : ByteArray) : World :=
  { World.holding P os ⟨#[.cells #[.string s] 52], #[], []⟩ with heap := (World.holding P os ⟨#[.cells #[.string s] 52], #[], []⟩).heap.modify 0 fun
      | .cells _ t frozen => .cells #[.iface 50 (.pointer (some ⟨low, 0, none⟩))] t frozen
      | o => o }
def errText : ByteArray := { data := #[109, 97, 108, 102, 111, 114, 109, 101, 100, 32, 109, 101, 115, 115, 97, 103, 101] }
theorem laid_met (os : Os) (args : Array Value) : laidMet Tryf.prog Rows.fnRestAfterCountIsTheListBodyRow.laid ((laidWorld Tryf.prog os 6 errText).forCall (fun _ _ => 0) ⟨#[], args, []⟩).memory :=
  laidMet_of_run (ps := [.cell 0 0, .cell 6 0]) 8 (by kernel_rfl) (by kernel_rfl) (by kernel_rfl)

/-- Numbers that fit a byte, as bytes. -/
def bytesOf (zs : List Int) : List UInt8 := zs.map fun z => z.toNat.toUInt8
theorem bytesOf_get {zs : List Int} (h : ∀ n ∈ zs, (Lit.int .u8 n).wf = true) (i : Nat) (hi : i < zs.length) : (((bytesOf zs).getD i 0).toNat : Int) = zs.getD i 0 := by
  have hb := bounds_u8 (h (zs[i]) (List.getElem_mem hi))
  simp only [bytesOf, List.getD, List.getElem?_map, List.getElem?_eq_getElem hi, Option.map_some, Option.getD_some]
  have : (zs[i].toNat.toUInt8).toNat = zs[i].toNat := by
    rw [Nat.toUInt8_eq, UInt8.toNat_ofNat']
    exact Nat.mod_eq_of_lt (by omega)
  omega

theorem law_walk (F : Interp) (a : Option Addr) (n c : Nat) (zs : List Int) (ae : Addr) (s : ByteArray) (w : World) (hF : F.answers w.tape)
    (ha : (a = none ∧ n = 0 ∧ c = 0) ∨ ∃ x, a = some x ∧ n ≤ c ∧ zs.length = c ∧ (∀ i, i < zs.length → w.cell? (x.add i) = some (.int .u8 (zs.getD i 0))) ∧ ∀ z ∈ zs, (Lit.int .u8 z).wf = true)
    (hg : w.cell? ⟨0, 0, none⟩ = some (.iface 50 (.pointer (some ae)))) (hs : w.cell? ae = some (.string s)) :
    Calls Tryf.prog 3 #[.slice a n c] w fun e w' => e = .returned (.bool true) ∧ Below w.heap.size w w' := by
  by_cases hn : n ≤ 1048576
  · rcases ha with ⟨rfl, rfl, rfl⟩ | ⟨x, rfl, hnc, hz, hc, hw⟩
    · exact law_in F none 0 0 [] ae s w hF hn (Nat.le_refl _) rfl (.inl ⟨rfl, rfl⟩) hg hs
    · refine law_in F (some x) n c ((bytesOf zs).take n) ae s w hF hn hnc (by simp [bytesOf]; omega) (.inr ⟨x, rfl, fun j hj => ?_⟩) hg hs
      have e : ((bytesOf zs).take n).getD j 0 = (bytesOf zs).getD j 0 := by simp [List.getD, hj]
      rw [e, bytesOf_get hw j (by omega)]
      exact hc j (by omega)
  · exact law_great a n c w (by omega)

set_option maxRecDepth 100000 in
theorem lifted (os : Os) (started : os.Started) (H : Type) (enc : TypeId × Value → H) :
    ReturnsInTold none {} Tryf.checked os 3 .any Input.okWide ((OpenSpec.ofChange Rows.fnRestAfterCountIsTheListBodySpec).preRow enc Tryf.prog Tryf.f3 [] false Rows.fnRestAfterCountIsTheListBodyRow.laid) (fun F => ((OpenSpec.ofChange Rows.fnRestAfterCountIsTheListBodySpec).at F).post enc Tryf.prog Tryf.f3 false true false false) (aloneAtReturn Tryf.prog) nothingAlways := by
  refine returnsInTold_of_row (C := Tryf.checked) (s := OpenSpec.ofChange Rows.fnRestAfterCountIsTheListBodySpec) (by kernel_rfl) own started (by kernel_rfl) Tryf.func3
    (OpenSpec.witness_stopped_at (enc := enc) (C := Tryf.checked) false (laidWorld Tryf.prog os 6 errText) #[.slice none 0 0] rfl (by kernel_rfl) (by kernel_rfl) (by kernel_rfl)
      (OpenSpec.preRow_of_B rfl 8 (by kernel_rfl) (by kernel_rfl) (laid_met os _))) ?_
  intro F W base args ds gs before _ hF hval0 hW _ _ _ hL _
  have hval : ∀ (j : Nat) t v, Tryf.f3.params[j]? = some t → args[j]? = some v → Value.okWide Tryf.prog W .any base t v := hval0
  have hW' := hW
  obtain ⟨p, q, hA0, hV0, rfl, hfz, hnd⟩ := hW
  have hA : DataW.TrodAll enc Tryf.prog W 0 (fun _ => true) true Tryf.f3.params.toList args.toList ds p := hA0
  have hV : DataW.TrodVars enc Tryf.prog W (fun _ => true) Rows.fnRestAfterCountIsTheListBodySpec.vars gs q := hV0
  rw [Tryf.params3] at hA hval
  obtain ⟨v0, d0, rfl, rfl, h0⟩ := trodAll_one hA
  obtain ⟨a1, s1, hv1, hc1, hs1, hz1⟩ := laid_sentinel hL (gE _ rfl) gEType Tryf.underlying34
    (fun u h => typeName_ptr_named (nm := "errors.errorString") (by kernel_rfl) (by kernel_rfl) (by decide) u (h.trans (congrArg some (by decide)))) Tryf.underlying50 Tryf.underlying52 rfl rfl Tryf.underlying9 cells52 cells9
  obtain ⟨rfl, rfl⟩ := hV.unique (vars_read1 enc (gE _ rfl) gEType Tryf.underlying34 hv1 trivial _)
  clear hA0 hV0 hval0
  have hg1 : W.cell? ⟨0, 0, none⟩ = some (.iface 50 (.pointer (some a1))) := by simpa using World.var?_cell (gE _ rfl) hv1 0
  obtain ⟨a0, len0, cap0, rfl⟩ := okWide_slice Tryf.underlying22 (hval 0 22 v0 rfl rfl)
  have k0 := h0
  have lt0 : ∀ x ∈ p, x.block < W.heap.size := by obtain ⟨m, hm⟩ := k0; exact DataW.trod_lt m _ _ _ hm
  obtain ⟨z0, w0⟩ : ∃ zs : List Int, (a0 = none ∧ len0 = 0 ∧ cap0 = 0) ∨ ∃ x, a0 = some x ∧ len0 ≤ cap0 ∧ zs.length = cap0 ∧ (∀ i, i < zs.length → W.cell? (x.add i) = some (.int .u8 (zs.getD i 0))) ∧ ∀ z ∈ zs, (Lit.int .u8 z).wf = true := by
    obtain ⟨fuel, hf⟩ := h0
    rcases open_ints Tryf.underlying22 Tryf.underlying5 cells5 hf with ⟨hcs, _⟩ | ⟨x, l, c, zs, hcs, _, hl, hm, hz, _, hcell, hwz⟩
    · simp [Value.cells] at hcs
      obtain ⟨rfl, rfl, rfl⟩ := hcs
      exact ⟨[], .inl ⟨rfl, rfl, rfl⟩⟩
    · simp [Value.cells] at hcs
      obtain ⟨rfl, rfl, rfl⟩ := hcs
      exact ⟨zs, .inr ⟨_, rfl, hl, by simpa using hz, hcell, hwz⟩⟩
  refine (law_walk F.told a0 len0 cap0 z0 a1 s1 W hF w0 hg1 hc1).mono fun e W' ⟨he, bel⟩ => ?_
  subst he
  exact ⟨_, rfl, _, _, _, [], _, [.cell 0 0], hW', trodAll_mk1 (shut_bool Tryf.underlying4 _), trodAll_mk1 (Below.trod laidOut (by kernel_rfl) (of_decide_eq_true (by kernel_rfl)) k0 bel lt0), vars_read1 enc (gE _ rfl) gEType Tryf.underlying34 (var?_below bel (gE _ rfl) (World.block_lt_of_cell? W _ hg1) hv1) trivial _, bel.frame _, fun h => by cases h⟩

/-- THE STATEMENT: the told and tied card. -/
theorem fnRestAfterCountIsTheListBody_proved : Rows.FnRestAfterCountIsTheListBodyToldSaid :=
  Claim7.holds_of_told_tied_any_at .later 3 Tryf.f3 "fmt.Sprintf" ["fmt.errorf"] [] _ _ _ _ _ (by kernel_rfl) rfl rfl rfl laidOut (by kernel_rfl) rfl ⟨rfl, rfl, rfl, rfl, rfl, rfl, rfl⟩ rfl rfl (by kernel_rfl) (by kernel_rfl) Tryf.func3 (by kernel_rfl)
    (of_decide_eq_true (by kernel_rfl)) (by unfold Func.isWrapper; first | (rw [if_pos (by decide +kernel)]; kernel_rfl) | (rw [if_neg (by decide +kernel)]; exact ⟨rfl, rfl⟩)) stops.symm rfl stopKnobs.symm (by kernel_rfl)
    (by kernel_rfl) (by kernel_rfl) (by kernel_rfl) (by kernel_rfl) (by kernel_rfl) (by kernel_rfl) (by kernel_rfl) (by kernel_rfl) (by kernel_rfl) rfl (by kernel_rfl) rfl rfl
    rfl rfl
    rfl (by kernel_rfl) (by kernel_rfl) (by kernel_rfl) (by decide) (by kernel_rfl) fnRestAfterCountIsTheListBody_row_tie
    (OpenClaim.moreEntering_of (by kernel_rfl) (by kernel_rfl) (by kernel_rfl) (by kernel_rfl) (by kernel_rfl) (by kernel_rfl) (by kernel_rfl) (by kernel_rfl) (by kernel_rfl) (by kernel_rfl))
    ⟨_, WideRow.started_initial, quiet _⟩
    (fun os started _ H enc _ => lifted os started H enc)
end Go.Proofs.Qxb6613165aFmt
