/-
  'Rows.FnPermanentMarksAndKeepsTextSaid', proved: for every string the law returns true and the string reads as before. The frame of the row's step is the guide's template at this function.
-/
import Derived.Test.Qxb6613883aRows
import Derived.WalkKit
import Derived.ProofKit
import Derived.OpenShut
import Derived.ShutString
namespace Go.Proofs.Qxb6613883a.fnPermanentMarksAndKeepsText
open Go.ChangeShapes Go.WideShapes Go.ChangeAt Go.RowKit
open Go.ChangeMaps (open_string shut_string)

theorem zz5_small (s : ByteArray) (w : World) (h : s.size ≤ 1048576) :
    Calls Try.prog 5 #[.string s] w fun e w' => e = .returned (.bool true) ∧ w = w' := by
  go_enter Try.func5, Try.ntmps5
  go_wp2
  go_ret
  exact ⟨rfl, rfl⟩

theorem zz5_great (s : ByteArray) (w : World) (h : 1048576 < s.size) (h2 : s.size ≤ maxLen) :
    Calls Try.prog 5 #[.string s] w fun e w' => e = .returned (.bool false) ∧ w = w' := by
  unfold maxLen at h2
  go_enter Try.func5, Try.ntmps5
  go_wp2
  go_ret
  exact ⟨rfl, rfl⟩

theorem perm_nil (w : World) : Calls Try.prog 6 #[.nilIface] w fun e w' => e = .returned .nilIface ∧ w = w' := by
  go_enter Try.func6, Try.ntmps6
  go_wp2
  go_ret
  exact ⟨rfl, rfl⟩

theorem perm (a : Addr) (w : World) : Calls Try.prog 6 #[.iface 66 (.pointer (some a))] w fun e w' => e = .returned (.iface 40 (.pointer (some ⟨w.heap.size, 0, none⟩))) ∧ w' = w.alloc (.cells #[.iface 66 (.pointer (some a))] 42) := by
  go_enter Try.func6, Try.ntmps6
  go_wp2
  go_ret
  exact ⟨rfl, rfl⟩

theorem errNew (s : ByteArray) (w : World) : Calls Try.prog 17 #[.string s] w fun e w' => e = .returned (.iface 66 (.pointer (some ⟨w.heap.size, 0, none⟩))) ∧ w' = w.alloc (.cells #[.string s] 68) := by
  go_enter Try.func17, Try.ntmps17
  go_wp2
  go_ret
  exact ⟨rfl, rfl⟩

theorem plain (s : ByteArray) (w : World) : Calls Try.prog 7 #[.string s] w fun e w' => e = .returned (.iface 66 (.pointer (some ⟨w.heap.size, 0, none⟩))) ∧ w' = w.alloc (.cells #[.string s] 68) := by
  go_enter Try.func7, Try.ntmps7
  go_wp2_with (go_at_call 17; refine (errNew _ _).mono ?_; rintro e w' ⟨rfl, rfl⟩)
  go_ret
  exact ⟨rfl, rfl⟩

theorem err64 (s : ByteArray) (a : Addr) (w : World) (h : w.cell? a = some (.string s)) : Calls Try.prog 64 #[.pointer (some a)] w fun e w' => e = .returned (.string s) ∧ w = w' := by
  go_enter Try.func64, Try.ntmps64
  go_wp2
  go_ret
  exact ⟨rfl, rfl⟩

theorem method66 (a : Addr) (w : World) : (method 205 66 (.pointer (some a)) "Error").run Try.prog w = .ok (64, .pointer (some a)) w := by kernel_rfl
theorem method40 (a : Addr) (w : World) : (method 205 40 (.pointer (some a)) "Error").run Try.prog w = .ok (62, .pointer (some a)) w := by kernel_rfl

theorem err62 (s : ByteArray) (a b : Addr) (w : World) (h : w.cell? a = some (.iface 66 (.pointer (some b)))) (h2 : w.cell? b = some (.string s)) : Calls Try.prog 62 #[.pointer (some a)] w fun e w' => e = .returned (.string s) ∧ w = w' := by
  have hm := method66
  go_enter Try.func62, Try.ntmps62
  go_wp2_with (go_at_call 64; refine (err64 s _ _ h2).mono ?_; rintro e w' ⟨rfl, rfl⟩)
  go_ret
  exact ⟨rfl, rfl⟩

theorem text_plain (s : ByteArray) (a : Addr) (w : World) (h : w.cell? a = some (.string s)) : Calls Try.prog 8 #[.iface 66 (.pointer (some a))] w fun e w' => e = .returned (.string s) ∧ w = w' := by
  have hm := method66
  go_enter Try.func8, Try.ntmps8
  go_wp2_with (go_at_call 64; refine (err64 s _ _ h).mono ?_; rintro e w' ⟨rfl, rfl⟩)
  go_ret
  exact ⟨rfl, rfl⟩

theorem text_perm (s : ByteArray) (a b : Addr) (w : World) (h : w.cell? a = some (.iface 66 (.pointer (some b)))) (h2 : w.cell? b = some (.string s)) : Calls Try.prog 8 #[.iface 40 (.pointer (some a))] w fun e w' => e = .returned (.string s) ∧ w = w' := by
  have hm := method40
  go_enter Try.func8, Try.ntmps8
  go_wp2_with (go_at_call 62; refine (err62 s _ _ _ h h2).mono ?_; rintro e w' ⟨rfl, rfl⟩)
  go_ret
  exact ⟨rfl, rfl⟩

theorem unwrap_plain (a : Addr) (w : World) : Calls Try.prog 9 #[.iface 66 (.pointer (some a))] w fun e w' => e = .returned (.tuple #[.nilIface, .bool false]) ∧ w = w' := by
  have hh : (Instr.typeAssert (.iface 66 (.pointer (some a))) 24 40 true).run Try.prog w = .ok (.tuple #[.pointer none, .bool false]) w := by kernel_rfl
  go_enter Try.func9, Try.ntmps9
  go_wp2_with fail
  go_ret2
  exact ⟨rfl, rfl⟩

theorem unwrap_perm (v : Value) (a : Addr) (w : World) (h : w.cell? a = some v) : Calls Try.prog 9 #[.iface 40 (.pointer (some a))] w fun e w' => e = .returned (.tuple #[v, .bool true]) ∧ w = w' := by
  have hh : (Instr.typeAssert (.iface 40 (.pointer (some a))) 24 40 true).run Try.prog w = .ok (.tuple #[.pointer (some a), .bool true]) w := by kernel_rfl
  go_enter Try.func9, Try.ntmps9
  go_wp2_with fail
  go_ret2
  exact ⟨rfl, rfl⟩

theorem own : ownKnob Try.prog.godebug = none := by kernel_rfl

/-- Two new blocks: their first cells. -/
theorem two_cells (w : World) (x y : Value) (s t : TypeId) : ((w.alloc (.cells #[x] s)).alloc (.cells #[y] t)).cell? ⟨w.heap.size, 0, none⟩ = some x ∧ ((w.alloc (.cells #[x] s)).alloc (.cells #[y] t)).cell? ⟨w.heap.size + 1, 0, none⟩ = some y := by
  constructor <;> go_cell

theorem walk (a0 : ByteArray) (w0 : a0.size ≤ maxLen) (w : World) :
    Calls Try.prog 3 #[.string a0] w fun e w' => e = .returned (.bool true) ∧ Grown w w' := by
  by_cases h : 1048576 < a0.size
  · go_enter Try.func3, Try.ntmps3
    go_wp2_with (go_at_call 5; refine (zz5_great _ _ h w0).mono ?_; rintro e w' ⟨rfl, rfl⟩)
    go_ret
    exact ⟨rfl, Grown.refl _⟩
  have C5 := zz5_small a0 w (by omega)
  go_enter Try.func3, Try.ntmps3
  go_wp2_with fail
  refine C5.mono ?_; rintro e w' ⟨rfl, rfl⟩
  clear C5
  go_wp2_with fail
  refine (perm_nil _).mono ?_; rintro e w' ⟨rfl, rfl⟩
  go_wp2_with fail
  refine (plain _ _).mono ?_; rintro e w1 ⟨rfl, rfl⟩
  go_wp2_with fail
  refine (perm _ _).mono ?_; rintro e w2 ⟨rfl, hw2⟩
  obtain ⟨h1, h2⟩ := two_cells w (.string a0) (.iface 66 (.pointer (some ⟨w.heap.size, 0, none⟩))) 68 42
  have hgr : Grown w ((w.alloc (.cells #[.string a0] 68)).alloc (.cells #[.iface 66 (.pointer (some ⟨w.heap.size, 0, none⟩))] 42)) := by repeat (first | exact Grown.refl _ | apply Grown.drew | apply Grown.alloc)
  rw [← hw2] at h1 h2 hgr
  clear hw2
  have hsz : (w.alloc (.cells #[.string a0] 68)).heap.size = w.heap.size + 1 := by simp
  rw [hsz]
  clear hsz
  generalize w.heap.size + 1 = B at *
  generalize w.heap.size = A at *
  go_wp2_with fail
  refine (text_perm a0 _ _ _ h2 h1).mono ?_; rintro e w' ⟨rfl, rfl⟩
  go_wp2_with fail
  refine (unwrap_perm _ _ _ h2).mono ?_; rintro e w' ⟨rfl, rfl⟩
  go_wp2_with fail
  refine (unwrap_plain _ _).mono ?_; rintro e w' ⟨rfl, rfl⟩
  go_wp2_with fail
  refine (text_plain a0 _ _ h1).mono ?_; rintro e w' ⟨rfl, rfl⟩
  go_wp2_with fail
  go_ret
  exact ⟨rfl, hgr⟩

/-! ### The row's step -/
set_option maxRecDepth 100000 in
theorem lifted (os : Os) (started : os.Started) (H : Type) (enc : TypeId × Value → H) :
    ReturnsInHanded {} Try.checked os 3 .any (Rows.fnPermanentMarksAndKeepsTextSpec.pre6 enc Try.prog Try.f3 Rows.fnPermanentMarksAndKeepsTextRow.domain false) (Rows.fnPermanentMarksAndKeepsTextSpec.post enc Try.prog Try.f3 false true false false) := by
  refine returnsInHanded_of_change (C := Try.checked) own started (by kernel_rfl) Try.func3
    (ChangeSpec.witness6 (enc := enc) (C := Try.checked) false ⟨#[], #[.string ByteArray.empty], []⟩ 8 (by kernel_rfl) (by kernel_rfl) (by kernel_rfl) (by kernel_rfl)) ?_
  intro W base args ds gs before hval0 hW hcnd _
  have hval : ∀ (j : Nat) t v, Try.f3.params[j]? = some t → args[j]? = some v → Value.okWide Try.prog W .any base t v := hval0
  have hW' := hW
  obtain ⟨p, q, hA0, hV, rfl, hfz, hnd⟩ := hW
  have hA : DataW.TrodAll enc Try.prog W 0 (fun _ => true) true Try.f3.params.toList args.toList ds p := hA0
  rw [Try.params3] at hA hval
  obtain ⟨v0, vs0, d0, ds0, p0, q0, hargs, rfl, rfl, h0, r0⟩ := trodAll_cons hA
  obtain ⟨rfl, rfl, rfl⟩ := trodAll_nil r0
  obtain rfl : args = #[v0] := by cases args; simp_all
  obtain ⟨rfl, rfl⟩ := trodVars_none hV
  obtain ⟨a0, rfl, rfl, rfl, w0⟩ := open_string Try.underlying9 (hval 0 9 v0 rfl rfl) h0
  clear hA0 hval0
  simp only [List.append_nil] at hW'
  refine (walk a0 w0 W).mono fun e W' ⟨he, hg⟩ => ?_
  subst he
  exact ⟨_, rfl, post_of_same (pa := []) (pv := []) hW' (fun _ _ _ => (trodAll_cons_mk (shut_bool Try.underlying4 _) trodAll_mk0)) (fun sp _ => (trodAll_cons_mk (shut_string Try.underlying9 w0) trodAll_mk0)) (fun _ _ => rfl) rfl
    (hg.frame _) hg.2.1 (ok_one (by kernel_rfl) rfl (okWide_bool_mk Try.underlying4 _))⟩

theorem over : Rows.fnPermanentMarksAndKeepsTextRow.holds Try.pinned (OpenSpec.ofChange Rows.fnPermanentMarksAndKeepsTextSpec) :=
  OpenClaim.holds_of_wide 3 Try.f3 rfl rfl rfl rfl rfl rfl rfl ⟨rfl, rfl, rfl, rfl, rfl⟩ rfl rfl rfl rfl rfl (by kernel_rfl) Try.func3 (by kernel_rfl)
    (of_decide_eq_true (by kernel_rfl)) (by unfold Func.isWrapper; first | (rw [if_pos (by decide +kernel)]; kernel_rfl) | (rw [if_neg (by decide +kernel)]; exact ⟨rfl, rfl⟩))
    (fun os started H enc _ => lifted os started H enc)

end Go.Proofs.Qxb6613883a.fnPermanentMarksAndKeepsText

namespace Go.Proofs.Qxb6613883a
/-- THE STATEMENT. -/
theorem fnPermanentMarksAndKeepsText_proved : Rows.FnPermanentMarksAndKeepsTextSaid := fnPermanentMarksAndKeepsText.over
end Go.Proofs.Qxb6613883a
