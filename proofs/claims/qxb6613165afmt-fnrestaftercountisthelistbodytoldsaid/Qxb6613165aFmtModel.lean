import Derived.Test.Qxb6613165aFmtFail
import Derived.Test.Qxb6613165aFmtMath
import Derived.Laws.Closers25b
import Derived.Lib.VarintBits
namespace Go.Proofs.Qxb6613165aFmt
open Go.ChangeShapes Go.WideShapes Go.ChangeAt Go.RowKit

theorem hide {p : Prop} (h : p) : Hid p := h

theorem or_join {v x : Nat} (hx : x < 256) (hv : x % 128 + 128 * v < 18446744073709551616) : bits .or .u64 ((v : Int) * 128) (IntKind.u64.wrap (bits .and .u8 (x : Int) 127)) = ((x % 128 + 128 * v : Nat) : Int) := by
  rw [u8_and127 _ (by omega) (by omega), u64_wrap_id _ (by omega) (by omega), bits_join .u64 64 (by decide) wraps_u64 7 _ _ (by omega) (by omega) (by omega) (by omega) (by omega) (by omega)]
  omega

theorem back_lt_drop {l : List UInt8} {k : Nat} (hk : k < l.length) (h9 : k ≤ 9) (hl : (l.getD k 0).toNat < 128) (hn : ¬ (k = 9 ∧ 1 < (l.getD k 0).toNat)) (j : Nat) (hj : j ≤ k) : back (l.drop j) (k - j) < 18446744073709551616 := by
  have e : (l.drop j).getD (k - j) 0 = l.getD k 0 := by simp [List.getD, List.getElem?_drop, show j + (k - j) = k by omega]
  refine back_lt (by simp; omega) (by omega) (by rw [e]; exact hl) ?_
  intro h; rw [e]
  have : k = 9 := by omega
  omega

set_option maxRecDepth 100000 in
set_option maxHeartbeats 1000000 in
theorem model_any (b off cap n : Nat) (l : List UInt8) (w : World) (hn : n ≤ 1048576) (hl : l.length = n) (hcell : ∀ j, j < n → w.cell? ⟨b, off + j, none⟩ = some (.int .u8 (l.getD j 0).toNat)) :
    Calls Tryf.prog 9 #[.slice (some ⟨b, off, none⟩) n cap] w fun e w' => e = .returned (.tuple #[.int .u64 (modelOf l).1, .int .i64 (modelOf l).2.1, .bool (modelOf l).2.2]) ∧ w = w' := by
  have HC := hide hcell
  have HL := hide hl
  clear hcell hl
  go_enter Tryf.func9, Tryf.ntmps9
  go_wp2
  go_loop [5, 6] (fun ve vi => ∃ k : Nat, k ≤ n ∧ k ≤ 10 ∧ ve = .int .i64 (-1) ∧ vi = .int .i64 k ∧ Hid (∀ j, j < k → 128 ≤ (l.getD j 0).toNat)) (fun _ vi => n - (intOf vi).toNat)
  case atStart => exact ⟨0, by omega, by omega, rfl, rfl, fun j hj => by omega⟩
  case round =>
    obtain ⟨k, hkn, hk10, rfl, rfl, HB⟩ := hrel
    by_cases hk : k < n ∧ k < 10
    · obtain ⟨hk1, hk2⟩ := hk
      have hc := HC.out k hk1
      have hlt := (l.getD k 0).toNat_lt
      have hle : k < l.length := by rw [HL.out]; exact hk1
      by_cases h128 : (l.getD k 0).toNat < 128
      · by_cases hov : k = 9 ∧ 1 < (l.getD k 0).toNat
        · obtain ⟨rfl, h1⟩ := hov
          have HM := hide (model_over hle HB.out h128 h1)
          generalize (l.getD 9 0).toNat = x at *
          go_wp2
          go_ret3
          rw [HM.out]
          exact ⟨rfl, rfl⟩
        · have HM := hide (model_hit hle (by omega) HB.out h128 hov)
          have HLAST := hide (back_last hle)
          have HBL := hide (fun j (hj : j ≤ k) => back_lt_drop hle (by omega) h128 hov j hj)
          generalize hx : (l.getD k 0).toNat = x at *
          have HX := hide hx
          clear hx
          have h9 : ((k : Int) == 9) = true ∨ ((k : Int) == 9) = false := by cases ((k : Int) == 9) <;> simp
          have hd0 : decide ((k : Int) < 0) = false := by simp
          have hc9 : k = 9 → w.cell? ⟨b, off + 9, none⟩ = some (.int .u8 x) := by rintro rfl; exact hc
          have hov' : k = 9 → decide ((1 : Int) < (x : Int)) = false := by intro h; simp; omega
          rcases h9 with h9 | h9
          · have e9 : k = 9 := by have : (k : Int) = 9 := by simpa using h9
                                  omega
            have hc9' := hc9 e9
            have h9n : (9 : Int) < (n : Int) := by omega
            have hov'' := hov' e9
            clear hc9 hov' e9 hov HB
            go_wp2
            go_loop [7, 8] (fun vv vj => ∃ m : Nat, m ≤ k ∧ vj = .int .i64 ((m : Int) - 1) ∧ vv = .int .u64 (back (l.drop m) (k - m))) (fun _ vj => (intOf vj + 1).toNat)
            case atStart => exact ⟨k, Nat.le_refl _, rfl, by rw [Nat.sub_self, HLAST.out]⟩
            case round =>
              obtain ⟨m, hmk, rfl, rfl⟩ := hrel
              cases m with
              | zero =>
                have hneg : ¬ (0 : Int) ≤ ((0 : Nat) : Int) - 1 := by omega
                go_wp2
                go_ret3
                rw [HM.out]
                exact ⟨rfl, rfl⟩
              | succ m =>
                have hcm := HC.out m (by omega)
                have HD := hide (back_drop (l := l) (j := m) (e := k) (by omega) hle)
                have hbl := HBL.out m (by omega)
                rw [HD.out] at hbl
                have hy := (l.getD m 0).toNat_lt
                generalize back (l.drop (m + 1)) (k - (m + 1)) = v at *
                generalize (l.getD m 0).toNat = y at *
                go_wp2
                go_round
                case rel => exact ⟨m, by omega, rfl, by rw [HD.out, or_join (by omega) hbl]⟩
                case measure => simp [intOf]
          · clear hc9 hov' hov HB
            go_wp2
            go_loop [7, 8] (fun vv vj => ∃ m : Nat, m ≤ k ∧ vj = .int .i64 ((m : Int) - 1) ∧ vv = .int .u64 (back (l.drop m) (k - m))) (fun _ vj => (intOf vj + 1).toNat)
            case atStart => exact ⟨k, Nat.le_refl _, rfl, by rw [Nat.sub_self, HLAST.out]⟩
            case round =>
              obtain ⟨m, hmk, rfl, rfl⟩ := hrel
              cases m with
              | zero =>
                have hneg : ¬ (0 : Int) ≤ ((0 : Nat) : Int) - 1 := by omega
                go_wp2
                go_ret3
                rw [HM.out]
                exact ⟨rfl, rfl⟩
              | succ m =>
                have hcm := HC.out m (by omega)
                have HD := hide (back_drop (l := l) (j := m) (e := k) (by omega) hle)
                have hbl := HBL.out m (by omega)
                rw [HD.out] at hbl
                have hy := (l.getD m 0).toNat_lt
                generalize back (l.drop (m + 1)) (k - (m + 1)) = v at *
                generalize (l.getD m 0).toNat = y at *
                go_wp2
                go_round
                case rel => exact ⟨m, by omega, rfl, by rw [HD.out, or_join (by omega) hbl]⟩
                case measure => simp [intOf]
      · generalize hx : (l.getD k 0).toNat = x at *
        have HX := hide hx
        clear hx
        go_wp2
        go_round
        case rel =>
          refine ⟨k + 1, by omega, by omega, rfl, by go_num, fun j hj => ?_⟩
          by_cases hjk : j = k
          · subst hjk; rw [HX.out]; omega
          · exact HB.out j (by omega)
        case measure => simp [intOf]; omega
    · have HM := hide (model_none (l := l) (k := k) (by rw [HL.out]; omega) HB.out)
      by_cases hk1 : k < n
      · go_wp2
        go_ret3
        rw [HM.out]
        exact ⟨rfl, rfl⟩
      · go_wp2
        go_ret3
        rw [HM.out]
        exact ⟨rfl, rfl⟩
end Go.Proofs.Qxb6613165aFmt
