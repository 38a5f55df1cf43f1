import Derived.Test.Qxb6613781aFmtZzFront
namespace Go.Proofs.Qxb6613781aFmt
open Go.Extern.Stop Go.Stop Go.Extern
open Go.ChangeShapes Go.WideShapes Go.ChangeAt Go.RowKit

theorem fr_in {pl dl : List UInt8} {m n D k : Nat} (hdl : dl.length = n) (hk : k < m) (h : D + k < n) : (splice pl 0 (cut dl D m)).getD k 0 = dl.getD (D + k) 0 := by
  have hx : (cut dl D m).length = Nat.min m (n - D) := by rw [cut_length, hdl]
  have hkx : k < (cut dl D m).length := by rw [hx]; exact Nat.lt_min.2 ⟨hk, by omega⟩
  rw [getD_splice, if_pos hkx, getD_cut _ _ _ _ hk]

theorem fr_out {pl dl : List UInt8} {m n D k : Nat} (hdl : dl.length = n) (h : n ≤ D + k) : (splice pl 0 (cut dl D m)).getD k 0 = pl.getD k 0 := by
  have hx : (cut dl D m).length = Nat.min m (n - D) := by rw [cut_length, hdl]
  have hkx : ¬ k < (cut dl D m).length := by rw [hx]; exact Nat.not_lt.2 (Nat.le_trans (Nat.min_le_right _ _) (by omega))
  rw [getD_splice, if_neg hkx]

set_option maxRecDepth 100000 in
set_option maxHeartbeats 2000000 in
theorem front_in (F : Interp) (a b : Option Addr) (n c m cb : Nat) (pos : Int) (D : Nat) (what : ByteArray) (dl pl : List UInt8) (ae au : Addr) (w : World) (hF : F.answers w.tape) (hsum : n + m + what.size ≤ 1048576)
    (hdl : dl.length = n) (hpl : pl.length = m) (ha : ArgAt w a n dl) (hb : ArgAt w b m pl) (hp0 : 0 ≤ pos) (hpD : pos + D ≤ 4611686018427387904)
    (hg : w.cell? ⟨0, 0, none⟩ = some (.iface 52 (.pointer (some ae)))) (hu : w.cell? ⟨1, 0, none⟩ = some (.iface 52 (.pointer (some au)))) (hne : ae ≠ au)
    (hae : ∃ ca ta, w.heap[ae.block]? = some (.cells ca ta (0, 0))) (hau : ∃ ca ta, w.heap[au.block]? = some (.cells ca ta (0, 0))) :
    Calls Tryf.prog 3 #[.slice a n c, .int .i64 pos, .slice b m cb, .int .i64 (pos + D), .string what] w fun e w' => e = .returned (.bool true) ∧ Below w.heap.size w w' := by
  obtain ⟨i0, hi, hz0, hz1, hz2⟩ := info_parts Tryf.info5
  have C5 := hide (zz5_small a b n c m cb pos (pos + D) what w hsum)
  have HPL := hide hpl
  have HDL := hide hdl
  have hn : n ≤ 1048576 := by omega
  have hm : m ≤ 1048576 := by omega
  have q1 : decide (pos < 0) = false := by simp; omega
  have q2 : decide (pos + (D : Int) < pos) = false := by simp; omega
  have q3 : decide ((4611686018427387904 : Int) < pos + (D : Int)) = false := by simp; omega
  clear hpl hdl
  go_enter Tryf.func3, Tryf.ntmps3
  go_upto_if 57 with (go_at_call 5; refine C5.out.mono ?_; rintro e w' ⟨rfl, rfl⟩)
  clear C5
  go_cut [0] from 20 (fun v wc => CopyRel w n dl v wc)
  case first =>
    rcases ha with ⟨rfl, rfl⟩ | ⟨ad, rfl, hcell⟩
    · go_wp2_with fail
      go_meet
      case rel => exact ⟨none, c, rfl, Nat.zero_le _, (fun h => absurd h (by omega)), (fun _ h => nomatch h), Below.refl _ _⟩
    · go_wp2_with (at_make; refine wpList_make_full _ rfl (.tmp 59) (.tmp 59) 22 rfl w.heap.size 5 i0 (.int .u8 0) 1 Tryf.underlying22 hi hz0 hz1 _ _ _ _ n rfl rfl rfl rfl (by rw [hz2]; omega) (by unfold maxLen; omega) (by omega) ?_)
      intro w1 hown hgrow
      have HR := hide (row_of_made hown)
      have hb1 : Below w.heap.size w w1 := (Below.refl _ _).grown hgrow (Nat.le_refl _) (by simp)
      have hs : SrcPos (some ad) dl w1 := (ArgAt.later (.inr ⟨ad, rfl, hcell⟩) hb1 (Nat.le_refl _)).src HDL.out
      have hd : DstPos (some ⟨w.heap.size, 0, none⟩) w.heap.size 0 dl := fun _ => rfl
      have HN : Hid (dl.length = Nat.min n n) := by rw [HDL.out]; exact hide (Nat.min_self n).symm
      have hfit : 0 + dl.length ≤ (List.replicate n (0 : UInt8)).length := by simp [HDL.out]
      clear hown hgrow hi hz0 hz1 hz2 hcell
      go_wp2_with ((with_reducible refine at_copy ?_); refine wpList_copy_kept rfl (.tmp 61) (.tmp 62) 22 22 rfl Tryf.underlying22 Tryf.size5 _ _ _ _ _ _ rfl rfl w.heap.size 0 (List.replicate n 0) dl HR.out HN.out hd hs hfit ?_)
      intro w2 HR2 hk2
      have e2 : splice (List.replicate n (0 : UInt8)) 0 dl = dl := splice_all _ _ (by simp [HDL.out])
      rw [e2] at HR2
      have HB2 := hide (hb1.trans (hk2.below hb1.size (by simp)))
      clear HR hb1 hs hd HN hfit hk2 e2
      go_wp2_with fail
      go_meet
      case rel => exact ⟨some ⟨w.heap.size, 0, none⟩, n, rfl, Nat.le_refl _, (fun _ => ⟨_, rfl, HR2.out⟩), (fun g h => by cases h; exact ⟨Nat.le_refl _, HR2.out.lt⟩), HB2.out⟩
  case rest =>
    obtain ⟨a1, c1, rfl, hnc, hd1, hlt1, hb1⟩ := hcut
    clear hi hz0 hz1 hz2 ha q1 q2 q3
    have C6 := hide (clone_at b m cb pl wc hm HPL.out (hb.later hb1 (Nat.le_refl _)))
    go_wp2_with fail
    refine C6.out.mono ?_
    rintro e w2 ⟨a2, c2, rfl, hmc, hbn, hlt2, hd2, hb2⟩
    have h1w : 1 < w.heap.size := World.block_lt_of_cell? w _ hu
    have hs1 := hb1.size
    have hb12 : Below w.heap.size w w2 := hb1.trans (hb2.mono hb1.size)
    have hg2 := (hb12.cell (p := ⟨0, 0, none⟩) (by show 0 < _; omega)).trans hg
    have hu2 := (hb12.cell (p := ⟨1, 0, none⟩) h1w).trans hu
    have haeb : ae.block < w.heap.size := by obtain ⟨ca, ta, h⟩ := hae; exact (Array.getElem?_eq_some_iff.1 h).1
    have haub : au.block < w.heap.size := by obtain ⟨ca, ta, h⟩ := hau; exact (Array.getElem?_eq_some_iff.1 h).1
    have hae2 : ∃ ca ta, w2.heap[ae.block]? = some (.cells ca ta (0, 0)) := by
      obtain ⟨ca, ta, h⟩ := hae
      exact ⟨ca, ta, (hb12.block _ haeb).trans h⟩
    have hau2 : ∃ ca ta, w2.heap[au.block]? = some (.cells ca ta (0, 0)) := by
      obtain ⟨ca, ta, h⟩ := hau
      exact ⟨ca, ta, (hb12.block _ haub).trans h⟩
    have hd12 : DataAt w2 a1 n dl := hd1.later (Kept.of_below (S := []) hb2) (by simp)
    have C7 := hide (zz_front F a2 m c2 n c1 a1 pos D what pl dl ae au w2 (by rw [hb12.tape]; exact hF) hg2 hu2 hne hae2 hau2 hm hn hnc hmc hd2 HPL.out hd12 HDL.out hp0 hpD
      (fun g h => by obtain ⟨x1, x2⟩ := hlt2 g h; exact ⟨by omega, x2, by omega, by omega⟩)
      (fun g h => by obtain ⟨x1, x2⟩ := hlt1 g h; exact ⟨Nat.lt_of_lt_of_le x2 hb2.size, fun g' h' => by obtain ⟨y1, y2⟩ := hlt2 g' h'; omega⟩))
    have hsep : ∀ g, a1 = some ⟨g, 0, none⟩ → g ∉ blocksOf a2 := by
      intro g h hm2
      rcases hbn with rfl | ⟨g2, rfl⟩
      · simp [blocksOf] at hm2
      · simp [blocksOf] at hm2; have := (hlt1 g h).2; have := (hlt2 g2 rfl).1; omega
    have hold : ∀ k ∈ blocksOf a2, w.heap.size ≤ k := by
      intro k hk
      rcases hbn with rfl | ⟨g2, rfl⟩
      · simp [blocksOf] at hk
      · simp [blocksOf] at hk; have := (hlt2 g2 rfl).1; omega
    have HARG := hide hb
    have HD12 := hide hd12
    have HSEP := hide hsep
    have HOLD := hide hold
    have HB12 := hide hb12
    clear hF hg hae hg2 hae2 hu hu2 hau hau2 hne haeb haub hd1 hlt1 hlt2 hd2 hb2 hb1 C6 hd12 hsep hold hb12 hb hbn hs1 h1w
    go_wp2_with fail
    refine C7.out.mono ?_
    rintro e w3 ⟨ev, pe, rfl, hpe, hev, hq, hk3⟩
    have HB3 := hide (HB12.out.trans (hk3.below HB12.out.size HOLD.out))
    have HD3 := hide (HD12.out.later hk3 HSEP.out)
    have HARG3 := hide (HARG.out.later HB3.out (Nat.le_refl _))
    have HLEN : Hid ((splice pl 0 (cut dl D m)).length = m) := by
      rw [length_splice _ _ _ (by rw [HPL.out, cut_length, HDL.out, Nat.zero_add]; exact Nat.min_le_left _ _), HPL.out]; exact hide rfl
    have HQ := hide hq
    clear hk3 hq C7 HARG HD12 HSEP HOLD HB12
    have eD : pos + (D : Int) - pos = D := by omega
    by_cases hlt1 : D + m < n
    · obtain rfl : pe = pos + D + m := by omega
      obtain rfl : ev = .nilIface := by
        rcases hev with ⟨_, h⟩ | ⟨h, _⟩
        · exact h
        · omega
      clear hpe hev
      have r1 : pos + (D : Int) + (m : Int) < pos + (n : Int) := by omega
      have r2 : decide ((D : Int) + (m : Int) ≤ (n : Int)) = true := by simp; omega
      go_wp2_with fail
      go_loop [18] (fun v => ∃ k : Nat, k ≤ m ∧ v = .int .i64 k) (fun v => m - (intOf v).toNat)
      case atStart => exact ⟨0, Nat.zero_le _, rfl⟩
      case round =>
        obtain ⟨k, hk, rfl⟩ := hrel
        by_cases hlt : k < m
        · obtain ⟨b, o, rfl, _, hcp⟩ := HARG3.out.cells (by omega)
          obtain ⟨g, rfl, hrow⟩ := HQ.out (by omega)
          have g1 := hcp k hlt
          have g2 := hrow.cell k (by rw [HLEN.out]; exact hlt)
          have hi2 : (k : Int) < (m : Int) := by omega
          by_cases hin : D + k < n
          · obtain ⟨ga, rfl, hrd⟩ := HD3.out (by omega)
            have g3 := hrd.cell (D + k) (by rw [HDL.out]; omega)
            rw [fr_in HDL.out hlt hin] at g2
            generalize (pl.getD k 0).toNat = x at *
            generalize (dl.getD (D + k) 0).toNat = y at *
            have hi4 : (D : Int) + (k : Int) < (n : Int) := by omega
            clear hcp hrow hrd
            go_wp2_with fail
            go_round
            case rel => exact ⟨k + 1, by omega, by go_num⟩
            case measure => simp [intOf]; omega
          · rw [fr_out HDL.out (by omega)] at g2
            generalize (pl.getD k 0).toNat = x at *
            have hi3 : ¬ (D : Int) + (k : Int) < (n : Int) := by omega
            clear hcp hrow
            go_wp2_with fail
            go_round
            case rel => exact ⟨k + 1, by omega, by go_num⟩
            case measure => simp [intOf]; omega
        · go_wp2_with fail
          go_ret
          exact ⟨rfl, HB3.out⟩
    obtain rfl : pe = pos + n := by omega
    have r1 : ¬ pos + (D : Int) + (m : Int) < pos + (n : Int) := by omega
    by_cases hle : D + m ≤ n
    · obtain rfl : ev = .nilIface := by
        rcases hev with ⟨_, h⟩ | ⟨h, _⟩
        · exact h
        · omega
      clear hpe hev
      have r2 : decide ((D : Int) + (m : Int) ≤ (n : Int)) = true := by simp; omega
      go_wp2_with fail
      go_loop [18] (fun v => ∃ k : Nat, k ≤ m ∧ v = .int .i64 k) (fun v => m - (intOf v).toNat)
      case atStart => exact ⟨0, Nat.zero_le _, rfl⟩
      case round =>
        obtain ⟨k, hk, rfl⟩ := hrel
        by_cases hlt : k < m
        · obtain ⟨b, o, rfl, _, hcp⟩ := HARG3.out.cells (by omega)
          obtain ⟨g, rfl, hrow⟩ := HQ.out (by omega)
          have g1 := hcp k hlt
          have g2 := hrow.cell k (by rw [HLEN.out]; exact hlt)
          have hi2 : (k : Int) < (m : Int) := by omega
          by_cases hin : D + k < n
          · obtain ⟨ga, rfl, hrd⟩ := HD3.out (by omega)
            have g3 := hrd.cell (D + k) (by rw [HDL.out]; omega)
            rw [fr_in HDL.out hlt hin] at g2
            generalize (pl.getD k 0).toNat = x at *
            generalize (dl.getD (D + k) 0).toNat = y at *
            have hi4 : (D : Int) + (k : Int) < (n : Int) := by omega
            clear hcp hrow hrd
            go_wp2_with fail
            go_round
            case rel => exact ⟨k + 1, by omega, by go_num⟩
            case measure => simp [intOf]; omega
          · rw [fr_out HDL.out (by omega)] at g2
            generalize (pl.getD k 0).toNat = x at *
            have hi3 : ¬ (D : Int) + (k : Int) < (n : Int) := by omega
            clear hcp hrow
            go_wp2_with fail
            go_round
            case rel => exact ⟨k + 1, by omega, by go_num⟩
            case measure => simp [intOf]; omega
        · go_wp2_with fail
          go_ret
          exact ⟨rfl, HB3.out⟩
    · obtain ⟨x0, rfl⟩ : ∃ x, ev = .iface 52 (.pointer (some x)) := by
        rcases hev with ⟨h, _⟩ | ⟨_, h⟩
        · omega
        · exact h
      clear hpe hev
      have r2 : decide ((D : Int) + (m : Int) ≤ (n : Int)) = false := by simp; omega
      go_wp2_with fail
      go_loop [18] (fun v => ∃ k : Nat, k ≤ m ∧ v = .int .i64 k) (fun v => m - (intOf v).toNat)
      case atStart => exact ⟨0, Nat.zero_le _, rfl⟩
      case round =>
        obtain ⟨k, hk, rfl⟩ := hrel
        by_cases hlt : k < m
        · obtain ⟨b, o, rfl, _, hcp⟩ := HARG3.out.cells (by omega)
          obtain ⟨g, rfl, hrow⟩ := HQ.out (by omega)
          have g1 := hcp k hlt
          have g2 := hrow.cell k (by rw [HLEN.out]; exact hlt)
          have hi2 : (k : Int) < (m : Int) := by omega
          by_cases hin : D + k < n
          · obtain ⟨ga, rfl, hrd⟩ := HD3.out (by omega)
            have g3 := hrd.cell (D + k) (by rw [HDL.out]; omega)
            rw [fr_in HDL.out hlt hin] at g2
            generalize (pl.getD k 0).toNat = x at *
            generalize (dl.getD (D + k) 0).toNat = y at *
            have hi4 : (D : Int) + (k : Int) < (n : Int) := by omega
            clear hcp hrow hrd
            go_wp2_with fail
            go_round
            case rel => exact ⟨k + 1, by omega, by go_num⟩
            case measure => simp [intOf]; omega
          · rw [fr_out HDL.out (by omega)] at g2
            generalize (pl.getD k 0).toNat = x at *
            have hi3 : ¬ (D : Int) + (k : Int) < (n : Int) := by omega
            clear hcp hrow
            go_wp2_with fail
            go_round
            case rel => exact ⟨k + 1, by omega, by go_num⟩
            case measure => simp [intOf]; omega
        · go_wp2_with fail
          go_ret
          exact ⟨rfl, HB3.out⟩
end Go.Proofs.Qxb6613781aFmt
