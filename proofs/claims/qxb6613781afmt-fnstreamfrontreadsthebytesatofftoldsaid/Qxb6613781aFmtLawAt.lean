import Derived.Test.Qxb6613781aFmtZzAt
namespace Go.Proofs.Qxb6613781aFmt
open Go.Extern.Stop Go.Stop Go.Extern
open Go.ChangeShapes Go.WideShapes Go.ChangeAt Go.RowKit

set_option maxHeartbeats 400000 in
theorem zz8_small (a b : Option Addr) (n c m cb : Nat) (pos off : Int) (what : ByteArray) (w : World) (h : n + m + what.size ≤ 1048576) :
    Calls Tryf.prog 8 #[.slice a n c, .int .i64 pos, .slice b m cb, .int .i64 off, .string what] w fun e w' => e = .returned (.bool true) ∧ w = w' := by
  go_enter Tryf.func8, Tryf.ntmps8
  go_wp2
  go_ret
  exact ⟨rfl, rfl⟩

set_option maxHeartbeats 800000 in
theorem zz8_great (a b : Option Addr) (n c m cb : Nat) (pos off : Int) (what : ByteArray) (w : World) (h : 1048576 < n + m + what.size) (hn : n ≤ 9223372036854775807) (hm : m ≤ 9223372036854775807) (hs : what.size ≤ 9223372036854775807) :
    Calls Tryf.prog 8 #[.slice a n c, .int .i64 pos, .slice b m cb, .int .i64 off, .string what] w fun e w' => e = .returned (.bool false) ∧ w = w' := by
  by_cases h1 : 1048576 < n
  · go_enter Tryf.func8, Tryf.ntmps8
    go_wp2
    go_ret
    exact ⟨rfl, rfl⟩
  by_cases h2 : 1048576 < m
  · go_enter Tryf.func8, Tryf.ntmps8
    go_wp2
    go_ret
    exact ⟨rfl, rfl⟩
  by_cases h3 : 1048576 < n + m
  · go_enter Tryf.func8, Tryf.ntmps8
    go_wp2
    go_ret
    exact ⟨rfl, rfl⟩
  by_cases h4 : 1048576 < what.size
  · go_enter Tryf.func8, Tryf.ntmps8
    go_wp2
    go_ret
    exact ⟨rfl, rfl⟩
  go_enter Tryf.func8, Tryf.ntmps8
  go_wp2
  go_ret
  exact ⟨rfl, rfl⟩

theorem at_great (a b : Option Addr) (n c m cb : Nat) (pos off : Int) (what : ByteArray) (w : World) (h : 1048576 < n + m + what.size) (hn : n ≤ 9223372036854775807) (hm : m ≤ 9223372036854775807) (hs : what.size ≤ 9223372036854775807) :
    Calls Tryf.prog 4 #[.slice a n c, .int .i64 pos, .slice b m cb, .int .i64 off, .string what] w fun e w' => e = .returned (.bool true) ∧ Below w.heap.size w w' := by
  go_enter Tryf.func4, Tryf.ntmps4
  go_wp2_with (go_at_call 8; refine (zz8_great _ _ _ _ _ _ _ _ _ _ h hn hm hs).mono ?_; rintro e w' ⟨rfl, rfl⟩)
  go_ret
  exact ⟨rfl, Below.refl _ _⟩

theorem getD_splice (pl x : List UInt8) (k : Nat) : (splice pl 0 x).getD k 0 = if k < x.length then x.getD k 0 else pl.getD k 0 := by
  unfold splice
  simp only [List.take_zero, List.nil_append, Nat.zero_add, List.getD]
  by_cases hk : k < x.length
  · rw [List.getElem?_append_left hk, if_pos hk]
  · rw [List.getElem?_append_right (by omega), if_neg hk, List.getElem?_drop, show x.length + (k - x.length) = k by omega]

theorem getD_cut (l : List UInt8) (off m k : Nat) (hk : k < m) : (cut l off m).getD k 0 = l.getD (off + k) 0 := by
  simp [cut, List.getD, hk]

theorem res_in {pl dl : List UInt8} {m n o k : Nat} (hdl : dl.length = n) (ho : o < n) (hk : k < m) (h : k < n - o) : (resAt pl dl m n (o : Int)).getD k 0 = dl.getD (o + k) 0 := by
  have hx : (cut dl o m).length = Nat.min m (n - o) := by rw [cut_length, hdl]
  have hkx : k < (cut dl o m).length := by rw [hx]; exact Nat.lt_min.2 ⟨hk, h⟩
  rw [resAt, if_pos (by omega), Int.toNat_natCast, getD_splice, if_pos hkx, getD_cut _ _ _ _ hk]

theorem res_out {pl dl : List UInt8} {m n o k : Nat} (hdl : dl.length = n) (h : n - o ≤ k) : (resAt pl dl m n (o : Int)).getD k 0 = pl.getD k 0 := by
  have hx : (cut dl o m).length = Nat.min m (n - o) := by rw [cut_length, hdl]
  unfold resAt
  split
  · have hkx : ¬ k < (cut dl o m).length := by rw [hx]; exact Nat.not_lt.2 (Nat.le_trans (Nat.min_le_right _ _) h)
    rw [Int.toNat_natCast, getD_splice, if_neg hkx]
  · rfl

theorem res_not {pl dl : List UInt8} {m n : Nat} {off : Int} (h : ¬ (0 ≤ off ∧ off < n)) : resAt pl dl m n off = pl := by rw [resAt, if_neg h]

/-- The copy of the data that the law itself makes. -/
def CopyRel (w : World) (n : Nat) (dl : List UInt8) (v : Value) (wc : World) : Prop :=
  ∃ a1 c1, v = .slice a1 n c1 ∧ n ≤ c1 ∧ DataAt wc a1 n dl ∧ (∀ g, a1 = some ⟨g, 0, none⟩ → w.heap.size ≤ g ∧ g < wc.heap.size) ∧ Below w.heap.size w wc

theorem ArgAt.cells {w : World} {a : Option Addr} {n : Nat} {l : List UInt8} (h : ArgAt w a n l) (h0 : 0 < n) : ∃ b o, a = some ⟨b, o, none⟩ ∧ b < w.heap.size ∧ ∀ j, j < n → w.cell? ⟨b, o + j, none⟩ = some (.int .u8 (l.getD j 0).toNat) := by
  rcases h with ⟨_, h⟩ | ⟨ad, rfl, hc⟩
  · omega
  · have hspot : ad.spot = none := by simpa [Addr.add] using World.cell?_spot (hc 0 h0)
    obtain ⟨b, off, spot⟩ := ad
    obtain rfl : spot = none := hspot
    refine ⟨b, off, rfl, World.block_lt_of_cell? w _ (hc 0 h0), fun j hj => ?_⟩
    have := hc j hj
    rwa [Addr.add_lit] at this

set_option maxRecDepth 100000 in
set_option maxHeartbeats 2000000 in
theorem at_in (F : Interp) (a b : Option Addr) (n c m cb : Nat) (pos off : Int) (what : ByteArray) (dl pl : List UInt8) (ae : Addr) (w : World) (hF : F.answers w.tape) (hsum : n + m + what.size ≤ 1048576)
    (hdl : dl.length = n) (hpl : pl.length = m) (ha : ArgAt w a n dl) (hb : ArgAt w b m pl) (hmn : -9223372036854775808 ≤ off) (hmx : off ≤ 9223372036854775807)
    (hg : w.cell? ⟨0, 0, none⟩ = some (.iface 52 (.pointer (some ae)))) (hae : ∃ ca ta, w.heap[ae.block]? = some (.cells ca ta (0, 0))) :
    Calls Tryf.prog 4 #[.slice a n c, .int .i64 pos, .slice b m cb, .int .i64 off, .string what] w fun e w' => e = .returned (.bool true) ∧ Below w.heap.size w w' := by
  obtain ⟨i0, hi, hz0, hz1, hz2⟩ := info_parts Tryf.info5
  have C8 := hide (zz8_small a b n c m cb pos off what w hsum)
  have HPL := hide hpl
  have HDL := hide hdl
  have hn : n ≤ 1048576 := by omega
  have hm : m ≤ 1048576 := by omega
  clear hpl hdl
  go_enter Tryf.func4, Tryf.ntmps4
  go_upto_if 46 with (go_at_call 8; refine C8.out.mono ?_; rintro e w' ⟨rfl, rfl⟩)
  clear C8
  go_cut [0] from 20 (fun v wc => CopyRel w n dl v wc)
  case first =>
    rcases ha with ⟨rfl, rfl⟩ | ⟨ad, rfl, hcell⟩
    · go_wp2_with fail
      go_meet
      case rel => exact ⟨none, c, rfl, Nat.zero_le _, (fun h => absurd h (by omega)), (fun _ h => nomatch h), Below.refl _ _⟩
    · go_wp2_with (at_make; refine wpList_make_full _ rfl (.tmp 48) (.tmp 48) 22 rfl w.heap.size 5 i0 (.int .u8 0) 1 Tryf.underlying22 hi hz0 hz1 _ _ _ _ n rfl rfl rfl rfl (by rw [hz2]; omega) (by unfold maxLen; omega) (by omega) ?_)
      intro w1 hown hgrow
      have HR := hide (row_of_made hown)
      have hb1 : Below w.heap.size w w1 := (Below.refl _ _).grown hgrow (Nat.le_refl _) (by simp)
      have hs : SrcPos (some ad) dl w1 := (ArgAt.later (.inr ⟨ad, rfl, hcell⟩) hb1 (Nat.le_refl _)).src HDL.out
      have hd : DstPos (some ⟨w.heap.size, 0, none⟩) w.heap.size 0 dl := fun _ => rfl
      have HN : Hid (dl.length = Nat.min n n) := by rw [HDL.out]; exact hide (Nat.min_self n).symm
      have hfit : 0 + dl.length ≤ (List.replicate n (0 : UInt8)).length := by simp [HDL.out]
      clear hown hgrow hi hz0 hz1 hz2 hcell
      go_wp2_with ((with_reducible refine at_copy ?_); refine wpList_copy_kept rfl (.tmp 50) (.tmp 51) 22 22 rfl Tryf.underlying22 Tryf.size5 _ _ _ _ _ _ rfl rfl w.heap.size 0 (List.replicate n 0) dl HR.out HN.out hd hs hfit ?_)
      intro w2 HR2 hk2
      have e2 : splice (List.replicate n (0 : UInt8)) 0 dl = dl := splice_all _ _ (by simp [HDL.out])
      rw [e2] at HR2
      have HB2 := hide (hb1.trans (hk2.below hb1.size (by simp)))
      clear HR hb1 hs hd HN hfit hk2 e2
      go_wp2_with fail
      go_meet
      case rel => exact ⟨some ⟨w.heap.size, 0, none⟩, n, rfl, Nat.le_refl _, (fun _ => ⟨_, rfl, HR2.out⟩), (fun g h => by cases h; exact ⟨Nat.le_refl _, HR2.out.lt⟩), HB2.out⟩
  case rest =>
    obtain ⟨a1, c1, rfl, hnc, hd1, hlt1, hb1⟩ := hcut
    clear hi hz0 hz1 hz2 ha
    have C6 := hide (clone_at b m cb pl wc hm HPL.out (hb.later hb1 (Nat.le_refl _)))
    go_wp2_with fail
    refine C6.out.mono ?_
    rintro e w2 ⟨a2, c2, rfl, hmc, hbn, hlt2, hd2, hb2⟩
    have h0w : 0 < w.heap.size := World.block_lt_of_cell? w _ hg
    have hb12 : Below w.heap.size w w2 := hb1.trans (hb2.mono hb1.size)
    have hg2 := (hb12.cell (p := ⟨0, 0, none⟩) h0w).trans hg
    have hae2 : ∃ ca ta, w2.heap[ae.block]? = some (.cells ca ta (0, 0)) := by
      obtain ⟨ca, ta, h⟩ := hae
      exact ⟨ca, ta, (hb12.block _ (Array.getElem?_eq_some_iff.1 h).1).trans h⟩
    have hd12 : DataAt w2 a1 n dl := hd1.later (Kept.of_below (S := []) hb2) (by simp)
    have C9 := hide (zz_at F a2 m c2 n c1 a1 pos off what pl dl ae w2 (by rw [hb12.tape]; exact hF) hg2 hae2 hm hn hnc hd2 HPL.out hd12 HDL.out hmx (fun g h => ⟨by have := (hlt2 g h).1; have := hb1.size; omega, (hlt2 g h).2⟩) hbn)
    have hsep : ∀ g, a1 = some ⟨g, 0, none⟩ → g ∉ blocksOf a2 := by
      intro g h hm2
      rcases hbn with rfl | ⟨g2, rfl⟩
      · simp [blocksOf] at hm2
      · simp [blocksOf] at hm2; have := (hlt1 g h).2; have := (hlt2 g2 rfl).1; omega
    have hold : ∀ k ∈ blocksOf a2, w.heap.size ≤ k := by
      intro k hk
      rcases hbn with rfl | ⟨g2, rfl⟩
      · simp [blocksOf] at hk
      · simp [blocksOf] at hk; have := (hlt2 g2 rfl).1; have := hb1.size; omega
    have HARG := hide hb
    have HD12 := hide hd12
    have HSEP := hide hsep
    have HOLD := hide hold
    have HB12 := hide hb12
    clear hF hg hae hg2 hae2 hd1 hlt1 hlt2 hd2 hb2 hb1 C6 hd12 hsep hold hb12 hb hbn
    go_wp2_with fail
    refine C9.out.mono ?_
    rintro e w3 ⟨ev, rfl, hev, hq, hk3⟩
    have HB3 := hide (HB12.out.trans (hk3.below HB12.out.size HOLD.out))
    have HD3 := hide (HD12.out.later hk3 HSEP.out)
    have HARG3 := hide (HARG.out.later HB3.out (Nat.le_refl _))
    have HQ := hide hq
    clear hk3 hq C9 HARG HD12 HSEP HOLD HB12
    by_cases hm0 : m = 0
    · obtain rfl : ev = .nilIface := by
        rcases hev with ⟨_, h⟩ | ⟨h, _⟩
        · exact h
        · exact absurd (.inl hm0) h
      subst hm0
      clear hev HQ HD3 HARG3
      by_cases h0 : off < 0
      · have h0' : decide (0 ≤ off) = false := by simp; omega
        go_wp2_with fail
        refine wp_loop_rounds 1 ?_; rw [rounds_succ]
        go_wp2_with fail
        go_ret
        exact ⟨rfl, HB3.out⟩
      by_cases h1 : (n : Int) ≤ off
      · have h0' : decide (0 ≤ off) = true := by simp; omega
        have h2' : decide (off < (n : Int)) = false := by simp; omega
        go_wp2_with fail
        refine wp_loop_rounds 1 ?_; rw [rounds_succ]
        go_wp2_with fail
        go_ret
        exact ⟨rfl, HB3.out⟩
      · have h0' : decide (0 ≤ off) = true := by simp; omega
        have h2' : decide (off < (n : Int)) = true := by simp; omega
        go_wp2_with fail
        refine wp_loop_rounds 1 ?_; rw [rounds_succ]
        go_wp2_with fail
        go_ret
        exact ⟨rfl, HB3.out⟩
    have hm0' : ((m : Int) == 0) = false := by simp; omega
    by_cases h0 : off < 0
    · obtain ⟨x0, rfl⟩ : ∃ x, ev = .iface 52 (.pointer (some x)) := by
        rcases hev with ⟨h, _⟩ | ⟨_, h⟩
        · unfold WholeAt at h; omega
        · exact h
      have HRES := hide (res_not (pl := pl) (dl := dl) (m := m) (n := n) (off := off) (by omega))
      have h0' : decide (0 ≤ off) = false := by simp; omega
      clear hev HD3
      go_wp2_with fail
      go_loop [18] (fun v => ∃ k : Nat, k ≤ m ∧ v = .int .i64 k) (fun v => m - (intOf v).toNat)
      case atStart => exact ⟨0, Nat.zero_le _, rfl⟩
      case round =>
        obtain ⟨k, hk, rfl⟩ := hrel
        by_cases hlt : k < m
        · obtain ⟨b, o, rfl, _, hcp⟩ := HARG3.out.cells (by omega)
          obtain ⟨g, rfl, hrow⟩ := HQ.out (by omega)
          have g1 := hcp k hlt
          have g2 := hrow.cell k (by rw [HRES.out, HPL.out]; exact hlt)
          rw [HRES.out] at g2
          generalize (pl.getD k 0).toNat = x at *
          have hi2 : (k : Int) < (m : Int) := by omega
          clear hcp hrow
          go_wp2_with fail
          go_round
          case rel => exact ⟨k + 1, by omega, by go_num⟩
          case measure => simp [intOf]; omega
        · go_wp2_with fail
          go_ret
          exact ⟨rfl, HB3.out⟩
    by_cases h1 : (n : Int) ≤ off
    · obtain ⟨x0, rfl⟩ : ∃ x, ev = .iface 52 (.pointer (some x)) := by
        rcases hev with ⟨h, _⟩ | ⟨_, h⟩
        · unfold WholeAt at h; omega
        · exact h
      have HRES := hide (res_not (pl := pl) (dl := dl) (m := m) (n := n) (off := off) (by omega))
      have h0' : decide (0 ≤ off) = true := by simp; omega
      have h1' : ¬ off ≤ (n : Int) - (m : Int) := by omega
      have h2' : decide (off < (n : Int)) = false := by simp; omega
      clear hev HD3
      go_wp2_with fail
      go_loop [18] (fun v => ∃ k : Nat, k ≤ m ∧ v = .int .i64 k) (fun v => m - (intOf v).toNat)
      case atStart => exact ⟨0, Nat.zero_le _, rfl⟩
      case round =>
        obtain ⟨k, hk, rfl⟩ := hrel
        by_cases hlt : k < m
        · obtain ⟨b, o, rfl, _, hcp⟩ := HARG3.out.cells (by omega)
          obtain ⟨g, rfl, hrow⟩ := HQ.out (by omega)
          have g1 := hcp k hlt
          have g2 := hrow.cell k (by rw [HRES.out, HPL.out]; exact hlt)
          rw [HRES.out] at g2
          generalize (pl.getD k 0).toNat = x at *
          have hi2 : (k : Int) < (m : Int) := by omega
          clear hcp hrow
          go_wp2_with fail
          go_round
          case rel => exact ⟨k + 1, by omega, by go_num⟩
          case measure => simp [intOf]; omega
        · go_wp2_with fail
          go_ret
          exact ⟨rfl, HB3.out⟩
    obtain ⟨of, rfl⟩ := Int.eq_ofNat_of_zero_le (show 0 ≤ off by omega)
    have HLEN : Hid ((resAt pl dl m n (of : Int)).length = m) := by
      rw [resAt, if_pos (by omega), Int.toNat_natCast, length_splice _ _ _ (by rw [HPL.out, cut_length, HDL.out, Nat.zero_add]; exact Nat.min_le_left _ _), HPL.out]; exact hide rfl
    have h0' : decide (0 ≤ (of : Int)) = true := by simp
    have h2' : decide ((of : Int) < (n : Int)) = true := by simp; omega
    by_cases hfit : (of : Int) ≤ (n : Int) - (m : Int)
    · obtain rfl : ev = .nilIface := by
        rcases hev with ⟨_, h⟩ | ⟨h, _⟩
        · exact h
        · exact absurd (.inr (by omega)) h
      clear hev
      go_wp2_with fail
      go_loop [18] (fun v => ∃ k : Nat, k ≤ m ∧ v = .int .i64 k) (fun v => m - (intOf v).toNat)
      case atStart => exact ⟨0, Nat.zero_le _, rfl⟩
      case round =>
        obtain ⟨k, hk, rfl⟩ := hrel
        by_cases hlt : k < m
        · obtain ⟨b, o, rfl, _, hcp⟩ := HARG3.out.cells (by omega)
          obtain ⟨g, rfl, hrow⟩ := HQ.out (by omega)
          obtain ⟨ga, rfl, hrd⟩ := HD3.out (by omega)
          have g1 := hcp k hlt
          have g2 := hrow.cell k (by rw [HLEN.out]; exact hlt)
          have hi2 : (k : Int) < (m : Int) := by omega
          by_cases hin : k < n - of
          · have g3 := hrd.cell (of + k) (by rw [HDL.out]; omega)
            rw [res_in HDL.out (by omega) hlt hin] at g2
            generalize (pl.getD k 0).toNat = x at *
            generalize (dl.getD (of + k) 0).toNat = y at *
            have hi3 : (k : Int) < (n : Int) - (of : Int) := by omega
            have hi4 : (of : Int) + (k : Int) < (n : Int) := by omega
            clear hcp hrow hrd
            go_wp2_with fail
            go_round
            case rel => exact ⟨k + 1, by omega, by go_num⟩
            case measure => simp [intOf]; omega
          · rw [res_out HDL.out (by omega)] at g2
            generalize (pl.getD k 0).toNat = x at *
            have hi3 : ¬ (k : Int) < (n : Int) - (of : Int) := by omega
            clear hcp hrow hrd
            go_wp2_with fail
            go_round
            case rel => exact ⟨k + 1, by omega, by go_num⟩
            case measure => simp [intOf]; omega
        · go_wp2_with fail
          go_ret
          exact ⟨rfl, HB3.out⟩
    · obtain ⟨x0, rfl⟩ : ∃ x, ev = .iface 52 (.pointer (some x)) := by
        rcases hev with ⟨h, _⟩ | ⟨_, h⟩
        · unfold WholeAt at h; omega
        · exact h
      clear hev
      go_wp2_with fail
      go_loop [18] (fun v => ∃ k : Nat, k ≤ m ∧ v = .int .i64 k) (fun v => m - (intOf v).toNat)
      case atStart => exact ⟨0, Nat.zero_le _, rfl⟩
      case round =>
        obtain ⟨k, hk, rfl⟩ := hrel
        by_cases hlt : k < m
        · obtain ⟨b, o, rfl, _, hcp⟩ := HARG3.out.cells (by omega)
          obtain ⟨g, rfl, hrow⟩ := HQ.out (by omega)
          obtain ⟨ga, rfl, hrd⟩ := HD3.out (by omega)
          have g1 := hcp k hlt
          have g2 := hrow.cell k (by rw [HLEN.out]; exact hlt)
          have hi2 : (k : Int) < (m : Int) := by omega
          by_cases hin : k < n - of
          · have g3 := hrd.cell (of + k) (by rw [HDL.out]; omega)
            rw [res_in HDL.out (by omega) hlt hin] at g2
            generalize (pl.getD k 0).toNat = x at *
            generalize (dl.getD (of + k) 0).toNat = y at *
            have hi3 : (k : Int) < (n : Int) - (of : Int) := by omega
            have hi4 : (of : Int) + (k : Int) < (n : Int) := by omega
            clear hcp hrow hrd
            go_wp2_with fail
            go_round
            case rel => exact ⟨k + 1, by omega, by go_num⟩
            case measure => simp [intOf]; omega
          · rw [res_out HDL.out (by omega)] at g2
            generalize (pl.getD k 0).toNat = x at *
            have hi3 : ¬ (k : Int) < (n : Int) - (of : Int) := by omega
            clear hcp hrow hrd
            go_wp2_with fail
            go_round
            case rel => exact ⟨k + 1, by omega, by go_num⟩
            case measure => simp [intOf]; omega
        · go_wp2_with fail
          go_ret
          exact ⟨rfl, HB3.out⟩
end Go.Proofs.Qxb6613781aFmt
