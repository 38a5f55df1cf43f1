import Derived.Test.Qxb6613140aJoinedParts
namespace Go.Proofs.Qxb6613140a
open Go.ChangeShapes Go.WideShapes Go.ChangeAt Go.RowKit

/-- A slice of bytes that came in: nil, or its elements lie at an address. -/
def Arg (w : World) (a : Option Addr) (len : Nat) (zs : List Int) : Prop :=
  (a = none ∧ len = 0) ∨ ∃ ad, a = some ad ∧ ∀ j, j < len → w.cell? (ad.add j) = some (.int .u8 (zs.getD j 0))

theorem joined_first {la lb : Nat} {za zb : List Int} (hza : la ≤ za.length) (hzb : lb ≤ zb.length) : firstOf (la + lb) (za.take la ++ zb.take lb) = if la = 0 then firstOf lb zb else firstOf la za := by
  by_cases h : la = 0
  · subst h
    by_cases h' : lb = 0
    · subst h'; simp [firstOf]
    · match zb, hzb with
      | [], hzb => simp at hzb; omega
      | z :: zb, hzb => obtain ⟨m, rfl⟩ : ∃ m, lb = m + 1 := ⟨lb - 1, by omega⟩; simp [firstOf]
  · match za, hza with
    | [], hza => simp at hza; omega
    | z :: za, hza => obtain ⟨m, rfl⟩ : ∃ m, la = m + 1 := ⟨la - 1, by omega⟩; simp [firstOf]

theorem src_first {w : World} {a : Option Addr} {len : Nat} {zs : List Int} (hz : len ≤ zs.length) (h : Src w a len zs) (h0 : 0 < len) : ∃ g, a = some ⟨g, 0, none⟩ ∧ w.cell? ⟨g, 0, none⟩ = some (.int .u8 (firstOf len zs)) := by
  obtain ⟨g, rfl, hg⟩ := h h0
  refine ⟨g, rfl, ?_⟩
  rw [cell_of_row _ _ _ _ _ _ hg, List.getElem?_toArray, cellsOf8_get hz 0 h0, firstOf, if_neg (by omega)]

theorem firstOf_zero (zs : List Int) : firstOf 0 zs = 0 := rfl

set_option maxHeartbeats 1000000 in
theorem joined_in (a b : Option Addr) (la ca lb cb : Nat) (za zb : List Int) (w : World) (h1 : la ≤ 524288) (h2 : lb ≤ 524288) (hza : la ≤ za.length) (hzb : lb ≤ zb.length) (ha : Arg w a la za) (hb : Arg w b lb zb) :
    Calls Try.prog 3 #[.slice a la ca, .slice b lb cb] w fun e w' => e = .returned (.bool true) ∧ Below w.heap.size w w' := by
  obtain ⟨i0, hi, hz0, hz1, hz2⟩ := info_parts Try.info5
  go_enter Try.func3, Try.ntmps3
  go_upto_if 24 with (go_at_call 9; refine (bytes3_small _ _ _ _ _ _ _ (by omega)).mono ?_; rintro e w' ⟨rfl, rfl⟩)
  go_cut [0] from 13 (fun v wc => ∃ g c, v = .slice g la c ∧ Src wc g la za ∧ Below w.heap.size w wc)
  case first =>
    rcases ha with ⟨rfl, rfl⟩ | ⟨ad, rfl, hcell⟩
    · go_wp2_with fail
      go_meet
      case rel => exact ⟨none, ca, rfl, fun h => absurd h (by omega), Below.refl _ _⟩
    · go_wp2_with (at_make; refine wpList_make_full _ rfl (.tmp 26) (.tmp 26) 22 rfl w.heap.size 5 i0 (.int .u8 0) 1 Try.underlying22 hi hz0 hz1 _ _ _ _ la rfl rfl rfl rfl (by rw [hz2]; omega) (by unfold maxLen; omega) (by omega) ?_)
      intro w1 hown hgrow
      have HR1 := Hid.intro (row_of_made hown)
      have hb1 : Below w.heap.size w w1 := (Below.refl _ _).grown hgrow (Nat.le_refl _) (by simp)
      clear hown hgrow hi hz0 hz1 hz2
      have n1 : (cellsOf8 la za).length = Nat.min la la := by rw [cellsOf8_length hza]; simp
      have p1 : CopyPos (some ⟨w.heap.size, 0, none⟩) (some ad) w.heap.size 0 (cellsOf8 la za) w1 := fun _ => ⟨rfl, ad, rfl, cellsOf8_at hza fun j hj => (by rw [hb1.cell (World.block_lt_of_cell? w _ (hcell j hj))]; exact hcell j hj)⟩
      have f1 : 0 + (cellsOf8 la za).length ≤ (List.replicate la (Value.int .u8 0)).length := by rw [cellsOf8_length hza]; simp
      go_wp2_with ((with_reducible refine at_copy ?_); refine wpList_copy_splice rfl (.tmp 28) (.tmp 29) 22 22 rfl 5 Try.underlying22 Try.size5 _ _ _ _ _ _ rfl rfl w.heap.size 0 (List.replicate la (.int .u8 0)) 5 HR1.out (cellsOf8 la za) n1 p1 f1 cellsOf8_one w.heap.size w hb1 (Nat.le_refl _) ?_)
      intro w2 HR2 hb2
      have e2 : splice (List.replicate la (Value.int .u8 0)) 0 (cellsOf8 la za) = cellsOf8 la za := by simp [splice, cellsOf8_length hza]
      have HR3 : Hid (w2.heap[w.heap.size]? = some (.cells (cellsOf8 la za).toArray 5 (0, 0))) := by rw [e2] at HR2; exact HR2
      clear HR1 n1 p1 f1 HR2 e2 hb1 hcell
      go_wp2_with fail
      go_meet
      case rel => exact ⟨_, la, rfl, fun _ => ⟨_, rfl, HR3.out⟩, hb2⟩

  case rest =>
    obtain ⟨ga, cc, rfl, hsa, hbc⟩ := hcut
    have hb' : Arg wc b lb zb := by
      rcases hb with h | ⟨ad, rfl, hcell⟩
      · exact .inl h
      · exact .inr ⟨ad, rfl, fun j hj => (hbc.cell (World.block_lt_of_cell? w _ (hcell j hj))).trans (hcell j hj)⟩
    have hs := hbc.size
    clear ha hb
    go_upto_if 33 with fail
    go_cut [1] from 13 (fun v wd => ∃ g c, v = .slice g lb c ∧ Src wd g lb zb ∧ Below wc.heap.size wc wd)
    case first =>
      rcases hb' with ⟨rfl, rfl⟩ | ⟨ad, rfl, hcell⟩
      · go_wp2_with fail
        go_meet
        case rel => exact ⟨none, cb, rfl, fun h => absurd h (by omega), Below.refl _ _⟩
      · go_wp2_with (at_make; refine wpList_make_full _ rfl (.tmp 35) (.tmp 35) 22 rfl w.heap.size 5 i0 (.int .u8 0) 1 Try.underlying22 hi hz0 hz1 _ _ _ _ lb rfl rfl rfl rfl (by rw [hz2]; omega) (by unfold maxLen; omega) (by omega) ?_)
        intro w1 hown hgrow
        have HR1 := Hid.intro (row_of_made hown)
        have hb1 : Below wc.heap.size wc w1 := (Below.refl _ _).grown hgrow (Nat.le_refl _) (by simp)
        clear hown hgrow hi hz0 hz1 hz2
        have n1 : (cellsOf8 lb zb).length = Nat.min lb lb := by rw [cellsOf8_length hzb]; simp
        have p1 : CopyPos (some ⟨wc.heap.size, 0, none⟩) (some ad) wc.heap.size 0 (cellsOf8 lb zb) w1 := fun _ => ⟨rfl, ad, rfl, cellsOf8_at hzb fun j hj => (by rw [hb1.cell (World.block_lt_of_cell? wc _ (hcell j hj))]; exact hcell j hj)⟩
        have f1 : 0 + (cellsOf8 lb zb).length ≤ (List.replicate lb (Value.int .u8 0)).length := by rw [cellsOf8_length hzb]; simp
        go_wp2_with ((with_reducible refine at_copy ?_); refine wpList_copy_splice rfl (.tmp 37) (.tmp 38) 22 22 rfl 5 Try.underlying22 Try.size5 _ _ _ _ _ _ rfl rfl wc.heap.size 0 (List.replicate lb (.int .u8 0)) 5 HR1.out (cellsOf8 lb zb) n1 p1 f1 cellsOf8_one wc.heap.size wc hb1 (Nat.le_refl _) ?_)
        intro w2 HR2 hb2
        have e2 : splice (List.replicate lb (Value.int .u8 0)) 0 (cellsOf8 lb zb) = cellsOf8 lb zb := by simp [splice, cellsOf8_length hzb]
        have HR3 : Hid (w2.heap[wc.heap.size]? = some (.cells (cellsOf8 lb zb).toArray 5 (0, 0))) := by rw [e2] at HR2; exact HR2
        clear HR1 n1 p1 f1 HR2 e2 hb1 hcell
        go_wp2_with fail
        go_meet
        case rel => exact ⟨_, lb, rfl, fun _ => ⟨_, rfl, HR3.out⟩, hb2⟩

    case rest =>
      obtain ⟨gb, cd, rfl, hsb, hbd⟩ := hcut
      have hsa' := hsa.later hbd
      have hbw := hbc.trans (hbd.mono hs)
      clear hsa hbc hbd hb' hi hz0 hz1 hz2
      go_wp2_with fail
      refine (concat_any ga gb la cc lb cd za zb wc (by omega) hza hzb hsa' hsb).mono ?_
      rintro e w3 ⟨gj, hgj, rfl, hrow, hb3⟩
      have hsa3 := hsa'.later hb3
      have hsb3 := hsb.later hb3
      have hbw3 := hbw.trans (hb3.mono hbw.size)
      have R1 := raws_row gj (la + lb) (la + lb) (za.take la ++ zb.take lb) w3 (by omega) (by simp; omega) hrow
      rw [joined_first hza hzb] at R1
      generalize hgot : (if la = 0 then firstOf lb zb else firstOf la za) = got at R1
      have HG := Hid.intro hgot
      have HR1 := Hid.intro R1
      clear R1 hgot hrow hsa' hsb hb3 hbw
      go_wp2_with fail
      refine HR1.out.mono ?_
      rintro e w4 ⟨rfl, hb4⟩
      have hsa4 := hsa3.later hb4
      have hsb4 := hsb3.later hb4
      have hbw4 := hbw3.trans (hb4.mono hbw3.size)
      have HR2 := Hid.intro (raws_src ga la cc za w4 (by omega) hza hsa4)
      clear HR1 hsa3 hsb3 hb4 hbw3
      go_wp2_with fail
      refine HR2.out.mono ?_
      rintro e w5 ⟨rfl, hb5⟩
      have hsa5 := hsa4.later hb5
      have hsb5 := hsb4.later hb5
      have hbw5 := hbw4.trans (hb5.mono hbw4.size)
      have HR3 := Hid.intro (raws_src gb lb cd zb w5 (by omega) hzb hsb5)
      clear HR2 hsa4 hsb4 hb5 hbw4
      go_wp2_with fail
      refine HR3.out.mono ?_
      rintro e w6 ⟨rfl, hb6⟩
      have hsa6 := hsa5.later hb6
      have hsb6 := hsb5.later hb6
      have HB := Hid.intro (hbw5.trans (hb6.mono hbw5.size))
      clear HR3 hsa5 hsb5 hb6 hbw5
      by_cases hla : la = 0
      · obtain rfl : firstOf lb zb = got := by have := HG.out; rwa [if_pos hla] at this
        subst hla
        by_cases hlb : lb = 0
        · subst hlb
          have hf := firstOf_zero
          clear hsa6 hsb6
          go_wp2_with fail
          go_ret
          exact ⟨rfl, HB.out⟩
        · obtain ⟨g, rfl, hc⟩ := src_first hzb hsb6 (by omega)
          have hl : (0 : Int) < (lb : Int) := by omega
          clear hsa6 hsb6
          go_wp2_with fail
          go_ret
          exact ⟨rfl, HB.out⟩
      · obtain rfl : firstOf la za = got := by have := HG.out; rwa [if_neg hla] at this
        obtain ⟨g, rfl, hc⟩ := src_first hza hsa6 (by omega)
        have hl : (0 : Int) < (la : Int) := by omega
        clear hsa6 hsb6
        go_wp2_with fail
        go_ret
        exact ⟨rfl, HB.out⟩
end Go.Proofs.Qxb6613140a
