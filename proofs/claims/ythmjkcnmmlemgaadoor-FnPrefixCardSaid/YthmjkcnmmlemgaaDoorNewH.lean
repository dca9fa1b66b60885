/-
  decodeVersion, decodeCost, newFromHash, Cost of a text of sixty bytes whose head is '$', a version of at most '2', 'a', a byte, two digits of a cost of 4 to 31: what is laid; nothing that was there turns.
-/
import Derived.Test.YthmjkcnmmlemgaaDoorHRow
import Derived.Test.YthmjkcnmmlemgaaDoorAtoi
import Derived.Deep.RegionLaw
namespace Go.Proofs.YthmjkcnmmlemgaaDoor
open Go.RowKit

set_option maxHeartbeats 1000000 in
theorem decodeVersion_ok (gp g c k vv : Nat) (u s : Value) (T : List Nat) (w : World) (hr : HRow w gp u s k 0 0) (hb : Bts w g 60 T) (hne : g ≠ gp) (h0 : byteAt T 0 = 36) (h1 : byteAt T 1 = vv) (hv : vv ≤ 50) (h2 : byteAt T 2 = 97) :
    Calls Tryd.prog 24 #[.pointer (some ⟨gp, 0, none⟩), .slice (some ⟨g, 0, none⟩) 60 c] w fun e w' => e = .returned (.tuple #[.int .i64 4, .nilIface]) ∧ HRow w' gp u s k vv 97 ∧ w.grownBy w' (some gp) := by
  have c0 := (hb 0 (by decide)).2
  have c1 := (hb 1 (by decide)).2
  have c2 := (hb 2 (by decide)).2
  rw [h0] at c0
  rw [h1] at c1
  rw [h2] at c2
  have c3 := row_cell hr 3
  have c4 := row_cell hr 4
  have f3 := row_free hr 3
  have f4 := row_free hr 4
  have e3 : w.cell? ⟨gp, 3, none⟩ = some (.int .u8 0) := c3
  have e4 : w.cell? ⟨gp, 4, none⟩ = some (.int .u8 0) := c4
  have hne' : gp ≠ g := fun h => hne h.symm
  have d1 : ¬ ((50 : Int) < (vv : Int)) := by omega
  have H := hid hr
  clear hr hb h0 h1 h2 c3 c4
  go_enter Tryd.func24, Tryd.ntmps24
  go_wp2_with fail
  go_ret2
  exact ⟨rfl, row_set (row_set H.out 3 _) 4 _, grown_trans (grown_setCell w gp 3 _) (grown_setCell _ gp 4 _)⟩

theorem textOf_two {q r : Nat} : (textOf [48 + q, 48 + r]).data.toList = dig2 q r := by
  unfold textOf
  rw [strOfNums_data]
  rfl

set_option maxHeartbeats 1000000 in
theorem decodeCost_ok (gp g c q r vv : Nat) (u s : Value) (T : List Nat) (w : World) (hr : HRow w gp u s 0 vv 97) (hb : Bts w g 60 T) (hc : 60 ≤ c) (hq : q < 10) (hrr : r < 10) (h4 : byteAt T 4 = 48 + q) (h5 : byteAt T 5 = 48 + r) (hk1 : 4 ≤ 10 * q + r) (hk2 : 10 * q + r ≤ 31) :
    Calls Tryd.prog 25 #[.pointer (some ⟨gp, 0, none⟩), .slice (some ⟨g, 4, none⟩) 56 (c - 4)] w fun e w' => e = .returned (.tuple #[.int .i64 3, .nilIface]) ∧ HRow w' gp u s (10 * q + r) vv 97 ∧ w.grownBy w' (some gp) := by
  have htx : (convert 22 9 (.slice (some ⟨g, 4, none⟩) 2 (c - 4))).run Tryd.prog w = .ok (.string (textOf [48 + q, 48 + r])) w := text_of_cells (xs := [48 + q, 48 + r]) rfl (fun j hj => by
    rcases (show j = 0 ∨ j = 1 by omega) with rfl | rfl
    · have := (hb 4 (by decide)).2; rw [h4] at this; exact this
    · have := (hb 5 (by decide)).2; rw [h5] at this; exact this)
  obtain ⟨st, hst⟩ : ∃ st, st = textOf [48 + q, 48 + r] := ⟨_, rfl⟩
  rw [← hst] at htx
  have HST : Hid (st.data.toList = dig2 q r) := hid (by rw [hst]; exact textOf_two)
  have H := hid hr
  have n1 : ¬ (c - 4 = 0) := by omega
  have n2 : (2 : Int) ≤ ((c - 4 : Nat) : Int) := by omega
  obtain ⟨d, hd⟩ : ∃ d, d = c - 4 := ⟨_, rfl⟩
  rw [← hd] at htx n1 n2 ⊢
  obtain ⟨k, hk⟩ : ∃ k, k = 10 * q + r := ⟨_, rfl⟩
  rw [← hk] at hk1 hk2 ⊢
  have HK := hid hk
  clear hr hb h4 h5 hst hd hk
  go_enter Tryd.func25, Tryd.ntmps25
  go_wp2_with fail
  refine (atoi_two st q r w hq hrr HST.out).mono ?_
  rintro e w1 ⟨rfl, hb1⟩
  rw [← HK.out]
  have hg1 := grown_of_below hb1 none
  have hr1 := H.out.grown hg1 (by simp)
  have e2 : w1.cell? ⟨gp, 2, none⟩ = some (.int .i64 0) := row_cell hr1 2
  have f2 := row_free hr1 2
  have H1 := hid (And.intro hr1 hg1)
  clear hb1 hg1 hr1
  go_wp2_with fail
  refine (checkCost_ok k w1 hk1 hk2).mono ?_
  rintro e w1' ⟨rfl, rfl⟩
  go_wp2_with fail
  go_ret2
  exact ⟨rfl, row_set H1.out.1 2 _, grown_trans (grown_any H1.out.2 _) (grown_setCell w1 gp 2 _)⟩

/-- What newFromHash leaves: the salt's 22 signs, the 31 behind them. -/
def NewHPost (T : List Nat) (k vv : Nat) (w : World) (e : Ending) (w' : World) : Prop :=
  ∃ gp gs gh, w.heap.size ≤ gp ∧ gp < gs ∧ gs < gh ∧ gh < w'.heap.size ∧ e = .returned (.tuple #[.pointer (some ⟨gp, 0, none⟩), .nilIface]) ∧ HRow w' gp (.slice (some ⟨gh, 0, none⟩) 31 31) (.slice (some ⟨gs, 0, none⟩) 22 24) k vv 97 ∧
    BRow w' gs 24 (putL (fun _ => 0) 0 22 (fun j => byteAt T (7 + j))) ∧ BRow w' gh 31 (putL (fun _ => 0) 0 31 (fun j => byteAt T (29 + j))) ∧ w.grownBy w' none

theorem bts_off {w0 w : World} {g n off m : Nat} {T : List Nat} (h : Bts w0 g n T) (hg : w0.grownBy w none) (ho : off + m ≤ n) : ∀ j, j < m → byteAt T (off + j) < 256 ∧ w.cell? ⟨g, off + j, none⟩ = some (.int .u8 (byteAt T (off + j) : Nat)) := by
  intro j hj
  have e := (h.grown hg (by simp)) (off + j) (by omega)
  rw [Nat.zero_add] at e
  exact e
theorem hrow_step {w0 w w' : World} {gp g k vv mn : Nat} {u s : Value} (h : HRow w gp u s k vv mn) (h0 : w0.grownBy w none) (hg : w.grownBy w' (some g)) (hne : gp ≠ g) (hgl : w0.heap.size ≤ g) : HRow w' gp u s k vv mn ∧ w0.grownBy w' none :=
  ⟨h.grown hg (by simp; exact hne), grown_new h0 hg hgl⟩

set_option maxHeartbeats 4000000 in
set_option maxRecDepth 100000 in
theorem newFromHash_ok (g c q r vv : Nat) (T : List Nat) (w : World) (hb : Bts w g 60 T) (hc : 60 ≤ c) (hq : q < 10) (hrr : r < 10) (h0 : byteAt T 0 = 36) (h1 : byteAt T 1 = vv) (hv : vv ≤ 50) (h2 : byteAt T 2 = 97) (h4 : byteAt T 4 = 48 + q) (h5 : byteAt T 5 = 48 + r) (hk1 : 4 ≤ 10 * q + r) (hk2 : 10 * q + r ≤ 31) :
    Calls Tryd.prog 21 #[.slice (some ⟨g, 0, none⟩) 60 c] w (NewHPost T (10 * q + r) vv w) := by
  obtain ⟨i0, hi, hz0, hz1, hz2⟩ := info_parts infoByte
  obtain ⟨i1, hi1, hzz1⟩ := infoHashed'
  have hgl : g < w.heap.size := block_lt_of_cell (hb 0 (by decide)).2
  have H := hid (And.intro hb (And.intro h0 (And.intro h1 (And.intro h2 (And.intro h4 h5)))))
  obtain ⟨k, hk⟩ : ∃ k, k = 10 * q + r := ⟨_, rfl⟩
  rw [← hk] at hk1 hk2 ⊢
  have HK := hid hk
  clear hb h0 h1 h2 h4 h5 hk
  have n1 : ¬ (c = 4) := by omega
  have n2 : ¬ (c - 4 = 3) := by omega
  have n3 : ¬ (c - 7 = 22) := by omega
  have n4 : ¬ (c - 7 = 0) := by omega
  have n5 : (22 : Int) ≤ ((c - 7 : Nat) : Int) := by omega
  have n6 : c - 4 - 3 = c - 7 := by omega
  have n7 : c - 7 - 22 = c - 29 := by omega
  go_enter Tryd.func21, Tryd.ntmps21
  go_wp2_with ((with_reducible refine atOp (o := ⟨some 12, _, _, _, _, _⟩) ?_); refine wpList_alloc_row rfl 59 rfl i1 hi1 _ hzz1 _ rfl ?_; intro w1 hr1 hl1 hg1; have H1 := hid (And.intro hr1.out hg1.out); clear hr1 hg1)
  obtain ⟨gp, hgp⟩ : ∃ gp, gp = w.heap.size := ⟨_, rfl⟩
  have hR1 : Hid (HRow w1 gp (.slice none 0 0) (.slice none 0 0) 0 0 0 ∧ w.grownBy w1 none) := hid ⟨by rw [hgp]; exact H1.out.1, H1.out.2⟩
  have hgw : w.heap.size ≤ gp := by omega
  have hne : g ≠ gp := by omega
  rw [← hgp]
  clear hgp H1
  refine (decodeVersion_ok gp g c 0 vv _ _ T w1 hR1.out.1 (H.out.1.grown hR1.out.2 (by simp)) hne H.out.2.1 H.out.2.2.1 hv H.out.2.2.2.1).mono ?_
  rintro e w2 ⟨rfl, hr2, hg2⟩
  have H2 := hid (And.intro hr2 (grown_new hR1.out.2 hg2 hgw))
  clear hr2 hg2
  go_wp2_with fail
  refine Calls.mono (decodeCost_ok gp g c q r vv _ _ T w2 H2.out.1 (H.out.1.grown H2.out.2 (by simp)) hc hq hrr H.out.2.2.2.2.1 H.out.2.2.2.2.2 (by rw [← HK.out]; exact hk1) (by rw [← HK.out]; exact hk2)) ?_
  rw [← HK.out]
  rintro e w3 ⟨rfl, hr3, hg3⟩
  have H3 := hid (And.intro hr3 (grown_new H2.out.2 hg3 hgw))
  have hgp3 : gp < w3.heap.size := row_lt hr3
  clear hr3 hg3
  go_upto_region 13 with ((with_reducible refine atOp (o := ⟨some 38, _, _, _, _, _⟩) ?_); refine wpList_make_brow rfl (.const (.int .i64 22)) (.const (.int .i64 24)) 22 rfl i0 Tryd.underlying22 hi hz0 hz1 hz2 .i64 .i64 _ _ 22 24 rfl rfl rfl rfl (by decide) (by decide) ?_; intro w4 hb4 hl4 hg4; have H4 := hid (And.intro hb4.out (And.intro (H3.out.1.grown hg4.out (by simp)) (grown_trans H3.out.2 hg4.out))); have c1 : w4.cell? ⟨gp, 1, none⟩ = some (.slice none 0 0) := row_cell H4.out.2.1 1; have f1 := row_free H4.out.2.1 1; clear hb4 hg4)
  obtain ⟨gs, hgs⟩ : ∃ gs, gs = w3.heap.size := ⟨_, rfl⟩
  rw [← hgs] at H4 ⊢
  have hps : gp < gs := by omega
  have hws : w.heap.size ≤ gs := by omega
  have hgns : g ≠ gs := by omega
  obtain ⟨w5, hw5⟩ : ∃ w5, w5 = w4.setCell ⟨gp, 1, none⟩ (.slice (some ⟨gs, 0, none⟩) 22 24) := ⟨_, rfl⟩
  have h45 := grown_setCell w4 gp 1 (.slice (some ⟨gs, 0, none⟩) 22 24)
  rw [← hw5] at h45 ⊢
  have hR5 : HRow w5 gp (.slice none 0 0) (.slice (some ⟨gs, 0, none⟩) 22 24) k vv 97 := by rw [hw5]; exact row_set H4.out.2.1 1 _
  have H5 := hid (And.intro (H4.out.1.grown h45 (by simp; omega)) (And.intro hR5 (grown_new H4.out.2.2 h45 hgw)))
  have c1' : w5.cell? ⟨gp, 1, none⟩ = some (.slice (some ⟨gs, 0, none⟩) 22 24) := row_cell H5.out.2.1 1
  have hgsl5 : gs < w5.heap.size := by obtain ⟨cs, hr, _⟩ := H5.out.1; exact row_lt hr
  clear hgs hw5 h45 hR5 c1 f1 H4 hl4 hgp3 H3 H2 hR1
  go_cut [0] from 41 to 47 (fun v wx => v = .slice (some ⟨g, 7, none⟩) 53 (c - 7) ∧ gs < wx.heap.size ∧ Hid (BRow wx gs 24 (putL (fun _ => 0) 0 22 (fun j => byteAt T (7 + j))) ∧ HRow wx gp (.slice none 0 0) (.slice (some ⟨gs, 0, none⟩) 22 24) k vv 97 ∧ w.grownBy wx none))
  case first =>
    go_region_law (refine step_copy_bytes rfl (.tmp 44) (.tmp 46) 22 22 rfl Tryd.underlying22 (by kernel_rfl) gs 0 22 24 g 7 22 (c - 7) 22 24 _ (fun j => byteAt T (7 + j)) (by simp [Act.eval]) (by simp [Act.eval]) (brow_drew H5.out.1) rfl (bts_off H.out.1 (grown_trans H5.out.2.2 (grown_drew _ _)) (by decide)) (by decide) ?_; intro w6 hb6 hs6 hg6; have H6 := hid (And.intro hb6.out (hrow_step H5.out.2.1 H5.out.2.2 (drew_grown hg6.out) (by omega) hws)); have hs6' : gs < w6.heap.size := (by rw [hs6]; exact hgsl5); clear hb6 hs6 hg6)
    all_goals
      go_wp2_with fail
      go_meet
      exact ⟨rfl, hs6', hid ⟨H6.out.1, H6.out.2.1, H6.out.2.2⟩⟩
  case rest =>
    obtain ⟨rfl, hgsl6, H6⟩ := hcut
    clear H5 c1' hgsl5
    go_upto_region 16 with ((with_reducible refine atOp (o := ⟨some 53, _, _, _, _, _⟩) ?_); refine wpList_make_brow rfl (.tmp 52) (.tmp 52) 22 rfl i0 Tryd.underlying22 hi hz0 hz1 hz2 .i64 .i64 _ _ 31 31 rfl rfl rfl rfl (by decide) (by decide) ?_; intro w7 hb7 hl7 hg7; have H7 := hid (And.intro hb7.out (And.intro (H6.out.2.1.grown hg7.out (by simp)) (And.intro (H6.out.1.grown hg7.out (by simp)) (grown_trans H6.out.2.2 hg7.out)))); have c0 : w7.cell? ⟨gp, 0, none⟩ = some (.slice none 0 0) := row_cell H7.out.2.1 0; have f0 := row_free H7.out.2.1 0; clear hb7 hg7)
    obtain ⟨gh, hgh⟩ : ∃ gh, gh = wc.heap.size := ⟨_, rfl⟩
    rw [← hgh] at H7 hgsl6 hl7 ⊢
    obtain ⟨w8, hw8⟩ : ∃ w8, w8 = w7.setCell ⟨gp, 0, none⟩ (.slice (some ⟨gh, 0, none⟩) 31 31) := ⟨_, rfl⟩
    have h78 := grown_setCell w7 gp 0 (.slice (some ⟨gh, 0, none⟩) 31 31)
    rw [← hw8] at h78 ⊢
    have hR8 : HRow w8 gp (.slice (some ⟨gh, 0, none⟩) 31 31) (.slice (some ⟨gs, 0, none⟩) 22 24) k vv 97 := by rw [hw8]; exact row_set H7.out.2.1 0 _
    have H8 := hid (And.intro (H7.out.1.grown h78 (by simp; omega)) (And.intro (H7.out.2.2.1.grown h78 (by simp; omega)) (And.intro hR8 (grown_new H7.out.2.2.2 h78 hgw))))
    have c0' : w8.cell? ⟨gp, 0, none⟩ = some (.slice (some ⟨gh, 0, none⟩) 31 31) := row_cell H8.out.2.2.1 0
    have hghl : gh < w8.heap.size := by obtain ⟨cs, hr, _⟩ := H8.out.1; exact row_lt hr
    have hgw8 : w.heap.size ≤ gh := by omega
    clear hgh hw8 h78 hR8 c0 f0 H7 H6
    go_wp2_with ((with_reducible refine atOp (o := ⟨some 61, _, _, _, _, _⟩) ?_); refine wpList_copy_bytes rfl (.tmp 59) (.tmp 60) 22 22 rfl Tryd.underlying22 (by kernel_rfl) gh 0 31 31 g 29 31 (c - 29) 31 31 _ (fun j => byteAt T (29 + j)) rfl rfl H8.out.1 rfl (bts_off H.out.1 H8.out.2.2.2 (by decide)) (by decide) ?_; intro w9 hb9 hs9 hg9; have H9 := hid (And.intro hb9.out (And.intro (H8.out.2.1.grown hg9.out (by simp; omega)) (And.intro (hrow_step H8.out.2.2.1 H8.out.2.2.2 hg9.out (by omega) hgw8) hs9))); clear hb9 hg9 hs9)
    go_ret2
    exact ⟨gp, gs, gh, hgw, hps, hgsl6, by rw [H9.out.2.2.2]; exact hghl, rfl, H9.out.2.2.1.1, H9.out.2.1, H9.out.1, H9.out.2.2.1.2⟩
#print axioms newFromHash_ok
end Go.Proofs.YthmjkcnmmlemgaaDoor
