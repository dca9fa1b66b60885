/-
  newFromPassword: what is laid for a password, a cost of 4 to 31 and sixteen bytes of salt; nothing that was there turns.
-/
import Derived.Test.YtmglaaejobbbiaaDoorRaw
import Derived.Test.YtmglaaejobbbiaaDoorHRow
namespace Go.Proofs.YtmglaaejobbbiaaDoor
open Go.RowKit

theorem SrcB.mono {base base' : Nat} {w : World} {a : Option Addr} {len : Nat} {xs : List Nat} (h : SrcB base w a len xs) (hb : base ≤ base') : SrcB base' w a len xs := by
  refine ⟨h.1, ?_⟩
  rcases h.2 with h0 | ⟨b, o, ha, hbl, hx, hs⟩
  · exact .inl h0
  · exact .inr ⟨b, o, ha, Nat.lt_of_lt_of_le hbl hb, hx, hs⟩

def NewPost (k : Nat) (ss L : List Nat) (w : World) (e : Ending) (w' : World) : Prop :=
  ∃ gp u s, w.heap.size ≤ gp ∧ e = .returned (.tuple #[.pointer (some ⟨gp, 0, none⟩), .nilIface]) ∧ HRow w' gp u s k 50 97 ∧ Own w' w.heap.size u (signs L) ∧ Own w' w.heap.size s (signs ss) ∧ w.grownBy w' none

set_option maxHeartbeats 2000000 in
set_option maxRecDepth 100000 in
theorem newFromPassword_any (a : Option Addr) (n c k rb ro rc : Nat) (xs ss : List Nat) (t M : Nat → Nat) (w : World) (hn : n ≤ 72) (hnc : n ≤ c) (hnone : a = none → c = 0) (hk : 4 ≤ k) (hk2 : k ≤ 31) (hsrc : Src w a n xs) (hss : ss.length = 16) (hsb : Bytes ss)
    (hr : ∀ j, j < 16 → w.cell? ⟨rb, ro + j, none⟩ = some (.int .u8 (byteAt ss j : Nat))) (hg : Glob w t) (hgb : globTop ≤ w.heap.size) (hm : Mag w M) :
    Calls Tryd.prog 13 #[.slice a n c, .int .i64 (k : Nat), .slice (some ⟨rb, ro, none⟩) 16 rc] w (NewPost k ss (rawL t M xs ss k) w) := by
  obtain ⟨i0, hi, hz0, hz1, hz2⟩ := info_parts infoByte
  obtain ⟨i1, hi1, hzz1⟩ := infoHashed'
  have hrb : rb < w.heap.size := block_lt_of_cell (hr 0 (by decide))
  have H := hid (And.intro hsrc (And.intro hss (And.intro hsb (And.intro hr (And.intro hg hm)))))
  have d1 : ¬ ((k : Int) < 4) := by omega
  clear hsrc hss hsb hr hg hm
  go_enter Tryd.func13, Tryd.ntmps13
  go_upto_region 4 with ((with_reducible refine atOp (o := ⟨some 14, _, _, _, _, _⟩) ?_); refine wpList_alloc_row rfl 46 rfl i1 hi1 _ hzz1 _ rfl ?_; intro w1 hr1 hl1 hg1; have H1 := hid (And.intro hr1.out hg1.out); clear hr1 hg1)
  obtain ⟨gp, hgp⟩ : ∃ gp, gp = w.heap.size := ⟨_, rfl⟩
  have hR1 : Hid (HRow w1 gp (.slice none 0 0) (.slice none 0 0) 0 0 0 ∧ w.grownBy w1 none) := hid ⟨by rw [hgp]; exact H1.out.1, H1.out.2⟩
  have c2 := row_cell hR1.out.1 2
  have c3 := row_cell hR1.out.1 3
  have c4 := row_cell hR1.out.1 4
  have f2 := row_free hR1.out.1 2
  have f3 := row_free hR1.out.1 3
  have f4 := row_free hR1.out.1 4
  have hgp1 : gp < w1.heap.size := by omega
  have hgw : w.heap.size ≤ gp := by omega
  rw [← hgp]
  have HGP := hid hgp
  clear hgp H1
  go_wp2_with fail
  refine Calls.mono (checkCost_ok k _ hk hk2) ?_
  rintro e w' ⟨rfl, rfl⟩
  go_wp2_with (first
    | ((with_reducible refine atOp (o := ⟨some 30, _, _, _, _, _⟩) ?_); refine wpList_make_full _ rfl (.const (.int .i64 16)) (.const (.int .i64 16)) 22 rfl w1.heap.size 5 i0 (.int .u8 0) 1 Tryd.underlying22 hi hz0 hz1 .i64 .i64 _ _ 16 rfl rfl rfl rfl (by rw [hz2]; omega) (by unfold maxLen; omega) (by simp) ?_; intro w3 hown hg3; have H3 := hid (And.intro (show BRow w3 w1.heap.size 16 (fun _ => 0) from (by simpa using made_brow hown)) (hrow_laid hR1.out.1 hR1.out.2 (by omega) hg3)); clear hown hg3)
    | ((with_reducible refine atOp (o := ⟨some 33, _, _, _, _, _⟩) ?_); refine wpList_copy_bytes rfl (.tmp 31) (.tmp 32) 22 22 rfl Tryd.underlying22 (by kernel_rfl) w1.heap.size 0 16 16 rb ro 16 rc 16 16 _ (byteAt ss) rfl rfl H3.out.1 rfl (fun j hj => ⟨H.out.2.2.1 j, (grown_cell H3.out.2.2 (p := ⟨rb, ro + j, none⟩) hrb (by simp)).trans (H.out.2.2.2.1 j hj)⟩) (by decide) ?_; intro w4 hb4 hs4 hg4; have H4 := hid (And.intro hb4.out (And.intro (H3.out.2.1.grown hg4.out (by simp; omega)) (grown_new H3.out.2.2 hg4.out (by omega)))); clear hb4 hg4 hs4))
  obtain ⟨gu, hgu⟩ : ∃ gu, gu = w1.heap.size := ⟨_, rfl⟩
  rw [← hgu] at H4 ⊢
  have hgpu : gp < gu := by omega
  have hcell : ∀ j, j < 16 → w4.cell? ⟨gu, 0 + j, none⟩ = some (.int .u8 (byteAt ss j : Nat)) := fun j hj => by
    rw [Nat.zero_add, H4.out.1.cell hj]
    simp [putL, hj]
  have hgul : gu < w4.heap.size := block_lt_of_cell (hcell 0 (by decide))
  clear hgu c2 c3 c4 f2 f3 f4 hR1 H3 hgp1 hl1
  refine Calls.mono (base64Encode_any gu 0 16 16 ss w4 (by decide) (by decide) (by decide) H.out.2.1 H.out.2.2.1 hcell) ?_
  rintro e w5 ⟨s, rfl, hs5, hb5⟩
  have hg5 := grown_of_below hb5 none
  have hsl : (signs ss).length = 22 := by rw [signs_length, H.out.2.1]
  obtain ⟨gs, cs, curs, rfl, hgs1, hgs2, _, _, _, _, _⟩ := hs5.form (by omega)
  rw [hsl] at hs5 ⊢
  have hR5 : Hid (HRow w5 gp (.slice none 0 0) (.slice none 0 0) k 50 97) := hid (H4.out.2.1.grown hg5 (by simp))
  have hgpl5 : gp < w5.heap.size := row_lt hR5.out
  have c1 := row_cell hR5.out 1
  have f1 := row_free hR5.out 1
  have H5 := hid (And.intro hs5 (grown_trans H4.out.2.2 hg5))
  clear hs5 hb5 hg5 hcell hsl
  go_upto_region 13 with fail
  obtain ⟨w6, hw6⟩ : ∃ w6, w6 = w5.setCell ⟨gp, 1, none⟩ (.slice (some ⟨gs, 0, none⟩) 22 cs) := ⟨_, rfl⟩
  rw [← hw6]
  have hgps : gp ≠ gs := by omega
  have h56 := grown_setCell w5 gp 1 (.slice (some ⟨gs, 0, none⟩) 22 cs)
  rw [← hw6] at h56
  have hR6 : Hid (HRow w6 gp (.slice none 0 0) (.slice (some ⟨gs, 0, none⟩) 22 cs) k 50 97) := hid (by rw [hw6]; exact row_set hR5.out 1 _)
  have hg6 : w.grownBy w6 none := grown_new H5.out.2 h56 hgw
  have hsz6 : w.heap.size ≤ w4.heap.size := H4.out.2.2.size
  have H6 : Hid (SrcB w4.heap.size w6 a n xs ∧ Own w6 w4.heap.size (.slice (some ⟨gs, 0, none⟩) 22 cs) (signs ss) ∧ Glob w6 t ∧ Mag w6 M ∧ w.grownBy w6 none) :=
    hid ⟨(H.out.1.srcB.below (below_of_grown hg6 (Nat.le_refl _) (by simp)) (Nat.le_refl _)).mono hsz6, H5.out.1.grown h56 (.inr (by simp [Value.ownBlock]; omega)), H.out.2.2.2.2.1.grown hg6 (by simp), fun i hi => ⟨(H.out.2.2.2.2.2 i hi).1, (grown_cell hg6 (block_lt_of_cell (H.out.2.2.2.2.2 i hi).2) (by simp)).trans (H.out.2.2.2.2.2 i hi).2⟩, hg6⟩
  have d1' := row_cell hR6.out 1
  have d2' := row_cell hR6.out 2
  have hgs6 : w4.heap.size ≤ w6.heap.size := by rw [hw6]; simp; omega
  clear hw6 h56 hg6 c1 f1 hR5 H5 hgs2 hgpl5
  have hll : (signs (rawL t M xs ss k)).length = 31 := by simp [signs_length, rawL]
  go_region_with (go_at_call 16; go_loud (refine Calls.mono (raw_any a n c k w4.heap.size (.slice (some ⟨gs, 0, none⟩) 22 cs) xs ss t M w6.drew hn hnc hnone hk2 H6.out.1 H6.out.2.1 H.out.2.1 H.out.2.2.1 H6.out.2.2.1 (Nat.le_trans hgb hsz6) H6.out.2.2.2.1 hgs6) ?_); rintro e w7 ⟨u, rfl, hu7, hs7, hg7⟩; obtain ⟨gh, ch, curh, rfl, hgh1, hgh2, _, _, _, _, _⟩ := hu7.form (by simp [signs_length, rawL]); rw [hll] at hu7 ⊢; have hR7 : Hid (HRow w7 gp (.slice none 0 0) (.slice (some ⟨gs, 0, none⟩) 22 cs) k 50 97) := hid (HRow.grown (w := w6.drew) hR6.out hg7 (by simp [Value.ownBlock]; omega)); have H7 := hid (And.intro hu7 (And.intro hs7 hg7)); clear hu7 hs7 hg7)
  all_goals
    have e0 := row_cell hR7.out 0
    have g0 := row_free hR7.out 0
    go_wp2_with fail
    go_ret2
    have hgpl : gp < w6.heap.size := row_lt hR6.out
    have hwz : w.heap.size ≤ w6.heap.size := H6.out.2.2.2.2.size
    have hgh : w6.heap.size ≤ gh := hgh1
    have hset := grown_setCell w7 gp 0 (.slice (some ⟨gh, 0, none⟩) 31 ch)
    have hg7 : w.grownBy w7 none := grown_new H6.out.2.2.2.2 (grown_trans (grown_drew w6 _) H7.out.2.2) (show w.heap.size ≤ gs by omega)
    exact ⟨gp, _, _, hgw, rfl, row_set hR7.out 0 _, (H7.out.1.mono hwz).grown hset (.inr (by simp [Value.ownBlock]; omega)), (H7.out.2.1.mono hsz6).grown hset (.inr (by simp [Value.ownBlock]; omega)), grown_new hg7 hset hgw⟩
#print axioms newFromPassword_any
end Go.Proofs.YtmglaaejobbbiaaDoor
