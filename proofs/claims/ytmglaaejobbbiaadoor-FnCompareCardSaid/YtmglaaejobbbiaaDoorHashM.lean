/-
  (*hashed).Hash: the whole text of sixty bytes: version 2a, cost, salt, signs; nothing that was there turns.
-/
import Derived.Test.YtmglaaejobbbiaaDoorNewP
import Derived.Deep.RegionLaw
namespace Go.Proofs.YtmglaaejobbbiaaDoor
open Go.RowKit

/-- The text of a hash. -/
def hashL (k : Nat) (S A : List Nat) : List Nat := [36, 50, 97, 36, 48 + k / 10, 48 + k % 10, 36] ++ (S ++ A)
theorem row_step {w0 w w' : World} {gp ga k : Nat} {u s : Value} (h : HRow w gp u s k 50 97) (h0 : w0.grownBy w none) (hg : w.grownBy w' (some ga)) (hne : gp ≠ ga) (hga : ga = w0.heap.size) : HRow w' gp u s k 50 97 ∧ w0.grownBy w' none :=
  ⟨h.grown hg (by simp; exact hne), grown_new h0 hg (by omega)⟩
def HashPost (k : Nat) (S A : List Nat) (w : World) (e : Ending) (w' : World) : Prop := ∃ v, e = .returned v ∧ Own w' w.heap.size v (hashL k S A) ∧ w.grownBy w' none

def two (D1 D2 : Nat) : Nat → Nat := fun j => if j = 0 then D1 else D2
theorem two_src {w : World} {D1 D2 : Nat} (h1 : D1 < 256) (h2 : D2 < 256) : ∀ j, j < 2 → two D1 D2 j < 256 ∧ (w.alloc (.cells #[.int .u8 (D1 : Nat), .int .u8 (D2 : Nat)] 5)).drew.cell? ⟨w.heap.size, 0 + j, none⟩ = some (.int .u8 (two D1 D2 j : Nat)) := by
  intro j hj
  refine ⟨by unfold two; split <;> omega, ?_⟩
  rw [Nat.zero_add]
  refine (row_cell (heap_alloc_new w _) j).trans ?_
  rcases (show j = 0 ∨ j = 1 by omega) with rfl | rfl <;> rfl
theorem two_row {w : World} {g n : Nat} {B : Nat → Nat} {o : Obj} (h : BRow w g n B) : BRow (w.alloc o).drew g n B := h.grown (grown_trans (grown_alloc w none o) (grown_drew _ none)) (by simp)
theorem two_grown {w w' : World} {g : Nat} {o : Obj} (h : (w.alloc o).drew.grownBy w' (some g)) : w.grownBy w' (some g) := grown_trans (grown_alloc w _ o) (grown_trans (grown_drew _ _) h)

theorem hashL_length {k : Nat} {S A : List Nat} (hS : S.length = 22) (hA : A.length = 31) : (hashL k S A).length = 60 := by simp [hashL, hS, hA]
theorem fin_eq {k D1 D2 : Nat} {S A : List Nat} (hS : S.length = 22) (h1 : D1 = 48 + k / 10) (h2 : D2 = 48 + k % 10) : ∀ j, j < 60 →
    putL (putL (setT (putL (setT (setT (setT (setT (fun _ => 0) 0 36) 1 50) 2 97) 3 36) 4 2 (two D1 D2)) 6 36) 7 22 (byteAt S)) 29 31 (byteAt A) j = byteAt (hashL k S A) j := by
  intro j hj
  unfold hashL
  rw [byteAt_append]
  by_cases h7 : j < 7
  · rw [if_pos (show j < [36, 50, 97, 36, 48 + k / 10, 48 + k % 10, 36].length from h7)]
    subst h1 h2
    rcases (show j = 0 ∨ j = 1 ∨ j = 2 ∨ j = 3 ∨ j = 4 ∨ j = 5 ∨ j = 6 by omega) with rfl | rfl | rfl | rfl | rfl | rfl | rfl <;> simp [putL, setT, two, byteAt]
  · rw [if_neg (show ¬ j < [36, 50, 97, 36, 48 + k / 10, 48 + k % 10, 36].length from h7), byteAt_append, hS]
    simp only [List.length_cons, List.length_nil]
    by_cases h29 : j < 29
    · rw [if_pos (by omega)]
      unfold putL
      rw [if_neg (by omega), if_pos (by omega)]
    · rw [if_neg (by omega)]
      unfold putL
      rw [if_pos (by omega)]
      congr 1

set_option maxHeartbeats 4000000 in
set_option maxRecDepth 100000 in
theorem hashM_any (gp gh ch gs cs k : Nat) (S A : List Nat) (w : World) (hk : k ≤ 31) (hS : S.length = 22) (hA : A.length = 31) (hr : HRow w gp (.slice (some ⟨gh, 0, none⟩) 31 ch) (.slice (some ⟨gs, 0, none⟩) 22 cs) k 50 97) (hbs : Bts w gs 22 S) (hba : Bts w gh 31 A) :
    Calls Tryd.prog 14 #[.pointer (some ⟨gp, 0, none⟩)] w (HashPost k S A w) := by
  obtain ⟨i0, hi, hz0, hz1, hz2⟩ := info_parts infoByte
  have H := hid (And.intro hS (And.intro hA (And.intro hr (And.intro hbs hba))))
  have hgp : gp < w.heap.size := row_lt hr
  have hgs : gs < w.heap.size := block_lt_of_cell (hbs 0 (by decide)).2
  have hgh : gh < w.heap.size := block_lt_of_cell (hba 0 (by decide)).2
  clear hS hA hr hbs hba
  go_enter Tryd.func14, Tryd.ntmps14
  go_upto_region 2 with ((with_reducible refine atOp (o := ⟨some 5, _, _, _, _, _⟩) ?_); refine wpList_make_full _ rfl (.const (.int .i64 60)) (.const (.int .i64 60)) 22 rfl w.heap.size 5 i0 (.int .u8 0) 1 Tryd.underlying22 hi hz0 hz1 .i64 .i64 _ _ 60 rfl rfl rfl rfl (by rw [hz2]; omega) (by unfold maxLen; omega) (by omega) ?_; intro w1 hown hg1; have H1 := hid (And.intro (made_brow hown) (And.intro (H.out.2.2.1.grown hg1 (by simp)) hg1)); clear hown hg1)
  obtain ⟨ga, hga⟩ : ∃ ga, ga = w.heap.size := ⟨_, rfl⟩
  rw [← hga] at H1 ⊢
  have a0 := H1.out.1.cell (i := 0) (by decide)
  have a1 := H1.out.1.cell (i := 1) (by decide)
  have a2 := H1.out.1.cell (i := 2) (by decide)
  have a3 := H1.out.1.cell (i := 3) (by decide)
  have f0 := H1.out.1.free 0
  have f1 := H1.out.1.free 1
  have f2 := H1.out.1.free 2
  have f3 := H1.out.1.free 3
  have p3 : w1.cell? ⟨gp, 3, none⟩ = some (.int .u8 50) := row_cell H1.out.2.1 3
  have p4 : w1.cell? ⟨gp, 4, none⟩ = some (.int .u8 97) := row_cell H1.out.2.1 4
  have hne : gp ≠ ga := by omega
  have hne' : ga ≠ gp := by omega
  have HGA := hid hga
  clear hga
  go_upto_region 10 with fail
  have hb2 := ((((H1.out.1.set (i := 0) (y := 36) (by decide)).set (i := 1) (y := 50) (by decide)).set (i := 2) (y := 97) (by decide)).set (i := 3) (y := 36) (by decide))
  have hg2 := grown_trans (grown_trans (grown_trans (grown_setCell w1 ga 0 (.int .u8 36)) (grown_setCell _ ga 1 (.int .u8 50))) (grown_setCell _ ga 2 (.int .u8 97))) (grown_setCell _ ga 3 (.int .u8 36))
  obtain ⟨w2, hw2⟩ : ∃ w2, w2 = (((w1.setCell ⟨ga, 0, none⟩ (.int .u8 36)).setCell ⟨ga, 1, none⟩ (.int .u8 50)).setCell ⟨ga, 2, none⟩ (.int .u8 97)).setCell ⟨ga, 3, none⟩ (.int .u8 36) := ⟨_, rfl⟩
  rw [← hw2] at hg2 ⊢
  have hb2' : BRow w2 ga 60 (setT (setT (setT (setT (fun _ => 0) 0 36) 1 50) 2 97) 3 36) := by rw [hw2]; exact hb2
  have hsz2 : ga < w2.heap.size := by obtain ⟨cs, hr, _⟩ := hb2'; exact row_lt hr
  have H2 := hid (And.intro hb2' (And.intro (H1.out.2.1.grown hg2 (by simp; omega)) (grown_new H1.out.2.2 hg2 (by have := HGA.out; omega))))
  have p2 : w2.cell? ⟨gp, 2, none⟩ = some (.int .i64 (k : Nat)) := row_cell H2.out.2.1 2
  obtain ⟨q, hq⟩ : ∃ q, q = k / 10 := ⟨_, rfl⟩
  obtain ⟨r, hr⟩ : ∃ r, r = k % 10 := ⟨_, rfl⟩
  obtain ⟨D1, hD1⟩ : ∃ D, D = 48 + q := ⟨_, rfl⟩
  obtain ⟨D2, hD2⟩ : ∃ D, D = 48 + r := ⟨_, rfl⟩
  have bq : D1 < 256 := by omega
  have br : D2 < 256 := by omega
  have i1 : IntKind.i64.wrap ((k : Int) / 10) = (q : Int) := by simp [IntKind.wrap, IntKind.signed, IntKind.bits]; omega
  have i2 : IntKind.i64.wrap (48 + (q : Int)) = (D1 : Int) := by simp [IntKind.wrap, IntKind.signed, IntKind.bits]; omega
  have i3 : IntKind.u8.wrap (D1 : Int) = (D1 : Int) := by simp [IntKind.wrap, IntKind.signed, IntKind.bits]; omega
  have i4 : (k : Int).tmod 10 = (r : Int) := by rw [Int.tmod_eq_emod_of_nonneg (by omega)]; omega
  have i5 : IntKind.i64.wrap (48 + (r : Int)) = (D2 : Int) := by simp [IntKind.wrap, IntKind.signed, IntKind.bits]; omega
  have i6 : IntKind.u8.wrap (D2 : Int) = (D2 : Int) := by simp [IntKind.wrap, IntKind.signed, IntKind.bits]; omega
  have HD := hid (And.intro (show D1 = 48 + k / 10 by omega) (show D2 = 48 + k % 10 by omega))
  clear hq hr hD1 hD2
  clear hb2 hb2' hg2 hw2 a0 a1 a2 a3 f0 f1 f2 f3 p3 p4 H1
  go_cut [4] from 30 to 48 (fun v wx => v = .int .i64 4 ∧ Hid (BRow wx ga 60 (putL (setT (setT (setT (setT (fun _ => 0) 0 36) 1 50) 2 97) 3 36) 4 2 (two D1 D2)) ∧ HRow wx gp (.slice (some ⟨gh, 0, none⟩) 31 ch) (.slice (some ⟨gs, 0, none⟩) 22 cs) k 50 97 ∧ w.grownBy wx none))
  case first =>
    go_region_law (refine step_copy_bytes rfl (.tmp 32) (.tmp 47) 22 22 rfl Tryd.underlying22 (by kernel_rfl) ga 4 56 56 w2.heap.size 0 2 2 2 60 _ (two D1 D2) (by simp [Act.eval]) (by simp [Act.eval]) (two_row H2.out.1) rfl (two_src bq br) (by decide) ?_; intro w3 hb3 hs3 hg3; have H3 := hid (And.intro hb3.out (row_step H2.out.2.1 H2.out.2.2 (two_grown hg3.out) hne HGA.out)); clear hb3 hs3 hg3)
    all_goals
      go_wp2_with fail
      go_meet
      exact ⟨rfl, hid ⟨H3.out.1, H3.out.2.1, H3.out.2.2⟩⟩
  case rest =>
    obtain ⟨rfl, H3⟩ := hcut
    obtain ⟨w3, hw3⟩ : ∃ w3 : World, w3 = wc := ⟨_, rfl⟩
    rw [← hw3] at H3 ⊢
    have a6 := H3.out.1.cell (i := 6) (by decide)
    have f6 := H3.out.1.free 6
    clear H2 p2 i1 i2 i3 i4 i5 i6 bq br hw3
    go_upto_region 14 with fail
    have hb4 := H3.out.1.set (i := 6) (y := 36) (by decide)
    have hg4 := grown_setCell w3 ga 6 (.int .u8 36)
    have hrs := row_step H3.out.2.1 H3.out.2.2 hg4 hne HGA.out
    obtain ⟨w4, hw4⟩ : ∃ w4, w4 = w3.setCell ⟨ga, 6, none⟩ (.int .u8 36) := ⟨_, rfl⟩
    have hb4' : BRow w4 ga 60 (setT (putL (setT (setT (setT (setT (fun _ => 0) 0 36) 1 50) 2 97) 3 36) 4 2 (two D1 D2)) 6 36) := by rw [hw4]; exact hb4
    rw [← hw4] at hrs ⊢
    have H4 := hid (And.intro hb4' (And.intro hrs.1 hrs.2))
    have p1 : w4.cell? ⟨gp, 1, none⟩ = some (.slice (some ⟨gs, 0, none⟩) 22 cs) := row_cell H4.out.2.1 1
    clear hb4 hb4' hg4 hrs hw4 a6 f6 H3
    go_cut [4] from 56 to 63 (fun v wx => v = .int .i64 7 ∧ Hid (BRow wx ga 60 (putL (setT (putL (setT (setT (setT (setT (fun _ => 0) 0 36) 1 50) 2 97) 3 36) 4 2 (two D1 D2)) 6 36) 7 22 (byteAt S)) ∧ HRow wx gp (.slice (some ⟨gh, 0, none⟩) 31 ch) (.slice (some ⟨gs, 0, none⟩) 22 cs) k 50 97 ∧ w.grownBy wx none))
    case first =>
      go_region_law (refine step_copy_bytes rfl (.tmp 58) (.tmp 62) 22 22 rfl Tryd.underlying22 (by kernel_rfl) ga 7 53 53 gs 0 22 cs 22 60 _ (byteAt S) (by simp [Act.eval]) (by simp [Act.eval]) (brow_drew H4.out.1) rfl (bts_drew H.out.2.2.2.1 H4.out.2.2) (by decide) ?_; intro w5 hb5 hs5 hg5; have H5 := hid (And.intro hb5.out (row_step H4.out.2.1 H4.out.2.2 (drew_grown hg5.out) hne HGA.out)); clear hb5 hs5 hg5)
      all_goals
        go_wp2_with fail
        go_meet
        exact ⟨rfl, hid ⟨H5.out.1, H5.out.2.1, H5.out.2.2⟩⟩
    case rest =>
      obtain ⟨rfl, H5⟩ := hcut
      clear H4 p1
      go_upto_region 16 with fail
      have p0 : wc.cell? ⟨gp, 0, none⟩ = some (.slice (some ⟨gh, 0, none⟩) 31 ch) := row_cell H5.out.2.1 0
      go_cut [4] from 66 to 73 (fun v wx => v = .int .i64 29 ∧ Hid (BRow wx ga 60 (putL (putL (setT (putL (setT (setT (setT (setT (fun _ => 0) 0 36) 1 50) 2 97) 3 36) 4 2 (two D1 D2)) 6 36) 7 22 (byteAt S)) 29 31 (byteAt A)) ∧ w.grownBy wx none))
      case first =>
        go_region_law (refine step_copy_bytes rfl (.tmp 68) (.tmp 72) 22 22 rfl Tryd.underlying22 (by kernel_rfl) ga 29 31 31 gh 0 31 ch 31 60 _ (byteAt A) (by simp [Act.eval]) (by simp [Act.eval]) (brow_drew H5.out.1) rfl (bts_drew H.out.2.2.2.2 H5.out.2.2) (by decide) ?_; intro w6 hb6 hs6 hg6; have H6 := hid (And.intro hb6.out (row_step H5.out.2.1 H5.out.2.2 (drew_grown hg6.out) hne HGA.out)); clear hb6 hs6 hg6)
        all_goals
          go_wp2_with fail
          go_meet
          exact ⟨rfl, hid ⟨H6.out.1, H6.out.2.2⟩⟩
      case rest =>
        obtain ⟨rfl, H6⟩ := hcut
        clear H5 p0
        go_wp2_with fail
        go_ret
        exact ⟨_, rfl, own_of_brow H6.out.1 (Nat.le_of_eq HGA.out.symm) (hashL_length H.out.1 H.out.2.1) (by decide) (fin_eq H.out.1 HD.out.1 HD.out.2), H6.out.2⟩
#print axioms hashM_any
end Go.Proofs.YtmglaaejobbbiaaDoor
