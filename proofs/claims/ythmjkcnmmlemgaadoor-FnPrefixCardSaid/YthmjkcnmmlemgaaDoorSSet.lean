/-
  spec.Setup: the tables of a password and a salt of bytes, as bcrypt says (setupT in YthmjkcnmmlemgaaDoorFish); nothing that was there turns. For costs of at most 20.
-/
import Derived.Test.YthmjkcnmmlemgaaDoorSExp
import Derived.Test.YthmjkcnmmlemgaaDoorSrc
namespace Go.Proofs.YthmjkcnmmlemgaaDoor
open Go.RowKit

theorem SaltS.key {w : World} {g o n : Nat} {zs : List Nat} (h : Key w g o n zs) : SaltS w (some ⟨g, o, none⟩) n (wdW zs n) := .inr ⟨g, o, zs, rfl, h, rfl⟩
theorem Key.below {w w' : World} {gk ok n B : Nat} {ys : List Nat} (h : Key w gk ok n ys) (hb : Below B w w') (hB : gk < B) : Key w' gk ok n ys :=
  ⟨h.1, h.2.1, h.2.2.1, fun i hi => (hb.cell (p := ⟨gk, ok + i, none⟩) hB).trans (h.2.2.2 i hi)⟩

set_option maxHeartbeats 4000000 in
set_option maxRecDepth 100000 in
theorem specSetup_any (cs : Array Value) (a : Option Addr) (n c k gz oz nz cz : Nat) (xs zs : List Nat) (t : Nat → Nat) (w : World) (hn : n ≤ 1024) (hnone : a = none → c = 0) (hk : k ≤ 20) (hcs : Arr cs 1042 0 t) (hsrc : SrcB w.heap.size w a n xs) (hz : Key w gz oz nz zs) :
    Calls Tryd.prog 15 #[.agg cs, .slice a n c, .int .i64 (k : Nat), .slice (some ⟨gz, oz, none⟩) nz cz] w (StaF (setupT t (wdW (xs ++ [0]) (n + 1)) (wdW zs nz) (2 ^ k)) w) := by
  have hgz : gz < w.heap.size := block_lt_of_cell (hz.2.2.2 0 hz.1)
  have HN := hid hnone
  have HC := hid hcs
  have HX := hid hsrc
  have HZ := hid hz
  clear hnone hcs hsrc hz
  obtain ⟨R, hR⟩ : ∃ R, R = 2 ^ k := ⟨_, rfl⟩
  have hR2 : R ≤ 1048576 := by rw [hR]; exact Nat.pow_le_pow_right (by decide) hk
  have HR := hid hR
  rw [← hR]
  clear hR
  go_enter Tryd.func15, Tryd.ntmps15
  go_upto_region 2 with (first
    | ((with_reducible refine atOp (o := ⟨some 4, _, _, _, _, _⟩) ?_); refine wpList_box_sta rfl (.tmp 0) rfl cs rfl t HC.out ?_; intro w1 hr1 hs1 hg1)
    | ((with_reducible refine atOp (o := ⟨some 8, _, _, _, _, _⟩) ?_); refine wpList_alloc_sta rfl rfl ?_; intro w2 hr2 hs2 hg2)
    | ((with_reducible refine atOp (o := ⟨some 14, _, _, _, _, _⟩) ?_); refine wpList_append_bytes rfl (.tmp 12) (.tmp 13) rfl w2.heap.size _ [] rfl (own_empty w2 w2.heap.size (Nat.le_refl _)) a n c xs rfl HN.out w.heap.size (((HX.out.below (below_of_grown hg1.out (Nat.le_refl _) (by simp)) (Nat.le_refl _)).below (below_of_grown hg2.out (Nat.le_of_lt hs1) (by simp)) (Nat.le_refl _)).below (below_of_grown (grown_alloc w2 none _) (by omega) (by simp)) (Nat.le_refl _)) (by simp; omega) (by simp) ?_; intro v3 w3 hv3 hg3; have hs3 := hg3.out.size; simp at hs3)
    | ((with_reducible refine atOp (o := ⟨some 16, _, _, _, _, _⟩) ?_); go_loud (refine wpList_append_bytes rfl (.tmp 14) (.tmp 15) rfl w2.heap.size v3 xs rfl (World.ownsRow.alloc hv3.out _) (some ⟨w3.heap.size, 0, none⟩) 1 1 [0] rfl (by simp) (w3.heap.size + 1) (srcB_made (Bytes.of_mem (by simp)) rfl) (by have := HX.out.1; omega) (by simp; omega) ?_; intro v5 w5 hv5 hg5)))
  have HB5 : Hid (Below w.heap.size w w5 ∧ Sta w5 w.heap.size t ∧ Room w5 w1.heap.size) := hid (by
    have b1 := below_of_grown hg1.out (Nat.le_refl _) (by simp)
    have b2 := b1.grown hg2.out (Nat.le_of_lt hs1) (by simp)
    have c3 := (below_of_grown (grown_alloc w2 none (.cells #[] 5)) (Nat.le_refl _) (by simp)).trans (below_own (own_empty w2 w2.heap.size (Nat.le_refl _)) hg3.out (by simp))
    have c5 := (c3.trans ((below_of_grown (grown_alloc w3 none (.cells #[.int .u8 0] 5)) (Nat.le_refl _) (by simp)).mono (by omega))).trans (below_own (World.ownsRow.alloc hv3.out _) hg5.out (by simp; omega))
    exact ⟨b2.trans (c5.mono (by omega)), (hr1.out.grown hg2.out (by simp)).below c5 (by omega), hr2.out.below c5 (by omega)⟩)
  obtain ⟨g, cap, rfl, hg, HKey⟩ := Own.key (n := n + 1) hv5.out (by have := HX.out.1; simp; omega) (by omega) (by omega) (bytes_snoc HX.out.bytes)
  have HZ5 := hid (HZ.out.below HB5.out.1 hgz)
  go_wp2_with ((with_reducible refine atOp (o := ⟨some 17, _, _, _, _, _⟩) ?_); refine wpList_load_sta rfl (.tmp 4) rfl w.heap.size rfl t HB5.out.2.1 ?_; intro cs1 hcs1)
  have hg5' : g < w5.heap.size := block_lt_of_cell (HKey.out.2.2.2 0 HKey.out.1)
  refine Calls.mono (specExpand_any cs1 g 0 (n + 1) cap (xs ++ [0]) (some ⟨gz, oz, none⟩) nz cz (wdW zs nz) t w5 hcs1.out HKey.out (.inr ⟨gz, oz, zs, rfl, HZ5.out, rfl⟩)) ?_
  rintro e w6 ⟨cs2, rfl, hcs2, hb6⟩
  have HA := hid hcs2
  have hgw : w.heap.size < w6.heap.size := by have := hb6.size; have := HB5.out.1.size; omega
  have hgw1 : w1.heap.size < w6.heap.size := by have := hb6.size; have := HB5.out.2.2.in; omega
  have hg6 : g < w6.heap.size := by have := hb6.size; omega
  have hgz6 : gz < w6.heap.size := by omega
  obtain ⟨gr, hgr⟩ : ∃ g, g = w1.heap.size := ⟨_, rfl⟩
  have HGR := hid hgr
  have HB6 : Hid (Below w.heap.size w w6 ∧ Room w6 gr ∧ Key w6 g 0 (n + 1) (xs ++ [0]) ∧ Key w6 gz oz nz zs) := hid (by
    rw [hgr]
    exact ⟨HB5.out.1.trans (hb6.mono HB5.out.1.size), HB5.out.2.2.below hb6 HB5.out.2.2.in, HKey.out.below hb6 hg5', HZ5.out.below hb6 (by have := HB5.out.1.size; omega)⟩)
  have hwr : w.heap.size < gr := by omega
  rw [← hgr] at hgw1 ⊢
  clear hcs2 hb6 hgr hr1 hr2 hs1 hs2 hg1 hg2 hv3 hg3 hs3 hv5 hg5 hg HB5 HZ5 hg5' hcs1 HKey
  obtain ⟨T0, hT0⟩ : ∃ T, T = setupT t (wdW (xs ++ [0]) (n + 1)) (wdW zs nz) 0 := ⟨_, rfl⟩
  go_wp2_with (first
    | ((with_reducible refine atOp (o := ⟨some 10, _, _, _, _, _⟩) ?_); refine wpList_alloc_sta rfl rfl ?_; intro w7 hr7 hs7 hg7)
    | ((with_reducible refine atOp (o := ⟨none, .store _ (.tmp 10) _, _, _, _, _⟩) ?_); refine wpList_store_sta rfl (.tmp 10) (.tmp 20) rfl w6.heap.size cs2 rfl rfl _ HA.out hr7.out ?_; intro w8 hr8 hs8 hg8))
  obtain ⟨gs, hgs⟩ : ∃ g, g = w6.heap.size := ⟨_, rfl⟩
  have H8 : Hid (Sta w8 gs (setupT t (wdW (xs ++ [0]) (n + 1)) (wdW zs nz) 0) ∧ Room w8 gr ∧ Key w8 g 0 (n + 1) (xs ++ [0]) ∧ Key w8 gz oz nz zs ∧ Below w.heap.size w w8) := hid (by
    rw [hgs]
    refine ⟨hr8.out, (HB6.out.2.1.grown hg7.out (by simp)).grown hg8.out (fun e => ?_), (HB6.out.2.2.1.grown hg7.out (by simp)).grown hg8.out (fun e => ?_), (HB6.out.2.2.2.grown hg7.out (by simp)).grown hg8.out (fun e => ?_), (HB6.out.1.grown hg7.out HB6.out.1.size (by simp)).grown hg8.out (by omega) (fun k e => ?_)⟩
    · have e : gr = w6.heap.size := Option.some.inj e; omega
    · have e : g = w6.heap.size := Option.some.inj e; omega
    · have e : gz = w6.heap.size := Option.some.inj e; omega
    · injection e with e; omega)
  have n1 : gr ≠ gs := by omega
  have n2 : g ≠ gs := by omega
  have n3 : gz ≠ gs := by omega
  have n4 : w.heap.size < gs := by omega
  rw [← hgs]
  clear hgs hr7 hs7 hg7 hr8 hs8 hg8 HB6 hT0 hg6 hgz6 hgw hgw1
  have hsh : (2 : Nat) ^ k ≤ 1048576 := by rw [← HR.out]; exact hR2
  have hwr2 : IntKind.i64.wrap ((2 : Int) ^ k) = (R : Int) := by
    have e : ((2 : Int) ^ k) = (R : Int) := by rw [HR.out]; simp
    rw [e]
    simp only [IntKind.wrap, IntKind.signed, IntKind.bits]
    simp
    omega
  have HSH := hid hsh
  go_loopw [11] (fun i wr => ∃ I : Nat, I ≤ R ∧ i = .int .i64 (I : Nat) ∧ Hid (Sta wr gs (setupT t (wdW (xs ++ [0]) (n + 1)) (wdW zs nz) I) ∧ w8.grownBy wr (some gs))) (fun i _ => R - (intOf i).toNat)
  case atStart => exact ⟨0, Nat.zero_le _, rfl, hid ⟨H8.out.1, ⟨rfl, rfl, rfl, Nat.le_refl _, fun _ _ _ => rfl⟩⟩⟩
  case round =>
    obtain ⟨I, hI, rfl, hE⟩ := hrel
    by_cases hlt : I < R
    · go_upto_region 6 with fail
      have e1 : ∀ b, b ≠ gs → some b ≠ some gs := fun b h e => h (Option.some.inj e)
      have HE1 := hid e1
      clear e1
      have n5 : gs < wr.heap.size := hE.out.1.in
      have hl := hE.out.2.size
      go_wp2_with ((with_reducible refine atOp (o := ⟨some 27, _, _, _, _, _⟩) ?_); refine wpList_load_sta rfl (.tmp 10) rfl gs rfl _ hE.out.1 ?_; intro csa hcsa)
      refine Calls.mono (specExpand_any csa g 0 (n + 1) cap (xs ++ [0]) none 0 0 noSalt _ wr hcsa.out (H8.out.2.2.1.grown hE.out.2 (HE1.out g n2)) (saltS_none wr)) ?_
      rintro e wa ⟨csb, rfl, hcsb, hba⟩
      have HCB := hid hcsb
      have hka := hid (((H8.out.2.2.2.1.grown hE.out.2 (HE1.out gz n3)).grown (grown_of_below hba none) (by simp) : Key wa gz oz nz zs))
      have ha := hid hba
      clear hcsb hba
      go_wp2_with fail
      refine Calls.mono (specExpand_any csb gz oz nz cz zs none 0 0 noSalt _ wa HCB.out hka.out (saltS_none wa)) ?_
      rintro e wb ⟨csc, rfl, hcsc, hbb⟩
      have hca := hid hcsc
      have hgb := hid (grown_trans (grown_trans hE.out.2 (grown_of_below ha.out (some gs))) (grown_of_below hbb (some gs)))
      have hrm := hid ((hE.out.1.below ha.out n5).room.below hbb (by have := ha.out.size; omega) : Room wb gs)
      clear hcsc hbb
      go_wp2_with ((with_reducible refine atOp (o := ⟨none, .store _ (.tmp 10) _, _, _, _, _⟩) ?_); refine wpList_store_sta rfl (.tmp 10) (.tmp 31) rfl gs csc rfl rfl _ hca.out hrm.out ?_; intro wd hrd hsd hgd)
      go_roundw
      case rel => exact ⟨I + 1, by omega, by go_num, hid ⟨hrd.out, grown_trans hgb.out hgd.out⟩⟩
      case measure => simp only [intOf]; omega
    · have HF : Hid (Sta wr gs (setupT t (wdW (xs ++ [0]) (n + 1)) (wdW zs nz) R)) := hid (by
        have e : I = R := by omega
        rw [← e]; exact hE.out.1)
      have HR2 := hid (H8.out.2.1.grown hE.out.2 (fun e => n1 (Option.some.inj e)))
      have HB := hid (H8.out.2.2.2.2.grown hE.out.2 H8.out.2.2.2.2.size (fun k e => by injection e with e; omega))
      clear hE
      go_wp2_with (first
        | ((with_reducible refine atOp (o := ⟨some 32, _, _, _, _, _⟩) ?_); refine wpList_load_sta rfl (.tmp 10) rfl gs rfl _ HF.out ?_; intro csz hcsz)
        | ((with_reducible refine atOp (o := ⟨none, .store _ (.tmp 8) _, _, _, _, _⟩) ?_); refine wpList_store_sta rfl (.tmp 8) (.tmp 32) rfl gr csz rfl rfl _ hcsz.out HR2.out ?_; intro wz hrz hsz hgz'))
      refine bodyPost_staF rfl rfl rfl hrz.out ?_
      exact HB.out.grown hgz'.out HB.out.size (fun k e => by injection e with e; omega)
#print axioms specSetup_any
end Go.Proofs.YthmjkcnmmlemgaaDoor
