/-
  NewSaltedCipher and expensiveBlowfishSetup: the tables of a key and a salt in bcrypt's signs, over the program's first tables, whatever numbers of 32 bits these are; of what was there, nothing below the salt's block turns, and the salt still holds its signs.
-/
import Derived.Test.YtmglaaejobbbiaaDoorSalt
import Derived.Test.YtmglaaejobbbiaaDoorInit
import Derived.Test.YtmglaaejobbbiaaDoorB64K
import Derived.Test.YtmglaaejobbbiaaDoorArg
import Derived.Test.YtmglaaejobbbiaaDoorDecSigns
import Derived.ArgAppend
namespace Go.Proofs.YtmglaaejobbbiaaDoor
open Go.RowKit

theorem infoCip : (Tryd.prog.info? 81).bind (fun i => i.zero.map (fun z => z.cells.size)) = some 1042 := by kernel_rfl
theorem infoCip' : ∃ i z, Tryd.prog.info? 81 = some i ∧ i.zero = some z ∧ z.cells.size = 1042 := by
  obtain ⟨i, hi, h⟩ := Option.bind_eq_some_iff.1 infoCip
  obtain ⟨z, hz, h2⟩ := Option.map_eq_some_iff.1 h
  exact ⟨i, z, hi, hz, h2⟩

def SaltedPost (t : Nat → Nat) (w : World) (e : Ending) (w' : World) : Prop :=
  e = .returned (.tuple #[.pointer (some ⟨w.heap.size, 0, none⟩), .nilIface]) ∧ Cip w' w.heap.size t ∧ w.grownBy w' none

set_option maxHeartbeats 1000000 in
set_option maxRecDepth 100000 in
theorem newSalted_any (gk ok n c gs os ns cs : Nat) (ys zs : List Nat) (t : Nat → Nat) (w : World) (hk : Key w gk ok n ys) (hs : Key w gs os ns zs) (hg : Glob w t) (hw : globTop ≤ w.heap.size) :
    Calls Tryd.prog 28 #[.slice (some ⟨gk, ok, none⟩) n c, .slice (some ⟨gs, os, none⟩) ns cs] w (SaltedPost (expT t (wdW ys n) (wdW zs ns)) w) := by
  obtain ⟨i0, z0, hi, hz, hz2⟩ := infoCip'
  have hn := hk.1
  have hns := hs.1
  have hgk : gk < w.heap.size := block_lt_of_cell (hk.2.2.2 0 hn)
  have hgs : gs < w.heap.size := block_lt_of_cell (hs.2.2.2 0 hns)
  have hns0 : ((ns : Int) == 0) = false := by rw [beq_eq_false_iff_ne]; omega
  have hn1 : ¬ ((n : Int) < 1) := by omega
  have H := hid (And.intro hk (And.intro hs (And.intro hg hz2)))
  clear hk hs hg hz2
  go_enter Tryd.func28, Tryd.ntmps28
  go_wp2_with ((with_reducible refine atOp (o := ⟨some 6, _, _, _, _, _⟩) ?_); refine wpList_alloc_row rfl 81 rfl i0 hi z0 hz _ rfl ?_; intro w1 hr1 hl1 hg1; have H1 := hid (And.intro hr1 hg1); clear hr1 hg1)
  refine (initCipher_any w.heap.size t w1 hw (H.out.2.2.1.grown H1.out.2.out (by simp)) ⟨_, H1.out.1.out, H.out.2.2.2, fun i hi => by omega⟩).mono ?_
  rintro e w2 ⟨rfl, hc2, hg2⟩
  have hg02 := grown_new H1.out.2.out hg2 (Nat.le_refl _)
  have H2 := hid (And.intro hc2 hg02)
  clear hc2 hg2 hg02
  go_wp2_with fail
  refine (expandKeyWithSalt_any gk ok n c gs os ns cs w.heap.size ys zs t w2 (H.out.1.grown H2.out.2 (by simp)) (H.out.2.1.grown H2.out.2 (by simp)) (by omega) (by omega) H2.out.1).mono ?_
  rintro e w3 ⟨rfl, hE⟩
  have H3 := hid (And.intro hE.1 (grown_new H2.out.2 hE.2 (Nat.le_refl _)))
  clear hE
  go_wp2_with fail
  go_ret2
  exact ⟨rfl, H3.out.1, H3.out.2⟩

/-- A slice that can be read, its block below 'base': empty, or its bytes lie there. -/
def SrcB (base : Nat) (w : World) (a : Option Addr) (len : Nat) (xs : List Nat) : Prop :=
  xs.length = len ∧ (len = 0 ∨ ∃ b o, a = some ⟨b, o, none⟩ ∧ b < base ∧ Bytes xs ∧ ∀ j, j < len → w.cell? ⟨b, o + j, none⟩ = some (.int .u8 (byteAt xs j : Nat)))
theorem Src.srcB {w : World} {a : Option Addr} {len : Nat} {xs : List Nat} (h : Src w a len xs) : SrcB w.heap.size w a len xs := h
theorem SrcB.below {base B : Nat} {w w' : World} {a : Option Addr} {len : Nat} {xs : List Nat} (h : SrcB base w a len xs) (hb : Below B w w') (hB : base ≤ B) : SrcB base w' a len xs := by
  refine ⟨h.1, ?_⟩
  rcases h.2 with h0 | ⟨b, o, ha, hbl, hx, hs⟩
  · exact .inl h0
  · exact .inr ⟨b, o, ha, hbl, hx, fun j hj => (hb.cell (p := ⟨b, o + j, none⟩) (Nat.lt_of_lt_of_le hbl hB)).trans (hs j hj)⟩
theorem SrcB.bytes {base : Nat} {w : World} {a : Option Addr} {len : Nat} {xs : List Nat} (h : SrcB base w a len xs) : Bytes xs := by
  rcases h.2 with h0 | ⟨b, o, ha, hbl, hx, hs⟩
  · have := h.1
    obtain rfl : xs = [] := List.eq_nil_of_length_eq_zero (by omega)
    exact Bytes.of_mem (by simp)
  · exact hx
theorem srcB_news {base : Nat} {w w' : World} {a : Option Addr} {len : Nat} {xs : List Nat} (h : SrcB base w a len xs) (hc : ∀ b o j, b < base → w'.cell? ⟨b, o + j, none⟩ = w.cell? ⟨b, o + j, none⟩) :
    ∀ b, a = some b → ∀ j u, (valsOf xs)[j]? = some u → w'.cell? (b.add j) = some u := by
  intro b hb j u hu
  have hj : j < xs.length := by
    have := (List.getElem?_eq_some_iff.1 hu).1
    rwa [valsOf_length] at this
  rcases h.2 with h0 | ⟨b', o, ha, hbl, hx, hs⟩
  · have := h.1; omega
  · rw [ha] at hb
    injection hb with hb
    subst hb
    rw [valsOf_at hj] at hu
    have hadd : (⟨b', o, none⟩ : Addr).add j = ⟨b', o + j, none⟩ := by unfold Addr.add; split <;> simp_all
    rw [hadd, hc b' o j hbl, hs j (by have := h.1; omega)]
    exact hu
theorem bytes_snoc {xs : List Nat} (h : Bytes xs) : Bytes (xs ++ [0]) := by
  refine Bytes.of_mem fun x hx => ?_
  rcases List.mem_append.1 hx with hx | hx
  · exact h.mem x hx
  · simp at hx; omega

theorem below_own {w w' : World} {base : Nat} {v : Value} {xs : List Nat} (h : Own w base v xs) (hg : w.grownBy w' v.ownBlock) (hb : base ≤ w.heap.size) : Below base w w' := below_of_grown hg hb (fun g e => (h.lt g e).1)
theorem ckey_met {w1 w2 : World} {o : Obj} {v' : Value} {xs : List Nat} {n : Nat} (hl : xs.length = n) (hx : Bytes xs) (hn : n ≤ 72) (hown : w2.ownsRow (w1.alloc o).heap.size 5 1 v' (n + 1) (valsOf xs ++ [.int .u8 0])) (hgr : (w1.alloc o).grownBy w2 none) :
    ∃ g cap, v' = .slice (some ⟨g, 0, none⟩) (n + 1) cap ∧ w1.heap.size ≤ g ∧ Hid (Key w2 g 0 (n + 1) (xs ++ [0])) ∧ Hid (w1.grownBy w2 none) := by
  have h := k_snoc (x := 0) hown hl
  have hl2 : (xs ++ [0]).length = n + 1 := by simp [hl]
  obtain ⟨g, cap, cur, rfl, hbg, hgl, hlc, hcm, hrow, hcs, hcells⟩ := h.form (by omega)
  have hc := h.cells
  rw [hl2] at hc ⊢
  simp at hbg
  exact ⟨g, cap, rfl, by omega, ⟨by omega, by omega, bytes_snoc hx, hc⟩, grown_trans (grown_alloc w1 _ _) hgr⟩

def SetupPost (base : Nat) (v : Value) (ss : List Nat) (t : Nat → Nat) (w : World) (e : Ending) (w' : World) : Prop :=
  ∃ gc, w.heap.size ≤ gc ∧ e = .returned (.tuple #[.pointer (some ⟨gc, 0, none⟩), .nilIface]) ∧ Cip w' gc t ∧ Own w' base v (signs ss) ∧ w.grownBy w' v.ownBlock

set_option maxHeartbeats 2000000 in
set_option maxRecDepth 100000 in
theorem setup_any (a : Option Addr) (n c k base : Nat) (v : Value) (xs ss : List Nat) (t : Nat → Nat) (w : World) (hn : n ≤ 72) (hnc : n ≤ c) (hnone : a = none → c = 0) (hk : k ≤ 31) (hsrc : SrcB base w a n xs) (hv : Own w base v (signs ss)) (hss : ss.length = 16) (hsb : Bytes ss)
    (hg : Glob w t) (hgb : globTop ≤ base) (hb : base ≤ w.heap.size) :
    Calls Tryd.prog 21 #[.slice a n c, .int .u32 (k : Nat), v] w (SetupPost base v ss (setupT t (wdW (xs ++ [0]) (n + 1)) (wdW ss 16) (2 ^ k)) w) := by
  obtain ⟨i0, hi, hz0, hz1, hz2⟩ := info_parts infoByte
  have hsl : (signs ss).length = 22 := by rw [signs_length, hss]
  have hdec := dec_signs hsb (by rw [hss]; decide)
  have H := hid (And.intro hsrc (And.intro hv (And.intro hss (And.intro hsb (And.intro hg (And.intro hsl hdec))))))
  clear hsrc hv hss hsb hg hsl hdec
  obtain ⟨R, hR⟩ : ∃ R, R = 2 ^ k := ⟨_, rfl⟩
  have hR2 : R ≤ 2147483648 := by rw [hR]; exact Nat.pow_le_pow_right (by decide) hk
  have HR := hid hR
  rw [← hR]
  clear hR
  go_enter Tryd.func21, Tryd.ntmps21
  go_wp2_with fail
  refine (base64Decode_kept v base 22 22 (signs ss) w (by decide) (by decide) H.out.2.2.2.2.2.1 (signs_bytes H.out.2.2.2.1) H.out.2.1 hb (fun j hj => by rw [signs_good H.out.2.2.2.1 (by rw [H.out.2.2.1]; exact hj)]; exact six_lt H.out.2.2.2.1 j) (Nat.le_refl _) (.inl ⟨rfl, .inl rfl⟩)).mono ?_
  rintro e w1 ⟨hown1, hgr1, ⟨_, u, rfl, hu⟩ | ⟨hz, _⟩⟩
  · have hbel1 := below_own H.out.2.1 hgr1 hb
    rw [H.out.2.2.2.2.2.2] at hu
    obtain ⟨gs, cs, curs, rfl, hbs, hgs, hlcs, _, _, _, _⟩ := hu.form (by rw [H.out.2.2.1]; decide)
    have hucell := hu.cells
    rw [H.out.2.2.1] at hucell hlcs ⊢
    have H1 := hid (And.intro hown1 (And.intro hbel1 (And.intro hucell hgr1)))
    have hbw1 : base ≤ w1.heap.size := Nat.le_trans hb hbel1.size
    clear hown1 hbel1 hu hucell hgr1
    go_upto_region 4 with fail
    go_cut [10] from 22 to 29 (fun v wx => ∃ g cap, v = .slice (some ⟨g, 0, none⟩) (n + 1) cap ∧ w1.heap.size ≤ g ∧ Hid (Key wx g 0 (n + 1) (xs ++ [0])) ∧ Hid (w1.grownBy wx none))
    case first =>
      have hsrc1 := hid (H.out.1.below H1.out.2.1 (Nat.le_refl _))
      cases a with
      | none =>
        obtain rfl := hnone rfl
        obtain rfl : n = 0 := by omega
        go_wp2_with ((with_reducible refine atOp (o := ⟨some 29, _, _, _, _, _⟩) ?_); refine wpList_append_grows _ rfl (.tmp 27) (.tmp 28) 22 rfl 5 i0 (.int .u8 0) 1 1 Tryd.underlying22 hi hz0 hz1 hz2 rfl (by decide) none 0 0 (valsOf xs) rfl (fun _ => ⟨rfl, rfl⟩) (by rw [valsOf_length, hsrc1.out.1]) (fun b hb => by cases hb) ⟨w1.heap.size, 0, none⟩ 1 1 [.int .u8 0] rfl rfl (k_new w1 _ _) (k_one _ _) (by omega) (by unfold maxLen; omega) (by omega) ?_; intro v' w2 hown hgr; have H2 := hid (And.intro hown hgr); clear hown hgr)
        go_meet
        exact ckey_met hsrc1.out.1 hsrc1.out.bytes hn H2.out.1 H2.out.2
      | some x =>
        go_wp2_with ((with_reducible refine atOp (o := ⟨some 29, _, _, _, _, _⟩) ?_); refine wpList_append_grows _ rfl (.tmp 27) (.tmp 28) 22 rfl 5 i0 (.int .u8 0) 1 1 Tryd.underlying22 hi hz0 hz1 hz2 rfl (by decide) (some x) n n (valsOf xs) rfl (fun h => by cases h) (by rw [valsOf_length, hsrc1.out.1]; omega) (srcB_news hsrc1.out (fun b o j hb => World.cell?_alloc_lt _ _ _ (show b < w1.heap.size by omega))) ⟨w1.heap.size, 0, none⟩ 1 1 [.int .u8 0] rfl rfl (k_new w1 _ _) (k_one _ _) (by omega) (by unfold maxLen; omega) (by omega) ?_; intro v' w2 hown hgr; have H2 := hid (And.intro hown hgr); clear hown hgr)
        go_meet
        exact ckey_met hsrc1.out.1 hsrc1.out.bytes hn H2.out.1 H2.out.2
    case rest =>
      obtain ⟨g, cap, rfl, hg1, hkey, hgr⟩ := hcut
      have hsk : Hid (Key wc gs 0 16 ss) := ⟨by decide, by decide, H.out.2.2.2.1, fun i hi => (grown_cell hgr.out (p := ⟨gs, 0 + i, none⟩) hgs (by simp)).trans (H1.out.2.2.1 i hi)⟩
      have hgl : Hid (Glob wc t) := (H.out.2.2.2.2.1.below H1.out.2.1 hgb).grown hgr.out (by simp)
      have hwc : w1.heap.size ≤ wc.heap.size := hgr.out.size
      have hglt : g < wc.heap.size := block_lt_of_cell (hkey.out.2.2.2 0 hkey.out.1)
      go_wp2_with fail
      refine (newSalted_any g 0 (n + 1) cap gs 0 16 cs (xs ++ [0]) ss t wc hkey.out hsk.out hgl.out (by omega)).mono ?_
      rintro e w2 ⟨rfl, hc2, hg2⟩
      obtain ⟨gc, hgc⟩ : ∃ gc, gc = wc.heap.size := ⟨_, rfl⟩
      rw [← hgc] at hc2
      rw [← hgc]
      have hkw : Hid (Key w2 g 0 (n + 1) (xs ++ [0]) ∧ Key w2 gs 0 16 ss) := ⟨hkey.out.grown hg2 (by simp), hsk.out.grown hg2 (by simp)⟩
      have hgn : g ≠ gc := by omega
      have hgsn : gs ≠ gc := by omega
      have H2 : Hid (Cip w2 gc (setupT t (wdW (xs ++ [0]) (n + 1)) (wdW ss 16) 0) ∧ wc.grownBy w2 none) := ⟨hc2, hg2⟩
      have hsh : (2 : Nat) ^ k ≤ 2147483648 := by rw [← HR.out]; exact hR2
      have HGC := hid hgc
      clear hc2 hg2 hkey hsk hgl hgc
      have hwr : IntKind.u64.wrap ((2 : Int) ^ k) = (R : Int) := by
        have e : ((2 : Int) ^ k) = (R : Int) := by rw [HR.out]; simp
        rw [e]
        simp only [IntKind.wrap, IntKind.signed, IntKind.bits]
        simp
        omega
      go_wp2_with fail
      clear hwr
      obtain ⟨wk, hwk⟩ : ∃ wk : World, wk = w2 := ⟨_, rfl⟩
      rw [← hwk] at hkw H2
      rw [← hwk]
      clear hwk w2
      go_loopw [12] (fun i wr => ∃ I : Nat, I ≤ R ∧ i = .int .u64 (I : Nat) ∧ Hid (Cip wr gc (setupT t (wdW (xs ++ [0]) (n + 1)) (wdW ss 16) I) ∧ wk.grownBy wr (some gc))) (fun i _ => R - (intOf i).toNat)
      case atStart => exact ⟨0, Nat.zero_le _, rfl, H2.out.1, ⟨rfl, rfl, rfl, Nat.le_refl _, fun _ _ _ => rfl⟩⟩
      case round =>
        obtain ⟨I, hI, rfl, hE⟩ := hrel
        have hgn2 : some g ≠ some gc := fun h => hgn (by injection h)
        have hgsn2 : some gs ≠ some gc := fun h => hgsn (by injection h)
        by_cases hlt : I < R
        · go_wp2_with fail
          refine (expandKey_any g 0 (n + 1) cap gc (xs ++ [0]) _ wr (hkw.out.1.grown hE.out.2 hgn2) hgn hE.out.1).mono ?_
          rintro e w3 ⟨rfl, hE3⟩
          have H3 := hid (And.intro hE3.1 (grown_trans hE.out.2 hE3.2))
          clear hE3
          go_wp2_with fail
          refine (expandKey_any gs 0 16 cs gc ss _ w3 (hkw.out.2.grown H3.out.2 hgsn2) hgsn H3.out.1).mono ?_
          rintro e w4 ⟨rfl, hE4⟩
          have H4 := hid (And.intro hE4.1 (grown_trans H3.out.2 hE4.2))
          clear hE4
          go_wp2_with fail
          go_roundw
          case rel => exact ⟨I + 1, by omega, by go_num, H4.out.1, H4.out.2⟩
          case measure => simp only [intOf]; omega
        · obtain ⟨J, hJ⟩ : ∃ J, J = I := ⟨_, rfl⟩
          rw [← hJ] at hE
          have HJ : Hid (J = R) := hid (by omega)
          clear hJ
          go_wp2_with fail
          go_ret2
          rw [HJ.out] at hE
          have hgw : wc.grownBy wr none := grown_new H2.out.2 hE.out.2 (by have := HGC.out; omega)
          have hg1w : w1.grownBy wr none := grown_trans hgr.out hgw
          refine ⟨gc, ?_, rfl, hE.out.1, ?_, ?_⟩
          · have := H1.out.2.1.size; have := HGC.out; omega
          · exact H1.out.1.grown hg1w (Classical.em _)
          · exact grown_trans H1.out.2.2.2 (grown_any hg1w _)
  · omega
#print axioms setup_any
end Go.Proofs.YtmglaaejobbbiaaDoor
