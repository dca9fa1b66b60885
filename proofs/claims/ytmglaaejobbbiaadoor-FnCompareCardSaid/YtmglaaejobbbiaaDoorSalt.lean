/-
  expandKeyWithSalt: the tables become those that the key schedule with a salt gives (expT in YtmglaaejobbbiaaDoorFish); nothing else that was there turns.
-/
import Derived.Test.YtmglaaejobbbiaaDoorExpand
import Derived.Deep.RegionWith
namespace Go.Proofs.YtmglaaejobbbiaaDoor
open Go.RowKit

/-- The tables t lie at gc, the place J at gj (a block of the call's own); nothing else has turned. -/
def Exs (w0 : World) (gc gj : Nat) (t : Nat → Nat) (J : Nat) (w : World) : Prop := Exp w0 gc t w ∧ w0.heap.size ≤ gj ∧ gc < w0.heap.size ∧ w.heap[gj]? = some (.cells #[.int .i64 (J : Nat)] 3 (0, 0))
theorem Exs.word {w0 w : World} {gc gj J0 J : Nat} {t : Nat → Nat} (h : Exs w0 gc gj t J0 w) : Exs w0 gc gj t J (w.setCell ⟨gj, 0, none⟩ (.int .i64 (J : Nat))) := by
  obtain ⟨⟨ht, hg⟩, h1, h2, hr⟩ := h
  exact ⟨⟨ht.grown (grown_setCell w gj 0 _) (fun e => by injection e with e; omega), grown_both hg (grown_setCell w gj 0 _) (.inr h1)⟩, h1, h2, row_set hr 0 _⟩
theorem Exs.drew {w0 w : World} {gc gj J : Nat} {t : Nat → Nat} (h : Exs w0 gc gj t J w) (k : Nat) : Exs w0 gc gj t J (w.drewN k) := ⟨h.1.drew k, h.2.1, h.2.2.1, h.2.2.2⟩
theorem Exs.set {w0 w : World} {gc gj i a J : Nat} {t : Nat → Nat} (h : Exs w0 gc gj t J w) (ha : a < 4294967296) : Exs w0 gc gj (setT t i a) J (w.setCell ⟨gc, i, none⟩ (.int .u32 (a : Nat))) := by
  obtain ⟨hE, h1, h2, hr⟩ := h
  exact ⟨hE.set ha, h1, h2, row_set_other hr (by simp; omega) _⟩
/-- m blocks are laid in; the next word of the salt is the 2m-th. -/
def ExsF (w0 : World) (gc gj : Nat) (t0 : Nat → Nat) (zs : List Nat) (ns m A B : Nat) (w : World) : Prop := ∃ T, fillT t0 (wdW zs ns) m = (T, A, B) ∧ Exs w0 gc gj T (posW zs ns (2 * m)) w
theorem ExsF.set {w0 w : World} {gc gj m A B a b k i j x y X Y ns J : Nat} {zs : List Nat} {t0 T : Nat → Nat} (h0 : fillT t0 (wdW zs ns) m = (T, A, B)) (hE : Exs w0 gc gj T J w) (hJ : posW zs ns (2 * m + 1 + 1) = J) (hX : X = A ^^^ wdW zs ns (2 * m)) (hY : Y = B ^^^ wdW zs ns (2 * m + 1)) (ha : a < 4294967296) (hb : b < 4294967296)
    (ea : a = bfL T X Y) (eb : b = bfR T X Y) (ex : x = a) (ey : y = b) (hi : i = 2 * m) (hj : j = 2 * m + 1) :
    ExsF w0 gc gj t0 zs ns (m + 1) a b (((w.drewN k).setCell ⟨gc, i, none⟩ (.int .u32 (x : Nat))).setCell ⟨gc, j, none⟩ (.int .u32 (y : Nat))) := by
  subst hi hj hJ ex ey
  exact ⟨_, fillT_step h0 hX hY ea eb, Exs.set (Exs.set (hE.drew k) ha) hb⟩
theorem ExsF.set' {w0 w : World} {gc gj m A B a b k i j x y X Y ns J : Nat} {zs : List Nat} {t0 T : Nat → Nat} (h0 : fillT t0 (wdW zs ns) m = (T, A, B)) (hE : Exs w0 gc gj T J w) (hJ : posW zs ns (2 * m + 1 + 1) = J) (hX : X = A ^^^ wdW zs ns (2 * m)) (hY : Y = B ^^^ wdW zs ns (2 * m + 1)) (ha : a < 4294967296) (hb : b < 4294967296)
    (ea : a = bfL T X Y) (eb : b = bfR T X Y) (ex : x = a) (ey : y = b) (hi : i = 2 * m) (hj : j = 2 * m + 1) :
    ExsF w0 gc gj t0 zs ns (m + 1) a b (((w.drewN k).setCell ⟨gc, j, none⟩ (.int .u32 (y : Nat))).setCell ⟨gc, i, none⟩ (.int .u32 (x : Nat))) := by
  subst hi hj hJ ex ey
  refine ⟨_, fillT_step h0 hX hY ea eb, ?_⟩
  rw [setT_swap _ (by omega)]
  exact Exs.set (Exs.set (hE.drew k) hb) ha

set_option maxHeartbeats 8000000 in
set_option maxRecDepth 100000 in
theorem expandKeyWithSalt_any (gk ok n c gs os ns cs gc : Nat) (ys zs : List Nat) (t : Nat → Nat) (w : World) (hk : Key w gk ok n ys) (hs : Key w gs os ns zs) (hgk : gk ≠ gc) (hgs : gs ≠ gc) (hc : Cip w gc t) :
    Calls Tryd.prog 38 #[.slice (some ⟨gk, ok, none⟩) n c, .slice (some ⟨gs, os, none⟩) ns cs, .pointer (some ⟨gc, 0, none⟩)] w (ExpPost gc (expT t (wdW ys n) (wdW zs ns)) w) := by
  have hn := hk.1
  have hns := hs.1
  have hgk2 : some gk ≠ some gc := fun h => hgk (by injection h)
  have hgs2 : some gs ≠ some gc := fun h => hgs (by injection h)
  have hgl := hc.in
  have HK := hid hk
  have HS := hid hs
  have HE : Hid (Exs w gc w.heap.size t 0 (w.alloc (.cells #[.int .i64 0] 3))) :=
    ⟨⟨hc.grown (grown_alloc w none _) (by simp), grown_alloc w _ _⟩, Nat.le_refl _, hgl, heap_alloc_new w _⟩
  clear hk hs hc
  obtain ⟨gj, hgj⟩ : ∃ gj, gj = w.heap.size := ⟨_, rfl⟩
  rw [← hgj] at HE
  have HGJ := hid hgj
  go_enter Tryd.func38, Tryd.ntmps38
  go_wp2_with fail
  rw [← hgj]
  clear hgj
  go_loopw [7] (fun i wr => ∃ I : Nat, I ≤ 18 ∧ i = .int .i64 (I : Nat) ∧ Hid (Exs w gc gj (keyT t (wdW ys n) I) (posW ys n I) wr)) (fun i _ => 18 - (intOf i).toNat)
  case atStart => exact ⟨0, by decide, rfl, HE⟩
  case round =>
    obtain ⟨I, hI, rfl, hE⟩ := hrel
    by_cases hlt : I < 18
    · have pc := hE.out.1.1.cell (i := I) (by omega)
      have pf := hE.out.1.1.free I
      have pb := hE.out.1.1.lt (i := I) (by omega)
      obtain ⟨P, hP⟩ : ∃ P, P = keyT t (wdW ys n) I I := ⟨_, rfl⟩
      rw [← hP] at pc pb
      have HP := hid hP
      clear hP
      obtain ⟨J, hJe⟩ : ∃ J, J = posW ys n I := ⟨_, rfl⟩
      have hJ : J < n := by rw [hJe]; exact posW_lt hn I
      have hr := hE.out.2.2.2
      rw [← hJe] at hr
      have HJe := hid hJe
      clear hJe
      have hcj := row_cell hr 0
      have hkw := hid (HK.out.grown hE.out.1.2 hgk2)
      have HR := hid hr
      clear hr
      have hne1 : gc ≠ gj := by have h1 := hE.out.2.1; have h2 := hE.out.2.2.1; omega
      have hne2 : gj ≠ gc := fun h => hne1 h.symm
      go_upto_region 4 with fail
      go_region_with (go_at_call 50; go_loud (refine (getNextWord_any gk ok n c gj J ys wr.drew hkw.out hJ (row_cell HR.out 0) (row_free HR.out 0)).mono ?_); rintro e w1 ⟨x, j', hx, hj', hIt, rfl, rfl⟩; have hw4 := hid (wd_of HJe.out.symm hIt); clear hIt; have ex := xor_word P x pb hx)
      all_goals
        go_wp2_with fail
        go_roundw
        case rel => exact ⟨I + 1, by omega, by go_num, hid (by rw [keyT_step HP.out hw4.out.1, hw4.out.2]; exact (Exs.set (Exs.word hE.out) (xor_lt32 pb hx)).drew 1)⟩
        case measure => simp only [intOf]; omega
    · have hI18 : ¬ ((I : Int) < 18) := by omega
      have HI18 := hid hI
      obtain ⟨J, hJe⟩ : ∃ J, J = posW ys n I := ⟨_, rfl⟩
      have hr := hE.out.2.2.2
      rw [← hJe] at hr
      clear hJe
      have rc := row_cell hr 0
      have rf := row_free hr 0
      have HE2 : Hid (ExsF w gc gj (keyT t (wdW ys n) 18) zs ns 0 0 0 (wr.setCell ⟨gj, 0, none⟩ (.int .i64 0))) := by
        have e : I = 18 := by omega
        exact hid ⟨_, rfl, by rw [← e]; exact Exs.word (J := 0) hE.out⟩
      have hne1 : gc ≠ gj := by have h1 := hE.out.2.1; have h2 := hE.out.2.2.1; omega
      have hne2 : gj ≠ gc := fun h => hne1 h.symm
      clear hE HE hr
      go_wp2_with fail
      clear rc rf
      go_loopw [8, 9, 10] (fun l r i wr => ∃ A B I : Nat, A < 4294967296 ∧ B < 4294967296 ∧ 2 * I ≤ 18 ∧ l = .int .u32 (A : Nat) ∧ r = .int .u32 (B : Nat) ∧ i = .int .i64 ((2 * I : Nat) : Int) ∧ Hid (ExsF w gc gj (keyT t (wdW ys n) 18) zs ns (0 + I) A B wr)) (fun _ _ i _ => 18 - (intOf i).toNat)
      case atStart => exact ⟨0, 0, 0, by decide, by decide, by decide, rfl, rfl, rfl, HE2⟩
      case round =>
        clear HE2
        obtain ⟨A, B, I, hA, hB, hI, rfl, rfl, rfl, hE⟩ := hrel
        by_cases hlt : 2 * I < 18
        · obtain ⟨i, hi⟩ : ∃ i, i = 2 * I := ⟨_, rfl⟩
          have hi1 : i + 1 < 18 := by omega
          rw [← hi]
          have HI := hid hi
          clear hi
          go_wp2_with fail
          obtain ⟨T, hT, hX0⟩ := hE.out
          have HT := hid hT
          have hXs : Hid (Exs w gc gj T (posW zs ns (2 * (0 + I))) wr) := hid hX0
          clear hT hX0
          refine (getNextWord_any gs os ns cs gj (posW zs ns (2 * (0 + I))) zs wr (HS.out.grown hXs.out.1.2 hgs2) (posW_lt hns _) (row_cell hXs.out.2.2.2 0) (row_free hXs.out.2.2.2 0)).mono ?_
          rintro e w1 ⟨x, j1, hx, hj1, hi1t, rfl, hw1⟩
          have hv1 := hid (wd_of rfl hi1t)
          have hE1 : Hid (Exs w gc gj T j1 w1) := by rw [hw1]; exact Exs.word hXs.out
          have ex := xor_word A x hA hx
          obtain ⟨X, hX⟩ : ∃ X, X = A ^^^ x := ⟨_, rfl⟩
          have hXb : X < 4294967296 := by rw [hX]; exact xor_lt32 hA hx
          rw [← hX] at ex
          have HX : Hid (X = A ^^^ wdW zs ns (2 * (0 + I))) := hid (by rw [hv1.out.1]; exact hX)
          clear hX hw1 hi1t
          go_wp2_with fail
          refine (getNextWord_any gs os ns cs gj j1 zs w1 (HS.out.grown hE1.out.1.2 hgs2) hj1 (row_cell hE1.out.2.2.2 0) (row_free hE1.out.2.2.2 0)).mono ?_
          rintro e w2 ⟨y, j2, hy, hj2, hi2t, rfl, hw2⟩
          have hv2 := hid (wd_of hv1.out.2 hi2t)
          have hE2 : Hid (Exs w gc gj T j2 w2) := by rw [hw2]; exact Exs.word hE1.out
          have ey := xor_word B y hB hy
          obtain ⟨Y, hY⟩ : ∃ Y, Y = B ^^^ y := ⟨_, rfl⟩
          have hYb : Y < 4294967296 := by rw [hY]; exact xor_lt32 hB hy
          rw [← hY] at ey
          have HY : Hid (Y = B ^^^ wdW zs ns (2 * (0 + I) + 1)) := hid (by rw [hv2.out.1]; exact hY)
          clear hY hw2 hi2t
          go_wp2_with fail
          have ht1 := hE2.out.1.1
          refine (encryptBlock_any gc X Y T w2 hXb hYb ht1).mono ?_
          rintro e w3 ⟨a, b, ha, hb, ea, eb, rfl, k, rfl⟩
          have HAB := hid (And.intro ea eb)
          clear ea eb
          have f1 : w2.frozen? ⟨gc, i, none⟩ = false := ht1.free _
          have f2 : w2.frozen? ⟨gc, (i + 1), none⟩ = false := ht1.free _
          have d1 : w2.cell? ⟨gc, i, none⟩ = _ := ht1.cell (i := i) (by omega)
          have d2 : w2.cell? ⟨gc, (i + 1), none⟩ = _ := ht1.cell (i := (i + 1)) (by omega)
          clear ht1
          go_upto_region 13 with fail
          go_region
          all_goals
            go_wp2_with fail
            go_roundw
            case rel => exact ⟨a, b, I + 1, ha, hb, by have := HI.out; omega, rfl, rfl, congrArg _ (by have := HI.out; omega), by first | exact hid (ExsF.set (m := 0 + I) HT.out hE2.out hv2.out.2 HX.out HY.out ha hb HAB.out.1 HAB.out.2 (by exact rfl) (by exact rfl) (by have := HI.out; omega) (by have := HI.out; omega)) | exact hid (ExsF.set' (m := 0 + I) HT.out hE2.out hv2.out.2 HX.out HY.out ha hb HAB.out.1 HAB.out.2 (by exact rfl) (by exact rfl) (by have := HI.out; omega) (by have := HI.out; omega))⟩
            case measure => simp only [intOf]; omega
        · obtain ⟨i, hi⟩ : ∃ i, i = 2 * I := ⟨_, rfl⟩
          have hi1 : ¬ ((i : Int) < 18) := by omega
          rw [← hi]
          have eI : 0 + I = 9 := by omega
          clear hi hlt
          obtain ⟨HE2, _⟩ : Hid (ExsF w gc gj (keyT t (wdW ys n) 18) zs ns 9 A B wr) ∧ True := ⟨hid (by rw [← eI]; exact hE.out), trivial⟩
          clear eI
          clear hE
          go_wp2_with fail
          go_loopw [8, 9, 11] (fun l r i wr => ∃ A B I : Nat, A < 4294967296 ∧ B < 4294967296 ∧ 2 * I ≤ 256 ∧ l = .int .u32 (A : Nat) ∧ r = .int .u32 (B : Nat) ∧ i = .int .i64 ((2 * I : Nat) : Int) ∧ Hid (ExsF w gc gj (keyT t (wdW ys n) 18) zs ns (9 + I) A B wr)) (fun _ _ i _ => 256 - (intOf i).toNat)
          case atStart => exact ⟨A, B, 0, hA, hB, by decide, rfl, rfl, rfl, HE2⟩
          case round =>
            clear HE2
            obtain ⟨A, B, I, hA, hB, hI, rfl, rfl, rfl, hE⟩ := hrel
            by_cases hlt : 2 * I < 256
            · obtain ⟨i, hi⟩ : ∃ i, i = 2 * I := ⟨_, rfl⟩
              have hi1 : i + 1 < 256 := by omega
              rw [← hi]
              have HI := hid hi
              clear hi
              go_wp2_with fail
              obtain ⟨T, hT, hX0⟩ := hE.out
              have HT := hid hT
              have hXs : Hid (Exs w gc gj T (posW zs ns (2 * (9 + I))) wr) := hid hX0
              clear hT hX0
              refine (getNextWord_any gs os ns cs gj (posW zs ns (2 * (9 + I))) zs wr (HS.out.grown hXs.out.1.2 hgs2) (posW_lt hns _) (row_cell hXs.out.2.2.2 0) (row_free hXs.out.2.2.2 0)).mono ?_
              rintro e w1 ⟨x, j1, hx, hj1, hi1t, rfl, hw1⟩
              have hv1 := hid (wd_of rfl hi1t)
              have hE1 : Hid (Exs w gc gj T j1 w1) := by rw [hw1]; exact Exs.word hXs.out
              have ex := xor_word A x hA hx
              obtain ⟨X, hX⟩ : ∃ X, X = A ^^^ x := ⟨_, rfl⟩
              have hXb : X < 4294967296 := by rw [hX]; exact xor_lt32 hA hx
              rw [← hX] at ex
              have HX : Hid (X = A ^^^ wdW zs ns (2 * (9 + I))) := hid (by rw [hv1.out.1]; exact hX)
              clear hX hw1 hi1t
              go_wp2_with fail
              refine (getNextWord_any gs os ns cs gj j1 zs w1 (HS.out.grown hE1.out.1.2 hgs2) hj1 (row_cell hE1.out.2.2.2 0) (row_free hE1.out.2.2.2 0)).mono ?_
              rintro e w2 ⟨y, j2, hy, hj2, hi2t, rfl, hw2⟩
              have hv2 := hid (wd_of hv1.out.2 hi2t)
              have hE2 : Hid (Exs w gc gj T j2 w2) := by rw [hw2]; exact Exs.word hE1.out
              have ey := xor_word B y hB hy
              obtain ⟨Y, hY⟩ : ∃ Y, Y = B ^^^ y := ⟨_, rfl⟩
              have hYb : Y < 4294967296 := by rw [hY]; exact xor_lt32 hB hy
              rw [← hY] at ey
              have HY : Hid (Y = B ^^^ wdW zs ns (2 * (9 + I) + 1)) := hid (by rw [hv2.out.1]; exact hY)
              clear hY hw2 hi2t
              go_wp2_with fail
              have ht1 := hE2.out.1.1
              refine (encryptBlock_any gc X Y T w2 hXb hYb ht1).mono ?_
              rintro e w3 ⟨a, b, ha, hb, ea, eb, rfl, k, rfl⟩
              have HAB := hid (And.intro ea eb)
              clear ea eb
              have f1 : w2.frozen? ⟨gc, 18 + i, none⟩ = false := ht1.free _
              have f2 : w2.frozen? ⟨gc, 18 + (i + 1), none⟩ = false := ht1.free _
              have d1 : w2.cell? ⟨gc, 18 + i, none⟩ = _ := ht1.cell (i := 18 + i) (by omega)
              have d2 : w2.cell? ⟨gc, 18 + (i + 1), none⟩ = _ := ht1.cell (i := 18 + (i + 1)) (by omega)
              clear ht1
              go_upto_region 20 with fail
              go_region
              all_goals
                go_wp2_with fail
                go_roundw
                case rel => exact ⟨a, b, I + 1, ha, hb, by have := HI.out; omega, rfl, rfl, congrArg _ (by have := HI.out; omega), by first | exact hid (ExsF.set (m := 9 + I) HT.out hE2.out hv2.out.2 HX.out HY.out ha hb HAB.out.1 HAB.out.2 (by exact rfl) (by exact rfl) (by have := HI.out; omega) (by have := HI.out; omega)) | exact hid (ExsF.set' (m := 9 + I) HT.out hE2.out hv2.out.2 HX.out HY.out ha hb HAB.out.1 HAB.out.2 (by exact rfl) (by exact rfl) (by have := HI.out; omega) (by have := HI.out; omega))⟩
                case measure => simp only [intOf]; omega
            · obtain ⟨i, hi⟩ : ∃ i, i = 2 * I := ⟨_, rfl⟩
              have hi1 : ¬ ((i : Int) < 256) := by omega
              rw [← hi]
              have eI : 9 + I = 137 := by omega
              clear hi hlt
              obtain ⟨HE2, _⟩ : Hid (ExsF w gc gj (keyT t (wdW ys n) 18) zs ns 137 A B wr) ∧ True := ⟨hid (by rw [← eI]; exact hE.out), trivial⟩
              clear eI
              clear hE
              go_wp2_with fail
              go_loopw [8, 9, 12] (fun l r i wr => ∃ A B I : Nat, A < 4294967296 ∧ B < 4294967296 ∧ 2 * I ≤ 256 ∧ l = .int .u32 (A : Nat) ∧ r = .int .u32 (B : Nat) ∧ i = .int .i64 ((2 * I : Nat) : Int) ∧ Hid (ExsF w gc gj (keyT t (wdW ys n) 18) zs ns (137 + I) A B wr)) (fun _ _ i _ => 256 - (intOf i).toNat)
              case atStart => exact ⟨A, B, 0, hA, hB, by decide, rfl, rfl, rfl, HE2⟩
              case round =>
                clear HE2
                obtain ⟨A, B, I, hA, hB, hI, rfl, rfl, rfl, hE⟩ := hrel
                by_cases hlt : 2 * I < 256
                · obtain ⟨i, hi⟩ : ∃ i, i = 2 * I := ⟨_, rfl⟩
                  have hi1 : i + 1 < 256 := by omega
                  rw [← hi]
                  have HI := hid hi
                  clear hi
                  go_wp2_with fail
                  obtain ⟨T, hT, hX0⟩ := hE.out
                  have HT := hid hT
                  have hXs : Hid (Exs w gc gj T (posW zs ns (2 * (137 + I))) wr) := hid hX0
                  clear hT hX0
                  refine (getNextWord_any gs os ns cs gj (posW zs ns (2 * (137 + I))) zs wr (HS.out.grown hXs.out.1.2 hgs2) (posW_lt hns _) (row_cell hXs.out.2.2.2 0) (row_free hXs.out.2.2.2 0)).mono ?_
                  rintro e w1 ⟨x, j1, hx, hj1, hi1t, rfl, hw1⟩
                  have hv1 := hid (wd_of rfl hi1t)
                  have hE1 : Hid (Exs w gc gj T j1 w1) := by rw [hw1]; exact Exs.word hXs.out
                  have ex := xor_word A x hA hx
                  obtain ⟨X, hX⟩ : ∃ X, X = A ^^^ x := ⟨_, rfl⟩
                  have hXb : X < 4294967296 := by rw [hX]; exact xor_lt32 hA hx
                  rw [← hX] at ex
                  have HX : Hid (X = A ^^^ wdW zs ns (2 * (137 + I))) := hid (by rw [hv1.out.1]; exact hX)
                  clear hX hw1 hi1t
                  go_wp2_with fail
                  refine (getNextWord_any gs os ns cs gj j1 zs w1 (HS.out.grown hE1.out.1.2 hgs2) hj1 (row_cell hE1.out.2.2.2 0) (row_free hE1.out.2.2.2 0)).mono ?_
                  rintro e w2 ⟨y, j2, hy, hj2, hi2t, rfl, hw2⟩
                  have hv2 := hid (wd_of hv1.out.2 hi2t)
                  have hE2 : Hid (Exs w gc gj T j2 w2) := by rw [hw2]; exact Exs.word hE1.out
                  have ey := xor_word B y hB hy
                  obtain ⟨Y, hY⟩ : ∃ Y, Y = B ^^^ y := ⟨_, rfl⟩
                  have hYb : Y < 4294967296 := by rw [hY]; exact xor_lt32 hB hy
                  rw [← hY] at ey
                  have HY : Hid (Y = B ^^^ wdW zs ns (2 * (137 + I) + 1)) := hid (by rw [hv2.out.1]; exact hY)
                  clear hY hw2 hi2t
                  go_wp2_with fail
                  have ht1 := hE2.out.1.1
                  refine (encryptBlock_any gc X Y T w2 hXb hYb ht1).mono ?_
                  rintro e w3 ⟨a, b, ha, hb, ea, eb, rfl, k, rfl⟩
                  have HAB := hid (And.intro ea eb)
                  clear ea eb
                  have f1 : w2.frozen? ⟨gc, 274 + i, none⟩ = false := ht1.free _
                  have f2 : w2.frozen? ⟨gc, 274 + (i + 1), none⟩ = false := ht1.free _
                  have d1 : w2.cell? ⟨gc, 274 + i, none⟩ = _ := ht1.cell (i := 274 + i) (by omega)
                  have d2 : w2.cell? ⟨gc, 274 + (i + 1), none⟩ = _ := ht1.cell (i := 274 + (i + 1)) (by omega)
                  clear ht1
                  go_upto_region 27 with fail
                  go_region
                  all_goals
                    go_wp2_with fail
                    go_roundw
                    case rel => exact ⟨a, b, I + 1, ha, hb, by have := HI.out; omega, rfl, rfl, congrArg _ (by have := HI.out; omega), by first | exact hid (ExsF.set (m := 137 + I) HT.out hE2.out hv2.out.2 HX.out HY.out ha hb HAB.out.1 HAB.out.2 (by exact rfl) (by exact rfl) (by have := HI.out; omega) (by have := HI.out; omega)) | exact hid (ExsF.set' (m := 137 + I) HT.out hE2.out hv2.out.2 HX.out HY.out ha hb HAB.out.1 HAB.out.2 (by exact rfl) (by exact rfl) (by have := HI.out; omega) (by have := HI.out; omega))⟩
                    case measure => simp only [intOf]; omega
                · obtain ⟨i, hi⟩ : ∃ i, i = 2 * I := ⟨_, rfl⟩
                  have hi1 : ¬ ((i : Int) < 256) := by omega
                  rw [← hi]
                  have eI : 137 + I = 265 := by omega
                  clear hi hlt
                  obtain ⟨HE2, _⟩ : Hid (ExsF w gc gj (keyT t (wdW ys n) 18) zs ns 265 A B wr) ∧ True := ⟨hid (by rw [← eI]; exact hE.out), trivial⟩
                  clear eI
                  clear hE
                  go_wp2_with fail
                  go_loopw [8, 9, 13] (fun l r i wr => ∃ A B I : Nat, A < 4294967296 ∧ B < 4294967296 ∧ 2 * I ≤ 256 ∧ l = .int .u32 (A : Nat) ∧ r = .int .u32 (B : Nat) ∧ i = .int .i64 ((2 * I : Nat) : Int) ∧ Hid (ExsF w gc gj (keyT t (wdW ys n) 18) zs ns (265 + I) A B wr)) (fun _ _ i _ => 256 - (intOf i).toNat)
                  case atStart => exact ⟨A, B, 0, hA, hB, by decide, rfl, rfl, rfl, HE2⟩
                  case round =>
                    clear HE2
                    obtain ⟨A, B, I, hA, hB, hI, rfl, rfl, rfl, hE⟩ := hrel
                    by_cases hlt : 2 * I < 256
                    · obtain ⟨i, hi⟩ : ∃ i, i = 2 * I := ⟨_, rfl⟩
                      have hi1 : i + 1 < 256 := by omega
                      rw [← hi]
                      have HI := hid hi
                      clear hi
                      go_wp2_with fail
                      obtain ⟨T, hT, hX0⟩ := hE.out
                      have HT := hid hT
                      have hXs : Hid (Exs w gc gj T (posW zs ns (2 * (265 + I))) wr) := hid hX0
                      clear hT hX0
                      refine (getNextWord_any gs os ns cs gj (posW zs ns (2 * (265 + I))) zs wr (HS.out.grown hXs.out.1.2 hgs2) (posW_lt hns _) (row_cell hXs.out.2.2.2 0) (row_free hXs.out.2.2.2 0)).mono ?_
                      rintro e w1 ⟨x, j1, hx, hj1, hi1t, rfl, hw1⟩
                      have hv1 := hid (wd_of rfl hi1t)
                      have hE1 : Hid (Exs w gc gj T j1 w1) := by rw [hw1]; exact Exs.word hXs.out
                      have ex := xor_word A x hA hx
                      obtain ⟨X, hX⟩ : ∃ X, X = A ^^^ x := ⟨_, rfl⟩
                      have hXb : X < 4294967296 := by rw [hX]; exact xor_lt32 hA hx
                      rw [← hX] at ex
                      have HX : Hid (X = A ^^^ wdW zs ns (2 * (265 + I))) := hid (by rw [hv1.out.1]; exact hX)
                      clear hX hw1 hi1t
                      go_wp2_with fail
                      refine (getNextWord_any gs os ns cs gj j1 zs w1 (HS.out.grown hE1.out.1.2 hgs2) hj1 (row_cell hE1.out.2.2.2 0) (row_free hE1.out.2.2.2 0)).mono ?_
                      rintro e w2 ⟨y, j2, hy, hj2, hi2t, rfl, hw2⟩
                      have hv2 := hid (wd_of hv1.out.2 hi2t)
                      have hE2 : Hid (Exs w gc gj T j2 w2) := by rw [hw2]; exact Exs.word hE1.out
                      have ey := xor_word B y hB hy
                      obtain ⟨Y, hY⟩ : ∃ Y, Y = B ^^^ y := ⟨_, rfl⟩
                      have hYb : Y < 4294967296 := by rw [hY]; exact xor_lt32 hB hy
                      rw [← hY] at ey
                      have HY : Hid (Y = B ^^^ wdW zs ns (2 * (265 + I) + 1)) := hid (by rw [hv2.out.1]; exact hY)
                      clear hY hw2 hi2t
                      go_wp2_with fail
                      have ht1 := hE2.out.1.1
                      refine (encryptBlock_any gc X Y T w2 hXb hYb ht1).mono ?_
                      rintro e w3 ⟨a, b, ha, hb, ea, eb, rfl, k, rfl⟩
                      have HAB := hid (And.intro ea eb)
                      clear ea eb
                      have f1 : w2.frozen? ⟨gc, 530 + i, none⟩ = false := ht1.free _
                      have f2 : w2.frozen? ⟨gc, 530 + (i + 1), none⟩ = false := ht1.free _
                      have d1 : w2.cell? ⟨gc, 530 + i, none⟩ = _ := ht1.cell (i := 530 + i) (by omega)
                      have d2 : w2.cell? ⟨gc, 530 + (i + 1), none⟩ = _ := ht1.cell (i := 530 + (i + 1)) (by omega)
                      clear ht1
                      go_upto_region 34 with fail
                      go_region
                      all_goals
                        go_wp2_with fail
                        go_roundw
                        case rel => exact ⟨a, b, I + 1, ha, hb, by have := HI.out; omega, rfl, rfl, congrArg _ (by have := HI.out; omega), by first | exact hid (ExsF.set (m := 265 + I) HT.out hE2.out hv2.out.2 HX.out HY.out ha hb HAB.out.1 HAB.out.2 (by exact rfl) (by exact rfl) (by have := HI.out; omega) (by have := HI.out; omega)) | exact hid (ExsF.set' (m := 265 + I) HT.out hE2.out hv2.out.2 HX.out HY.out ha hb HAB.out.1 HAB.out.2 (by exact rfl) (by exact rfl) (by have := HI.out; omega) (by have := HI.out; omega))⟩
                        case measure => simp only [intOf]; omega
                    · obtain ⟨i, hi⟩ : ∃ i, i = 2 * I := ⟨_, rfl⟩
                      have hi1 : ¬ ((i : Int) < 256) := by omega
                      rw [← hi]
                      have eI : 265 + I = 393 := by omega
                      clear hi hlt
                      obtain ⟨HE2, _⟩ : Hid (ExsF w gc gj (keyT t (wdW ys n) 18) zs ns 393 A B wr) ∧ True := ⟨hid (by rw [← eI]; exact hE.out), trivial⟩
                      clear eI
                      clear hE
                      go_wp2_with fail
                      go_loopw [8, 9, 14] (fun l r i wr => ∃ A B I : Nat, A < 4294967296 ∧ B < 4294967296 ∧ 2 * I ≤ 256 ∧ l = .int .u32 (A : Nat) ∧ r = .int .u32 (B : Nat) ∧ i = .int .i64 ((2 * I : Nat) : Int) ∧ Hid (ExsF w gc gj (keyT t (wdW ys n) 18) zs ns (393 + I) A B wr)) (fun _ _ i _ => 256 - (intOf i).toNat)
                      case atStart => exact ⟨A, B, 0, hA, hB, by decide, rfl, rfl, rfl, HE2⟩
                      case round =>
                        clear HE2
                        obtain ⟨A, B, I, hA, hB, hI, rfl, rfl, rfl, hE⟩ := hrel
                        by_cases hlt : 2 * I < 256
                        · obtain ⟨i, hi⟩ : ∃ i, i = 2 * I := ⟨_, rfl⟩
                          have hi1 : i + 1 < 256 := by omega
                          rw [← hi]
                          have HI := hid hi
                          clear hi
                          go_wp2_with fail
                          obtain ⟨T, hT, hX0⟩ := hE.out
                          have HT := hid hT
                          have hXs : Hid (Exs w gc gj T (posW zs ns (2 * (393 + I))) wr) := hid hX0
                          clear hT hX0
                          refine (getNextWord_any gs os ns cs gj (posW zs ns (2 * (393 + I))) zs wr (HS.out.grown hXs.out.1.2 hgs2) (posW_lt hns _) (row_cell hXs.out.2.2.2 0) (row_free hXs.out.2.2.2 0)).mono ?_
                          rintro e w1 ⟨x, j1, hx, hj1, hi1t, rfl, hw1⟩
                          have hv1 := hid (wd_of rfl hi1t)
                          have hE1 : Hid (Exs w gc gj T j1 w1) := by rw [hw1]; exact Exs.word hXs.out
                          have ex := xor_word A x hA hx
                          obtain ⟨X, hX⟩ : ∃ X, X = A ^^^ x := ⟨_, rfl⟩
                          have hXb : X < 4294967296 := by rw [hX]; exact xor_lt32 hA hx
                          rw [← hX] at ex
                          have HX : Hid (X = A ^^^ wdW zs ns (2 * (393 + I))) := hid (by rw [hv1.out.1]; exact hX)
                          clear hX hw1 hi1t
                          go_wp2_with fail
                          refine (getNextWord_any gs os ns cs gj j1 zs w1 (HS.out.grown hE1.out.1.2 hgs2) hj1 (row_cell hE1.out.2.2.2 0) (row_free hE1.out.2.2.2 0)).mono ?_
                          rintro e w2 ⟨y, j2, hy, hj2, hi2t, rfl, hw2⟩
                          have hv2 := hid (wd_of hv1.out.2 hi2t)
                          have hE2 : Hid (Exs w gc gj T j2 w2) := by rw [hw2]; exact Exs.word hE1.out
                          have ey := xor_word B y hB hy
                          obtain ⟨Y, hY⟩ : ∃ Y, Y = B ^^^ y := ⟨_, rfl⟩
                          have hYb : Y < 4294967296 := by rw [hY]; exact xor_lt32 hB hy
                          rw [← hY] at ey
                          have HY : Hid (Y = B ^^^ wdW zs ns (2 * (393 + I) + 1)) := hid (by rw [hv2.out.1]; exact hY)
                          clear hY hw2 hi2t
                          go_wp2_with fail
                          have ht1 := hE2.out.1.1
                          refine (encryptBlock_any gc X Y T w2 hXb hYb ht1).mono ?_
                          rintro e w3 ⟨a, b, ha, hb, ea, eb, rfl, k, rfl⟩
                          have HAB := hid (And.intro ea eb)
                          clear ea eb
                          have f1 : w2.frozen? ⟨gc, 786 + i, none⟩ = false := ht1.free _
                          have f2 : w2.frozen? ⟨gc, 786 + (i + 1), none⟩ = false := ht1.free _
                          have d1 : w2.cell? ⟨gc, 786 + i, none⟩ = _ := ht1.cell (i := 786 + i) (by omega)
                          have d2 : w2.cell? ⟨gc, 786 + (i + 1), none⟩ = _ := ht1.cell (i := 786 + (i + 1)) (by omega)
                          clear ht1
                          go_upto_region 41 with fail
                          go_region
                          all_goals
                            go_wp2_with fail
                            go_roundw
                            case rel => exact ⟨a, b, I + 1, ha, hb, by have := HI.out; omega, rfl, rfl, congrArg _ (by have := HI.out; omega), by first | exact hid (ExsF.set (m := 393 + I) HT.out hE2.out hv2.out.2 HX.out HY.out ha hb HAB.out.1 HAB.out.2 (by exact rfl) (by exact rfl) (by have := HI.out; omega) (by have := HI.out; omega)) | exact hid (ExsF.set' (m := 393 + I) HT.out hE2.out hv2.out.2 HX.out HY.out ha hb HAB.out.1 HAB.out.2 (by exact rfl) (by exact rfl) (by have := HI.out; omega) (by have := HI.out; omega))⟩
                            case measure => simp only [intOf]; omega
                        · obtain ⟨i, hi⟩ : ∃ i, i = 2 * I := ⟨_, rfl⟩
                          have hi1 : ¬ ((i : Int) < 256) := by omega
                          rw [← hi]
                          have eI : 393 + I = 521 := by omega
                          clear hi hlt
                          obtain ⟨HE2, _⟩ : Hid (ExsF w gc gj (keyT t (wdW ys n) 18) zs ns 521 A B wr) ∧ True := ⟨hid (by rw [← eI]; exact hE.out), trivial⟩
                          clear eI
                          clear hE
                          go_wp2_with fail
                          obtain ⟨T, hT, hE⟩ := HE2.out
                          exact bodyPost_end (results_none rfl _ _ _) rfl ⟨rfl, by rw [expT, hT]; exact hE.1⟩

#print axioms expandKeyWithSalt_any
end Go.Proofs.YtmglaaejobbbiaaDoor
