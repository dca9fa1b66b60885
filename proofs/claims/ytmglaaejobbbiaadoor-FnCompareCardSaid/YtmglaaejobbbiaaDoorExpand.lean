/-
  getNextWord, ExpandKey, expandKeyWithSalt: the tables become those that the key schedule gives (wdW, keyT, fillT, expT in YtmglaaejobbbiaaDoorFish); nothing else turns.
-/
import Derived.Test.YtmglaaejobbbiaaDoorBlock
import Derived.Deep.RegionWith
namespace Go.Proofs.YtmglaaejobbbiaaDoor
open Go.RowKit

theorem or_word (x y : Nat) (_hx : x < 4294967296) (hy : y < 256) : bits BinOp.or IntKind.u32 ((x : Int) * 256 % 4294967296) (y : Int) = (((x * 256 % 4294967296) ||| y : Nat) : Int) ∧ (x * 256 % 4294967296) ||| y < 4294967296 := by
  have e : ((x : Int) * 256 % 4294967296) = ((x * 256 % 4294967296 : Nat) : Int) := by omega
  have h1 : x * 256 % 4294967296 < 4294967296 := Nat.mod_lt _ (by decide)
  exact ⟨by rw [e, u32_or_nat _ _ h1 (by omega)], Nat.or_lt_two_pow (n := 32) h1 (by omega)⟩
theorem xor_word (x y : Nat) (hx : x < 4294967296) (hy : y < 4294967296) : bits BinOp.xor IntKind.u32 (x : Int) (y : Int) = ((x ^^^ y : Nat) : Int) := u32_xor_nat x y hx hy

/-- What a key is to the walks: bytes that are there. -/
def Key (w : World) (gk ok n : Nat) (ys : List Nat) : Prop := 0 < n ∧ n ≤ 1048576 ∧ Bytes ys ∧ ∀ i, i < n → w.cell? ⟨gk, ok + i, none⟩ = some (.int .u8 (byteAt ys i : Nat))
theorem Key.grown {w w' : World} {gk ok n : Nat} {ys : List Nat} {row : Option Nat} (h : Key w gk ok n ys) (hg : w.grownBy w' row) (hr : some gk ≠ row) : Key w' gk ok n ys :=
  ⟨h.1, h.2.1, h.2.2.1, fun i hi => (grown_cell hg (p := ⟨gk, ok + i, none⟩) (block_lt_of_cell (h.2.2.2 i hi)) hr).trans (h.2.2.2 i hi)⟩

def WordPost (gj n j0 : Nat) (ys : List Nat) (w : World) (e : Ending) (w' : World) : Prop :=
  ∃ x j : Nat, x < 4294967296 ∧ j < n ∧ itW ys n (0, j0) 4 = (x, j) ∧ e = .returned (.int .u32 (x : Nat)) ∧ w' = w.setCell ⟨gj, 0, none⟩ (.int .i64 (j : Nat))

set_option maxHeartbeats 1000000 in
theorem getNextWord_any (gk ok n c gj j0 : Nat) (ys : List Nat) (w : World) (hk : Key w gk ok n ys) (hj : j0 < n) (hc : w.cell? ⟨gj, 0, none⟩ = some (.int .i64 (j0 : Nat))) (hf : w.frozen? ⟨gj, 0, none⟩ = false) :
    Calls Tryd.prog 50 #[.slice (some ⟨gk, ok, none⟩) n c, .pointer (some ⟨gj, 0, none⟩)] w (WordPost gj n j0 ys w) := by
  have hn := hk.1
  have hn2 := hk.2.1
  have HK := hid hk
  clear hk
  go_enter Tryd.func50, Tryd.ntmps50
  go_wp2_with fail
  go_loop [5, 6, 7] (fun x j k => ∃ X J K : Nat, X < 4294967296 ∧ J < n ∧ K ≤ 4 ∧ Hid (itW ys n (0, j0) K = (X, J)) ∧ x = .int .u32 (X : Nat) ∧ j = .int .i64 (J : Nat) ∧ k = .int .i64 (K : Nat)) (fun _ _ k => 4 - (intOf k).toNat)
  case atStart => exact ⟨0, j0, 0, by decide, hj, by decide, hid rfl, rfl, rfl, rfl⟩
  case round =>
    obtain ⟨X, J, K, hX, hJ, hK, hIt, rfl, rfl, rfl⟩ := hrel
    by_cases hlt : K < 4
    · have cj := HK.out.2.2.2 J hJ
      have bj := HK.out.2.2.1 J
      obtain ⟨y, hy⟩ : ∃ y, y = byteAt ys J := ⟨_, rfl⟩
      rw [← hy] at cj bj
      have Hy := hid hy
      clear hy
      obtain ⟨e1, e2⟩ := or_word X y hX bj
      obtain ⟨Y, hY⟩ : ∃ Y, Y = (X * 256 % 4294967296) ||| y := ⟨_, rfl⟩
      rw [← hY] at e1 e2
      have HY := hid hY
      clear hY
      have k1 : (J : Int) < (n : Int) := by omega
      by_cases hw : J + 1 < n
      · have k2 : ¬ ((n : Int) ≤ (J : Int) + 1) := by omega
        go_wp2_with fail
        go_round
        case rel => exact ⟨Y, J + 1, K + 1, e2, hw, by omega, hid (itW_go hIt.out hw Hy.out HY.out), rfl, by go_num, by go_num⟩
        case measure => simp only [intOf]; omega
      · have k2 : (n : Int) ≤ (J : Int) + 1 := by omega
        go_wp2_with fail
        go_round
        case rel => exact ⟨Y, 0, K + 1, e2, hn, by omega, hid (itW_wrap hIt.out hw Hy.out HY.out), rfl, rfl, by go_num⟩
        case measure => simp only [intOf]; omega
    · obtain rfl : K = 4 := by omega
      go_wp2_with fail
      go_ret
      exact ⟨X, J, hX, hJ, hIt.out, rfl, rfl⟩

/-- The tables t lie there; nothing but them has turned. -/
def Exp (w0 : World) (gc : Nat) (t : Nat → Nat) (w : World) : Prop := Cip w gc t ∧ w0.grownBy w (some gc)
theorem Exp.set {w0 w : World} {gc i a : Nat} {t : Nat → Nat} (h : Exp w0 gc t w) (ha : a < 4294967296) : Exp w0 gc (setT t i a) (w.setCell ⟨gc, i, none⟩ (.int .u32 (a : Nat))) :=
  ⟨h.1.set i a ha, grown_trans h.2 (grown_setCell _ gc i _)⟩
theorem Exp.drew {w0 w : World} {gc : Nat} {t : Nat → Nat} (h : Exp w0 gc t w) (k : Nat) : Exp w0 gc t (w.drewN k) := ⟨h.1, grown_trans h.2 (grown_drewN w _ k)⟩
theorem xor_noSalt (A k : Nat) : A = A ^^^ noSalt k := (Nat.xor_zero A).symm
/-- m blocks are laid in. -/
def ExF (w0 : World) (gc : Nat) (t0 sw : Nat → Nat) (m A B : Nat) (w : World) : Prop := ∃ T, fillT t0 sw m = (T, A, B) ∧ Exp w0 gc T w
theorem ExF.set {w0 w : World} {gc m A B a b k i j x y X Y : Nat} {t0 sw T : Nat → Nat} (h0 : fillT t0 sw m = (T, A, B)) (hE : Exp w0 gc T w) (hX : X = A ^^^ sw (2 * m)) (hY : Y = B ^^^ sw (2 * m + 1)) (ha : a < 4294967296) (hb : b < 4294967296)
    (ea : a = bfL T X Y) (eb : b = bfR T X Y) (ex : x = a) (ey : y = b) (hi : i = 2 * m) (hj : j = 2 * m + 1) :
    ExF w0 gc t0 sw (m + 1) a b (((w.drewN k).setCell ⟨gc, i, none⟩ (.int .u32 (x : Nat))).setCell ⟨gc, j, none⟩ (.int .u32 (y : Nat))) := by
  subst hi hj ex ey
  exact ⟨_, fillT_step h0 hX hY ea eb, Exp.set (Exp.set (hE.drew k) ha) hb⟩
theorem ExF.set' {w0 w : World} {gc m A B a b k i j x y X Y : Nat} {t0 sw T : Nat → Nat} (h0 : fillT t0 sw m = (T, A, B)) (hE : Exp w0 gc T w) (hX : X = A ^^^ sw (2 * m)) (hY : Y = B ^^^ sw (2 * m + 1)) (ha : a < 4294967296) (hb : b < 4294967296)
    (ea : a = bfL T X Y) (eb : b = bfR T X Y) (ex : x = a) (ey : y = b) (hi : i = 2 * m) (hj : j = 2 * m + 1) :
    ExF w0 gc t0 sw (m + 1) a b (((w.drewN k).setCell ⟨gc, j, none⟩ (.int .u32 (y : Nat))).setCell ⟨gc, i, none⟩ (.int .u32 (x : Nat))) := by
  subst hi hj ex ey
  refine ⟨_, fillT_step h0 hX hY ea eb, ?_⟩
  rw [setT_swap _ (by omega)]
  exact Exp.set (Exp.set (hE.drew k) hb) ha
def ExpPost (gc : Nat) (t : Nat → Nat) (w : World) (e : Ending) (w' : World) : Prop := e = .returned (.tuple #[]) ∧ Exp w gc t w'

set_option maxHeartbeats 8000000 in
set_option maxRecDepth 100000 in
theorem expandKey_any (gk ok n c gc : Nat) (ys : List Nat) (t : Nat → Nat) (w : World) (hk : Key w gk ok n ys) (hgk : gk ≠ gc) (hc : Cip w gc t) :
    Calls Tryd.prog 29 #[.slice (some ⟨gk, ok, none⟩) n c, .pointer (some ⟨gc, 0, none⟩)] w (ExpPost gc (expT t (wdW ys n) noSalt) w) := by
  have hn := hk.1
  have hn2 := hk.2.1
  have hgk2 : some gk ≠ some gc := fun h => hgk (by injection h)
  have HK := hid hk
  have HE : Hid (Exp w gc t w) := ⟨hc, ⟨rfl, rfl, rfl, Nat.le_refl _, fun _ _ _ => rfl⟩⟩
  clear hk hc
  go_enter Tryd.func29, Tryd.ntmps29
  go_wp2_with fail
  go_loopw [4, 5] (fun j i wr => ∃ J I : Nat, J < n ∧ I ≤ 18 ∧ j = .int .i64 (J : Nat) ∧ i = .int .i64 (I : Nat) ∧ Hid (posW ys n I = J) ∧ Hid (Exp w gc (keyT t (wdW ys n) I) wr)) (fun _ i _ => 18 - (intOf i).toNat)
  case atStart => exact ⟨0, 0, hn, by decide, rfl, rfl, hid rfl, HE⟩
  case round =>
    obtain ⟨J, I, hJ, hI, rfl, rfl, hPos, hE⟩ := hrel
    by_cases hlt : I < 18
    · have hk2 := hid (HK.out.grown hE.out.2 hgk2)
      obtain ⟨J0, hJ0⟩ : ∃ J0, J0 = J := ⟨_, rfl⟩
      have HJ0 := hid hJ0
      have HP0 : Hid (posW ys n I = J0) := hid (by rw [hJ0]; exact hPos.out)
      clear hJ0 hPos
      go_wp2_with fail
      go_loop [4, 6, 7] (fun j x k => ∃ J X K : Nat, J < n ∧ X < 4294967296 ∧ K ≤ 4 ∧ Hid (itW ys n (0, J0) K = (X, J)) ∧ j = .int .i64 (J : Nat) ∧ x = .int .u32 (X : Nat) ∧ k = .int .i64 (K : Nat)) (fun _ _ k => 4 - (intOf k).toNat)
      case atStart => exact ⟨J, 0, 0, hJ, by decide, by decide, hid (by rw [HJ0.out]; rfl), rfl, rfl, rfl⟩
      case round =>
        clear HJ0
        obtain ⟨J, X, K, hJ, hX, hK, hIt, rfl, rfl, rfl⟩ := hrel
        by_cases hlt4 : K < 4
        · have cj := hk2.out.2.2.2 J hJ
          have bj := hk2.out.2.2.1 J
          obtain ⟨y, hy⟩ : ∃ y, y = byteAt ys J := ⟨_, rfl⟩
          rw [← hy] at cj bj
          have Hy := hid hy
          clear hy
          obtain ⟨e1, e2⟩ := or_word X y hX bj
          obtain ⟨Y, hY⟩ : ∃ Y, Y = (X * 256 % 4294967296) ||| y := ⟨_, rfl⟩
          rw [← hY] at e1 e2
          have HY := hid hY
          clear hY
          have k1 : (J : Int) < (n : Int) := by omega
          by_cases hw : J + 1 < n
          · have k2 : ¬ ((n : Int) ≤ (J : Int) + 1) := by omega
            go_wp2_with fail
            go_round
            case rel => exact ⟨J + 1, Y, K + 1, hw, e2, by omega, hid (itW_go hIt.out hw Hy.out HY.out), by go_num, rfl, by go_num⟩
            case measure => simp only [intOf]; omega
          · have k2 : (n : Int) ≤ (J : Int) + 1 := by omega
            go_wp2_with fail
            go_round
            case rel => exact ⟨0, Y, K + 1, hn, e2, by omega, hid (itW_wrap hIt.out hw Hy.out HY.out), rfl, rfl, by go_num⟩
            case measure => simp only [intOf]; omega
        · obtain rfl : K = 4 := by omega
          have hw4 := hid (wd_of HP0.out hIt.out)
          have pc := hE.out.1.cell (i := I) (by omega)
          have pf := hE.out.1.free I
          have pb := hE.out.1.lt (i := I) (by omega)
          obtain ⟨P, hP⟩ : ∃ P, P = keyT t (wdW ys n) I I := ⟨_, rfl⟩
          rw [← hP] at pc pb
          have HKS := hid (keyT_step hP hw4.out.1)
          have ex := xor_word P X pb hX
          clear hP
          go_upto_region 12 with fail
          go_region
          all_goals
            go_wp2_with fail
            go_roundw
            case rel => exact ⟨J, I + 1, hJ, by omega, rfl, by go_num, hid hw4.out.2, hid (by rw [HKS.out]; exact Exp.set (hE.out.drew _) (xor_lt32 pb hX))⟩
            case measure => simp only [intOf]; omega
    · have hI18 : ¬ ((I : Int) < 18) := by omega
      have HI18 := hid hI
      have HE2 : Hid (ExF w gc (keyT t (wdW ys n) 18) noSalt 0 0 0 wr) := by
        have e : I = 18 := by omega
        exact hid ⟨_, rfl, by rw [← e]; exact hE.out⟩
      clear hE HE hPos
      obtain ⟨wo, hwo⟩ : ∃ wo : World, wo = wr := ⟨_, rfl⟩
      subst hwo
      go_wp2_with fail
      go_loopw [8, 9, 10] (fun l r i wr => ∃ A B I : Nat, A < 4294967296 ∧ B < 4294967296 ∧ 2 * I ≤ 18 ∧ l = .int .u32 (A : Nat) ∧ r = .int .u32 (B : Nat) ∧ i = .int .i64 ((2 * I : Nat) : Int) ∧ Hid (ExF w gc (keyT t (wdW ys n) 18) noSalt (0 + I) A B wr)) (fun _ _ i _ => 18 - (intOf i).toNat)
      case atStart => exact ⟨0, 0, 0, by decide, by decide, by decide, rfl, rfl, rfl, HE2⟩
      case round =>
        clear HE2
        obtain ⟨A, B, I, hA, hB, hI, rfl, rfl, rfl, hE⟩ := hrel
        by_cases hlt : 2 * I < 18
        · obtain ⟨t1, hT1, hE1⟩ := hE.out
          have ht1 := hE1.1
          have HT1 := hid (And.intro hT1 hE1)
          clear hT1 hE1
          obtain ⟨i, hi⟩ : ∃ i, i = 2 * I := ⟨_, rfl⟩
          have hi1 : i + 1 < 18 := by omega
          rw [← hi]
          have HI := hid hi
          clear hi
          have H1 := hid ht1
          go_wp2_with fail
          refine (encryptBlock_any gc A B t1 wr hA hB ht1).mono ?_
          rintro e w1 ⟨a, b, ha, hb, ea, eb, rfl, k, rfl⟩
          have HAB := hid (And.intro ea eb)
          clear ea eb
          have f1 : wr.frozen? ⟨gc, i, none⟩ = false := H1.out.free _
          have f2 : wr.frozen? ⟨gc, (i + 1), none⟩ = false := H1.out.free _
          have d1 : wr.cell? ⟨gc, i, none⟩ = _ := H1.out.cell (i := i) (by omega)
          have d2 : wr.cell? ⟨gc, (i + 1), none⟩ = _ := H1.out.cell (i := (i + 1)) (by omega)
          clear ht1
          go_upto_region 18 with fail
          go_region
          all_goals
            go_wp2_with fail
            go_roundw
            case rel => exact ⟨a, b, I + 1, ha, hb, by have := HI.out; omega, rfl, rfl, congrArg _ (by have := HI.out; omega), by first | exact hid (ExF.set (m := 0 + I) HT1.out.1 HT1.out.2 (xor_noSalt _ _) (xor_noSalt _ _) ha hb HAB.out.1 HAB.out.2 (by exact rfl) (by exact rfl) (by have := HI.out; omega) (by have := HI.out; omega)) | exact hid (ExF.set' (m := 0 + I) HT1.out.1 HT1.out.2 (xor_noSalt _ _) (xor_noSalt _ _) ha hb HAB.out.1 HAB.out.2 (by exact rfl) (by exact rfl) (by have := HI.out; omega) (by have := HI.out; omega))⟩
            case measure => simp only [intOf]; omega
        · obtain ⟨i, hi⟩ : ∃ i, i = 2 * I := ⟨_, rfl⟩
          have hi1 : ¬ ((i : Int) < 18) := by omega
          rw [← hi]
          have eI : 0 + I = 9 := by omega
          clear hi hlt
          obtain ⟨HE2, _⟩ : Hid (ExF w gc (keyT t (wdW ys n) 18) noSalt 9 A B wr) ∧ True := ⟨hid (by rw [← eI]; exact hE.out), trivial⟩
          clear eI
          clear hE
          obtain ⟨wo, hwo⟩ : ∃ wo : World, wo = wr := ⟨_, rfl⟩
          subst hwo
          go_wp2_with fail
          go_loopw [8, 9, 11] (fun l r i wr => ∃ A B I : Nat, A < 4294967296 ∧ B < 4294967296 ∧ 2 * I ≤ 256 ∧ l = .int .u32 (A : Nat) ∧ r = .int .u32 (B : Nat) ∧ i = .int .i64 ((2 * I : Nat) : Int) ∧ Hid (ExF w gc (keyT t (wdW ys n) 18) noSalt (9 + I) A B wr)) (fun _ _ i _ => 256 - (intOf i).toNat)
          case atStart => exact ⟨A, B, 0, hA, hB, by decide, rfl, rfl, rfl, HE2⟩
          case round =>
            clear HE2
            obtain ⟨A, B, I, hA, hB, hI, rfl, rfl, rfl, hE⟩ := hrel
            by_cases hlt : 2 * I < 256
            · obtain ⟨t1, hT1, hE1⟩ := hE.out
              have ht1 := hE1.1
              have HT1 := hid (And.intro hT1 hE1)
              clear hT1 hE1
              obtain ⟨i, hi⟩ : ∃ i, i = 2 * I := ⟨_, rfl⟩
              have hi1 : i + 1 < 256 := by omega
              rw [← hi]
              have HI := hid hi
              clear hi
              have H1 := hid ht1
              go_wp2_with fail
              refine (encryptBlock_any gc A B t1 wr hA hB ht1).mono ?_
              rintro e w1 ⟨a, b, ha, hb, ea, eb, rfl, k, rfl⟩
              have HAB := hid (And.intro ea eb)
              clear ea eb
              have f1 : wr.frozen? ⟨gc, 18 + i, none⟩ = false := H1.out.free _
              have f2 : wr.frozen? ⟨gc, 18 + (i + 1), none⟩ = false := H1.out.free _
              have d1 : wr.cell? ⟨gc, 18 + i, none⟩ = _ := H1.out.cell (i := 18 + i) (by omega)
              have d2 : wr.cell? ⟨gc, 18 + (i + 1), none⟩ = _ := H1.out.cell (i := 18 + (i + 1)) (by omega)
              clear ht1
              go_upto_region 23 with fail
              go_region
              all_goals
                go_wp2_with fail
                go_roundw
                case rel => exact ⟨a, b, I + 1, ha, hb, by have := HI.out; omega, rfl, rfl, congrArg _ (by have := HI.out; omega), by first | exact hid (ExF.set (m := 9 + I) HT1.out.1 HT1.out.2 (xor_noSalt _ _) (xor_noSalt _ _) ha hb HAB.out.1 HAB.out.2 (by exact rfl) (by exact rfl) (by have := HI.out; omega) (by have := HI.out; omega)) | exact hid (ExF.set' (m := 9 + I) HT1.out.1 HT1.out.2 (xor_noSalt _ _) (xor_noSalt _ _) ha hb HAB.out.1 HAB.out.2 (by exact rfl) (by exact rfl) (by have := HI.out; omega) (by have := HI.out; omega))⟩
                case measure => simp only [intOf]; omega
            · obtain ⟨i, hi⟩ : ∃ i, i = 2 * I := ⟨_, rfl⟩
              have hi1 : ¬ ((i : Int) < 256) := by omega
              rw [← hi]
              have eI : 9 + I = 137 := by omega
              clear hi hlt
              obtain ⟨HE2, _⟩ : Hid (ExF w gc (keyT t (wdW ys n) 18) noSalt 137 A B wr) ∧ True := ⟨hid (by rw [← eI]; exact hE.out), trivial⟩
              clear eI
              clear hE
              obtain ⟨wo, hwo⟩ : ∃ wo : World, wo = wr := ⟨_, rfl⟩
              subst hwo
              go_wp2_with fail
              go_loopw [8, 9, 12] (fun l r i wr => ∃ A B I : Nat, A < 4294967296 ∧ B < 4294967296 ∧ 2 * I ≤ 256 ∧ l = .int .u32 (A : Nat) ∧ r = .int .u32 (B : Nat) ∧ i = .int .i64 ((2 * I : Nat) : Int) ∧ Hid (ExF w gc (keyT t (wdW ys n) 18) noSalt (137 + I) A B wr)) (fun _ _ i _ => 256 - (intOf i).toNat)
              case atStart => exact ⟨A, B, 0, hA, hB, by decide, rfl, rfl, rfl, HE2⟩
              case round =>
                clear HE2
                obtain ⟨A, B, I, hA, hB, hI, rfl, rfl, rfl, hE⟩ := hrel
                by_cases hlt : 2 * I < 256
                · obtain ⟨t1, hT1, hE1⟩ := hE.out
                  have ht1 := hE1.1
                  have HT1 := hid (And.intro hT1 hE1)
                  clear hT1 hE1
                  obtain ⟨i, hi⟩ : ∃ i, i = 2 * I := ⟨_, rfl⟩
                  have hi1 : i + 1 < 256 := by omega
                  rw [← hi]
                  have HI := hid hi
                  clear hi
                  have H1 := hid ht1
                  go_wp2_with fail
                  refine (encryptBlock_any gc A B t1 wr hA hB ht1).mono ?_
                  rintro e w1 ⟨a, b, ha, hb, ea, eb, rfl, k, rfl⟩
                  have HAB := hid (And.intro ea eb)
                  clear ea eb
                  have f1 : wr.frozen? ⟨gc, 274 + i, none⟩ = false := H1.out.free _
                  have f2 : wr.frozen? ⟨gc, 274 + (i + 1), none⟩ = false := H1.out.free _
                  have d1 : wr.cell? ⟨gc, 274 + i, none⟩ = _ := H1.out.cell (i := 274 + i) (by omega)
                  have d2 : wr.cell? ⟨gc, 274 + (i + 1), none⟩ = _ := H1.out.cell (i := 274 + (i + 1)) (by omega)
                  clear ht1
                  go_upto_region 28 with fail
                  go_region
                  all_goals
                    go_wp2_with fail
                    go_roundw
                    case rel => exact ⟨a, b, I + 1, ha, hb, by have := HI.out; omega, rfl, rfl, congrArg _ (by have := HI.out; omega), by first | exact hid (ExF.set (m := 137 + I) HT1.out.1 HT1.out.2 (xor_noSalt _ _) (xor_noSalt _ _) ha hb HAB.out.1 HAB.out.2 (by exact rfl) (by exact rfl) (by have := HI.out; omega) (by have := HI.out; omega)) | exact hid (ExF.set' (m := 137 + I) HT1.out.1 HT1.out.2 (xor_noSalt _ _) (xor_noSalt _ _) ha hb HAB.out.1 HAB.out.2 (by exact rfl) (by exact rfl) (by have := HI.out; omega) (by have := HI.out; omega))⟩
                    case measure => simp only [intOf]; omega
                · obtain ⟨i, hi⟩ : ∃ i, i = 2 * I := ⟨_, rfl⟩
                  have hi1 : ¬ ((i : Int) < 256) := by omega
                  rw [← hi]
                  have eI : 137 + I = 265 := by omega
                  clear hi hlt
                  obtain ⟨HE2, _⟩ : Hid (ExF w gc (keyT t (wdW ys n) 18) noSalt 265 A B wr) ∧ True := ⟨hid (by rw [← eI]; exact hE.out), trivial⟩
                  clear eI
                  clear hE
                  obtain ⟨wo, hwo⟩ : ∃ wo : World, wo = wr := ⟨_, rfl⟩
                  subst hwo
                  go_wp2_with fail
                  go_loopw [8, 9, 13] (fun l r i wr => ∃ A B I : Nat, A < 4294967296 ∧ B < 4294967296 ∧ 2 * I ≤ 256 ∧ l = .int .u32 (A : Nat) ∧ r = .int .u32 (B : Nat) ∧ i = .int .i64 ((2 * I : Nat) : Int) ∧ Hid (ExF w gc (keyT t (wdW ys n) 18) noSalt (265 + I) A B wr)) (fun _ _ i _ => 256 - (intOf i).toNat)
                  case atStart => exact ⟨A, B, 0, hA, hB, by decide, rfl, rfl, rfl, HE2⟩
                  case round =>
                    clear HE2
                    obtain ⟨A, B, I, hA, hB, hI, rfl, rfl, rfl, hE⟩ := hrel
                    by_cases hlt : 2 * I < 256
                    · obtain ⟨t1, hT1, hE1⟩ := hE.out
                      have ht1 := hE1.1
                      have HT1 := hid (And.intro hT1 hE1)
                      clear hT1 hE1
                      obtain ⟨i, hi⟩ : ∃ i, i = 2 * I := ⟨_, rfl⟩
                      have hi1 : i + 1 < 256 := by omega
                      rw [← hi]
                      have HI := hid hi
                      clear hi
                      have H1 := hid ht1
                      go_wp2_with fail
                      refine (encryptBlock_any gc A B t1 wr hA hB ht1).mono ?_
                      rintro e w1 ⟨a, b, ha, hb, ea, eb, rfl, k, rfl⟩
                      have HAB := hid (And.intro ea eb)
                      clear ea eb
                      have f1 : wr.frozen? ⟨gc, 530 + i, none⟩ = false := H1.out.free _
                      have f2 : wr.frozen? ⟨gc, 530 + (i + 1), none⟩ = false := H1.out.free _
                      have d1 : wr.cell? ⟨gc, 530 + i, none⟩ = _ := H1.out.cell (i := 530 + i) (by omega)
                      have d2 : wr.cell? ⟨gc, 530 + (i + 1), none⟩ = _ := H1.out.cell (i := 530 + (i + 1)) (by omega)
                      clear ht1
                      go_upto_region 33 with fail
                      go_region
                      all_goals
                        go_wp2_with fail
                        go_roundw
                        case rel => exact ⟨a, b, I + 1, ha, hb, by have := HI.out; omega, rfl, rfl, congrArg _ (by have := HI.out; omega), by first | exact hid (ExF.set (m := 265 + I) HT1.out.1 HT1.out.2 (xor_noSalt _ _) (xor_noSalt _ _) ha hb HAB.out.1 HAB.out.2 (by exact rfl) (by exact rfl) (by have := HI.out; omega) (by have := HI.out; omega)) | exact hid (ExF.set' (m := 265 + I) HT1.out.1 HT1.out.2 (xor_noSalt _ _) (xor_noSalt _ _) ha hb HAB.out.1 HAB.out.2 (by exact rfl) (by exact rfl) (by have := HI.out; omega) (by have := HI.out; omega))⟩
                        case measure => simp only [intOf]; omega
                    · obtain ⟨i, hi⟩ : ∃ i, i = 2 * I := ⟨_, rfl⟩
                      have hi1 : ¬ ((i : Int) < 256) := by omega
                      rw [← hi]
                      have eI : 265 + I = 393 := by omega
                      clear hi hlt
                      obtain ⟨HE2, _⟩ : Hid (ExF w gc (keyT t (wdW ys n) 18) noSalt 393 A B wr) ∧ True := ⟨hid (by rw [← eI]; exact hE.out), trivial⟩
                      clear eI
                      clear hE
                      obtain ⟨wo, hwo⟩ : ∃ wo : World, wo = wr := ⟨_, rfl⟩
                      subst hwo
                      go_wp2_with fail
                      go_loopw [8, 9, 14] (fun l r i wr => ∃ A B I : Nat, A < 4294967296 ∧ B < 4294967296 ∧ 2 * I ≤ 256 ∧ l = .int .u32 (A : Nat) ∧ r = .int .u32 (B : Nat) ∧ i = .int .i64 ((2 * I : Nat) : Int) ∧ Hid (ExF w gc (keyT t (wdW ys n) 18) noSalt (393 + I) A B wr)) (fun _ _ i _ => 256 - (intOf i).toNat)
                      case atStart => exact ⟨A, B, 0, hA, hB, by decide, rfl, rfl, rfl, HE2⟩
                      case round =>
                        clear HE2
                        obtain ⟨A, B, I, hA, hB, hI, rfl, rfl, rfl, hE⟩ := hrel
                        by_cases hlt : 2 * I < 256
                        · obtain ⟨t1, hT1, hE1⟩ := hE.out
                          have ht1 := hE1.1
                          have HT1 := hid (And.intro hT1 hE1)
                          clear hT1 hE1
                          obtain ⟨i, hi⟩ : ∃ i, i = 2 * I := ⟨_, rfl⟩
                          have hi1 : i + 1 < 256 := by omega
                          rw [← hi]
                          have HI := hid hi
                          clear hi
                          have H1 := hid ht1
                          go_wp2_with fail
                          refine (encryptBlock_any gc A B t1 wr hA hB ht1).mono ?_
                          rintro e w1 ⟨a, b, ha, hb, ea, eb, rfl, k, rfl⟩
                          have HAB := hid (And.intro ea eb)
                          clear ea eb
                          have f1 : wr.frozen? ⟨gc, 786 + i, none⟩ = false := H1.out.free _
                          have f2 : wr.frozen? ⟨gc, 786 + (i + 1), none⟩ = false := H1.out.free _
                          have d1 : wr.cell? ⟨gc, 786 + i, none⟩ = _ := H1.out.cell (i := 786 + i) (by omega)
                          have d2 : wr.cell? ⟨gc, 786 + (i + 1), none⟩ = _ := H1.out.cell (i := 786 + (i + 1)) (by omega)
                          clear ht1
                          go_upto_region 38 with fail
                          go_region
                          all_goals
                            go_wp2_with fail
                            go_roundw
                            case rel => exact ⟨a, b, I + 1, ha, hb, by have := HI.out; omega, rfl, rfl, congrArg _ (by have := HI.out; omega), by first | exact hid (ExF.set (m := 393 + I) HT1.out.1 HT1.out.2 (xor_noSalt _ _) (xor_noSalt _ _) ha hb HAB.out.1 HAB.out.2 (by exact rfl) (by exact rfl) (by have := HI.out; omega) (by have := HI.out; omega)) | exact hid (ExF.set' (m := 393 + I) HT1.out.1 HT1.out.2 (xor_noSalt _ _) (xor_noSalt _ _) ha hb HAB.out.1 HAB.out.2 (by exact rfl) (by exact rfl) (by have := HI.out; omega) (by have := HI.out; omega))⟩
                            case measure => simp only [intOf]; omega
                        · obtain ⟨i, hi⟩ : ∃ i, i = 2 * I := ⟨_, rfl⟩
                          have hi1 : ¬ ((i : Int) < 256) := by omega
                          rw [← hi]
                          have eI : 393 + I = 521 := by omega
                          clear hi hlt
                          obtain ⟨HE2, _⟩ : Hid (ExF w gc (keyT t (wdW ys n) 18) noSalt 521 A B wr) ∧ True := ⟨hid (by rw [← eI]; exact hE.out), trivial⟩
                          clear eI
                          clear hE
                          go_wp2_with fail
                          obtain ⟨T, hT, hE⟩ := HE2.out
                          exact bodyPost_end (results_none rfl _ _ _) rfl ⟨rfl, by rw [expT, hT]; exact hE⟩

#print axioms expandKey_any
end Go.Proofs.YtmglaaejobbbiaaDoor
