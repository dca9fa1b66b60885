/-
  spec.Raw: the signs of 23 bytes: three blocks of a text, encrypted 64 times by the tables of a password and a salt; nothing that was there turns. For costs of at most 20.
-/
import Derived.Test.YthmjkcnmmlemgaaDoorSSet
import Derived.Test.YthmjkcnmmlemgaaDoorSWd
import Derived.Test.YthmjkcnmmlemgaaDoorSpecEnc
import Derived.Lib.SlBytesConst
namespace Go.Proofs.YthmjkcnmmlemgaaDoor
open Go.RowKit

def magicL : List Nat := [79, 114, 112, 104, 101, 97, 110, 66, 101, 104, 111, 108, 100, 101, 114, 83, 99, 114, 121, 68, 111, 117, 98, 116]
theorem magic_bytes : Bytes magicL := Bytes.of_mem (by decide)
theorem bfT_lt {l r : Nat} {t : Nat → Nat} (ht : ∀ i, i < 18 → t i < 4294967296) (hl : l < 4294967296) (hr : r < 4294967296) : bfL t l r < 4294967296 ∧ bfR t l r < 4294967296 := by
  have h := feis_lt (t := t) (l := l) (r := r) ht hl hr 16 (by decide)
  exact ⟨xor_lt32 h.1 (ht 17 (by decide)), h.2⟩
/-- The text lies at block g. -/
def Txt (w : World) (g : Nat) : Prop := ∀ j, j < 24 → w.cell? ⟨g, j, none⟩ = some (.int .u8 (byteAt magicL j : Nat))
theorem txt_made (w : World) (T : TypeId) : Txt (w.alloc (.cells #[.int .u8 79, .int .u8 114, .int .u8 112, .int .u8 104, .int .u8 101, .int .u8 97, .int .u8 110, .int .u8 66, .int .u8 101, .int .u8 104, .int .u8 111, .int .u8 108, .int .u8 100, .int .u8 101, .int .u8 114, .int .u8 83, .int .u8 99, .int .u8 114, .int .u8 121, .int .u8 68, .int .u8 111, .int .u8 117, .int .u8 98, .int .u8 116] T (24, 25))) w.heap.size := by
  intro j hj
  rw [cell_of_row _ w.heap.size j _ T (24, 25) (heap_alloc_new w _), ← Array.getElem?_toList]
  have e : (#[.int .u8 79, .int .u8 114, .int .u8 112, .int .u8 104, .int .u8 101, .int .u8 97, .int .u8 110, .int .u8 66, .int .u8 101, .int .u8 104, .int .u8 111, .int .u8 108, .int .u8 100, .int .u8 101, .int .u8 114, .int .u8 83, .int .u8 99, .int .u8 114, .int .u8 121, .int .u8 68, .int .u8 111, .int .u8 117, .int .u8 98, .int .u8 116] : Array Value).toList = valsOf magicL := by simp [valsOf, magicL]
  rw [e]
  exact valsOf_at hj
theorem Txt.below {w w' : World} {g B : Nat} (h : Txt w g) (hb : Below B w w') (hg : g < B) : Txt w' g := fun j hj => (hb.cell (p := ⟨g, j, none⟩) hg).trans (h j hj)
/-- A block, encrypted k times. -/
def itC (t : Nat → Nat) (l r : Nat) : Nat → Nat × Nat
  | 0 => (l, r)
  | k + 1 => (bfL t (itC t l r k).1 (itC t l r k).2, bfR t (itC t l r k).1 (itC t l r k).2)
/-- The bytes of the first m blocks of the text. -/
def rawO (t : Nat → Nat) : Nat → List Nat
  | 0 => []
  | m + 1 => rawO t m ++ (b4 (itC t (w4 (byteAt magicL) (8 * m)) (w4 (byteAt magicL) (8 * m + 4)) 64).1 ++ b4 (itC t (w4 (byteAt magicL) (8 * m)) (w4 (byteAt magicL) (8 * m + 4)) 64).2)
theorem rawO_length (t : Nat → Nat) : ∀ m, (rawO t m).length = 8 * m
  | 0 => rfl
  | m + 1 => by simp [rawO, rawO_length t m, b4]; omega

theorem itC_lt {t : Nat → Nat} {l r : Nat} (ht : ∀ i, i < 18 → t i < 4294967296) (hl : l < 4294967296) (hr : r < 4294967296) : ∀ k, (itC t l r k).1 < 4294967296 ∧ (itC t l r k).2 < 4294967296
  | 0 => ⟨hl, hr⟩
  | k + 1 => bfT_lt ht (itC_lt ht hl hr k).1 (itC_lt ht hl hr k).2
theorem rawO_bytes {t : Nat → Nat} (ht : ∀ i, i < 18 → t i < 4294967296) : ∀ m, Bytes (rawO t m)
  | 0 => Bytes.of_mem (by simp [rawO])
  | m + 1 => by
    have h := itC_lt (l := w4 (byteAt magicL) (8 * m)) (r := w4 (byteAt magicL) (8 * m + 4)) ht (w4_lt fun _ _ => magic_bytes _) (w4_lt fun _ _ => magic_bytes _) 64
    exact bytes_append (rawO_bytes ht m) (bytes_append (b4_bytes h.1) (b4_bytes h.2))
theorem byteAt_take {xs : List Nat} {n j : Nat} (h : j < n) : byteAt (xs.take n) j = byteAt xs j := by
  simp [byteAt, List.getD_eq_getElem?_getD, h]
theorem bytes_take {xs : List Nat} {n : Nat} (h : Bytes xs) : Bytes (xs.take n) := Bytes.of_mem fun x hx => h.mem x (List.mem_of_mem_take hx)
/-- What spec.Raw leaves: the signs of the bytes L. -/
def RawPost (L : List Nat) (w : World) (e : Ending) (w' : World) : Prop := OwnPost (signs L) w e w' ∧ Bytes L ∧ L.length = 23
theorem word_quiet {g o n c k : Nat} {w : World} (ht : Txt w g) (hn : 4 ≤ n) (ho : o + 4 ≤ 24) :
    Calls Tryd.prog 16 #[.slice (some ⟨g, o, none⟩) n c] (w.drewN k) fun e w' => e = .returned (.int .u32 (w4 (byteAt magicL) o : Nat)) ∧ ∃ m, w' = w.drewN m := by
  refine (word_any g o n c (byteAt magicL) (w.drewN k) hn (fun i hi => ⟨magic_bytes _, ht (o + i) (by omega)⟩)).mono ?_
  rintro e w' ⟨rfl, m, rfl⟩
  exact ⟨rfl, _, World.drewN_drewN _ _ _⟩

set_option maxHeartbeats 4000000 in
set_option maxRecDepth 100000 in
theorem specRaw_any (cs : Array Value) (a : Option Addr) (n c k gz oz nz cz : Nat) (xs zs : List Nat) (t : Nat → Nat) (w : World) (hn : n ≤ 1024) (hnone : a = none → c = 0) (hk : k ≤ 20) (hcs : Arr cs 1042 0 t) (hsrc : SrcB w.heap.size w a n xs) (hz : Key w gz oz nz zs) :
    Calls Tryd.prog 9 #[.agg cs, .slice a n c, .int .i64 (k : Nat), .slice (some ⟨gz, oz, none⟩) nz cz] w (RawPost ((rawO (setupT t (wdW (xs ++ [0]) (n + 1)) (wdW zs nz) (2 ^ k)) 3).take 23) w) := by
  have hgz : gz < w.heap.size := block_lt_of_cell (hz.2.2.2 0 hz.1)
  have HN := hid hnone
  have HC := hid hcs
  have HX := hid hsrc
  have HZ := hid hz
  clear hnone hcs hsrc hz
  obtain ⟨T, hT⟩ : ∃ T, T = setupT t (wdW (xs ++ [0]) (n + 1)) (wdW zs nz) (2 ^ k) := ⟨_, rfl⟩
  have HT := hid hT
  rw [← hT]
  clear hT
  have kc := fun (w : World) (C : Array Value) (n c : Nat) => Lib.run_convert_bytes_const (P := Tryd.prog) w 22 5 C n c Tryd.underlying22 Tryd.underlying5
  go_enter Tryd.func9, Tryd.ntmps9
  go_wp2_with (first
    | ((with_reducible refine atOp (o := ⟨some 4, _, _, _, _, _⟩) ?_); refine wpList_box_sta rfl (.tmp 0) rfl cs rfl t HC.out ?_; intro w1 hr1 hs1 hg1)
    | ((with_reducible refine atOp (o := ⟨some 16, _, _, _, _, _⟩) ?_); refine wpList_load_sta rfl (.tmp 4) rfl w.heap.size rfl t hr1.out ?_; intro cs1 hcs1))
  have hb1 := below_of_grown hg1.out (Nat.le_refl _) (by simp)
  refine Calls.mono (specSetup_any cs1 a n c k gz oz nz cz xs zs t w1 hn HN.out hk hcs1.out ((HX.out.below hb1 (Nat.le_refl _)).mono (Nat.le_of_lt hs1)) (HZ.out.below hb1 hgz)) ?_
  rintro e w2 ⟨cs2, rfl, hcs2, hb2⟩
  have HA := hid hcs2
  rw [← HT.out] at HA
  have HB2 := hid (hb1.trans (hb2.mono (Nat.le_of_lt hs1)))
  clear hcs2 hb2 hb1 hr1 hg1 hs1 hcs1
  go_upto_region 3 with (first
    | ((with_reducible refine atOp (o := ⟨some 9, _, _, _, _, _⟩) ?_); refine wpList_alloc_sta rfl rfl ?_; intro w3 hr3 hs3 hg3)
    | ((with_reducible refine atOp (o := ⟨none, .store _ (.tmp 9) _, _, _, _, _⟩) ?_); refine wpList_store_sta rfl (.tmp 9) (.tmp 20) rfl w2.heap.size cs2 rfl rfl T HA.out hr3.out ?_; intro wd hr4 hs4 hg4))
  obtain ⟨w5, hw5⟩ : ∃ w5, w5 = wd.alloc (.cells #[.int .u8 79, .int .u8 114, .int .u8 112, .int .u8 104, .int .u8 101, .int .u8 97, .int .u8 110, .int .u8 66, .int .u8 101, .int .u8 104, .int .u8 111, .int .u8 108, .int .u8 100, .int .u8 101, .int .u8 114, .int .u8 83, .int .u8 99, .int .u8 114, .int .u8 121, .int .u8 68, .int .u8 111, .int .u8 117, .int .u8 98, .int .u8 116] 5 (24, 25)) := ⟨_, rfl⟩
  have ht5 := txt_made wd 5
  have hb5 := below_of_grown (grown_alloc wd none (.cells #[.int .u8 79, .int .u8 114, .int .u8 112, .int .u8 104, .int .u8 101, .int .u8 97, .int .u8 110, .int .u8 66, .int .u8 101, .int .u8 104, .int .u8 111, .int .u8 108, .int .u8 100, .int .u8 101, .int .u8 114, .int .u8 83, .int .u8 99, .int .u8 114, .int .u8 121, .int .u8 68, .int .u8 111, .int .u8 117, .int .u8 98, .int .u8 116] 5 (24, 25))) (Nat.le_refl _) (by simp)
  have hs5 : w5.heap.size = wd.heap.size + 1 := by rw [hw5]; simp
  rw [← hw5] at ht5 hb5 ⊢
  obtain ⟨gs, hgs⟩ : ∃ g, g = w2.heap.size := ⟨_, rfl⟩
  obtain ⟨gt, hgt⟩ : ∃ g, g = wd.heap.size := ⟨_, rfl⟩
  have H5 : Hid (Sta w5 gs T ∧ Txt w5 gt ∧ Below w.heap.size w w5) := hid (by
    have q := hs4.out
    rw [hgs, hgt]
    exact ⟨hr4.out.below hb5 hr4.out.in, ht5, ((HB2.out.grown hg3.out HB2.out.size (by simp)).grown hg4.out (by have := HB2.out.size; omega) (fun k e => by injection e with e; have := HB2.out.size; omega)).trans (hb5.mono (by have := HB2.out.size; omega))⟩)
  have q1 : gs < w5.heap.size := by have := hr4.out.in; omega
  have q2 : gt < w5.heap.size := by omega
  have q3 : w.heap.size ≤ w5.heap.size := H5.out.2.2.size
  rw [← hgs, ← hgt]
  clear hgs hgt hw5 ht5 hb5 hs5 hr3 hs3 hg3 hr4 hs4 hg4 HB2 HA
  go_wp2_with fail
  go_loopw [11, 12] (fun v i wr => ∃ m : Nat, m ≤ 3 ∧ i = .int .i64 ((8 * m : Nat) : Int) ∧ Hid (Own wr w5.heap.size v (rawO T m) ∧ Below w5.heap.size w5 wr)) (fun _ i _ => 24 - (intOf i).toNat)
  case atStart => exact ⟨0, by decide, rfl, hid ⟨own_empty w5 _ (Nat.le_refl _), (Below.refl _ _).alloc (Nat.le_refl _) _⟩⟩
  case round =>
    obtain ⟨m, hm, rfl, hE⟩ := hrel
    obtain ⟨i, hi⟩ : ∃ i, i = 8 * m := ⟨_, rfl⟩
    rw [← hi]
    by_cases hlt : i < 24
    · have hi2 : i + 8 ≤ 24 := by omega
      have HI := hid hi
      clear hi
      have HTX := hid (H5.out.2.1.below hE.out.2 q2)
      have hbl : ∀ j, byteAt magicL j < 256 := magic_bytes
      have HBL := hid hbl
      clear hbl
      have i24 : (i : Int) < 24 := by omega
      go_upto_region 7 with fail
      go_quiet ((go_at_call 16; exact word_quiet HTX.out (by omega) (by omega)))
      obtain ⟨l0, hl0⟩ : ∃ l, l = w4 (byteAt magicL) i := ⟨_, rfl⟩
      obtain ⟨r0, hr0⟩ : ∃ l, l = w4 (byteAt magicL) (i + 4) := ⟨_, rfl⟩
      rw [← hl0, ← hr0, show 24 - (i + 4) = 20 - i by omega]
      have bl : l0 < 4294967296 := by rw [hl0]; exact w4_lt (fun j _ => HBL.out _)
      have br : r0 < 4294967296 := by rw [hr0]; exact w4_lt (fun j _ => HBL.out _)
      have HL := hid (And.intro hl0 hr0)
      clear hl0 hr0
      go_wp2_with fail
      have HS := hid (H5.out.1.below hE.out.2 q1)
      go_loopw [13, 14, 15] (fun l r k wx => ∃ L R K q : Nat, L < 4294967296 ∧ R < 4294967296 ∧ K ≤ 64 ∧ l = .int .u32 (L : Nat) ∧ r = .int .u32 (R : Nat) ∧ k = .int .i64 (K : Nat) ∧ Hid (itC T l0 r0 K = (L, R)) ∧ wx = wr.drewN q) (fun _ _ k _ => 64 - (intOf k).toNat)
      case atStart => exact ⟨l0, r0, 0, nq, bl, br, by decide, rfl, rfl, rfl, hid rfl, rfl⟩
      case round =>
        obtain ⟨L, R, K, q, hL, hR, hK, rfl, rfl, rfl, hF, rfl⟩ := hrel
        by_cases hlt2 : K < 64
        · have HZ2 := hid (HS.out.drew q)
          go_wp2_with fail
          refine Calls.mono (crypt_any gs L R T (wr.drewN q) hL hR HZ2.out) ?_
          rintro e w9 ⟨a9, b9, ba9, bb9, ea9, eb9, rfl, q9, rfl⟩
          have HAB := hid (And.intro ea9 eb9)
          clear ea9 eb9
          go_wp2_with fail
          go_roundw
          case rel => exact ⟨a9, b9, K + 1, q + q9, ba9, bb9, by omega, rfl, rfl, by go_num, hid (by simp only [itC, hF.out]; rw [HAB.out.1, HAB.out.2]), rfl⟩
          case measure => simp only [intOf]; omega
        · have HF : Hid (itC T l0 r0 64 = (L, R)) := hid (by
            have e : K = 64 := by omega
            rw [← e]; exact hF.out)
          clear hF
          go_wp2_with fail
          have hAl := heap_alloc_new (wr.drewN q) (.cells #[.int .u32 (L : Nat), .int .u32 (R : Nat)] 25)
          refine Calls.mono (words_any wr.heap.size 2 L R _ hL hR (row_cell hAl 0) (row_cell hAl 1)) ?_
          rintro e w9 ⟨v9, rfl, hv9, hb9⟩
          have hbA := (hE.out.2.grown (grown_drewN wr none q) hE.out.2.size (by simp)).alloc hE.out.2.size (.cells #[.int .u32 (L : Nat), .int .u32 (R : Nat)] 25)
          have hsz := hE.out.2.size
          have hbB := hid (hbA.trans (hb9.mono (by simp; omega)))
          have hO := hid (((show Own (wr.drewN q) w5.heap.size u11 (rawO T m) from hE.out.1).grown (grown_alloc _ none (.cells #[.int .u32 (L : Nat), .int .u32 (R : Nat)] 25)) (by cases u11.ownBlock <;> simp)).below hb9)
          obtain ⟨sa, sc, rfl, hsc, hsrc⟩ := srcB_own hv9 (bytes_append (b4_bytes hL) (b4_bytes hR))
          have hl8 : (b4 L ++ b4 R).length = 8 := rfl
          rw [hl8] at hsrc ⊢
          have HSR := hid (And.intro hsc hsrc)
          clear hAl hbA hb9 hv9 hsc hsrc hl8
          go_wp2_with ((with_reducible refine atOp (o := ⟨some 52, _, _, _, _, _⟩) ?_); refine wpList_append_bytes rfl (.tmp 47) (.tmp 51) rfl w5.heap.size _ (rawO T m) rfl hO.out sa 8 sc (b4 L ++ b4 R) rfl HSR.out.1 _ HSR.out.2 (by rw [rawO_length]; omega) (by have := hbB.out.size; omega) ?_; intro vz wz hvz hgz)
          go_roundw
          case rel =>
            refine ⟨m + 1, by have := HI.out; omega, congrArg _ (by have := HI.out; omega), hid ⟨?_, hbB.out.trans ((below_own hO.out hgz.out hbB.out.size))⟩⟩
            have e : rawO T (m + 1) = rawO T m ++ (b4 L ++ b4 R) := by
              simp only [rawO]
              rw [← HI.out, ← HL.out.1, ← HL.out.2, HF.out]
            rw [e]
            exact hvz.out
          case measure => simp only [intOf]; omega
    · have hM : m = 3 := by omega
      have HE : Hid (Own wr w5.heap.size u11 (rawO T 3) ∧ Below w5.heap.size w5 wr) := hid (by rw [← hM]; exact hE.out)
      have hB := hid (rawO_bytes (t := T) (fun i hi => H5.out.1.lt (by omega)) 3)
      clear hE hi hM
      obtain ⟨go', cap, cur, rfl, hbg, hgl, hlc, hcm, hrow, hcs', hcells⟩ := HE.out.1.form (by rw [rawO_length]; decide)
      have hcl := hid HE.out.1.cells
      rw [rawO_length] at hlc hcl
      have hi24 : ¬ ((i : Int) < 24) := by omega
      have hcap : (23 : Int) ≤ (cap : Int) := by omega
      rw [rawO_length]
      clear hrow hcs' hcells
      go_wp2_with fail
      refine Calls.mono (specEncode_any go' 0 23 cap ((rawO T 3).take 23) wr (by decide) (by rw [List.length_take, rawO_length]; rfl) (bytes_take hB.out) (fun j hj => by rw [byteAt_take hj]; exact hcl.out j (by omega))) ?_
      rintro e wy ⟨vy, rfl, hvy, hby⟩
      have HY := hid (And.intro hvy hby)
      clear hvy hby
      go_wp2_with fail
      go_ret
      refine ⟨⟨_, rfl, HY.out.1.mono (Nat.le_trans q3 HE.out.2.size), (H5.out.2.2.trans (HE.out.2.mono q3)).trans (HY.out.2.mono (Nat.le_trans q3 HE.out.2.size))⟩, bytes_take hB.out, by rw [List.length_take, rawO_length]; rfl⟩
#print axioms specRaw_any
end Go.Proofs.YthmjkcnmmlemgaaDoor
