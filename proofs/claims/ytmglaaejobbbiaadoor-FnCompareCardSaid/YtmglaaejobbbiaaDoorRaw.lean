/-
  bcrypt.bcrypt: the 31 signs of a password, a cost and a salt in signs, over the program's first tables and its text, whatever these are; of what was there, nothing below the salt's block turns, and the salt still holds its signs.
-/
import Derived.Test.YtmglaaejobbbiaaDoorSetup
import Derived.Test.YtmglaaejobbbiaaDoorCipher
import Derived.Test.YtmglaaejobbbiaaDoorCopy
namespace Go.Proofs.YtmglaaejobbbiaaDoor
open Go.RowKit

theorem info24 : (Tryd.prog.info? 53).bind (fun i => i.zero.map (fun z => z.cells.size)) = some 24 := by kernel_rfl
theorem info24' : ∃ i z, Tryd.prog.info? 53 = some i ∧ i.zero = some z ∧ z.cells.size = 24 := by
  obtain ⟨i, hi, h⟩ := Option.bind_eq_some_iff.1 info24
  obtain ⟨z, hz, h2⟩ := Option.map_eq_some_iff.1 h
  exact ⟨i, z, hi, hz, h2⟩

/-- The program's text of 24 bytes. -/
def Mag (w : World) (M : Nat → Nat) : Prop := ∀ i, i < 24 → M i < 256 ∧ w.cell? ⟨0, i, none⟩ = some (.int .u8 (M i : Nat))
def magTop : Nat := 1 + 0
theorem Mag.range {w : World} {M : Nat → Nat} (h : Mag w M) : w.rangeAt 0 0 (bytesOf 24 M) := by
  intro j v hv
  have hj : j < 24 := by
    have := (List.getElem?_eq_some_iff.1 hv).1
    rwa [bytesOf_length] at this
  rw [bytesOf_at hj] at hv
  injection hv with hv
  subst hv
  rw [Nat.zero_add]
  exact (h j hj).2
theorem Mag.below {w w' : World} {M : Nat → Nat} {B : Nat} (h : Mag w M) (hb : Below B w w') (hB : magTop ≤ B) : Mag w' M :=
  fun i hi => ⟨(h i hi).1, (hb.cell (p := ⟨_, i, none⟩) (Nat.lt_of_lt_of_le (show 0 < magTop by unfold magTop; omega) hB)).trans (h i hi).2⟩

/-- The tables of a password, a salt and a cost. -/
def tabs (t : Nat → Nat) (xs ss : List Nat) (k : Nat) : Nat → Nat := setupT t (wdW (xs ++ [0]) (xs.length + 1)) (wdW ss 16) (2 ^ k)
/-- The 23 bytes of a password. -/
def rawL (t M : Nat → Nat) (xs ss : List Nat) (k : Nat) : List Nat := (List.range 23).map (cry3 (tabs t xs ss k) M 3)

def RawPost (base : Nat) (v : Value) (ss : List Nat) (L : List Nat) (w : World) (e : Ending) (w' : World) : Prop :=
  ∃ u, e = .returned (.tuple #[u, .nilIface]) ∧ Own w' w.heap.size u (signs L) ∧ Own w' base v (signs ss) ∧ w.grownBy w' v.ownBlock

/-- 24 bytes lie at a block's head. -/
def Txt (w : World) (g : Nat) (M : Nat → Nat) : Prop := ∀ j, j < 24 → w.cell? ⟨g, 0 + j, none⟩ = some (.int .u8 (M j : Nat))
theorem txt_of {w : World} {g : Nat} {M : Nat → Nat} {T : TypeId} {cur : Array Value} (h : w.heap[g]? = some (.cells (cur.toList.take 0 ++ (bytesOf 24 M).toArray.toList ++ cur.toList.drop (0 + (bytesOf 24 M).toArray.size)).toArray T (0, 0))) : Txt w g M := by
  intro j hj
  rw [Nat.zero_add, row_cell h j]
  simp only [List.getElem?_toArray, List.take_zero, List.nil_append]
  rw [List.getElem?_append_left (by rw [bytesOf_length]; exact hj), bytesOf_at hj]
theorem Txt.grown {w w' : World} {g : Nat} {M : Nat → Nat} {row : Option Nat} (h : Txt w g M) (hg : w.grownBy w' row) (hr : some g ≠ row) : Txt w' g M :=
  fun j hj => (grown_cell hg (p := ⟨g, 0 + j, none⟩) (block_lt_of_cell (h j hj)) hr).trans (h j hj)

/-- Nothing but 'row' and new blocks has turned, and then a new block alone. -/
theorem grown_row {a b c : World} {row : Option Nat} {g : Nat} (h : a.grownBy b row) (k : b.grownBy c (some g)) (hg : a.heap.size ≤ g) : a.grownBy c row :=
  ⟨k.os.trans h.os, k.tape.trans h.tape, k.output.trans h.output, Nat.le_trans h.size k.size, fun i hi hr => (k.block i (Nat.lt_of_lt_of_le hi h.size) (by intro e; injection e with e; omega)).trans (h.block i hi hr)⟩

set_option maxHeartbeats 2000000 in
set_option maxRecDepth 100000 in
theorem raw_any (a : Option Addr) (n c k base : Nat) (v : Value) (xs ss : List Nat) (t M : Nat → Nat) (w : World) (hn : n ≤ 72) (hnc : n ≤ c) (hnone : a = none → c = 0) (hk : k ≤ 31) (hsrc : SrcB base w a n xs) (hv : Own w base v (signs ss)) (hss : ss.length = 16) (hsb : Bytes ss)
    (hg : Glob w t) (hgb : globTop ≤ base) (hm : Mag w M) (hb : base ≤ w.heap.size) :
    Calls Tryd.prog 16 #[.slice a n c, .int .i64 (k : Nat), v] w (RawPost base v ss (rawL t M xs ss k) w) := by
  obtain ⟨i0, hi, hz0, hz1, hz2⟩ := info_parts infoByte
  obtain ⟨i1, z1, hi1, hzz1, hzs1⟩ := info24'
  have hxl := hsrc.1
  have H := hid (And.intro hsrc (And.intro hv (And.intro hss (And.intro hsb (And.intro hg hm)))))
  have HZ := hid hzs1
  have HXL := hid hxl
  have hkw : IntKind.u32.wrap (k : Int) = (k : Int) := by simp [IntKind.wrap, IntKind.signed, IntKind.bits]; omega
  clear hsrc hv hss hsb hg hm hzs1 hxl
  go_enter Tryd.func16, Tryd.ntmps16
  go_wp2_with (first
    | ((with_reducible refine atOp (o := ⟨some 15, _, _, _, _, _⟩) ?_); refine wpList_load_mid rfl 53 (.global 0) rfl 0 0 rfl (bytesOf 24 M) _ (Mag.range H.out.2.2.2.2.2) Tryd.underlying53 rfl (by rw [bytesOf_length]; kernel_rfl) ?_)
    | ((with_reducible refine atOp (o := ⟨some 8, _, _, _, _, _⟩) ?_); refine wpList_alloc_row rfl 53 rfl i1 hi1 z1 hzz1 _ rfl ?_; intro w1 hr1 hl1 hg1; have H1 := hid (And.intro hr1.out hg1.out); clear hr1 hg1)
    | ((with_reducible refine atOp (o := ⟨none, .store _ (.tmp 8) _, _, _, _, _⟩) ?_); refine wpList_store_row rfl 53 (.tmp 8) (.tmp 15) rfl w.heap.size 0 (bytesOf 24 M).toArray rfl rfl _ _ H1.out.1 (by rw [List.size_toArray, bytesOf_length, HZ.out]; decide) (by rw [List.size_toArray, bytesOf_length]; kernel_rfl) bytesOf_one ?_; intro w2 hr2 hs2 hg2; have H2 := hid (And.intro (txt_of hr2.out) (grown_new H1.out.2 hg2.out (Nat.le_refl _))); have hl2 : w.heap.size < w2.heap.size := (by omega); clear hr2 hg2 hs2)
    | ((with_reducible refine atOp (o := ⟨some 16, _, _, _, _, _⟩) ?_); refine wpList_make_full _ rfl (.const (.int .i64 24)) (.const (.int .i64 24)) 22 rfl w2.heap.size 5 i0 (.int .u8 0) 1 Tryd.underlying22 hi hz0 hz1 .i64 .i64 _ _ 24 rfl rfl rfl rfl (by rw [hz2]; omega) (by unfold maxLen; omega) (by omega) ?_; intro w3 hown hg3; have H3 := hid (And.intro (made_brow hown) (And.intro (H2.out.1.grown hg3 (by simp)) (grown_trans H2.out.2 hg3))); clear hown hg3)
    | ((with_reducible refine atOp (o := ⟨some 19, _, _, _, _, _⟩) ?_); refine wpList_copy_bytes rfl (.tmp 17) (.tmp 18) 22 22 rfl Tryd.underlying22 (by kernel_rfl) w2.heap.size 0 24 24 w.heap.size 0 24 24 24 24 _ M rfl rfl H3.out.1 rfl (fun j hj => ⟨(H.out.2.2.2.2.2 j hj).1, H3.out.2.1 j hj⟩) (by decide) ?_; intro w4 hb4 hs4 hg4; have H4 := hid (And.intro hb4.out (And.intro (grown_new H3.out.2.2 hg4.out (by omega)) hs4)); clear hb4 hg4 hs4))
  have hsz4 := H4.out.2.1.size
  refine (setup_any a n c k base v xs ss t w4 hn hnc hnone hk (H.out.1.below (below_of_grown H4.out.2.1 hb (by simp)) (Nat.le_refl _)) (H.out.2.1.grown H4.out.2.1 (Classical.em _)) H.out.2.2.1 H.out.2.2.2.1 (H.out.2.2.2.2.1.grown H4.out.2.1 (by simp)) hgb (Nat.le_trans hb hsz4)).mono ?_
  rintro e w5 ⟨gc, hgc, rfl, hc5, hv5, hg5⟩
  obtain ⟨gd, hgd⟩ : ∃ gd, gd = w2.heap.size := ⟨_, rfl⟩
  have hne : some gd ≠ v.ownBlock := fun e => by have := (H.out.2.1.lt gd e.symm).2; omega
  have hb4 := H4.out.1
  have hgl4 : gd < w4.heap.size := by rw [hgd]; have := hb4; obtain ⟨cs, hr, _⟩ := hb4; exact row_lt hr
  rw [← hgd] at hb4 ⊢
  have hb5 : BRow w5 gd 24 (cry3 (tabs t xs ss k) M 0) := (hb4.grown hg5 hne).congr (fun i hi => by simp [putL, cry3, hi])
  have hgcd : gc ≠ gd := by omega
  have hgdw : w.heap.size ≤ gd := by omega
  rw [← HXL.out] at hc5
  have H5 : Hid (Cip w5 gc (tabs t xs ss k) ∧ BRow w5 gd 24 (cry3 (tabs t xs ss k) M 0) ∧ Own w5 base v (signs ss) ∧ w.grownBy w5 v.ownBlock) := hid ⟨hc5, hb5, hv5, grown_trans (grown_any H4.out.2.1 _) hg5⟩
  obtain ⟨T, hT⟩ : ∃ T, T = tabs t xs ss k := ⟨_, rfl⟩
  rw [← hT] at H5
  have HT := hid hT
  have hne2 : some gc ≠ some gd := fun h => hgcd (by injection h)
  clear hc5 hv5 hg5 hb4 hb5 hgd hT hne H4 H3 H2 H1
  go_wp2_with fail
  obtain ⟨wk, hwk⟩ : ∃ wk : World, wk = w5 := ⟨_, rfl⟩
  rw [← hwk] at H5 ⊢
  clear hwk w5
  go_loopw [12] (fun i wr => ∃ m : Nat, m ≤ 3 ∧ i = .int .i64 ((8 * m : Nat) : Int) ∧ Hid (Cip wr gc T ∧ BRow wr gd 24 (cry3 T M m) ∧ wk.grownBy wr (some gd))) (fun i _ => 24 - (intOf i).toNat)
  case atStart => exact ⟨0, by decide, rfl, H5.out.1, H5.out.2.1, ⟨rfl, rfl, rfl, Nat.le_refl _, fun _ _ _ => rfl⟩⟩
  case round =>
    obtain ⟨m, hm, rfl, hE⟩ := hrel
    by_cases hlt : m < 3
    · obtain ⟨o, ho⟩ : ∃ o, o = 8 * m := ⟨_, rfl⟩
      have ho1 : o + 8 ≤ 24 := by omega
      have ho2 : (o : Int) < 24 := by omega
      have n1 : ¬ (24 = o) := by omega
      have n2 : (0 : Int) ≤ (o : Int) := by omega
      have nw : IntKind.i64.wrap ((o : Int) + 8) = ((o + 8 : Nat) : Int) := by simp [IntKind.wrap, IntKind.signed, IntKind.bits]; omega
      have n3 : o ≤ o + 8 := by omega
      have n4 : ((o + 8 : Nat) : Int) ≤ 24 := by omega
      have n5 : (0 : Int) ≤ ((o + 8 : Nat) : Int) := by omega
      rw [← ho]
      have HO := hid ho
      clear ho
      go_wp2_with fail
      go_loopw [13] (fun j wr => ∃ q : Nat, q ≤ 64 ∧ j = .int .i64 (q : Nat) ∧ Hid (Cip wr gc T ∧ BRow wr gd 24 (cryN T (cry3 T M m) o q) ∧ wk.grownBy wr (some gd))) (fun j _ => 64 - (intOf j).toNat)
      case atStart => exact ⟨0, by decide, rfl, hE⟩
      case round =>
        clear hE
        obtain ⟨q, hq, rfl, hE⟩ := hrel
        by_cases hq2 : q < 64
        · go_upto_region 13 with fail
          go_region_with (go_at_call 22; go_loud (refine Calls.mono (encrypt_any gc gd o _ _ _ _ 24 T (cryN T (cry3 T M m) o q) wr.drew (by omega) (by omega) ho1 hE.out.1 hE.out.2.1) ?_); rintro e w6 ⟨rfl, hb6, hg6⟩; have H6 := hid (And.intro ((show Cip wr.drew gc T from hE.out.1).grown hg6 hne2) (And.intro hb6 (grown_trans hE.out.2.2 (grown_trans (grown_drew wr _) hg6)))); clear hb6 hg6)
          all_goals
            go_wp2_with fail
            go_roundw
            case rel => exact ⟨q + 1, by omega, by go_num, H6.out.1, H6.out.2.1, H6.out.2.2⟩
            case measure => simp only [intOf]; omega
        · have HQ : Hid (q = 64) := hid (by omega)
          go_wp2_with fail
          go_roundw
          case rel =>
            refine ⟨m + 1, by omega, congrArg _ (by have := HO.out; omega), ?_⟩
            have e : cry3 T M (m + 1) = cryN T (cry3 T M m) o q := by rw [HQ.out, HO.out]; rfl
            rw [e]
            exact hE
          case measure => simp only [intOf]; omega
    · have HM3 : Hid (m = 3) := hid (by omega)
      obtain ⟨o, ho⟩ : ∃ o, o = 8 * m := ⟨_, rfl⟩
      have ho2 : ¬ ((o : Int) < 24) := by omega
      rw [← ho]
      clear ho
      have hE2 : Hid (BRow wr gd 24 (cry3 T M 3) ∧ wk.grownBy wr (some gd)) := hid ⟨by rw [← HM3.out]; exact hE.out.2.1, hE.out.2.2⟩
      clear hE HM3
      have hgr : Hid (w.grownBy wr v.ownBlock) := hid (grown_row H5.out.2.2.2 hE2.out.2 hgdw)
      have hwsz := hgr.out.size
      go_wp2_with fail
      refine (base64Encode_any gd 0 23 24 (rawL t M xs ss k) wr (by decide) (by decide) (by decide) (by simp [rawL]) (Bytes.of_mem (fun y hy => ?_)) (fun j hj => ?_)).mono ?_
      · simp only [rawL, List.mem_map, List.mem_range] at hy
        obtain ⟨j, hj, rfl⟩ := hy
        rw [← HT.out]
        exact hE2.out.1.lt (by omega)
      · rw [Nat.zero_add, hE2.out.1.cell (by omega), HT.out]
        simp [rawL, byteAt, hj]
      · rintro e w7 ⟨u, rfl, hu, hb7⟩
        have H7 := hid (And.intro hu hb7)
        clear hu hb7
        go_wp2_with fail
        go_ret2
        have hg7 : wr.grownBy w7 none := grown_of_below H7.out.2 none
        refine ⟨u, rfl, H7.out.1.mono hwsz, ?_, grown_trans hgr.out (grown_any hg7 _)⟩
        have hne3 : v.ownBlock = none ∨ v.ownBlock ≠ some gd := .inr (fun e => by have := (H.out.2.1.lt gd e).2; omega)
        exact (H5.out.2.2.1.grown hE2.out.2 hne3).grown hg7 (Classical.em _)
#print axioms raw_any
end Go.Proofs.YtmglaaejobbbiaaDoor
