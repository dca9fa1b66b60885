/-
  The walk of the law FnPrefix: a text with another first sign, version or cost is told as such; the law returns true; nothing that was there turns. Whatever numbers of 32 bits the open tables hold.
-/
import Derived.Test.YthmjkcnmmlemgaaDoorSHash
import Derived.Test.YthmjkcnmmlemgaaDoorFirst
import Derived.Test.YthmjkcnmmlemgaaDoorCostE
import Derived.Test.YthmjkcnmmlemgaaDoorFits
namespace Go.Proofs.YthmjkcnmmlemgaaDoor
open Go.RowKit

/-- How a text of sixty bytes begins: any first sign, a version, 'a', a byte, two digits. -/
def HeadF (T : List Nat) (f vv q r : Nat) : Prop := T.length = 60 ∧ Bytes T ∧ byteAt T 0 = f ∧ byteAt T 1 = vv ∧ byteAt T 2 = 97 ∧ byteAt T 4 = 48 + q ∧ byteAt T 5 = 48 + r ∧ q < 10 ∧ r < 10
theorem HeadF.head {T : List Nat} {vv q r : Nat} (h : HeadF T 36 vv q r) : Head T vv q r := h
/-- What Cost tells of such a text. -/
def Told (f vv K : Nat) (n c : Int) : Prop := (f ≠ 36 → c = 4) ∧ (f = 36 → 50 < vv → c = 3) ∧ (f = 36 → vv ≤ 50 → (K < 4 ∨ 31 < K) → c = 5) ∧ (f = 36 → vv ≤ 50 → 4 ≤ K → K ≤ 31 → n = (K : Int) ∧ c = 0)
def ToldPost (f vv K : Nat) (w : World) (e : Ending) (w' : World) : Prop := ∃ n c : Int, e = .returned (.tuple #[.int .i64 n, .int .i64 c]) ∧ Told f vv K n c ∧ w.grownBy w' none

theorem implCost_told (g c f vv q r : Nat) (T : List Nat) (w : World) (hb : Bts w g 60 T) (hh : HeadF T f vv q r) :
    Calls Tryd.prog 7 #[.slice (some ⟨g, 0, none⟩) 60 c] w (ToldPost f vv (10 * q + r) w) := by
  by_cases h1 : f = 36
  · subst h1
    by_cases h2 : vv ≤ 50
    · by_cases h3 : 4 ≤ 10 * q + r ∧ 10 * q + r ≤ 31
      · refine (implCost_ok g c q r vv T w hb hh.head h2 h3.1 h3.2).mono ?_
        rintro e w' ⟨rfl, hg⟩
        exact ⟨_, _, rfl, ⟨fun h => absurd rfl h, fun _ h => by omega, fun _ _ h => by omega, fun _ _ _ _ => ⟨rfl, rfl⟩⟩, hg⟩
      · refine (implCost_bad g c q r vv T w hb hh.1 hh.2.1 hh.head h2 (by omega)).mono ?_
        rintro e w' ⟨rfl, hg⟩
        exact ⟨_, _, rfl, ⟨fun h => absurd rfl h, fun _ h => by omega, fun _ _ _ => rfl, fun _ _ _ _ => by omega⟩, hg⟩
    · refine (implCost_new g c vv T w hb hh.1 hh.2.1 hh.2.2.1 hh.2.2.2.1 (by omega)).mono ?_
      rintro e w' ⟨rfl, hg⟩
      exact ⟨_, _, rfl, ⟨fun h => absurd rfl h, fun _ _ => rfl, fun _ h => by omega, fun _ h => by omega⟩, hg⟩
  · refine (implCost_prefix g c f T w hb hh.1 hh.2.1 hh.2.2.1 h1).mono ?_
    rintro e w' ⟨rfl, hg⟩
    exact ⟨_, _, rfl, ⟨fun _ => rfl, fun h => absurd h h1, fun h => absurd h h1, fun h => absurd h h1⟩, hg⟩

theorem byteAt_set {T : List Nat} {i j y : Nat} (hi : i < T.length) : byteAt (T.set i y) j = if i = j then y else byteAt T j := by
  unfold byteAt
  rw [List.getD_eq_getElem?_getD, List.getD_eq_getElem?_getD, List.getElem?_set]
  by_cases h : i = j
  · subst h; simp [hi]
  · simp [h]
theorem bytes_set {T : List Nat} {i y : Nat} (h : Bytes T) (hi : i < T.length) (hy : y < 256) : Bytes (T.set i y) := by
  intro j
  rw [byteAt_set hi]
  split
  · exact hy
  · exact h j
/-- The text that spec.Hash gives. -/
theorem head_spec {S A : List Nat} (hS : S.length = 22) (hA : A.length = 31) (bS : Bytes S) (bA : Bytes A) : HeadF (headL 4 ++ S ++ A) 36 50 0 4 := by
  have e : ∀ j, j < 7 → byteAt (headL 4 ++ S ++ A) j = byteAt (headL 4) j := fun j hj => by
    rw [List.append_assoc, byteAt_append, if_pos (by simpa [headL] using hj)]
  refine ⟨by simp [headL, hS, hA], bytes_append (bytes_append (head_bytes (by decide)) bS) bA, ?_, ?_, ?_, ?_, ?_, by decide, by decide⟩
  all_goals (rw [e _ (by decide)]; rfl)
theorem HeadF.setF {T : List Nat} {f vv q r y : Nat} (h : HeadF T f vv q r) (hy : y < 256) : HeadF (T.set 0 y) y vv q r := by
  have e : ∀ j, byteAt (T.set 0 y) j = if 0 = j then y else byteAt T j := fun j => byteAt_set (by rw [h.1]; decide)
  exact ⟨by rw [List.length_set, h.1], bytes_set h.2.1 (by rw [h.1]; decide) hy, by rw [e]; rfl, by rw [e]; exact h.2.2.2.1, by rw [e]; exact h.2.2.2.2.1, by rw [e]; exact h.2.2.2.2.2.1, by rw [e]; exact h.2.2.2.2.2.2.1, h.2.2.2.2.2.2.2⟩
theorem HeadF.setV {T : List Nat} {f vv q r y : Nat} (h : HeadF T f vv q r) (hy : y < 256) : HeadF (T.set 1 y) f y q r := by
  have e : ∀ j, byteAt (T.set 1 y) j = if 1 = j then y else byteAt T j := fun j => byteAt_set (by rw [h.1]; decide)
  exact ⟨by rw [List.length_set, h.1], bytes_set h.2.1 (by rw [h.1]; decide) hy, by rw [e]; exact h.2.2.1, by rw [e]; rfl, by rw [e]; exact h.2.2.2.2.1, by rw [e]; exact h.2.2.2.2.2.1, by rw [e]; exact h.2.2.2.2.2.2.1, h.2.2.2.2.2.2.2⟩
theorem HeadF.setC {T : List Nat} {f vv q r x y : Nat} (h : HeadF T f vv q r) (hx : x < 10) (hy : y < 10) : HeadF ((T.set 4 (48 + x)).set 5 (48 + y)) f vv x y := by
  have e0 : ∀ j, byteAt (T.set 4 (48 + x)) j = if 4 = j then 48 + x else byteAt T j := fun j => byteAt_set (by rw [h.1]; decide)
  have e : ∀ j, byteAt ((T.set 4 (48 + x)).set 5 (48 + y)) j = if 5 = j then 48 + y else if 4 = j then 48 + x else byteAt T j := fun j => by rw [byteAt_set (by rw [List.length_set, h.1]; decide), e0]
  exact ⟨by rw [List.length_set, List.length_set, h.1], bytes_set (bytes_set h.2.1 (by rw [h.1]; decide) (by omega)) (by rw [List.length_set, h.1]; decide) (by omega), by rw [e]; exact h.2.2.1, by rw [e]; exact h.2.2.2.1, by rw [e]; exact h.2.2.2.2.1, by rw [e]; rfl, by rw [e]; rfl, hx, hy⟩
theorem Bts.set {w : World} {g i y : Nat} {T : List Nat} (h : Bts w g 60 T) (hl : T.length = 60) (hi : i < 60) (hy : y < 256) : Bts (w.setCell ⟨g, i, none⟩ (.int .u8 (y : Nat))) g 60 (T.set i y) := by
  intro j hj
  rw [byteAt_set (by omega), Nat.zero_add]
  by_cases e : i = j
  · subst e
    rw [if_pos rfl]
    have := (h i hi).2
    rw [Nat.zero_add] at this
    exact ⟨hy, World.cell?_setCell_same _ _ _ this⟩
  · rw [if_neg e, World.cell?_setCell_other _ _ _ _ (fun h => e (by injection h))]
    have := h j hj
    rw [Nat.zero_add] at this
    exact this
theorem Bts.other {w : World} {g n i g' : Nat} {T : List Nat} {v : Value} (h : Bts w g n T) (hg : g ≠ g') : Bts (w.setCell ⟨g', i, none⟩ v) g n T := fun j hj => ⟨(h j hj).1, (World.cell?_setCell_other _ _ _ _ (fun e => hg (by injection e with e1; exact e1.symm))).trans (h j hj).2⟩
/-- A text of sixty bytes lies in a row of its own. -/
def HRowB (w : World) (g : Nat) (T : List Nat) : Prop := Bytes T ∧ ∃ cs : Array Value, w.heap[g]? = some (.cells cs 5 (0, 0)) ∧ ∀ j, j < 60 → cs[j]? = some (.int .u8 (byteAt T j : Nat))
theorem HRowB.cell {w : World} {g i : Nat} {T : List Nat} (h : HRowB w g T) (hi : i < 60) : w.cell? ⟨g, i, none⟩ = some (.int .u8 (byteAt T i : Nat)) := by
  obtain ⟨_, cs, hr, hc⟩ := h
  exact (row_cell hr i).trans (hc i hi)
theorem HRowB.free {w : World} {g : Nat} {T : List Nat} (h : HRowB w g T) (i : Nat) : w.frozen? ⟨g, i, none⟩ = false := by
  obtain ⟨_, cs, hr, hc⟩ := h
  exact row_free hr i
theorem HRowB.bts {w : World} {g : Nat} {T : List Nat} (h : HRowB w g T) : Bts w g 60 T := fun j hj => ⟨h.1 j, by rw [Nat.zero_add]; exact h.cell hj⟩
theorem HRowB.below {w w' : World} {g B : Nat} {T : List Nat} (h : HRowB w g T) (hb : Below B w w') (hg : g < B) : HRowB w' g T := by
  obtain ⟨h0, cs, hr, hc⟩ := h
  exact ⟨h0, cs, (hb.block g hg).trans hr, hc⟩
theorem own_copy {w : World} {base : Nat} {v : Value} {T : List Nat} (h : Own w base v ([] ++ T)) (hl : T.length = 60) (hx : Bytes T) : ∃ g cap, v = .slice (some ⟨g, 0, none⟩) 60 cap ∧ base ≤ g ∧ g < w.heap.size ∧ 60 ≤ cap ∧ Hid (HRowB w g T) := by
  rw [List.nil_append] at h
  obtain ⟨g, cap, cur, rfl, hb, hg, hlc, _, hr, _, hc⟩ := h.form (by rw [hl]; decide)
  rw [hl] at hlc hc ⊢
  exact ⟨g, cap, rfl, hb, hg, hlc, hid ⟨hx, cur, hr, hc⟩⟩
theorem copy_step {w w3 : World} (hg : (w.alloc (.cells #[] 5)).grownBy w3 (Value.slice (some ⟨w.heap.size, 0, none⟩) 0 0).ownBlock) : Below w.heap.size w w3 :=
  (below_of_grown (grown_alloc w none (.cells #[] 5)) (Nat.le_refl _) (by simp)).trans (below_own (own_empty w w.heap.size (Nat.le_refl _)) hg (by simp))
set_option maxHeartbeats 4000000 in
set_option maxRecDepth 100000 in
theorem lawPre_main (a b : Option Addr) (n c d f v K : Nat) (xs ss : List Nat) (t : Nat → Nat) (w : World) (hn : n ≤ 72) (hnone : a = none → c = 0) (hf : f < 256) (hv : v < 256) (hK : K ≤ 99) (hsrc : Src w a n xs) (hsalt : Src w b 16 ss) (hg : Glob w t) (hgb : globTop ≤ w.heap.size) :
    Calls Tryd.prog 3 #[.slice a n c, .slice b 16 d, .int .u8 (f : Nat), .int .u8 (v : Nat), .int .i64 (K : Nat)] w (LawPost w) := by
  have d1 : decide ((2147483647 : Int) < (n : Int)) = false := by simp; omega
  have d3 : decide ((K : Int) < 0) = false := by simp
  have d4 : decide ((99 : Int) < (K : Int)) = false := by simp; omega
  have H := hid (And.intro hsrc (And.intro hsalt (And.intro hg hnone)))
  clear hsrc hsalt hg hnone
  go_enter Tryd.func3, Tryd.ntmps3
  go_wp2_with fail
  refine (fits_true a b n c 4 d w hn (by decide) (by decide)).mono ?_
  rintro e w' ⟨rfl, rfl⟩
  go_wp2_with fail
  refine (implFirst_any t w hgb H.out.2.2.1).mono ?_
  rintro e w1 ⟨cs, t1, rfl, hcs, hb1⟩
  have hkey : ∃ gz oz, b = some ⟨gz, oz, none⟩ ∧ gz < w.heap.size ∧ Key w gz oz 16 ss ∧ ss.length = 16 := by
    rcases H.out.2.1.2 with h0 | ⟨gz, oz, hb, hlt, hx, hs⟩
    · cases h0
    · exact ⟨gz, oz, hb, hlt, ⟨by decide, by decide, hx, hs⟩, H.out.2.1.1⟩
  obtain ⟨gz, oz, rfl, hgz, hkz, hsl⟩ := hkey
  have H1 := hid (And.intro hcs (And.intro ((H.out.1.srcB.below hb1 (Nat.le_refl _)).mono hb1.size) (And.intro (hkz.below hb1 hgz) (And.intro hsl hb1))))
  clear hcs hkz hsl hb1
  go_wp2_with fail
  refine (specHash_any cs a n c 4 gz oz 16 d xs ss t1 w1 (by omega) H.out.2.2.2 (by decide) H1.out.1 H1.out.2.1 H1.out.2.2.1 H1.out.2.2.2.1 (by decide)).mono ?_
  rintro e w2 ⟨⟨v2, rfl, hv2, hb2⟩, hLb, hLl⟩
  obtain ⟨T, hT⟩ : ∃ T, T = headL 4 ++ signs ss ++ signs ((rawO (setupT t1 (wdW (xs ++ [0]) (n + 1)) (wdW ss 16) (2 ^ 4)) 3).take 23) := ⟨_, rfl⟩
  have hH : HeadF T 36 50 0 4 := by
    rw [hT]
    exact head_spec (by rw [signs_length, H1.out.2.2.2.1]) (by rw [signs_length, hLl]) (signs_bytes' H1.out.2.2.1.2.2.1) (signs_bytes' hLb)
  rw [← hT] at hv2
  clear hT hLb hLl
  obtain ⟨gh, ch, ⟨hchl, hsr⟩⟩ : ∃ gh ch, v2 = .slice (some ⟨gh, 0, none⟩) 60 ch ∧ SrcB w2.heap.size w2 (some ⟨gh, 0, none⟩) 60 T := by
    obtain ⟨g, cap, cur, h1, _, h2, _⟩ := hv2.form (by rw [hH.1]; decide)
    subst h1
    rw [hH.1]
    have h3 := hv2.cells
    rw [hH.1] at h3
    exact ⟨g, cap, rfl, hH.1, .inr ⟨g, 0, rfl, h2, hH.2.1, h3⟩⟩
  subst hchl
  have H2 := hid (And.intro hH (And.intro hsr (H1.out.2.2.2.2.trans (hb2.mono H1.out.2.2.2.2.size))))
  clear hv2 hb2 hH hsr
  have HL := hid H2.out.1.1
  go_upto_region 7 with (first
    | ((with_reducible refine atOp (o := ⟨some 47, _, _, _, _, _⟩) ?_); go_loud (refine wpList_append_bytes rfl (.tmp 45) (.tmp 46) rfl w2.heap.size _ [] rfl (own_empty w2 w2.heap.size (Nat.le_refl _)) (some ⟨gh, 0, none⟩) 60 ch T rfl (fun e => by cases e) w2.heap.size ((H2.out.2.1.below (below_of_grown (grown_alloc w2 none _) (Nat.le_refl _) (by simp)) (Nat.le_refl _))) (by simp) (by simp) ?_; intro v3 w3 hv3 hg3; have hb3 := hid (copy_step hg3.out); have hs3 := hb3.out.size))
    | ((with_reducible refine atOp (o := ⟨some 50, _, _, _, _, _⟩) ?_); go_loud (refine wpList_append_bytes rfl (.tmp 48) (.tmp 49) rfl w3.heap.size _ [] rfl (own_empty w3 w3.heap.size (Nat.le_refl _)) (some ⟨gh, 0, none⟩) 60 ch T rfl (fun e => by cases e) w2.heap.size (((H2.out.2.1.below hb3.out (Nat.le_refl _)).below (below_of_grown (grown_alloc w3 none _) (Nat.le_refl _) (by simp)) hs3)) (by simp) (by simp) ?_; intro v4 w4 hv4 hg4; have hb4 := hid (copy_step hg4.out); have hs4 := hb4.out.size))
    | ((with_reducible refine atOp (o := ⟨some 53, _, _, _, _, _⟩) ?_); go_loud (refine wpList_append_bytes rfl (.tmp 51) (.tmp 52) rfl w4.heap.size _ [] rfl (own_empty w4 w4.heap.size (Nat.le_refl _)) (some ⟨gh, 0, none⟩) 60 ch T rfl (fun e => by cases e) w2.heap.size ((((H2.out.2.1.below hb3.out (Nat.le_refl _)).below hb4.out hs3).below (below_of_grown (grown_alloc w4 none _) (Nat.le_refl _) (by simp)) (Nat.le_trans hs3 hs4))) (by simp) (by simp) ?_; intro v5 w5 hv5 hg5; have hb5 := hid (copy_step hg5.out); have hs5 := hb5.out.size)))
  obtain ⟨ga, ca, rfl, hga, hgal, hlca, hA⟩ := own_copy hv3.out HL.out H2.out.1.2.1
  obtain ⟨gb, cb, rfl, hgb1, hgbl, hlcb, hB⟩ := own_copy hv4.out HL.out H2.out.1.2.1
  obtain ⟨gc, cc, rfl, hgc, hgcl, hlcc, hC⟩ := own_copy hv5.out HL.out H2.out.1.2.1
  have hb35 : Below w3.heap.size w3 w5 := hb4.out.trans (hb5.out.mono hs4)
  have H5 : Hid (HRowB w5 ga T ∧ HRowB w5 gb T ∧ HRowB w5 gc T ∧ Below w.heap.size w w5) := hid ⟨hA.out.below hb35 hgal, hB.out.below hb5.out hgbl, hC.out, H2.out.2.2.trans ((hb3.out.mono H2.out.2.2.size).trans (hb35.mono (Nat.le_trans H2.out.2.2.size hs3)))⟩
  have n1 : ga ≠ gb := by omega
  have n2 : ga ≠ gc := by omega
  have n3 : gb ≠ gc := by omega
  have nw : w.heap.size ≤ ga := Nat.le_trans H2.out.2.2.size hga
  clear hv3 hv4 hv5 hg3 hg4 hg5 hb3 hb4 hb5 hb35 hA hB hC
  have ra := H5.out.1.cell (i := 0) (by decide)
  have fa := H5.out.1.free 0
  have rb := H5.out.2.1.cell (i := 1) (by decide)
  have fb := H5.out.2.1.free 1
  have rc := H5.out.2.2.1.cell (i := 4) (by decide)
  have fc := H5.out.2.2.1.free 4
  have rd := H5.out.2.2.1.cell (i := 5) (by decide)
  have fd := H5.out.2.2.1.free 5
  go_upto_region 9 with fail
  obtain ⟨w6, hw6⟩ : ∃ w6, w6 = ((((w5.setCell ⟨ga, 0, none⟩ (.int .u8 (f : Nat))).setCell ⟨gb, 1, none⟩ (.int .u8 (v : Nat))).setCell ⟨gc, 4, none⟩ (.int .u8 (48 + (K : Int) / 10))).setCell ⟨gc, 5, none⟩ (.int .u8 (48 + (K : Int) % 10))) := ⟨_, rfl⟩
  have H6 : Hid ((Bts w6 ga 60 (T.set 0 f) ∧ HeadF (T.set 0 f) f 50 0 4) ∧ (Bts w6 gb 60 (T.set 1 v) ∧ HeadF (T.set 1 v) 36 v 0 4) ∧ (Bts w6 gc 60 ((T.set 4 (48 + K / 10)).set 5 (48 + K % 10)) ∧ HeadF ((T.set 4 (48 + K / 10)).set 5 (48 + K % 10)) 36 50 (K / 10) (K % 10)) ∧ w.grownBy w6 none) := hid (by
    rw [hw6, show (48 + (K : Int) / 10) = ((48 + K / 10 : Nat) : Int) by omega, show (48 + (K : Int) % 10) = ((48 + K % 10 : Nat) : Int) by omega]
    have hl := HL.out
    have hT := H2.out.1
    refine ⟨⟨(((H5.out.1.bts.set hl (by decide) hf).other n1).other n2).other n2, hT.setF hf⟩, ⟨(((H5.out.2.1.bts.other (Ne.symm n1)).set hl (by decide) hv).other n3).other n3, hT.setV hv⟩, ⟨(((H5.out.2.2.1.bts.other (Ne.symm n2)).other (Ne.symm n3)).set hl (by decide) (by omega)).set (by rw [List.length_set, hl]) (by decide) (by omega), hT.setC (by omega) (by omega)⟩, ?_⟩
    exact grown_new (grown_new (grown_new (grown_new (grown_of_below H5.out.2.2.2 none) (grown_setCell _ ga 0 _) nw) (grown_setCell _ gb 1 _) (by omega)) (grown_setCell _ gc 4 _) (by omega)) (grown_setCell _ gc 5 _) (by omega))
  rw [← hw6]
  clear hw6 ra fa rb fb rc fc rd fd H5
  go_wp2_with fail
  refine (implCost_told ga ca f 50 0 4 (T.set 0 f) w6 H6.out.1.1 H6.out.1.2).mono ?_
  rintro e w7 ⟨m1, c1, rfl, h1, hg7⟩
  have H7 := hid (And.intro h1 hg7)
  clear h1 hg7
  go_wp2_with fail
  refine (implCost_told gb cb 36 v 0 4 (T.set 1 v) w7 (H6.out.2.1.1.grown H7.out.2 (by simp)) H6.out.2.1.2).mono ?_
  rintro e w8 ⟨m2, c2, rfl, h2, hg8⟩
  have H8 := hid (And.intro h2 (grown_trans H7.out.2 hg8))
  clear h2 hg8
  go_wp2_with fail
  refine (implCost_told gc cc 36 50 (K / 10) (K % 10) _ w8 (H6.out.2.2.1.1.grown H8.out.2 (by simp)) H6.out.2.2.1.2).mono ?_
  rintro e w9 ⟨m3, c3, rfl, h3, hg9⟩
  rw [show 10 * (K / 10) + K % 10 = K by omega] at h3
  have H9 := hid (And.intro h3 (below_of_grown (grown_trans H6.out.2.2.2 (grown_trans H8.out.2 hg9)) (Nat.le_refl _) (by simp) : Below w.heap.size w w9))
  clear h3 hg9
  have hfc : ((f : Int) != 36) = false ∨ (((f : Int) != 36) = true ∧ c1 = 4) := by
    by_cases h : f = 36
    · left; simp [h]
    · right; exact ⟨by simp; omega, H7.out.1.1 h⟩
  have hvc : decide ((50 : Int) < (v : Int)) = false ∨ (decide ((50 : Int) < (v : Int)) = true ∧ c2 = 3) := by
    by_cases h : 50 < v
    · right; exact ⟨by simp; omega, H8.out.1.2.1 rfl h⟩
    · left; simp; omega
  have hKc : (decide ((K : Int) < 4) = true ∧ c3 = 5) ∨ (decide ((K : Int) < 4) = false ∧ decide ((31 : Int) < (K : Int)) = true ∧ c3 = 5) ∨ (decide ((K : Int) < 4) = false ∧ decide ((31 : Int) < (K : Int)) = false ∧ c3 = 0 ∧ m3 = (K : Int)) := by
    by_cases h : K < 4
    · left; exact ⟨by simp; omega, H9.out.1.2.2.1 rfl (by decide) (.inl h)⟩
    · by_cases h2 : 31 < K
      · right; left; exact ⟨by simp; omega, by simp; omega, H9.out.1.2.2.1 rfl (by decide) (.inr h2)⟩
      · have := H9.out.1.2.2.2 rfl (by decide) (by omega) (by omega)
        right; right; exact ⟨by simp; omega, by simp; omega, this.2, this.1⟩
  rcases hfc with z1 | ⟨z1, rfl⟩ <;> rcases hvc with z2 | ⟨z2, rfl⟩ <;> rcases hKc with ⟨z3, rfl⟩ | ⟨z3, z4, rfl⟩ | ⟨z3, z4, rfl, rfl⟩
  all_goals
    go_wp2_with fail
    go_ret
    exact ⟨rfl, H9.out.2⟩

set_option maxHeartbeats 1000000 in
set_option maxRecDepth 100000 in
theorem lawPre_else (a b : Option Addr) (n c m d : Nat) (y z x : Int) (w : World) (h : 72 < n ∨ m ≠ 16 ∨ x < 0 ∨ 99 < x) :
    Calls Tryd.prog 3 #[.slice a n c, .slice b m d, .int .u8 y, .int .u8 z, .int .i64 x] w (LawPost w) := by
  by_cases h1 : 2147483647 < n
  · have d1 : decide ((2147483647 : Int) < (n : Int)) = true := by simp; omega
    clear h
    go_enter Tryd.func3, Tryd.ntmps3
    go_wp2_with fail
    go_ret
    exact ⟨rfl, Below.refl _ _⟩
  · have d1 : decide ((2147483647 : Int) < (n : Int)) = false := by simp; omega
    by_cases h2 : 2147483647 < m
    · have d2 : decide ((2147483647 : Int) < (m : Int)) = true := by simp; omega
      clear h
      go_enter Tryd.func3, Tryd.ntmps3
      go_wp2_with fail
      go_ret
      exact ⟨rfl, Below.refl _ _⟩
    · have d2 : decide ((2147483647 : Int) < (m : Int)) = false := by simp; omega
      by_cases h3 : 72 < n ∨ m ≠ 16
      · have HF := hid (fits_false a b n c m d 4 w (by omega))
        clear h
        go_enter Tryd.func3, Tryd.ntmps3
        go_wp2_with fail
        refine HF.out.mono ?_
        rintro e w' ⟨rfl, rfl⟩
        go_wp2_with fail
        go_ret
        exact ⟨rfl, Below.refl _ _⟩
      · obtain rfl : m = 16 := by omega
        have HF := hid (fits_true a b n c 4 d w (by omega) (by decide) (by decide))
        by_cases h4 : x < 0
        · have d4 : decide (x < 0) = true := by simpa using h4
          clear h h3
          go_enter Tryd.func3, Tryd.ntmps3
          go_wp2_with fail
          refine HF.out.mono ?_
          rintro e w' ⟨rfl, rfl⟩
          go_wp2_with fail
          go_ret
          exact ⟨rfl, Below.refl _ _⟩
        · have d4 : decide (x < 0) = false := by simp; omega
          have d5 : decide (99 < x) = true := by simp; omega
          clear h h3
          go_enter Tryd.func3, Tryd.ntmps3
          go_wp2_with fail
          refine HF.out.mono ?_
          rintro e w' ⟨rfl, rfl⟩
          go_wp2_with fail
          go_ret
          exact ⟨rfl, Below.refl _ _⟩

theorem IsRow.nilCap {k : IntKind} {w : World} {a : Option Addr} {n c : Nat} {zs : List Int} (h : IsRow k w a n c zs) : a = none → c = 0 := by
  rcases h with ⟨_, _, h, _⟩ | ⟨x, rfl, _⟩
  · exact fun _ => h
  · exact fun e => by cases e
theorem lawPre_any (a b : Option Addr) (n c m d : Nat) (y z x : Int) (zs us : List Int) (t : Nat → Nat) (w : World) (h : IsRow .u8 w a n c zs) (k : IsRow .u8 w b m d us) (hy : (Lit.int .u8 y).wf = true) (hz : (Lit.int .u8 z).wf = true) (hg : Glob w t) (hgb : globTop ≤ w.heap.size) :
    Calls Tryd.prog 3 #[.slice a n c, .slice b m d, .int .u8 y, .int .u8 z, .int .i64 x] w (LawPost w) := by
  rcases (show (72 < n ∨ m ≠ 16 ∨ x < 0 ∨ 99 < x) ∨ ¬ (72 < n ∨ m ≠ 16 ∨ x < 0 ∨ 99 < x) from Classical.em _) with hb | hb
  · exact lawPre_else a b n c m d y z x w hb
  · have hn := h.nilCap
    have hy' := wf_u8 hy
    have hz' := wf_u8 hz
    obtain ⟨xs, hs⟩ := h.src
    obtain ⟨ss, ht⟩ := k.src
    obtain rfl : m = 16 := by omega
    obtain ⟨j, rfl⟩ : ∃ j : Nat, x = (j : Int) := ⟨x.toNat, by omega⟩
    obtain ⟨f, rfl⟩ : ∃ j : Nat, y = (j : Int) := ⟨y.toNat, by omega⟩
    obtain ⟨v, rfl⟩ : ∃ j : Nat, z = (j : Int) := ⟨z.toNat, by omega⟩
    exact lawPre_main a b n c d f v j xs ss t w (by omega) hn (by omega) (by omega) (by omega) hs ht hg hgb
#print axioms lawPre_any
end Go.Proofs.YthmjkcnmmlemgaaDoor
