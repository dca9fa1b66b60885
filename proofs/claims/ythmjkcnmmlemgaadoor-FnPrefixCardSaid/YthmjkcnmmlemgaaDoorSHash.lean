/-
  spec.Hash: the whole text of a password: '$2a$', the cost's two digits, '$', the salt's signs, the password's; nothing that was there turns. For costs of at most 20.
-/
import Derived.Test.YthmjkcnmmlemgaaDoorSRaw
import Derived.ArgAppend
import Derived.Deep.RegionHeld
namespace Go.Proofs.YthmjkcnmmlemgaaDoor
open Go.RowKit

theorem Sta.range {w : World} {g : Nat} {t : Nat → Nat} (h : Sta w g t) (n off : Nat) (hn : off + n ≤ 1042) : w.rangeAt g off (numsOf n off t) := by
  intro j v hv
  have hj : j < n := by
    have := (List.getElem?_eq_some_iff.1 hv).1
    rwa [numsOf_length] at this
  rw [numsOf_at hj] at hv
  injection hv with hv
  subst hv
  exact h.cell (by omega)
theorem signs_bytes' {xs : List Nat} (h : Bytes xs) : Bytes (signs xs) := Bytes.of_mem fun x hx => by
  simp only [signs, List.mem_map] at hx
  obtain ⟨m, _, rfl⟩ := hx
  exact sg_lt _ (six_lt h m)
/-- How the text begins. -/
def headL (k : Nat) : List Nat := [36, 50, 97, 36, 48 + k / 10, 48 + k % 10, 36]
theorem head_bytes {k : Nat} (hk : k ≤ 20) : Bytes (headL k) := Bytes.of_mem (by
  intro y hy
  simp only [headL, List.mem_cons, List.not_mem_nil, or_false] at hy
  omega)

/-- What spec.Hash leaves: the text of a cost, a salt zs and the bytes L of the password. -/
def HashPost (k : Nat) (zs L : List Nat) (w : World) (e : Ending) (w' : World) : Prop := OwnPost (headL k ++ signs zs ++ signs L) w e w' ∧ Bytes L ∧ L.length = 23

set_option maxHeartbeats 4000000 in
set_option maxRecDepth 100000 in
theorem specHash_any (cs : Array Value) (a : Option Addr) (n c k gz oz nz cz : Nat) (xs zs : List Nat) (t : Nat → Nat) (w : World) (hn : n ≤ 1024) (hnone : a = none → c = 0) (hk : k ≤ 20) (hcs : Arr cs 1042 0 t) (hsrc : SrcB w.heap.size w a n xs) (hz : Key w gz oz nz zs) (hzl : zs.length = nz) (hnz : nz ≤ 1024) :
    Calls Tryd.prog 5 #[.agg cs, .slice a n c, .int .i64 (k : Nat), .slice (some ⟨gz, oz, none⟩) nz cz] w (HashPost k zs ((rawO (setupT t (wdW (xs ++ [0]) (n + 1)) (wdW zs nz) (2 ^ k)) 3).take 23) w) := by
  have hgz : gz < w.heap.size := block_lt_of_cell (hz.2.2.2 0 hz.1)
  have HN := hid hnone
  have HC := hid hcs
  have HX := hid hsrc
  have HZ := hid (And.intro hz hzl)
  clear hnone hcs hsrc hz hzl
  obtain ⟨i0, hi, hz0, hz1, hz2⟩ := info_parts infoByte
  have kc := fun (w : World) (C : Array Value) (n c : Nat) => Lib.run_convert_bytes_const (P := Tryd.prog) w 22 5 C n c Tryd.underlying22 Tryd.underlying5
  go_enter Tryd.func5, Tryd.ntmps5
  have hd4 : #[Value.int .u8 36, .int .u8 50, .int .u8 97, .int .u8 36].toList = valsOf [36, 50, 97, 36] := by simp [valsOf]
  have HD := hid hd4
  have hd3 : #[Value.int .u8 (48 + (k : Int) / 10), .int .u8 (48 + (k : Int) % 10), .int .u8 36].toList = valsOf [48 + k / 10, 48 + k % 10, 36] := by simp [valsOf]
  have HD3 := hid hd3
  have hby : Bytes [48 + k / 10, 48 + k % 10, 36] := Bytes.of_mem (by
    intro y hy
    simp only [List.mem_cons, List.not_mem_nil, or_false] at hy
    omega)
  have HBY := hid hby
  clear hd4 hd3 hby
  go_upto_region 2 with (first
    | ((with_reducible refine atOp (o := ⟨some 4, _, _, _, _, _⟩) ?_); refine wpList_box_sta rfl (.tmp 0) rfl cs rfl t HC.out ?_; intro w1 hr1 hs1 hg1)
    | ((with_reducible refine atOp (o := ⟨some 21, _, _, _, _, _⟩) ?_); go_loud (refine wpList_append_const rfl (.tmp 11) (.tmp 20) rfl w1.heap.size 4 [36, 50, 97, 36] rfl rfl (fun j hj => (World.cell?_alloc_lt _ _ _ (by simp)).trans ((cell_of_row _ w1.heap.size j _ _ (4, 5) (heap_alloc_new w1 _)).trans (by rw [← Array.getElem?_toList, HD.out]; exact valsOf_at hj))) (w1.heap.size + 1) 3 3 [48 + k / 10, 48 + k % 10, 36] rfl (w1.heap.size + 1 + 1) ?_ (by decide) (by decide) ?_; have hq := srcB_made (w := w1.alloc (.cells #[.int .u8 36, .int .u8 50, .int .u8 97, .int .u8 36] 5 (4, 5))) (T := 5) HBY.out HD3.out; simp at hq; exact hq; intro v5 w5 hv5 hg5)))
  have H5 : Hid (Sta w5 w.heap.size t ∧ Own w5 w1.heap.size v5 (headL k) ∧ Below w.heap.size w w5) := hid (by
    have b1 := below_of_grown hg1.out (Nat.le_refl _) (by simp)
    have b2 := (below_of_grown (grown_alloc w1 none (.cells #[.int .u8 36, .int .u8 50, .int .u8 97, .int .u8 36] 5 (4, 5))) (Nat.le_refl _) (by simp))
    have b3 := b2.trans ((below_of_grown (grown_alloc (w1.alloc (.cells #[.int .u8 36, .int .u8 50, .int .u8 97, .int .u8 36] 5 (4, 5))) none (.cells #[.int .u8 (48 + (k : Int) / 10), .int .u8 (48 + (k : Int) % 10), .int .u8 36] 5)) (Nat.le_refl _) (by simp)).mono (by simp))
    have b4 := b3.trans ((below_of_grown hg5.out (Nat.le_refl _) (by simp)).mono (by simp; omega))
    exact ⟨hr1.out.below b4 hs1, hv5.out.mono (by simp; omega), b1.trans (b4.mono (Nat.le_of_lt hs1))⟩)
  have hs5 : w1.heap.size ≤ w5.heap.size := by have := hg5.out.size; simp at this; omega
  clear hr1 hg1 hv5 hg5 HD HD3 HBY
  have HL := hid (numsOf_arr (n := 1042) (off := 0) (t := t) (fun i hi => by rw [Nat.zero_add]; exact H5.out.1.lt hi))
  refine wp_region_held_drew (S := fun w' => Sta w' w.heap.size t) (by kernel_rfl) H5.out.1 (fun hHeld => ?_)
  refine wpAnyH_take (i := 0) (oi := ⟨some 22, .move (.tmp 9), _, _, _, _⟩) (v := v5) rfl (by kernel_rfl) (by kernel_rfl) (by kernel_rfl) (fun _ _ _ h => h) (Or.inl ⟨by rfl, fun w hw => by go_simp⟩) hHeld ?_
  simp only [Act.put, List.setIfInBounds_toArray, List.set_cons_zero, List.set_cons_succ]
  refine wpAnyH_take (i := 1) (oi := ⟨some 23, .move (.tmp 3), _, _, _, _⟩) (v := .slice (some ⟨gz, oz, none⟩) nz cz) rfl (by kernel_rfl) (by kernel_rfl) (by kernel_rfl) (fun _ _ _ h => h) (Or.inl ⟨by rfl, fun w hw => by go_simp⟩) hHeld ?_
  simp only [Act.put, List.setIfInBounds_toArray, List.set_cons_zero, List.set_cons_succ]
  refine wpAnyH_take (i := 4) (oi := ⟨some 26, .load 30 (.tmp 4), _, _, _, _⟩) (v := .agg (numsOf 1042 0 t).toArray) rfl (by kernel_rfl) (by kernel_rfl) (by kernel_rfl) (fun _ _ _ h => h) (yieldsIf_load_mid (by rfl) 30 (.tmp 4) rfl w.heap.size 0 rfl (numsOf 1042 0 t) _ (fun w hw => Sta.range hw 1042 0 (by decide)) Tryd.underlying30 rfl (by rw [numsOf_length]; exact sizeState)) hHeld ?_
  simp only [Act.put, List.setIfInBounds_toArray, List.set_cons_zero, List.set_cons_succ]
  refine wpAnyH_take (i := 5) (oi := ⟨some 27, .move (.tmp 1), _, _, _, _⟩) (v := .slice a n c) rfl (by kernel_rfl) (by kernel_rfl) (by kernel_rfl) (fun _ _ _ h => h) (Or.inl ⟨by rfl, fun w hw => by go_simp⟩) hHeld ?_
  simp only [Act.put, List.setIfInBounds_toArray, List.set_cons_zero, List.set_cons_succ]
  refine wpAnyH_take (i := 6) (oi := ⟨some 28, .move (.tmp 2), _, _, _, _⟩) (v := .int .i64 (k : Nat)) rfl (by kernel_rfl) (by kernel_rfl) (by kernel_rfl) (fun _ _ _ h => h) (Or.inl ⟨by rfl, fun w hw => by go_simp⟩) hHeld ?_
  simp only [Act.put, List.setIfInBounds_toArray, List.set_cons_zero, List.set_cons_succ]
  refine wpAnyH_take (i := 7) (oi := ⟨some 29, .move (.tmp 3), _, _, _, _⟩) (v := .slice (some ⟨gz, oz, none⟩) nz cz) rfl (by kernel_rfl) (by kernel_rfl) (by kernel_rfl) (fun _ _ _ h => h) (Or.inl ⟨by rfl, fun w hw => by go_simp⟩) hHeld ?_
  simp only [Act.put, List.setIfInBounds_toArray, List.set_cons_zero, List.set_cons_succ]
  refine wpAnyH_ready (rs := [2]) (by kernel_rfl) (by simp) (AllReadyH.cons (o := ⟨some 24, .call { callee := .value (.func 8), args := #[.tmp 23], argTypes := #[22] }, _, _, _, _⟩) rfl (fun K hK => ?_) AllReadyH.nil)
  rw [if_pos (by rfl)]
  go_simp
  have hs5w : w.heap.size ≤ w5.heap.size := by omega
  have HX5 := hid (HX.out.below H5.out.2.2 (Nat.le_refl _))
  have HZ5 := hid (And.intro (HZ.out.1.below H5.out.2.2 hgz) HZ.out.2)
  refine Calls.mono (specEncode_any gz oz nz cz zs w5.drew (by omega) HZ5.out.2 HZ5.out.1.2.2.1 (fun j hj => HZ5.out.1.2.2.2 j hj)) ?_
  rintro e w6 ⟨v6, rfl, hv6, hb6⟩
  have hsz6 := hb6.size
  have hdr : (w5.drew).heap.size = w5.heap.size := rfl
  rw [hdr] at hsz6 hb6 hv6
  have hdb : Below w5.heap.size w5 w5.drew := below_of_grown (grown_drew w5 none) (Nat.le_refl _) (by simp)
  have H6 : Hid (Below w5.heap.size w5 w6 ∧ Own w6 w1.heap.size v5 (headL k) ∧ Sta w6 w.heap.size t) := hid ⟨hdb.trans hb6, H5.out.2.1.below (hdb.trans hb6), hHeld.below hb6 H5.out.1.in⟩
  have hln : (signs zs).length ≤ 2000 := by rw [signs_length, HZ.out.2]; omega
  obtain ⟨sa, sc, rfl, hsc, hsrc⟩ := srcB_own hv6 (signs_bytes' HZ5.out.1.2.2.1)
  have HS6 := hid (And.intro hsc hsrc)
  clear hb6 hv6 hdr hdb hsc hsrc
  refine hK.out _ _ H6.out.2.2 (fun hHeld => ?_)
  clear hK K
  try simp only [Act.put, List.setIfInBounds_toArray, List.set_cons_zero, List.set_cons_succ]
  refine wpAnyH_ready (rs := [3]) (by kernel_rfl) (by simp) (AllReadyH.cons (o := ⟨some 25, .call { callee := .builtin .append, args := #[.tmp 22, .tmp 24], argTypes := #[22, 22] }, _, _, _, _⟩) rfl (fun K hK => ?_) AllReadyH.nil)
  rw [if_pos (by rfl)]
  refine wp_append_bytes (.tmp 22) (.tmp 24) rfl w1.heap.size v5 (headL k) rfl H6.out.2.1 sa _ sc (signs zs) rfl HS6.out.1 _ HS6.out.2 (by simp [headL]; omega) (by omega) (fun v7 w7 hv7 hg7 => ?_)
  have hb7 := below_own H6.out.2.1 hg7.out (by omega)
  have H7 : Hid (Below w.heap.size w w7 ∧ Sta w7 w.heap.size t) := hid ⟨H5.out.2.2.trans ((H6.out.1.mono hs5w).trans (hb7.mono (by omega))), H6.out.2.2.below hb7 hs1⟩
  have hs7 := hg7.out.size
  clear hb7 hg7
  refine hK.out _ _ H7.out.2 (fun hHeld => ?_)
  clear hK K
  try simp only [Act.put, List.setIfInBounds_toArray, List.set_cons_zero, List.set_cons_succ]
  refine wpAnyH_ready (rs := [8]) (by kernel_rfl) (by simp) (AllReadyH.cons (o := ⟨some 30, .call { callee := .value (.func 9), args := #[.tmp 26, .tmp 27, .tmp 28, .tmp 29], argTypes := #[30, 22, 3, 22] }, _, _, _, _⟩) rfl (fun K hK => ?_) AllReadyH.nil)
  rw [if_pos (by rfl)]
  go_simp
  refine Calls.mono (specRaw_any _ a n c k gz oz nz cz xs zs t w7 hn HN.out hk HL.out ((HX.out.below H7.out.1 (Nat.le_refl _)).mono H7.out.1.size) (HZ.out.1.below H7.out.1 hgz)) ?_
  obtain ⟨L, hL⟩ : ∃ l, l = (rawO (setupT t (wdW (xs ++ [0]) (n + 1)) (wdW zs nz) (2 ^ k)) 3).take 23 := ⟨_, rfl⟩
  rw [← hL]
  rintro e w8 ⟨⟨v8, rfl, hv8, hb8⟩, hLb, hLl⟩
  have H8 : Hid (Below w.heap.size w w8 ∧ Own w8 w1.heap.size v7 (headL k ++ signs zs) ∧ Sta w8 w.heap.size t) := hid ⟨H7.out.1.trans (hb8.mono H7.out.1.size), hv7.out.below hb8, hHeld.below hb8 hHeld.in⟩
  have hs8 := hb8.size
  obtain ⟨sb, sd, hv8e, hsd, hsrd⟩ := srcB_own hv8 (signs_bytes' hLb)
  subst hv8e
  have HS8 := hid (And.intro hsd hsrd)
  clear hb8 hv8 hsd hsrd
  refine hK.out _ _ H8.out.2.2 (fun hHeld => ?_)
  clear hK K
  try simp only [Act.put, List.setIfInBounds_toArray, List.set_cons_zero, List.set_cons_succ]
  refine wpAnyH_ready (rs := [9]) (by kernel_rfl) (by simp) (AllReadyH.cons (o := ⟨some 31, .call { callee := .builtin .append, args := #[.tmp 25, .tmp 30], argTypes := #[22, 22] }, _, _, _, _⟩) rfl (fun K hK => ?_) AllReadyH.nil)
  rw [if_pos (by rfl)]
  refine wp_append_bytes (.tmp 25) (.tmp 30) rfl w1.heap.size v7 (headL k ++ signs zs) rfl H8.out.2.1 sb _ sd (signs L) rfl HS8.out.1 _ HS8.out.2 (by rw [List.length_append, signs_length L, hLl]; simp [headL]; omega) (by omega) (fun v9 w9 hv9 hg9 => ?_)
  have hb9 := below_own H8.out.2.1 hg9.out (by omega)
  have H9 : Hid (Below w.heap.size w w9 ∧ Own w9 w1.heap.size v9 (headL k ++ signs zs ++ signs L)) := hid ⟨H8.out.1.trans (hb9.mono (by omega)), hv9.out⟩
  refine hK.out _ _ (H8.out.2.2.below hb9 hs1) (fun hHeld => ?_)
  clear hK K hb9 hg9
  try simp only [Act.put, List.setIfInBounds_toArray, List.set_cons_zero, List.set_cons_succ]
  refine wpAnyH_ready (rs := [10]) (by kernel_rfl) (by simp) (AllReadyH.cons (o := ⟨some 8, .assign (.tmp 31), _, _, _, _⟩) rfl (fun K hK => ?_) AllReadyH.nil)
  rw [if_pos (by rfl)]
  go_simp
  refine hK.out _ _ hHeld (fun hHeld => ?_)
  clear hK K
  try simp only [Act.put, List.setIfInBounds_toArray, List.set_cons_zero, List.set_cons_succ]
  refine wpAnyH_done (by kernel_rfl) ?_ _
  go_wp2_with fail
  go_ret
  refine ⟨⟨_, rfl, ?_, H9.out.1⟩, by rw [← hL]; exact ⟨hLb, hLl⟩⟩
  rw [← hL]
  exact H9.out.2.mono (Nat.le_of_lt hs1)
#print axioms specHash_any
end Go.Proofs.YthmjkcnmmlemgaaDoor
