/-
  base64Encode of bytes that are not empty: the signs of the bytes in new memory; nothing that was there turns.
-/
import Derived.Test.YtmglaaejobbbiaaDoorEncode
import Derived.Test.YtmglaaejobbbiaaDoorRow
namespace Go.Proofs.YtmglaaejobbbiaaDoor
open Go.RowKit

set_option maxHeartbeats 400000 in
theorem encodedLen_any (b : Nat) (n : Int) (w : World) (h0 : 0 ≤ n) (h1 : n ≤ 4294967296) (hc : w.cell? ⟨b, 320, none⟩ = some (.int .i32 61)) :
    Calls Tryd.prog 24 #[.pointer (some ⟨b, 0, none⟩), .int .i64 n] w fun e w' => e = .returned (.int .i64 ((n + 2) / 3 * 4)) ∧ w = w' := by
  go_enter Tryd.func24, Tryd.ntmps24
  go_wp2
  go_ret
  exact ⟨rfl, rfl⟩

theorem signs_at {xs : List Nat} {j : Nat} (h : j < (8 * xs.length + 5) / 6) : byteAt (signs xs) j = sg (six xs j) := by
  simp [byteAt, signs, h]
theorem made_row {w : World} {base g n : Nat} {L : List Value} (h : w.ownsRow base 5 1 (.slice (some ⟨g, 0, none⟩) n n) n L) : ∃ cur, w.heap[g]? = some (.cells cur 5 (0, 0)) ∧ cur.size = n := by
  rcases h.2 with ⟨h', _⟩ | ⟨g', cap, cur, h', _, hg, _, _, hcs, _⟩
  · simp at h'
  · simp only [Value.slice.injEq, Option.some.injEq, Addr.mk.injEq, and_true, true_and] at h'
    obtain ⟨rfl, rfl⟩ := h'
    exact ⟨cur, hg, by simpa using hcs⟩

set_option maxHeartbeats 1000000 in
theorem base64Encode_any (b o n c : Nat) (xs : List Nat) (w : World) (hn : 0 < n) (hn2 : n ≤ 1048576) (hnc : n ≤ c) (hxl : xs.length = n) (hx : Bytes xs)
    (hs : ∀ j, j < n → w.cell? ⟨b, o + j, none⟩ = some (.int .u8 (byteAt xs j : Nat))) :
    Calls Tryd.prog 18 #[.slice (some ⟨b, o, none⟩) n c] w (OwnPost (signs xs) w) := by
  obtain ⟨i0, hi, hz0, hz1, hz2⟩ := info_parts infoByte
  have hbl : b < w.heap.size := block_lt_of_cell (hs 0 hn)
  have HXL := hid hxl
  have HX := hid hx
  have HS := hid hs
  clear hxl hs hx
  obtain ⟨nd, hnd⟩ : ∃ nd : Nat, nd = (n + 2) / 3 * 4 := ⟨_, rfl⟩
  have hnd2 : ((n : Int) + 2) / 3 * 4 = (nd : Int) := by omega
  have hnd3 : nd ≤ 1398104 := by omega
  have HND := hid hnd
  clear hnd
  go_enter Tryd.func18, Tryd.ntmps18
  go_wp2_with fail
  refine (bcEncoding w).mono ?_
  rintro e w1 ⟨rfl, he1, hg1⟩
  have hp1 := he1.pad
  have H1 := hid (And.intro he1 hg1)
  have hs1 : w.heap.size < w1.heap.size := he1.lt
  clear he1 hg1
  go_wp2_with fail
  refine (encodedLen_any w.heap.size n w1 (by omega) (by omega) hp1).mono ?_
  rintro e w1' ⟨rfl, rfl⟩
  go_wp2_with ((with_reducible refine atOp (o := ⟨some 10, _, _, _, _, _⟩) ?_); refine wpList_make_full _ rfl (.tmp 9) (.tmp 9) 22 rfl w.heap.size 5 i0 (.int .u8 0) 1 Tryd.underlying22 hi hz0 hz1 .i64 .i64 _ _ nd rfl rfl rfl rfl (by rw [hz2]; omega) (by unfold maxLen; omega) (by omega) ?_; intro w2 hown hg2; have H2 := hid (And.intro hown hg2); clear hown hg2)
  obtain ⟨hown2, hg2⟩ := H2.out
  obtain ⟨cur, hrow2, hcur⟩ := made_row hown2
  have hs2 : w1.heap.size < w2.heap.size := row_lt hrow2
  have H3 := hid (And.intro hrow2 (And.intro hcur hg2))
  clear hown2 hg2 hrow2 hcur H2
  refine (bcEncoding w2).mono ?_
  rintro e w3 ⟨rfl, he3, hg3⟩
  have hs3 : w2.heap.size < w3.heap.size := he3.lt
  have hgr3 : w.grownBy w3 none := grown_trans H1.out.2 (grown_trans H3.out.2.2 hg3)
  have H4 := hid (And.intro he3 (And.intro hg3 hgr3))
  clear he3 hg3 hgr3
  go_wp2_with fail
  refine (encode_any w2.heap.size w1.heap.size nd b o n c xs cur w3 hn hn2 HND.out hnc HXL.out HX.out H4.out.1 ((H4.out.2.1.block w1.heap.size hs2 (by simp)).trans H3.out.1) H3.out.2.1 (by omega) (by omega)
    (fun j hj => (grown_cell H4.out.2.2 (p := ⟨b, o + j, none⟩) hbl (by simp)).trans (HS.out j hj))).mono ?_
  rintro e w4 ⟨rfl, cs, hrow4, hcs4, hcell4, hg4⟩
  have hgr4 : w.grownBy w4 none := grown_new H4.out.2.2 hg4 (by omega)
  have H5 := hid (And.intro hrow4 (And.intro hcs4 (And.intro hcell4 hgr4)))
  clear hrow4 hcs4 hcell4 hg4 hgr4
  obtain ⟨sl, hsl⟩ : ∃ sl, sl = (8 * n + 5) / 6 := ⟨_, rfl⟩
  have hsl1 : 0 < sl := by omega
  have hsl2 : sl ≤ nd := by have := HND.out; omega
  have HSL := hid hsl
  clear hsl
  go_wp2_with fail
  go_loop [3] (fun v => ∃ k : Nat, sl ≤ k ∧ k ≤ nd ∧ v = .int .i64 (k : Int)) (fun v => (intOf v).toNat)
  case atStart => exact ⟨nd, hsl2, Nat.le_refl _, rfl⟩
  case round =>
    obtain ⟨k, hk1, hk2, rfl⟩ := hrel
    obtain ⟨k', rfl⟩ : ∃ k', k = k' + 1 := ⟨k - 1, by omega⟩
    have ek : ((k' + 1 : Nat) : Int) - 1 = (k' : Int) := by omega
    have hc := (row_cell H5.out.1 k').trans (H5.out.2.2.1 k' (by omega))
    by_cases hlt : sl ≤ k'
    · rw [enc_ge HXL.out (by have := HSL.out; omega)] at hc
      go_wp2_with fail
      go_round
      case rel => exact ⟨k', hlt, by omega, rfl⟩
      case measure => simp only [intOf]; omega
    · obtain rfl : sl = k' + 1 := by omega
      have hsix := sg_ne (six xs k') (six_lt HX.out k')
      rw [enc_lt HXL.out (by have := HSL.out; omega)] at hc
      have e61 : ((sg (six xs k') : Int) == 61) = false := by rw [beq_eq_false_iff_ne]; omega
      clear hsix
      go_wp2_with fail
      go_ret
      refine ⟨_, rfl, ?_, below_of_grown H5.out.2.2.2 (Nat.le_refl _) (by simp)⟩
      refine Own.mk (by omega) H5.out.1 (by rw [signs_length, HXL.out]; exact HSL.out.symm) (by omega) (by unfold maxLen; omega) H5.out.2.1 (fun j hj => ?_)
      rw [H5.out.2.2.1 j (by omega), enc_lt HXL.out (by have := HSL.out; omega), signs_at (by rw [HXL.out]; have := HSL.out; omega)]

#print axioms base64Encode_any
end Go.Proofs.YtmglaaejobbbiaaDoor
