/-
  base64Decode, ZZDecode, impl.Decode of bytes that are not empty: read if they are all signs and as many as bytes make; refused if one is no sign, no line end and no sign of filling.
-/
import Derived.Test.YthccdjdmljmplaaDecode
import Derived.Test.YthccdjdmljmplaaB64Enc
import Derived.Test.YthccdjdmljmplaaSpecEnc
namespace Go.Proofs.Ythccdjdmljmplaa
open Go.RowKit

set_option maxHeartbeats 400000 in
theorem decodedLen'_any (n : Int) (w : World) (h0 : 0 ≤ n) (h1 : n ≤ 4294967296) :
    Calls Try.prog 23 #[.int .i64 n, .int .i32 61] w fun e w' => e = .returned (.int .i64 (n / 4 * 3)) ∧ w = w' := by
  go_enter Try.func23, Try.ntmps23
  go_wp2
  go_ret
  exact ⟨rfl, rfl⟩

set_option maxHeartbeats 400000 in
theorem decodedLen_any (b : Nat) (n : Int) (w : World) (h0 : 0 ≤ n) (h1 : n ≤ 4294967296) (hc : w.cell? ⟨b, 320, none⟩ = some (.int .i32 61)) :
    Calls Try.prog 20 #[.pointer (some ⟨b, 0, none⟩), .int .i64 n] w fun e w' => e = .returned (.int .i64 (n / 4 * 3)) ∧ w = w' := by
  go_enter Try.func20, Try.ntmps20
  go_wp2_with (go_at_call 23; refine (decodedLen'_any _ _ h0 h1).mono ?_; rintro e w' ⟨rfl, rfl⟩)
  go_ret
  exact ⟨rfl, rfl⟩

def padTo (xs : List Nat) (j : Nat) : List Nat := xs ++ List.replicate j 61
theorem padTo_length (xs : List Nat) (j : Nat) : (padTo xs j).length = xs.length + j := by simp [padTo]
theorem padTo_zero (xs : List Nat) : padTo xs 0 = xs := by simp [padTo]
theorem padTo_succ (xs : List Nat) (j : Nat) : padTo xs (j + 1) = padTo xs j ++ [61] := by simp [padTo, List.replicate_succ']
theorem padTo_lt {xs : List Nat} {i j : Nat} (h : i < xs.length) : byteAt (padTo xs j) i = byteAt xs i := by
  simp [byteAt, padTo, List.getElem?_append_left h]
theorem padTo_ge {xs : List Nat} {i j : Nat} (h : xs.length ≤ i) (h2 : i < xs.length + j) : byteAt (padTo xs j) i = 61 := by
  have h3 : i - xs.length < j := by omega
  simp [byteAt, padTo, List.getElem?_append_right h, h3]
theorem padTo_bytes {xs : List Nat} (h : Bytes xs) (j : Nat) : Bytes (padTo xs j) := by
  refine Bytes.of_mem fun x hx => ?_
  rcases List.mem_append.1 hx with hx | hx
  · exact h.mem x hx
  · rw [(List.mem_replicate.1 hx).2]; decide
/-- The bytes of a text of signs, as many as are no multiple of four. -/
def decL (cs : List Nat) (m : Nat) : List Nat := (List.range m).map (decB cs)
theorem decL_length (cs : List Nat) (m : Nat) : (decL cs m).length = m := by simp [decL]
theorem decL_at {cs : List Nat} {m j : Nat} (h : j < m) : byteAt (decL cs m) j = decB cs j := by simp [byteAt, decL, h]
def dec (xs : List Nat) : List Nat := decL (padTo xs (4 - xs.length % 4)) (3 * (xs.length / 4) + xs.length % 4 - 1)

/-- How bytes go on behind Z signs: they are at their end, and so many as bytes make; or there is a byte that is none of what may stand there. -/
def TextEnd (xs : List Nat) (n Z : Nat) : Prop :=
  (Z = n ∧ (n % 4 = 2 ∨ n % 4 = 3)) ∨ (Z < n ∧ dmap (byteAt xs Z) = 255 ∧ byteAt xs Z ≠ 10 ∧ byteAt xs Z ≠ 13 ∧ byteAt xs Z ≠ 61)
def B64DPost (base n Z : Nat) (xs : List Nat) (w : World) (e : Ending) (w' : World) : Prop :=
  Below base w w' ∧ ((Z = n ∧ ∃ u, e = .returned (.tuple #[u, .nilIface]) ∧ Own w' base u (dec xs)) ∨
    (Z < n ∧ ∃ x, e = .returned (.tuple #[.slice none 0 0, .iface 58 x])))
def ImplDPost (n Z : Nat) (xs : List Nat) (w : World) (e : Ending) (w' : World) : Prop :=
  Below w.heap.size w w' ∧ ((Z = n ∧ ∃ u, e = .returned (.tuple #[u, .bool true]) ∧ Own w' w.heap.size u (dec xs)) ∨ (Z < n ∧ e = .returned (.tuple #[.slice none 0 0, .bool false])))

theorem text_end {xs : List Nat} {n k Q Z : Nat} (hxl : xs.length = n) (hk : k = 4 - n % 4) (hQ : Q = n / 4 + 1) (hend : TextEnd xs n Z) :
    dmap (byteAt (padTo xs k) Z) = 255 ∧ ∃ m err, DecEnd (padTo xs k) Q Z m err ∧ ((Z = n ∧ err = .nilIface ∧ m = 3 * (n / 4) + n % 4 - 1) ∨ (Z < n ∧ err = .iface 58 (.int .i64 (Z : Int)) ∧ m ≤ 3 * Q)) := by
  rcases hend with ⟨rfl, ht⟩ | ⟨hZ, hb, h10, h13, h61⟩
  · refine ⟨by rw [padTo_ge (by omega) (by omega)]; decide, 3 * (Z / 4) + Z % 4 - 1, .nilIface, .inl ⟨Z % 4, ht, by omega, fun j h1 h2 => padTo_ge (by omega) (by omega), by omega, rfl⟩, .inl ⟨rfl, rfl, rfl⟩⟩
  · have e : byteAt (padTo xs k) Z = byteAt xs Z := padTo_lt (by omega)
    exact ⟨by rw [e]; exact hb, 3 * (Z / 4), _, .inr ⟨by rw [e]; exact h10, by rw [e]; exact h13, by rw [e]; exact h61, rfl, rfl⟩, .inr ⟨hZ, rfl, by omega⟩⟩

set_option maxHeartbeats 1000000 in
theorem base64Decode_any (v : Value) (base n Z : Nat) (xs : List Nat) (w : World) (hn : 0 < n) (hn2 : n ≤ 1048576) (hxl : xs.length = n) (hx : Bytes xs) (hv : Own w base v xs) (hb : base ≤ w.heap.size)
    (hgood : ∀ j, j < Z → dmap (byteAt xs j) < 64) (hZ : Z ≤ n) (hend : TextEnd xs n Z) :
    Calls Try.prog 16 #[v] w (B64DPost base n Z xs w) := by
  obtain ⟨i0, hi, hz0, hz1, hz2⟩ := info_parts infoByte
  obtain ⟨k, hk⟩ : ∃ k, k = 4 - n % 4 := ⟨_, rfl⟩
  obtain ⟨Q, hQ⟩ : ∃ Q, Q = n / 4 + 1 := ⟨_, rfl⟩
  obtain ⟨hbad, m, err, hE, hres⟩ := text_end hxl hk hQ hend
  have hk1 : k ≤ 4 := by omega
  have hkI : (4 : Int) - (n : Int) % 4 = (k : Int) := by omega
  obtain ⟨g0, cap0, cur0, rfl, hbg0, hgl0, hlc0, hcm0, hrow0, hcs0, hcells0⟩ := hv.form (by omega)
  rw [hxl] at hv ⊢
  have hown0 : Own w base (.slice (some ⟨g0, 0, none⟩) n cap0) (padTo xs 0) := by rw [padTo_zero]; exact hv
  have HX := hid (And.intro hxl hx)
  have HK := hid (And.intro hk (And.intro hQ hown0))
  have HE := hid (And.intro hbad (And.intro hE (And.intro hres hgood)))
  clear hbg0 hgl0 hlc0 hcm0 hrow0 hcs0 hcells0 hv hown0 hxl hx hk hQ hbad hE hres hgood hend
  go_enter Try.func16, Try.ntmps16
  go_wp2_with fail
  go_loopw [0, 5] (fun v i wr => ∃ j : Nat, j ≤ k ∧ i = .int .i64 (j : Int) ∧ Own wr base v (padTo xs j) ∧ Below base w wr) (fun _ i _ => k - (intOf i).toNat)
  case atStart => exact ⟨0, Nat.zero_le _, rfl, HK.out.2.2, Below.refl _ _⟩
  case round =>
    obtain ⟨j, hj, rfl, hown, hbel⟩ := hrel
    have hbw := hbel.size
    have H1 := hid (And.intro hown hbel)
    clear hown hbel
    by_cases hlt : j < k
    · go_wp2_with ((with_reducible refine atOp (o := ⟨some 20, _, _, _, _, _⟩) ?_); refine wpList_append_own _ rfl (.tmp 18) (.tmp 19) 22 rfl base 5 i0 (.int .u8 0) 1 1 Try.underlying22 hi hz0 hz1 hz2 rfl (by decide) u0 (n + j) (valsOf (padTo xs j)) rfl (World.ownsRow.alloc (own_to H1.out.1 (by rw [padTo_length, HX.out.1])) _) ⟨wr.heap.size, 0, none⟩ 1 1 [.int .u8 61] rfl rfl (one_new wr _ _) (one_one _ _) (by unfold maxLen; omega) (by omega) (by simp; omega) ?_; intro v' w1 hown hgr _; have H2 := hid (And.intro hown hgr); clear hown hgr)
      go_roundw
      case rel =>
        refine ⟨j + 1, by omega, by go_num, ?_, ?_⟩
        · rw [padTo_succ]
          exact own_snoc H2.out.1 (by rw [padTo_length, HX.out.1])
        · refine (H1.out.2.alloc (by omega) _).grown H2.out.2 (by simp; omega) (fun k hk => ?_)
          exact (H1.out.1.lt k hk.symm.symm).1
      case measure => simp only [intOf]; omega
    · obtain rfl : j = k := by omega
      obtain ⟨wo, hwo⟩ : ∃ wo : World, wo = wr := ⟨_, rfl⟩
      subst hwo
      have hpl : (padTo xs j).length = n + j := by rw [padTo_length, HX.out.1]
      obtain ⟨g, cap, cur, rfl, hbg, hgl, hlc, hcm, hrow, hcs, hcells⟩ := H1.out.1.form (by omega)
      have hcell := H1.out.1.cells
      rw [hpl] at hlc hcell ⊢
      obtain ⟨L, hL⟩ : ∃ L, L = n + j := ⟨_, rfl⟩
      obtain ⟨ld, hld⟩ : ∃ ld, ld = 3 * Q := ⟨_, rfl⟩
      rw [← hL] at hpl hlc hcell ⊢
      have hLQ : L = 4 * Q := by have := HK.out; omega
      have hldI : (L : Int) / 4 * 3 = (ld : Int) := by omega
      have hLb : L ≤ 4194304 := by omega
      have hZL : Z < L := by have := HK.out; omega
      have hldb : ld ≤ 4194304 := by omega
      have H3 := hid (And.intro hL (And.intro hld (And.intro hLQ (And.intro hpl (And.intro hrow (And.intro hcell hcm))))))
      clear hL hld hLQ hpl hrow hcell hcm hcs hcells
      go_wp2_with fail
      refine (bcEncoding wo).mono ?_
      rintro e w1 ⟨rfl, he1, hg1⟩
      have hp1 := he1.pad
      have H4 := hid (And.intro he1 hg1)
      have hs1 : wo.heap.size < w1.heap.size := he1.lt
      clear he1 hg1
      go_wp2_with fail
      refine (decodedLen_any wo.heap.size L w1 (by omega) (by omega) hp1).mono ?_
      rintro e w1' ⟨rfl, rfl⟩
      go_wp2_with ((with_reducible refine atOp (o := ⟨some 25, _, _, _, _, _⟩) ?_); refine wpList_make_full _ rfl (.tmp 24) (.tmp 24) 22 rfl wo.heap.size 5 i0 (.int .u8 0) 1 Try.underlying22 hi hz0 hz1 .i64 .i64 _ _ ld rfl rfl rfl rfl (by rw [hz2]; omega) (by unfold maxLen; omega) (by omega) ?_; intro w2 hown hg2; have H5 := hid (And.intro hown hg2); clear hown hg2)
      obtain ⟨hown2, hg2⟩ := H5.out
      obtain ⟨cur2, hrow2, hcur⟩ := made_row hown2
      have hs2 : w1.heap.size < w2.heap.size := row_lt hrow2
      have H6 := hid (And.intro hrow2 (And.intro hcur hg2))
      clear hown2 hg2 hrow2 hcur H5
      refine (bcEncoding w2).mono ?_
      rintro e w3 ⟨rfl, he3, hg3⟩
      have hs3 : w2.heap.size < w3.heap.size := he3.lt
      have hgr3 : wo.grownBy w3 none := grown_trans H4.out.2 (grown_trans H6.out.2.2 hg3)
      have H7 := hid (And.intro he3 (And.intro hg3 hgr3))
      clear he3 hg3 hgr3
      go_wp2_with fail
      refine (decode_any w2.heap.size g 0 L cap w1.heap.size ld Q Z m err (padTo xs j) cur2 w3 H3.out.2.2.1 H3.out.2.1 hZL hLb hlc H3.out.2.2.2.1 (padTo_bytes HX.out.2 j) H7.out.1
        (fun i hi => (grown_cell H7.out.2.2 (p := ⟨g, 0 + i, none⟩) hgl (by simp)).trans (H3.out.2.2.2.2.2.1 i hi)) (fun i hi => by rw [padTo_lt (by rw [HX.out.1]; omega)]; exact HE.out.2.2.2 i hi) HE.out.1
        ((H7.out.2.1.block w1.heap.size hs2 (by simp)).trans H6.out.1) H6.out.2.1 (by omega) (by omega) HE.out.2.1).mono ?_
      rintro e w4 ⟨rfl, csd, hrow4, hsz4, hin4, hg4⟩
      have hgr4 : wo.grownBy w4 none := grown_new H7.out.2.2 hg4 (by omega)
      have hbel4 : Below base w w4 := H1.out.2.grown hgr4 (by omega) (by simp)
      have H8 := hid (And.intro hrow4 (And.intro hsz4 (And.intro hin4 hbel4)))
      clear hrow4 hsz4 hin4 hg4 hgr4 hbel4
      rcases HE.out.2.2.1 with ⟨hZn, rfl, hm⟩ | ⟨hZn, rfl, hm⟩
      · have hmld : m ≤ ld := by have := H3.out.2.1; have := HK.out; omega
        have HM := hid (And.intro hZn hm)
        clear hZn hm
        go_wp2_with fail
        go_ret2
        refine ⟨H8.out.2.2.2, .inl ⟨HM.out.1, _, rfl, ?_⟩⟩
        refine Own.mk (n := m) (by omega) H8.out.1 ?_ hmld (by unfold maxLen; omega) H8.out.2.1 (fun i hi => ?_)
        · unfold dec; rw [decL_length, HX.out.1]; exact HM.out.2.symm
        · rw [H8.out.2.2.1 i hi]
          unfold dec
          rw [HX.out.1, ← HM.out.2, decL_at hi, ← HK.out.1]
      · have HM := hid hZn
        clear hZn hm
        go_wp2_with fail
        go_ret2
        exact ⟨H8.out.2.2.2, .inr ⟨HM.out, _, rfl⟩⟩

set_option maxHeartbeats 1000000 in
theorem zzDecode_any (v : Value) (base n Z : Nat) (xs : List Nat) (w : World) (hn : 0 < n) (hn2 : n ≤ 1048576) (hxl : xs.length = n) (hx : Bytes xs) (hv : Own w base v xs) (hb : base ≤ w.heap.size)
    (hgood : ∀ j, j < Z → dmap (byteAt xs j) < 64) (hZ : Z ≤ n) (hend : TextEnd xs n Z) :
    Calls Try.prog 13 #[v] w (B64DPost base n Z xs w) := by
  have H := hid (base64Decode_any v base n Z xs w hn hn2 hxl hx hv hb hgood hZ hend)
  clear hxl hx hv hgood hend
  go_enter Try.func13, Try.ntmps13
  go_wp2_with fail
  refine H.out.mono ?_
  rintro e w1 ⟨hbel, ⟨hz, u, rfl, hu⟩ | ⟨hz, x, rfl⟩⟩
  · have H2 := hid (And.intro hbel (And.intro hz hu))
    clear hbel hz hu
    go_wp2_with fail
    go_ret2
    exact ⟨H2.out.1, .inl ⟨H2.out.2.1, _, rfl, H2.out.2.2⟩⟩
  · have H2 := hid (And.intro hbel hz)
    clear hbel hz
    go_wp2_with fail
    go_ret2
    exact ⟨H2.out.1, .inr ⟨H2.out.2, _, rfl⟩⟩

set_option maxHeartbeats 1000000 in
theorem implDecode_of (v : Value) (n Z : Nat) (xs : List Nat) (w : World) (hn : 0 < n) (hn2 : n ≤ 1048576) (hxl : xs.length = n) (hx : Bytes xs) (hc : Calls Try.prog 12 #[v] w (OwnPost xs w))
    (hgood : ∀ j, j < Z → dmap (byteAt xs j) < 64) (hZ : Z ≤ n) (hend : TextEnd xs n Z) :
    Calls Try.prog 9 #[v] w (ImplDPost n Z xs w) := by
  have H := hid (And.intro hc (And.intro hxl (And.intro hx (And.intro hgood hend))))
  clear hc hxl hx hgood hend
  go_enter Try.func9, Try.ntmps9
  go_wp2_with fail
  refine H.out.1.mono ?_
  rintro e w1 ⟨v1, rfl, h1, h2⟩
  have hsz := h2.size
  have H2 := hid (And.intro h1 h2)
  clear h1 h2
  go_wp2_with fail
  refine (zzDecode_any v1 w.heap.size n Z xs w1 hn hn2 H.out.2.1 H.out.2.2.1 H2.out.1 hsz H.out.2.2.2.1 hZ H.out.2.2.2.2).mono ?_
  rintro e w2 ⟨hbel, ⟨hz, u, rfl, hu⟩ | ⟨hz, x, rfl⟩⟩
  · have H3 := hid (And.intro hbel (And.intro hz hu))
    clear hbel hz hu
    go_wp2_with fail
    go_ret2
    exact ⟨H2.out.2.trans H3.out.1, .inl ⟨H3.out.2.1, _, rfl, H3.out.2.2⟩⟩
  · have H3 := hid (And.intro hbel hz)
    clear hbel hz
    go_wp2_with fail
    go_ret2
    exact ⟨H2.out.2.trans H3.out.1, .inr ⟨H3.out.2, rfl⟩⟩

#print axioms implDecode_of
end Go.Proofs.Ythccdjdmljmplaa
