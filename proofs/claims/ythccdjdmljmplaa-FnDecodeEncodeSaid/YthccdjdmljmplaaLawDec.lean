/-
  The walks of the laws FnDecodeEncode and FnDecodeRefused: they return true; nothing that was there turns.
-/
import Derived.Test.YthccdjdmljmplaaB64Dec
import Derived.Test.YthccdjdmljmplaaLawEnc
import Derived.Lib.SlBytesConst
namespace Go.Proofs.Ythccdjdmljmplaa
open Go.RowKit

theorem signs_good {xs : List Nat} (hx : Bytes xs) {j : Nat} (h : j < (8 * xs.length + 5) / 6) : dmap (byteAt (signs xs) j) = six xs j := by
  rw [signs_at h, dmap_sg _ (six_lt hx j)]
theorem signs_bytes {xs : List Nat} (hx : Bytes xs) : Bytes (signs xs) := by
  refine Bytes.of_mem fun y hy => ?_
  simp only [signs, List.mem_map, List.mem_range] at hy
  obtain ⟨m, _, rfl⟩ := hy
  exact sg_lt _ (six_lt hx m)
theorem list_ext {xs ys : List Nat} (hl : xs.length = ys.length) (h : ∀ j, j < xs.length → byteAt xs j = byteAt ys j) : xs = ys := by
  apply List.ext_getElem hl
  intro j h1 h2
  have e := h j h1
  simpa [byteAt, List.getElem?_eq_getElem h1, List.getElem?_eq_getElem h2] using e
theorem sl_of {n : Nat} (h : n % 3 ≠ 0) : ∃ p t, (t = 1 ∨ t = 2) ∧ n = 3 * p + t ∧ (8 * n + 5) / 6 = 4 * p + t + 1 := ⟨n / 3, n % 3, by omega, by omega, by omega⟩
theorem sl_back {n : Nat} (h : n % 3 ≠ 0) : 3 * ((8 * n + 5) / 6 / 4) + (8 * n + 5) / 6 % 4 - 1 = n := by
  obtain ⟨p, t, ht, h1, h2⟩ := sl_of h
  rw [h2]
  omega
theorem sl_four {n : Nat} (h : n % 3 ≠ 0) : (8 * n + 5) / 6 % 4 = 2 ∨ (8 * n + 5) / 6 % 4 = 3 := by
  obtain ⟨p, t, ht, h1, h2⟩ := sl_of h
  rw [h2]
  omega
/-- What was written is read. -/
theorem dec_signs {xs : List Nat} (hx : Bytes xs) (h3 : xs.length % 3 ≠ 0) : dec (signs xs) = xs := by
  have hsl : (signs xs).length = (8 * xs.length + 5) / 6 := signs_length xs
  unfold dec
  refine list_ext (by rw [decL_length, hsl]; exact sl_back h3) fun j hj => ?_
  rw [decL_length, hsl, sl_back h3] at hj
  rw [decL_at (by rw [hsl, sl_back h3]; exact hj)]
  have hv : ∀ m, m < (8 * xs.length + 5) / 6 → dmap (byteAt (padTo (signs xs) (4 - (signs xs).length % 4)) m) = six xs m := by
    intro m hm
    rw [padTo_lt (by rw [hsl]; exact hm), signs_good hx hm]
  obtain ⟨q, r, hr, rfl⟩ : ∃ q r, r < 3 ∧ j = 3 * q + r := ⟨j / 3, j % 3, Nat.mod_lt _ (by decide), by omega⟩
  rw [decB_at _ q r hr]
  have b0 := hx (3 * q)
  have b1 := hx (3 * q + 1)
  have b2 := hx (3 * q + 2)
  rcases (show r = 0 ∨ r = 1 ∨ r = 2 by omega) with rfl | rfl | rfl
  · rw [qb_0, hv (4 * q + 0) (by omega), hv (4 * q + 1) (by omega)]
    simp only [Nat.add_zero]
    rw [six_0, six_1]
    omega
  · rw [qb_1, hv (4 * q + 1) (by omega), hv (4 * q + 2) (by omega), six_1, six_2]
    omega
  · rw [qb_2, hv (4 * q + 2) (by omega), hv (4 * q + 3) (by omega), six_2, six_3]
    omega

set_option maxHeartbeats 1000000 in
theorem lawDE_some (b o n c : Nat) (xs : List Nat) (w : World) (hn : 0 < n) (hn2 : n ≤ 1024) (hn3 : n % 3 ≠ 0) (hxl : xs.length = n) (hx : Bytes xs)
    (hs : ∀ j, j < n → w.cell? ⟨b, o + j, none⟩ = some (.int .u8 (byteAt xs j : Nat))) :
    Calls Try.prog 4 #[.slice (some ⟨b, o, none⟩) n c] w (LawPost w) := by
  have hbl : b < w.heap.size := block_lt_of_cell (hs 0 hn)
  have hdec := dec_signs hx (by rw [hxl]; exact hn3)
  have d1 : decide ((2147483647 : Int) < (n : Int)) = false := by simp; omega
  have d2 : decide ((1024 : Int) < (n : Int)) = false := by simp; omega
  have d3 : ((n : Int) % 3 == 0) = false := by rw [beq_eq_false_iff_ne]; omega
  have HX := hid (And.intro hxl (And.intro hx (And.intro hs hdec)))
  have HN := hid hn3
  clear hxl hx hs hdec hn3
  go_enter Try.func4, Try.ntmps4
  go_wp2_with fail
  refine (specEncode_any b o n c xs w (by omega) HX.out.1 HX.out.2.1 HX.out.2.2.1).mono ?_
  rintro e w1 ⟨v1, rfl, ho1, hb1⟩
  have hsl : (signs xs).length = (8 * n + 5) / 6 := by rw [signs_length, HX.out.1]
  obtain ⟨sl, hsl2⟩ : ∃ sl, sl = (8 * n + 5) / 6 := ⟨_, rfl⟩
  rw [← hsl2] at hsl
  obtain ⟨g, cap, cur, rfl, hbg, hgl, hlc, hcm, hrow, hcs, hcells⟩ := ho1.form (by omega)
  have hcell := ho1.cells
  rw [hsl] at hcell hlc ⊢
  have hc : Calls Try.prog 12 #[.slice (some ⟨g, 0, none⟩) sl cap] w1 (OwnPost (signs xs) w1) := clone_any g 0 sl cap (signs xs) w1 (by omega) hsl hcell
  have hD := implDecode_of (.slice (some ⟨g, 0, none⟩) sl cap) sl sl (signs xs) w1 (by omega) (by omega) hsl (signs_bytes HX.out.2.1) hc
    (fun j hj => by rw [signs_good HX.out.2.1 (by rw [HX.out.1]; omega)]; exact six_lt HX.out.2.1 j) (Nat.le_refl _) (.inl ⟨rfl, by rw [hsl2]; exact sl_four HN.out⟩)
  have H1 := hid (And.intro hb1 hD)
  clear hb1 hD hc hcell hcells hcs hrow hcm hgl hbg ho1 hsl hsl2 hlc
  go_wp2_with fail
  refine H1.out.2.mono ?_
  rintro e w2 ⟨hbel, ⟨_, u, rfl, hu⟩ | ⟨hz, _⟩⟩
  · rw [HX.out.2.2.2] at hu
    have H2 := hid (And.intro (H1.out.1.trans (hbel.mono H1.out.1.size)) hu)
    clear hbel hu
    go_wp2_with fail
    refine (same_true u (.slice (some ⟨b, o, none⟩) n c) (textOf xs) w2 (text_of_own H2.out.2) (text_of_cells HX.out.1 (fun j hj => (H2.out.1.cell (p := ⟨b, o + j, none⟩) hbl).trans (HX.out.2.2.1 j hj)))).mono ?_
    rintro e w2' ⟨rfl, rfl⟩
    go_wp2_with fail
    go_ret
    exact ⟨rfl, H2.out.1⟩
  · omega

set_option maxHeartbeats 1000000 in
theorem lawDE_else (a : Option Addr) (n c : Nat) (w : World) (hn : 1024 < n ∨ n % 3 = 0) :
    Calls Try.prog 4 #[.slice a n c] w (LawPost w) := by
  by_cases hb : 2147483647 < n
  · have d1 : decide ((2147483647 : Int) < (n : Int)) = true := by simp; omega
    clear hn
    go_enter Try.func4, Try.ntmps4
    go_wp2_with fail
    go_ret
    exact ⟨rfl, Below.refl _ _⟩
  · have d1 : decide ((2147483647 : Int) < (n : Int)) = false := by simp; omega
    by_cases hk : 1024 < n
    · have d2 : decide ((1024 : Int) < (n : Int)) = true := by simp; omega
      clear hn
      go_enter Try.func4, Try.ntmps4
      go_wp2_with fail
      go_ret
      exact ⟨rfl, Below.refl _ _⟩
    · have d2 : decide ((1024 : Int) < (n : Int)) = false := by simp; omega
      have d3 : ((n : Int) % 3 == 0) = true := by rw [beq_iff_eq]; omega
      clear hn
      go_enter Try.func4, Try.ntmps4
      go_wp2_with fail
      go_ret
      exact ⟨rfl, Below.refl _ _⟩

theorem lawDE_any (a : Option Addr) (len cap : Nat) (zs : List Int) (w : World) (h : IsRow .u8 w a len cap zs) :
    Calls Try.prog 4 #[.slice a len cap] w (LawPost w) := by
  rcases (show (1024 < len ∨ len % 3 = 0) ∨ ¬ (1024 < len ∨ len % 3 = 0) from Classical.em _) with hb | hb
  · exact lawDE_else a len cap w hb
  · obtain ⟨b, o, xs, rfl, hlc, hxl, hx, hs⟩ := h.bytes (by omega)
    exact lawDE_some b o len cap xs w (by omega) (by omega) (by omega) hxl hx hs

theorem sg_is {k c : Nat} (hk : k < 64) (h : sg k = c) : dmap c = k := by rw [← h]; exact dmap_sg k hk

set_option maxHeartbeats 400000 in
set_option maxRecDepth 100000 in
theorem value_any (x : Nat) (ok : Bool) (w : World) (hx : x < 256) (h : if ok then dmap x < 64 else dmap x = 255) :
    Calls Try.prog 14 #[.int .u8 (x : Nat)] w fun e w' => (∃ i, e = .returned (.tuple #[i, .bool ok])) ∧ w = w' := by
  have H := hid h
  clear h
  go_enter Try.func14, Try.ntmps14
  go_wp2_with fail
  go_loop [4] (fun i => ∃ k : Nat, k ≤ 64 ∧ i = .int .i64 (k : Int) ∧ Hid (∀ j, j < k → sg j ≠ x)) (fun i => 64 - (intOf i).toNat)
  case atStart => exact ⟨0, by omega, rfl, fun j hj => by omega⟩
  case round =>
    obtain ⟨k, hk, rfl, hno⟩ := hrel
    by_cases hlt : k < 64
    · have hsig := alphaB_at k hlt
      unfold alphaB at hsig
      obtain ⟨y, hy⟩ : ∃ y, y = sg k := ⟨_, rfl⟩
      rw [← hy] at hsig
      have HY := hid hy
      have hy8 : y < 256 := by rw [hy]; exact sg_lt k hlt
      clear hy
      by_cases he : y = x
      · have t1 : ((y : Int) == (x : Int)) = true := by rw [beq_iff_eq]; omega
        have hok : ok = true := by
          cases ok with
          | true => rfl
          | false =>
            have h1 := H.out
            have h2 := sg_is hlt (HY.out.symm.trans he)
            simp at h1
            omega
        subst hok
        clear he
        go_wp2_with fail
        go_ret2
        exact ⟨⟨_, rfl⟩, rfl⟩
      · have t1 : ((y : Int) == (x : Int)) = false := by rw [beq_eq_false_iff_ne]; omega
        have hno2 : Hid (∀ j, j < k + 1 → sg j ≠ x) := fun j hj => by
          by_cases h : j = k
          · subst h; rw [← HY.out]; exact he
          · exact hno.out j (by omega)
        clear he
        go_wp2_with fail
        go_round
        case rel => exact ⟨k + 1, by omega, by go_num, hno2⟩
        case measure => simp only [intOf]; omega
    · obtain rfl : k = 64 := by omega
      have hok : ok = false := by
        cases ok with
        | false => rfl
        | true =>
          have h1 := H.out
          simp at h1
          exact absurd (sg_dmap x hx h1) (hno.out _ h1)
      subst hok
      go_wp2_with fail
      go_ret2
      exact ⟨⟨_, rfl⟩, rfl⟩

set_option maxHeartbeats 400000 in
theorem areSigns_some (b o n c : Nat) (xs : List Nat) (w : World) (hn2 : n ≤ 1048576) (hx : Bytes xs)
    (hs : ∀ j, j < n → w.cell? ⟨b, o + j, none⟩ = some (.int .u8 (byteAt xs j : Nat))) :
    Calls Try.prog 10 #[.slice (some ⟨b, o, none⟩) n c] w fun e w' =>
      (e = .returned (.bool true) ∨ (e = .returned (.bool false) ∧ ∃ Z, Z < n ∧ (∀ j, j < Z → dmap (byteAt xs j) < 64) ∧ dmap (byteAt xs Z) = 255)) ∧ w = w' := by
  have H := hid (And.intro hx hs)
  clear hx hs
  go_enter Try.func10, Try.ntmps10
  go_wp2_with fail
  go_loop [9] (fun i => ∃ k : Nat, k ≤ n ∧ i = .int .i64 (k : Int) ∧ Hid (∀ j, j < k → dmap (byteAt xs j) < 64)) (fun i => n - (intOf i).toNat)
  case atStart => exact ⟨0, by omega, rfl, fun j hj => by omega⟩
  case round =>
    obtain ⟨k, hk, rfl, hall⟩ := hrel
    by_cases hlt : k < n
    · have hc := H.out.2 k hlt
      have hx8 := H.out.1 k
      have hdm := dmap_or (byteAt xs k) hx8
      obtain ⟨x, hxx⟩ : ∃ x, x = byteAt xs k := ⟨_, rfl⟩
      rw [← hxx] at hc hx8 hdm
      have HX := hid hxx
      clear hxx
      rcases hdm with hd | hd
      · have HD := hid hd
        clear hd
        go_wp2_with fail
        refine (value_any x true w hx8 (by simp; exact HD.out)).mono ?_
        rintro e w' ⟨⟨i, rfl⟩, rfl⟩
        go_wp2_with fail
        go_round
        case rel =>
          refine ⟨k + 1, by omega, by go_num, fun j hj => ?_⟩
          by_cases h : j = k
          · subst h; rw [← HX.out]; exact HD.out
          · exact hall.out j (by omega)
        case measure => simp only [intOf]; omega
      · have HD := hid hd
        clear hd
        go_wp2_with fail
        refine (value_any x false w hx8 (by simp; exact HD.out)).mono ?_
        rintro e w' ⟨⟨i, rfl⟩, rfl⟩
        go_wp2_with fail
        go_ret
        exact ⟨.inr ⟨rfl, k, hlt, hall.out, by rw [← HX.out]; exact HD.out⟩, rfl⟩
    · obtain rfl : k = n := by omega
      go_wp2_with fail
      go_ret
      exact ⟨.inl rfl, rfl⟩

set_option maxHeartbeats 400000 in
theorem areSigns_zero (a : Option Addr) (c : Nat) (w : World) :
    Calls Try.prog 10 #[.slice a 0 c] w fun e w' => e = .returned (.bool true) ∧ w = w' := by
  go_enter Try.func10, Try.ntmps10
  go_wp2_with fail
  refine wp_loop_rounds 1 ?_
  rw [rounds_succ]
  go_wp2_with fail
  go_ret
  exact ⟨rfl, rfl⟩

def dots : List Nat := [46, 46, 46]
theorem dots_cells (w : World) : ∀ j, j < 3 → (w.alloc (.cells #[.int .u8 46, .int .u8 46, .int .u8 46] 5 (3, 4))).cell? ⟨w.heap.size, 0 + j, none⟩ = some (.int .u8 (byteAt dots j : Nat)) := by
  intro j hj
  rcases (show j = 0 ∨ j = 1 ∨ j = 2 by omega) with rfl | rfl | rfl <;> exact World.cell?_alloc_mark w _ _ _ _
theorem dots_call (w : World) : Calls Try.prog 9 #[.slice (some ⟨w.heap.size, 0, none⟩) 3 3] (w.alloc (.cells #[.int .u8 46, .int .u8 46, .int .u8 46] 5 (3, 4))) fun e w' =>
    ∃ u, e = .returned (.tuple #[u, .bool true]) ∧ Below w.heap.size w w' := by
  have hx : Bytes dots := Bytes.of_mem (fun x hx => by simp [dots] at hx; omega)
  refine (implDecode_of _ 3 3 dots _ (by omega) (by omega) rfl hx (clone_any w.heap.size 0 3 3 dots _ (by omega) rfl (dots_cells w))
    (fun j hj => by rcases (show j = 0 ∨ j = 1 ∨ j = 2 by omega) with rfl | rfl | rfl <;> decide) (Nat.le_refl _) (.inl ⟨rfl, by decide⟩)).mono ?_
  rintro e w' ⟨hb, ⟨_, u, rfl, _⟩ | ⟨h, _⟩⟩
  · exact ⟨u, rfl, ((Below.refl w.heap.size w).alloc (Nat.le_refl _) _).trans (hb.mono (by simp))⟩
  · omega

set_option maxHeartbeats 1000000 in
theorem lawDR_some (b o n c : Nat) (xs : List Nat) (w : World) (hn : 0 < n) (hn2 : n ≤ 1024) (hxl : xs.length = n) (hx : Bytes xs)
    (hs : ∀ j, j < n → w.cell? ⟨b, o + j, none⟩ = some (.int .u8 (byteAt xs j : Nat))) :
    Calls Try.prog 5 #[.slice (some ⟨b, o, none⟩) n c] w (LawPost w) := by
  have hbl : b < w.heap.size := block_lt_of_cell (hs 0 hn)
  have d1 : decide ((2147483647 : Int) < (n : Int)) = false := by simp; omega
  have d2 : decide ((1024 : Int) < (n : Int)) = false := by simp; omega
  have HX := hid (And.intro hxl (And.intro hx hs))
  clear hxl hx hs
  go_enter Try.func5, Try.ntmps5
  go_wp2_with fail
  refine (areSigns_some b o n c xs w (by omega) HX.out.2.1 HX.out.2.2).mono ?_
  rintro e w' ⟨rfl | ⟨rfl, Z, hZ, hgood, hbad⟩, rfl⟩
  · go_wp2_with fail
    go_ret
    exact ⟨rfl, Below.refl _ _⟩
  · have HZ := hid (And.intro hgood hbad)
    clear hgood hbad
    go_wp2_with fail
    go_loop [21] (fun i => ∃ k : Nat, k ≤ n ∧ i = .int .i64 (k : Int) ∧ Hid (∀ j, j < k → byteAt xs j ≠ 10 ∧ byteAt xs j ≠ 13 ∧ byteAt xs j ≠ 61)) (fun i => n - (intOf i).toNat)
    case atStart => exact ⟨0, by omega, rfl, fun j hj => by omega⟩
    case round =>
      obtain ⟨k, hk, rfl, hall⟩ := hrel
      by_cases hlt : k < n
      · have hc := HX.out.2.2 k hlt
        have hx8 := HX.out.2.1 k
        obtain ⟨x, hxx⟩ : ∃ x, x = byteAt xs k := ⟨_, rfl⟩
        rw [← hxx] at hc hx8
        have HXX := hid hxx
        clear hxx
        by_cases h10 : x = 10
        · have t1 : ((x : Int) == 10) = true := by rw [beq_iff_eq]; omega
          clear h10
          go_wp2_with fail
          go_ret
          exact ⟨rfl, Below.refl _ _⟩
        · have t1 : ((x : Int) == 10) = false := by rw [beq_eq_false_iff_ne]; omega
          by_cases h13 : x = 13
          · have t2 : ((x : Int) == 13) = true := by rw [beq_iff_eq]; omega
            clear h10 h13
            go_wp2_with fail
            go_ret
            exact ⟨rfl, Below.refl _ _⟩
          · have t2 : ((x : Int) == 13) = false := by rw [beq_eq_false_iff_ne]; omega
            by_cases h61 : x = 61
            · have t3 : ((x : Int) == 61) = true := by rw [beq_iff_eq]; omega
              clear h10 h13 h61
              go_wp2_with fail
              go_ret
              exact ⟨rfl, Below.refl _ _⟩
            · have t3 : ((x : Int) == 61) = false := by rw [beq_eq_false_iff_ne]; omega
              have HN := hid (And.intro h10 (And.intro h13 h61))
              clear h10 h13 h61
              go_wp2_with fail
              go_round
              case rel =>
                refine ⟨k + 1, by omega, by go_num, fun j hj => ?_⟩
                by_cases h : j = k
                · subst h; rw [← HXX.out]; exact HN.out
                · exact hall.out j (by omega)
              case measure => simp only [intOf]; omega
      · obtain rfl : k = n := by omega
        have hD := implDecode_of (.slice (some ⟨b, o, none⟩) k c) k Z xs w hn (by omega) HX.out.1 HX.out.2.1 (clone_any b o k c xs w (by omega) HX.out.1 HX.out.2.2) HZ.out.1 (by omega) (.inr ⟨hZ, HZ.out.2, hall.out Z hZ⟩)
        have HD := hid hD
        clear hD
        go_wp2_with fail
        refine HD.out.mono ?_
        rintro e w2 ⟨hbel, ⟨hz, _⟩ | ⟨hz, rfl⟩⟩
        · omega
        · have H2 := hid hbel
          clear hbel hz
          have kc := Lib.run_convert_bytes_const (P := Try.prog) w2 22 5 #[.int .u8 46, .int .u8 46, .int .u8 46] 3 3 Try.underlying22 Try.underlying5
          go_wp2_with fail
          refine (dots_call w2).mono ?_
          rintro e w3 ⟨u, rfl, hb3⟩
          have H3 := hid (H2.out.trans (hb3.mono H2.out.size))
          clear hb3
          go_wp2_with fail
          go_ret
          exact ⟨rfl, H3.out⟩

set_option maxHeartbeats 1000000 in
theorem lawDR_else (a : Option Addr) (n c : Nat) (w : World) (hn : 1024 < n ∨ n = 0) :
    Calls Try.prog 5 #[.slice a n c] w (LawPost w) := by
  rcases hn with hn | rfl
  · have d2 : decide ((1024 : Int) < (n : Int)) = true := by simp; omega
    by_cases hb : 2147483647 < n
    · have d1 : decide ((2147483647 : Int) < (n : Int)) = true := by simp; omega
      go_enter Try.func5, Try.ntmps5
      go_wp2_with fail
      go_ret
      exact ⟨rfl, Below.refl _ _⟩
    · have d1 : decide ((2147483647 : Int) < (n : Int)) = false := by simp; omega
      go_enter Try.func5, Try.ntmps5
      go_wp2_with fail
      go_ret
      exact ⟨rfl, Below.refl _ _⟩
  · go_enter Try.func5, Try.ntmps5
    go_wp2_with fail
    refine (areSigns_zero a c w).mono ?_
    rintro e w' ⟨rfl, rfl⟩
    go_wp2_with fail
    go_ret
    exact ⟨rfl, Below.refl _ _⟩

theorem lawDR_any (a : Option Addr) (len cap : Nat) (zs : List Int) (w : World) (h : IsRow .u8 w a len cap zs) :
    Calls Try.prog 5 #[.slice a len cap] w (LawPost w) := by
  rcases (show (1024 < len ∨ len = 0) ∨ ¬ (1024 < len ∨ len = 0) from Classical.em _) with hb | hb
  · exact lawDR_else a len cap w hb
  · obtain ⟨b, o, xs, rfl, hlc, hxl, hx, hs⟩ := h.bytes (by omega)
    exact lawDR_some b o len cap xs w (by omega) (by omega) hxl hx hs

#print axioms lawDR_any
end Go.Proofs.Ythccdjdmljmplaa
