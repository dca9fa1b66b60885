/-
  base64Decode of bytes that are not empty, as bcrypt uses it: read if they are all signs and as many as bytes make; refused if one is no sign, no line end and no sign of filling. The slice that was handed in still holds what it held.
-/
import Derived.Test.YtmglaaejobbbiaaDoorDecode
import Derived.Test.YtmglaaejobbbiaaDoorB64Enc
namespace Go.Proofs.YtmglaaejobbbiaaDoor
open Go.RowKit

theorem k_new (w : World) (v : Value) (t : TypeId) : ∀ j u, [v][j]? = some u → (w.alloc (.cells #[v] t)).cell? ((⟨w.heap.size, 0, none⟩ : Addr).add j) = some u := by
  intro j u hu
  match j, hu with
  | 0, hu => simp at hu; subst hu; simp [Addr.add]
theorem k_one (k : IntKind) (x : Int) : ∀ u ∈ [Value.int k x], u.oneCell' = true := by
  intro u hu; simp at hu; subst hu; rfl
theorem k_to {w : World} {base m : Nat} {v : Value} {xs : List Nat} (h : Own w base v xs) (hl : xs.length = m) : w.ownsRow base 5 1 v m (valsOf xs) := by subst hl; exact h
theorem k_snoc {w : World} {base m : Nat} {v : Value} {xs : List Nat} {x : Nat} (h : w.ownsRow base 5 1 v (m + 1) (valsOf xs ++ [.int .u8 (x : Nat)])) (hl : xs.length = m) : Own w base v (xs ++ [x]) := by
  have e : (xs ++ [x]).length = m + 1 := by simp [hl]
  unfold Own
  rw [e, show valsOf (xs ++ [x]) = valsOf xs ++ valsOf [x] by simp [valsOf]]
  exact h

/-- 'append' to a slice of the call's own that is not nil: the slice itself still holds its elements; the new one is the same block's, or a new block's. -/
theorem run_append_kept {P : Program} {w : World} (base : Nat) (t ty e : TypeId) (i : TypeInfo) (z : Value) (size bytes : Nat) (ht : P.underlying t = some (.slice e)) (hi : P.info? e = some i) (hz : i.zero = some z)
    (hsize : i.size = size) (hby : i.bytes = bytes) (hzs : z.cells.size = size) (hsz : 0 < size)
    (g n cap : Nat) (xs : List Value) (hown : w.ownsRow base e size (.slice (some ⟨g, 0, none⟩) n cap) n xs)
    (a : Addr) (m c : Nat) (news : List Value) (hl : news.length = m * size) (hnews : ∀ j u, news[j]? = some u → w.cell? (a.add j) = some u) (h1 : ∀ u ∈ news, u.oneCell' = true)
    (h63 : n + m ≤ maxLen) (hbytes : (n + m) * bytes ≤ 140737488355328) (hbase : base ≤ w.heap.size) :
    ∃ v' w', (Builtin.append_ #[t, t] ty #[.slice (some ⟨g, 0, none⟩) n cap, .slice (some a) m c]).run P w = .ok v' w' ∧ w'.ownsRow base e size v' (n + m) (xs ++ news) ∧ w.grownBy w' (some g) ∧
      w'.ownsRow base e size (.slice (some ⟨g, 0, none⟩) n cap) n xs ∧ (v' = .slice (some ⟨g, 0, none⟩) (n + m) cap ∨ v'.ownBlock = some w.heap.size) := by
  have hown0 := hown
  obtain ⟨hlx, ⟨h', _⟩ | ⟨g', cap', cur, h', hbg, hg, hnc, hcm, hcs, htake⟩⟩ := hown
  · simp at h'
  simp only [Value.slice.injEq, Option.some.injEq, Addr.mk.injEq, and_true, true_and] at h'
  obtain ⟨rfl, rfl⟩ := h'
  by_cases hroom : n + m ≤ cap
  · subst hsize
    have hfit : n * i.size + news.length ≤ cur.size := by rw [hl, hcs, ← Nat.add_mul]; exact Nat.mul_le_mul_right _ hroom
    have hr := run_append_room (P := P) w t ty e i ht hi g n cap cur hg a m c news hl hnews h1 hroom hfit
    have hlen : (xs ++ news).length = (n + m) * i.size := by rw [List.length_append, hlx, hl, Nat.add_mul]
    have hsz2 : (cur.toList.take (n * i.size) ++ news ++ cur.toList.drop (n * i.size + news.length)).toArray.size = cap * i.size := by
      simp only [List.size_toArray, List.length_append, List.length_take, List.length_drop, Array.length_toList]
      omega
    refine ⟨_, _, hr, ⟨hlen, .inr ⟨g, cap, _, rfl, hbg, setRow_heap w g cur _ e _ hg, hroom, hcm, hsz2, ?_⟩⟩, ⟨rfl, rfl, rfl, by simp, fun k _ hk => setRow_other w g k _ (fun e => hk (by simp [e]))⟩, ⟨hlx, .inr ⟨g, cap, _, rfl, hbg, setRow_heap w g cur _ e _ hg, hnc, hcm, hsz2, ?_⟩⟩, .inl rfl⟩
    · rw [htake, ← hlen]
      exact List.take_left
    · rw [htake, ← hlx, List.append_assoc]
      exact List.take_left
  · have holds : ∀ j u, xs[j]? = some u → w.cell? ((⟨g, 0, none⟩ : Addr).add j) = some u := hown0.cells (g := g) rfl
    subst hsize
    subst hby
    have hsmall : n + m ≤ 9223372036854775807 := by simp only [maxLen] at h63; omega
    have hlen : (xs ++ news).length = (n + m) * i.size := by rw [List.length_append, hlx, hl, Nat.add_mul]
    have hge := grownCap_ge w (n + m) cap e
    have hcm2 : grownCap w (n + m) cap e ≤ maxLen := grownCap_le_maxLen w (n + m) cap e h63
    have hr := run_append_grow (P := P) w t ty e i z ht hi hz ⟨g, 0, none⟩ n cap xs hlx holds a m c news hl hnews (by omega) (by omega) (growslice_fits (by omega) hbytes)
    have hgr : ∀ row, w.grownBy (w.drew.alloc (.cells (xs.toArray ++ news.toArray ++ Builtin.zeroCells z.cells (grownCap w (n + m) cap e - (n + m))) e)) row := fun row => ⟨rfl, rfl, rfl, by simp, fun k hk _ => Below.heap_alloc w.drew _ _ hk⟩
    refine ⟨_, _, hr, ⟨hlen, .inr ⟨w.heap.size, _, _, rfl, hbase, heap_alloc_new w.drew _, hge, hcm2, ?_, ?_⟩⟩, hgr _, hown0.kept (hgr none) (.inr (by simp [Value.ownBlock])), .inr rfl⟩
    · simp only [Array.size_append, List.size_toArray, size_zeroCells, hzs, hlx, hl, ← Nat.add_mul]
      congr 1
      omega
    · simp only [Array.toList_append, List.append_assoc]
      rw [← List.append_assoc, ← hlen]
      exact List.take_left
theorem wpList_append_kept {P : Program} {w : World} {ops : Array Oper} {rest : List Oper} {o : Oper} {a : Act} {Q : Exit → Act → World → Prop} (hgd : o.guard = none) (s x : Operand) (t : TypeId)
    (ho : o.op = .call { callee := .builtin .append, args := #[s, x], argTypes := #[t, t] })
    (base : Nat) (e : TypeId) (i : TypeInfo) (z : Value) (size bytes : Nat) (ht : P.underlying t = some (.slice e)) (hi : P.info? e = some i) (hz : i.zero = some z)
    (hsize : i.size = size) (hby : i.bytes = bytes) (hzs : z.cells.size = size) (hsz : 0 < size)
    (g n cap : Nat) (xs : List Value) (hs : a.eval s = .slice (some ⟨g, 0, none⟩) n cap) (hown : w.ownsRow base e size (.slice (some ⟨g, 0, none⟩) n cap) n xs)
    (ad : Addr) (m c : Nat) (news : List Value) (hx : a.eval x = .slice (some ad) m c) (hl : news.length = m * size) (hnews : ∀ j u, news[j]? = some u → w.cell? (ad.add j) = some u) (h1 : ∀ u ∈ news, u.oneCell' = true)
    (h63 : n + m ≤ maxLen) (hbytes : (n + m) * bytes ≤ 140737488355328) (hbase : base ≤ w.heap.size)
    (h : ∀ v' w', w'.ownsRow base e size v' (n + m) (xs ++ news) → w.grownBy w' (some g) → w'.ownsRow base e size (.slice (some ⟨g, 0, none⟩) n cap) n xs → (v' = .slice (some ⟨g, 0, none⟩) (n + m) cap ∨ v'.ownBlock = some w.heap.size) → wpList P ops Q rest (a.put o.dst v') w') : wpList P ops Q (o :: rest) a w := by
  refine wpList_plain hgd fun K hK => ?_
  obtain ⟨v', w', hr, h2, h3, h4, h5⟩ := run_append_kept (P := P) (w := w) base t o.type e i z size bytes ht hi hz hsize hby hzs hsz g n cap xs hown ad m c news hl hnews h1 h63 hbytes hbase
  unfold Oper.wp execOp
  simp only [ho, resolve, invoke, builtin, Sem.run_bind, Sem.run_pure, Result.andThen_ok, List.map_toArray, List.map_cons, List.map_nil, hs, hx, hr]
  exact hK _ _ (h v' w' h2 h3 h4 h5)

/-- A slice's own first n elements. -/
theorem own_first {w : World} {base g n m cap : Nat} {xs ys : List Nat} (h : Own w base (.slice (some ⟨g, 0, none⟩) m cap) (xs ++ ys)) (hn : xs.length = n) : Own w base (.slice (some ⟨g, 0, none⟩) n cap) xs := by
  subst hn
  obtain ⟨h1, ⟨h', _⟩ | ⟨g', cap', cur, h', hbg, hg, hnc, hcm, hcs, htake⟩⟩ := h
  · simp at h'
  simp only [Value.slice.injEq, Option.some.injEq, Addr.mk.injEq, and_true] at h'
  obtain ⟨rfl, hm, rfl⟩ := h'
  refine ⟨by simp [valsOf_length], .inr ⟨g, cap, cur, rfl, hbg, hg, by simp at hnc; omega, hcm, hcs, ?_⟩⟩
  have e := congrArg (List.take xs.length) htake
  rw [List.take_take, show valsOf (xs ++ ys) = valsOf xs ++ valsOf ys by simp [valsOf], List.take_left' (valsOf_length xs)] at e
  rw [← e]
  congr 1
  simp
/-- The slice that grows is the old one's block, or a new one. -/
def Grows (g cap sz : Nat) (v : Value) : Prop := (∃ L, v = .slice (some ⟨g, 0, none⟩) L cap) ∨ ∃ b, v.ownBlock = some b ∧ sz ≤ b

set_option maxHeartbeats 400000 in
theorem decodedLenK'_any (n : Int) (w : World) (h0 : 0 ≤ n) (h1 : n ≤ 4294967296) :
    Calls Tryd.prog 44 #[.int .i64 n, .int .i32 61] w fun e w' => e = .returned (.int .i64 (n / 4 * 3)) ∧ w = w' := by
  go_enter Tryd.func44, Tryd.ntmps44
  go_wp2
  go_ret
  exact ⟨rfl, rfl⟩

set_option maxHeartbeats 400000 in
theorem decodedLenK_any (b : Nat) (n : Int) (w : World) (h0 : 0 ≤ n) (h1 : n ≤ 4294967296) (hc : w.cell? ⟨b, 320, none⟩ = some (.int .i32 61)) :
    Calls Tryd.prog 34 #[.pointer (some ⟨b, 0, none⟩), .int .i64 n] w fun e w' => e = .returned (.int .i64 (n / 4 * 3)) ∧ w = w' := by
  go_enter Tryd.func34, Tryd.ntmps34
  go_wp2_with (go_at_call 44; refine (decodedLenK'_any _ _ h0 h1).mono ?_; rintro e w' ⟨rfl, rfl⟩)
  go_ret
  exact ⟨rfl, rfl⟩

def padTo (xs : List Nat) (j : Nat) : List Nat := xs ++ List.replicate j 61
theorem padTo_length (xs : List Nat) (j : Nat) : (padTo xs j).length = xs.length + j := by simp [padTo]
theorem padTo_zero (xs : List Nat) : padTo xs 0 = xs := by simp [padTo]
theorem padTo_succ (xs : List Nat) (j : Nat) : padTo xs (j + 1) = padTo xs j ++ [61] := by simp [padTo, List.replicate_succ']
theorem padTo_lt {xs : List Nat} {i j : Nat} (h : i < xs.length) : byteAt (padTo xs j) i = byteAt xs i := by
  simp [byteAt, padTo, List.getElem?_append_left h]
theorem padTo_ge {xs : List Nat} {i j : Nat} (h : xs.length ≤ i) (h2 : i < xs.length + j) : byteAt (padTo xs j) i = 61 := by
  have h3 : i - xs.length < j := by omega
  simp [byteAt, padTo, List.getElem?_append_right h, h3]
theorem padTo_bytes {xs : List Nat} (h : Bytes xs) (j : Nat) : Bytes (padTo xs j) := by
  refine Bytes.of_mem fun x hx => ?_
  rcases List.mem_append.1 hx with hx | hx
  · exact h.mem x hx
  · rw [(List.mem_replicate.1 hx).2]; decide
/-- The bytes of a text of signs, as many as are no multiple of four. -/
def decL (cs : List Nat) (m : Nat) : List Nat := (List.range m).map (decB cs)
theorem decL_length (cs : List Nat) (m : Nat) : (decL cs m).length = m := by simp [decL]
theorem decL_at {cs : List Nat} {m j : Nat} (h : j < m) : byteAt (decL cs m) j = decB cs j := by simp [byteAt, decL, h]
def dec (xs : List Nat) : List Nat := decL (padTo xs (4 - xs.length % 4)) (3 * (xs.length / 4) + xs.length % 4 - 1)

/-- How bytes go on behind Z signs: they are at their end, and so many as bytes make; or there is a byte that is none of what may stand there. -/
def TextEnd (xs : List Nat) (n Z : Nat) : Prop :=
  (Z = n ∧ (n % 4 = 2 ∨ n % 4 = 3)) ∨ (Z < n ∧ dmap (byteAt xs Z) = 255 ∧ byteAt xs Z ≠ 10 ∧ byteAt xs Z ≠ 13 ∧ byteAt xs Z ≠ 61)
def B64KPost (v0 : Value) (base n Z : Nat) (xs : List Nat) (w : World) (e : Ending) (w' : World) : Prop :=
  Own w' base v0 xs ∧ w.grownBy w' v0.ownBlock ∧ ((Z = n ∧ ∃ u, e = .returned (.tuple #[u, .nilIface]) ∧ Own w' base u (dec xs)) ∨
    (Z < n ∧ ∃ x, e = .returned (.tuple #[.slice none 0 0, .iface 110 x])))

theorem text_end {xs : List Nat} {n k Q Z : Nat} (hxl : xs.length = n) (hk : k = 4 - n % 4) (hQ : Q = n / 4 + 1) (hend : TextEnd xs n Z) :
    dmap (byteAt (padTo xs k) Z) = 255 ∧ ∃ m err, DecEnd (padTo xs k) Q Z m err ∧ ((Z = n ∧ err = .nilIface ∧ m = 3 * (n / 4) + n % 4 - 1) ∨ (Z < n ∧ err = .iface 110 (.int .i64 (Z : Int)) ∧ m ≤ 3 * Q)) := by
  rcases hend with ⟨rfl, ht⟩ | ⟨hZ, hb, h10, h13, h61⟩
  · refine ⟨by rw [padTo_ge (by omega) (by omega)]; decide, 3 * (Z / 4) + Z % 4 - 1, .nilIface, .inl ⟨Z % 4, ht, by omega, fun j h1 h2 => padTo_ge (by omega) (by omega), by omega, rfl⟩, .inl ⟨rfl, rfl, rfl⟩⟩
  · have e : byteAt (padTo xs k) Z = byteAt xs Z := padTo_lt (by omega)
    exact ⟨by rw [e]; exact hb, 3 * (Z / 4), _, .inr ⟨by rw [e]; exact h10, by rw [e]; exact h13, by rw [e]; exact h61, rfl, rfl⟩, .inr ⟨hZ, rfl, by omega⟩⟩

set_option maxHeartbeats 1000000 in
theorem base64Decode_kept (v : Value) (base n Z : Nat) (xs : List Nat) (w : World) (hn : 0 < n) (hn2 : n ≤ 1048576) (hxl : xs.length = n) (hx : Bytes xs) (hv : Own w base v xs) (hb : base ≤ w.heap.size)
    (hgood : ∀ j, j < Z → dmap (byteAt xs j) < 64) (hZ : Z ≤ n) (hend : TextEnd xs n Z) :
    Calls Tryd.prog 27 #[v] w (B64KPost v base n Z xs w) := by
  obtain ⟨i0, hi, hz0, hz1, hz2⟩ := info_parts infoByte
  obtain ⟨k, hk⟩ : ∃ k, k = 4 - n % 4 := ⟨_, rfl⟩
  obtain ⟨Q, hQ⟩ : ∃ Q, Q = n / 4 + 1 := ⟨_, rfl⟩
  obtain ⟨hbad, m, err, hE, hres⟩ := text_end hxl hk hQ hend
  have hk1 : k ≤ 4 := by omega
  have hkI : (4 : Int) - (n : Int) % 4 = (k : Int) := by omega
  obtain ⟨g0, cap0, cur0, rfl, hbg0, hgl0, hlc0, hcm0, hrow0, hcs0, hcells0⟩ := hv.form (by omega)
  rw [hxl] at hv ⊢
  have hown0 : Own w base (.slice (some ⟨g0, 0, none⟩) n cap0) (padTo xs 0) := by rw [padTo_zero]; exact hv
  have HX := hid (And.intro hxl hx)
  have HK := hid (And.intro hk (And.intro hQ hown0))
  have HV := hid hv
  have HE := hid (And.intro hbad (And.intro hE (And.intro hres hgood)))
  clear hbg0 hgl0 hlc0 hcm0 hrow0 hcs0 hcells0 hv hown0 hxl hx hk hQ hbad hE hres hgood hend
  go_enter Tryd.func27, Tryd.ntmps27
  go_wp2_with fail
  go_loopw [0, 5] (fun v i wr => ∃ j : Nat, j ≤ k ∧ i = .int .i64 (j : Int) ∧ Own wr base v (padTo xs j) ∧ w.grownBy wr (some g0) ∧ Hid (Own wr base (.slice (some ⟨g0, 0, none⟩) n cap0) xs) ∧ Grows g0 cap0 w.heap.size v) (fun _ i _ => k - (intOf i).toNat)
  case atStart => exact ⟨0, Nat.zero_le _, rfl, HK.out.2.2, ⟨rfl, rfl, rfl, Nat.le_refl _, fun _ _ _ => rfl⟩, HV, .inl ⟨_, rfl⟩⟩
  case round =>
    obtain ⟨j, hj, rfl, hown, hbel, hkeep, hgrows⟩ := hrel
    have hbw := hbel.size
    obtain ⟨g1, cap1, cur1, rfl, hbg1, hgl1, hlc1, hcm1, hrow1, hcs1, hcells1⟩ := hown.form (by rw [padTo_length, HX.out.1]; omega)
    rw [padTo_length, HX.out.1] at hown hgrows ⊢
    have H1 := hid (And.intro hown hbel)
    have HG := hid (And.intro hkeep.out (And.intro hgrows hgl1))
    clear hown hbel hkeep hgrows hbg1 hlc1 hcm1 hrow1 hcs1 hcells1 hgl1
    by_cases hlt : j < k
    · go_wp2_with ((with_reducible refine atOp (o := ⟨some 20, _, _, _, _, _⟩) ?_); refine wpList_append_kept rfl (.tmp 18) (.tmp 19) 22 rfl base 5 i0 (.int .u8 0) 1 1 Tryd.underlying22 hi hz0 hz1 hz2 rfl (by decide) g1 (n + j) cap1 (valsOf (padTo xs j)) rfl (World.ownsRow.alloc (k_to H1.out.1 (by rw [padTo_length, HX.out.1])) _) ⟨wr.heap.size, 0, none⟩ 1 1 [.int .u8 61] rfl rfl (k_new wr _ _) (k_one _ _) (by unfold maxLen; omega) (by omega) (by simp; omega) ?_; intro v' w1 hown hgr hold hway; have H2 := hid (And.intro hown (And.intro hgr (And.intro hold hway))); clear hown hgr hold hway)
      go_roundw
      case rel =>
        have hg1 : g1 < wr.heap.size := HG.out.2.2
        have hgrw : wr.grownBy w1 (some g1) := grown_trans (grown_alloc wr _ _) H2.out.2.1
        refine ⟨j + 1, by omega, by go_num, ?_, ?_, ?_, ?_⟩
        · rw [padTo_succ]
          exact k_snoc H2.out.1 (by rw [padTo_length, HX.out.1])
        · refine grown_both H1.out.2 hgrw ?_
          rcases HG.out.2.1 with ⟨L, hL⟩ | ⟨b, hb1, hb2⟩
          · simp only [Value.slice.injEq, Option.some.injEq, Addr.mk.injEq, and_true] at hL
            exact .inl hL.1
          · simp [Value.ownBlock] at hb1
            exact .inr (by omega)
        · by_cases hgg : g1 = g0
          · subst hgg
            rcases HG.out.2.1 with ⟨L, hL⟩ | ⟨b, hb1, hb2⟩
            · simp only [Value.slice.injEq, true_and] at hL
              obtain ⟨rfl, rfl⟩ := hL
              have hpl : (padTo xs j).length = n + j := by rw [padTo_length, HX.out.1]
              have hprev : Own w1 base (.slice (some ⟨g1, 0, none⟩) (n + j) cap1) (padTo xs j) := by unfold Own; rw [hpl]; exact H2.out.2.2.1
              exact hid (own_first hprev HX.out.1)
            · simp [Value.ownBlock] at hb1
              have := (HV.out.lt g1 rfl).2
              omega
          · exact hid (HG.out.1.grown hgrw (.inr (by simp [Value.ownBlock]; exact fun e => hgg e.symm)))
        · rcases H2.out.2.2.2 with rfl | hn
          · rcases HG.out.2.1 with ⟨L, hL⟩ | hL
            · simp only [Value.slice.injEq, Option.some.injEq, Addr.mk.injEq, and_true] at hL
              obtain ⟨rfl, rfl, rfl⟩ := hL
              exact .inl ⟨_, rfl⟩
            · exact .inr (by simpa [Value.ownBlock] using hL)
          · exact .inr ⟨_, hn, by have := H1.out.2.size; simp; omega⟩
      case measure => simp only [intOf]; omega
    · obtain rfl : j = k := by omega
      obtain ⟨wo, hwo⟩ : ∃ wo : World, wo = wr := ⟨_, rfl⟩
      subst hwo
      have hpl : (padTo xs j).length = n + j := by rw [padTo_length, HX.out.1]
      obtain ⟨g, cap, cur, hge0, hbg, hgl, hlc, hcm, hrow, hcs, hcells⟩ := H1.out.1.form (by omega)
      simp only [Value.slice.injEq, Option.some.injEq, Addr.mk.injEq, and_true] at hge0
      obtain ⟨rfl, _, rfl⟩ := hge0
      have hcell := (show Own wo base (.slice (some ⟨g1, 0, none⟩) (padTo xs j).length cap1) (padTo xs j) by rw [hpl]; exact H1.out.1).cells
      rw [hpl] at hlc hcell
      obtain ⟨L, hL⟩ : ∃ L, L = n + j := ⟨_, rfl⟩
      obtain ⟨ld, hld⟩ : ∃ ld, ld = 3 * Q := ⟨_, rfl⟩
      rw [← hL] at hpl hlc hcell ⊢
      have hLQ : L = 4 * Q := by have := HK.out; omega
      have hldI : (L : Int) / 4 * 3 = (ld : Int) := by omega
      have hLb : L ≤ 4194304 := by omega
      have hZL : Z < L := by have := HK.out; omega
      have hldb : ld ≤ 4194304 := by omega
      have H3 := hid (And.intro hL (And.intro hld (And.intro hLQ (And.intro hpl (And.intro hrow (And.intro hcell hcm))))))
      clear hL hld hLQ hpl hrow hcell hcm hcs hcells
      go_wp2_with fail
      refine (bcEncoding wo).mono ?_
      rintro e w1 ⟨rfl, he1, hg1⟩
      have hp1 := he1.pad
      have H4 := hid (And.intro he1 hg1)
      have hs1 : wo.heap.size < w1.heap.size := he1.lt
      clear he1 hg1
      go_wp2_with fail
      refine (decodedLenK_any wo.heap.size L w1 (by omega) (by omega) hp1).mono ?_
      rintro e w1' ⟨rfl, rfl⟩
      go_wp2_with ((with_reducible refine atOp (o := ⟨some 25, _, _, _, _, _⟩) ?_); refine wpList_make_full _ rfl (.tmp 24) (.tmp 24) 22 rfl wo.heap.size 5 i0 (.int .u8 0) 1 Tryd.underlying22 hi hz0 hz1 .i64 .i64 _ _ ld rfl rfl rfl rfl (by rw [hz2]; omega) (by unfold maxLen; omega) (by omega) ?_; intro w2 hown hg2; have H5 := hid (And.intro hown hg2); clear hown hg2)
      obtain ⟨hown2, hg2⟩ := H5.out
      obtain ⟨cur2, hrow2, hcur⟩ := made_row hown2
      have hs2 : w1.heap.size < w2.heap.size := row_lt hrow2
      have H6 := hid (And.intro hrow2 (And.intro hcur hg2))
      clear hown2 hg2 hrow2 hcur H5
      refine (bcEncoding w2).mono ?_
      rintro e w3 ⟨rfl, he3, hg3⟩
      have hs3 : w2.heap.size < w3.heap.size := he3.lt
      have hgr3 : wo.grownBy w3 none := grown_trans H4.out.2 (grown_trans H6.out.2.2 hg3)
      have H7 := hid (And.intro he3 (And.intro hg3 hgr3))
      clear he3 hg3 hgr3
      go_wp2_with fail
      refine (decode_any w2.heap.size g1 0 L cap1 w1.heap.size ld Q Z m err (padTo xs j) cur2 w3 H3.out.2.2.1 H3.out.2.1 hZL hLb hlc H3.out.2.2.2.1 (padTo_bytes HX.out.2 j) H7.out.1
        (fun i hi => (grown_cell H7.out.2.2 (p := ⟨g1, 0 + i, none⟩) hgl (by simp)).trans (H3.out.2.2.2.2.2.1 i hi)) (fun i hi => by rw [padTo_lt (by rw [HX.out.1]; omega)]; exact HE.out.2.2.2 i hi) HE.out.1
        ((H7.out.2.1.block w1.heap.size hs2 (by simp)).trans H6.out.1) H6.out.2.1 (by omega) (by omega) HE.out.2.1).mono ?_
      rintro e w4 ⟨rfl, csd, hrow4, hsz4, hin4, hg4⟩
      have hgr4 : wo.grownBy w4 none := grown_new H7.out.2.2 hg4 (by omega)
      have hkeep4 : Own w4 base (.slice (some ⟨g0, 0, none⟩) n cap0) xs := HG.out.1.grown hgr4 (.inr (by simp [Value.ownBlock]))
      have hbel4 : w.grownBy w4 (some g0) := grown_trans H1.out.2 (grown_any hgr4 _)
      have H8 := hid (And.intro hrow4 (And.intro hsz4 (And.intro hin4 (And.intro hkeep4 hbel4))))
      clear hrow4 hsz4 hin4 hg4 hgr4 hbel4 hkeep4
      rcases HE.out.2.2.1 with ⟨hZn, rfl, hm⟩ | ⟨hZn, rfl, hm⟩
      · have hmld : m ≤ ld := by have := H3.out.2.1; have := HK.out; omega
        have HM := hid (And.intro hZn hm)
        clear hZn hm
        go_wp2_with fail
        go_ret2
        refine ⟨H8.out.2.2.2.1, H8.out.2.2.2.2, .inl ⟨HM.out.1, _, rfl, ?_⟩⟩
        refine Own.mk (n := m) (by omega) H8.out.1 ?_ hmld (by unfold maxLen; omega) H8.out.2.1 (fun i hi => ?_)
        · unfold dec; rw [decL_length, HX.out.1]; exact HM.out.2.symm
        · rw [H8.out.2.2.1 i hi]
          unfold dec
          rw [HX.out.1, ← HM.out.2, decL_at hi, ← HK.out.1]
      · have HM := hid hZn
        clear hZn hm
        go_wp2_with fail
        go_ret2
        exact ⟨H8.out.2.2.2.1, H8.out.2.2.2.2, .inr ⟨HM.out, _, rfl⟩⟩

#print axioms base64Decode_kept
end Go.Proofs.YtmglaaejobbbiaaDoor
