/-
  decodeQuantum: up to four signs become up to three bytes; a byte that is no sign, no line end and no sign of filling is an error.
-/
import Derived.Test.YtmglaaejobbbiaaDoorNewEnc
import Derived.Test.YtmglaaejobbbiaaDoorAsm
namespace Go.Proofs.YtmglaaejobbbiaaDoor
open Go.RowKit

/-- The i-th number of a quantum, j signs of which are read. -/
def qv (cs : List Nat) (si j i : Nat) : Nat := if i < j then dmap (byteAt cs (si + i)) else 0
def qcells (cs : List Nat) (si j : Nat) : Array Value := #[.int .u8 (qv cs si j 0 : Nat), .int .u8 (qv cs si j 1 : Nat), .int .u8 (qv cs si j 2 : Nat), .int .u8 (qv cs si j 3 : Nat)]
theorem info4 : (Tryd.prog.info? 109).map (fun i => (i.zero, i.size, i.bytes)) = some (some (.agg #[.int .u8 0, .int .u8 0, .int .u8 0, .int .u8 0]), 4, 4) := by kernel_rfl
theorem qcells_set (cs : List Nat) (si j : Nat) (h : j < 4) : (qcells cs si j).setIfInBounds j (.int .u8 (dmap (byteAt cs (si + j)) : Nat)) = qcells cs si (j + 1) := by
  rcases (show j = 0 ∨ j = 1 ∨ j = 2 ∨ j = 3 by omega) with rfl | rfl | rfl | rfl <;> simp [qcells, qv]
theorem qcells_at (cs : List Nat) (si j i : Nat) (h : i < 4) : (qcells cs si j)[i]? = some (.int .u8 (qv cs si j i : Nat)) := by
  rcases (show i = 0 ∨ i = 1 ∨ i = 2 ∨ i = 3 by omega) with rfl | rfl | rfl | rfl <;> rfl

/-- What a quantum's loop has done: j signs read, the world changed in new memory alone. -/
def QRel (cs : List Nat) (si gq j : Nat) (w wr : World) : Prop := wr.heap[gq]? = some (.cells (qcells cs si j) 109 (0, 0)) ∧ w.grownBy wr none

theorem q_step {cs : List Nat} {si gq j v : Nat} {w wr : World} (h : QRel cs si gq j w wr) (hg : w.heap.size ≤ gq) (hj : j < 4) (hv : v = dmap (byteAt cs (si + j))) : QRel cs si gq (j + 1) w (wr.setCell ⟨gq, j, none⟩ (.int .u8 (v : Nat))) := by
  subst hv
  refine ⟨?_, grown_new h.2 (grown_setCell wr gq j _) hg⟩
  rw [← qcells_set cs si j hj]
  exact row_set h.1 j _

set_option maxHeartbeats 1000000 in
set_option maxRecDepth 100000 in
theorem quantum_bad (ge b o L c si t : Nat) (dst : Value) (cs : List Nat) (w : World) (ht : t < 4) (hL : si + t < L) (hLb : L ≤ 4194304) (hlen : cs.length = L) (hx : Bytes cs) (he : IsEnc w ge)
    (hs : ∀ j, j < L → w.cell? ⟨b, o + j, none⟩ = some (.int .u8 (byteAt cs j : Nat))) (hgood : ∀ j, j < t → dmap (byteAt cs (si + j)) < 64) (hbad : dmap (byteAt cs (si + t)) = 255)
    (h10 : byteAt cs (si + t) ≠ 10) (h13 : byteAt cs (si + t) ≠ 13) (h61 : byteAt cs (si + t) ≠ 61) :
    Calls Tryd.prog 47 #[.pointer (some ⟨ge, 0, none⟩), dst, .slice (some ⟨b, o, none⟩) L c, .int .i64 (si : Nat)] w fun e w' =>
      e = .returned (.tuple #[.int .i64 ((si + t + 1 : Nat) : Int), .int .i64 0, .iface 110 (.int .i64 ((si + t : Nat) : Int))]) ∧ w.grownBy w' none := by
  obtain ⟨i0, hi, hz, _, _⟩ := info_parts info4
  have hbl : b < w.heap.size := block_lt_of_cell (hs si (by omega))
  have HH := hid (And.intro hlen (And.intro hx (And.intro he (And.intro hs (And.intro hgood hbad)))))
  have HN := hid (And.intro h10 (And.intro h13 h61))
  clear hlen hx he hs hgood hbad h10 h13 h61
  go_enter Tryd.func47, Tryd.ntmps47
  go_wp2_with (first
    | (with_reducible refine wpList_alloc_row rfl 109 rfl i0 hi _ hz #[.int .u8 0, .int .u8 0, .int .u8 0, .int .u8 0] rfl ?_; intro w1 hg1 hs1 hb1)
    | ((with_reducible refine atOp (o := ⟨some 20, _, _, _, _, _⟩) ?_); refine wpList_load_cells rfl 72 (.tmp 19) rfl ge 64 256 rfl _ Tryd.underlying72 rfl (by kernel_rfl) (fun i => .int .u8 (dmap i : Nat)) (fun j hj => (HH.out.2.2.1.grown hb1.out (by simp)).dec j hj) ?_; intro v20))
  go_loopw [3, 10, 12, 13] (fun s3 s10 s12 s13 wr => ∃ j : Nat, j ≤ t ∧ s3 = .int .i64 ((si + j : Nat) : Int) ∧ s10 = .nilIface ∧ s12 = .int .i64 4 ∧ s13 = .int .i64 (j : Int) ∧ Hid (QRel cs si w.heap.size j w wr)) (fun _ _ _ s13 _ => 4 - (intOf s13).toNat)
  case atStart => exact ⟨0, Nat.zero_le _, rfl, rfl, rfl, rfl, hid ⟨hg1.out, hb1.out⟩⟩
  case round =>
    obtain ⟨j, hj, rfl, rfl, rfl, rfl, hq⟩ := hrel
    have hj4 : j < 4 := by omega
    obtain ⟨p, hp⟩ : ∃ p, p = si + j := ⟨_, rfl⟩
    have hpL : p < L := by omega
    have hc := (grown_cell hq.out.2 (p := ⟨b, o + p, none⟩) hbl (by simp)).trans (HH.out.2.2.2.1 p hpL)
    have hdec := ((HH.out.2.2.1).grown hq.out.2 (by simp)).dec (byteAt cs p) (HH.out.2.1 p)
    have hpad := ((HH.out.2.2.1).grown hq.out.2 (by simp)).pad
    have hx8 := HH.out.2.1 p
    by_cases hlt : j < t
    · have hv := HH.out.2.2.2.2.1 j hlt
      have hold := (row_cell hq.out.1 j).trans (qcells_at cs si j j hj4)
      have hfr := row_free hq.out.1 j
      rw [← hp] at hv
      rw [← hp]
      have HP := hid hp
      clear hp
      obtain ⟨x, hx⟩ : ∃ x, x = byteAt cs p := ⟨_, rfl⟩
      rw [← hx] at hc hdec hx8 hv
      obtain ⟨v, hvv⟩ : ∃ v, v = dmap x := ⟨_, rfl⟩
      rw [← hvv] at hdec hv
      have HX := hid (And.intro hx hvv)
      clear hx hvv
      have t1 : ((L : Int) == (p : Int)) = false := by rw [beq_eq_false_iff_ne]; omega
      have t2 : ((v : Int) != 255) = true := by rw [bne_iff_ne]; omega
      have t3 : (p : Int) < (L : Int) := by omega
      have t4 : (x : Int) < 256 := by omega
      have t5 : (j : Int) < 4 := by omega
      go_wp2_with fail
      go_roundw
      case rel => exact ⟨j + 1, by omega, congrArg _ (by have := HP.out; omega), rfl, rfl, by go_num, hid (q_step hq.out (Nat.le_refl _) hj4 (by rw [HX.out.2, HX.out.1, HP.out]))⟩
      case measure => simp only [intOf]; omega
    · obtain rfl : j = t := by omega
      have hv := HH.out.2.2.2.2.2
      have hn := HN.out
      rw [← hp] at hv hn
      rw [← hp]
      have HP := hid hp
      clear hp
      rw [hv] at hdec
      obtain ⟨x, hx⟩ : ∃ x, x = byteAt cs p := ⟨_, rfl⟩
      rw [← hx] at hc hdec hx8 hn
      obtain ⟨n10, n13, n61⟩ := hn
      have t1 : ((L : Int) == (p : Int)) = false := by rw [beq_eq_false_iff_ne]; omega
      have t3 : (p : Int) < (L : Int) := by omega
      have t4 : (x : Int) < 256 := by omega
      have t6 : ((x : Int) == 10) = false := by rw [beq_eq_false_iff_ne]; omega
      have t7 : ((x : Int) == 13) = false := by rw [beq_eq_false_iff_ne]; omega
      have t8 : ((x : Int) != 61) = true := by rw [bne_iff_ne]; omega
      clear hx n10 n13 n61 hv
      go_wp2_with fail
      go_ret3
      exact ⟨by rw [← HP.out]; rfl, hq.out.2⟩
/-- Byte i of the three that four signs from si on make. -/
def qb (cs : List Nat) (si i : Nat) : Nat :=
  if i = 0 then dmap (byteAt cs si) * 4 + dmap (byteAt cs (si + 1)) / 16
  else if i = 1 then dmap (byteAt cs (si + 1)) % 16 * 16 + dmap (byteAt cs (si + 2)) / 4
  else dmap (byteAt cs (si + 2)) % 4 * 64 + dmap (byteAt cs (si + 3))
def QGood (gd od si m : Nat) (cs : List Nat) (csd : Array Value) (w : World) (e : Ending) (w' : World) : Prop :=
  e = .returned (.tuple #[.int .i64 ((si + 4 : Nat) : Int), .int .i64 (m : Int), .nilIface]) ∧ ∃ cs', w'.heap[gd]? = some (.cells cs' 5 (0, 0)) ∧ cs'.size = csd.size ∧
    (∀ i, i < m → cs'[od + i]? = some (.int .u8 (qb cs si i : Nat))) ∧ (∀ k, (k < od ∨ od + m ≤ k) → cs'[k]? = csd[k]?) ∧ w.grownBy w' (some gd)

theorem quant_or (v0 v1 v2 v3 : Nat) (h0 : v0 < 64) (h1 : v1 < 64) (h2 : v2 < 64) (h3 : v3 < 64) :
    bits BinOp.or IntKind.u64 (bits BinOp.or IntKind.u64 (bits BinOp.or IntKind.u64 ((v0 : Int) * 262144) ((v1 : Int) * 4096)) ((v2 : Int) * 64)) (v3 : Int) = ((v0 * 262144 + v1 * 4096 + v2 * 64 + v3 : Nat) : Int) := by
  have e0 : ((v0 : Int) * 262144) = ((v0 * 262144 : Nat) : Int) := by omega
  have e1 : ((v1 : Int) * 4096) = ((v1 * 4096 : Nat) : Int) := by omega
  have e2 : ((v2 : Int) * 64) = ((v2 * 64 : Nat) : Int) := by omega
  rw [e0, e1, e2, join64 _ _ 18 (by omega) (by omega) (by omega) (by omega), join64 _ _ 12 (by omega) (by omega) (by omega) (by omega), join64 _ _ 6 (by omega) (by omega) (by omega) (by omega)]

theorem q_cells {cs : List Nat} {si : Nat} {od m : Nat} {csd cs' : Array Value} (hm : m ≤ 3) (hset : ∀ k, cs'[k]? = if k < od ∨ od + m ≤ k then csd[k]? else some (.int .u8 (qb cs si (k - od) : Nat))) :
    (∀ i, i < m → cs'[od + i]? = some (.int .u8 (qb cs si i : Nat))) ∧ (∀ k, (k < od ∨ od + m ≤ k) → cs'[k]? = csd[k]?) := by
  refine ⟨fun i hi => ?_, fun k hk => ?_⟩
  · rw [hset, if_neg (by omega), show od + i - od = i by omega]
  · rw [hset, if_pos hk]
theorem qs4 {csd : Array Value} {od : Nat} {u0 u1 u2 : Value} (h : od + 3 ≤ csd.size) (k : Nat) :
    (((csd.setIfInBounds (od + 2) u2).setIfInBounds (od + 1) u1).setIfInBounds od u0)[k]? = if k = od then some u0 else if k = od + 1 then some u1 else if k = od + 2 then some u2 else csd[k]? := by
  simp only [Array.getElem?_setIfInBounds, Array.size_setIfInBounds]
  by_cases h0 : k = od
  · subst h0; rw [if_pos rfl, if_pos (by omega), if_pos rfl]
  · by_cases h1 : k = od + 1
    · subst h1; rw [if_neg (by omega), if_pos rfl, if_pos (by omega), if_neg h0, if_pos rfl]
    · by_cases h2 : k = od + 2
      · subst h2; rw [if_neg (by omega), if_neg (by omega), if_pos rfl, if_pos (by omega), if_neg h0, if_neg h1, if_pos rfl]
      · rw [if_neg (by omega), if_neg (by omega), if_neg (by omega), if_neg h0, if_neg h1, if_neg h2]
theorem qs3 {csd : Array Value} {od : Nat} {u0 u1 : Value} (h : od + 3 ≤ csd.size) (k : Nat) :
    ((csd.setIfInBounds (od + 1) u1).setIfInBounds od u0)[k]? = if k = od then some u0 else if k = od + 1 then some u1 else csd[k]? := by
  simp only [Array.getElem?_setIfInBounds, Array.size_setIfInBounds]
  by_cases h0 : k = od
  · subst h0; rw [if_pos rfl, if_pos (by omega), if_pos rfl]
  · by_cases h1 : k = od + 1
    · subst h1; rw [if_neg (by omega), if_pos rfl, if_pos (by omega), if_neg h0, if_pos rfl]
    · rw [if_neg (by omega), if_neg (by omega), if_neg h0, if_neg h1]

theorem q4_end {gd gq od si : Nat} {cs : List Nat} {csd : Array Value} {w wr : World} {u0 u1 u2 : Int} {a0 a1 a2 a3 a4 : Value} (hrow : wr.heap[gd]? = some (.cells csd 5 (0, 0))) (hds : od + 3 ≤ csd.size) (hg : w.grownBy wr none) (hq : w.heap.size ≤ gq) (hgl : gd < w.heap.size)
    (e0 : (qb cs si 0 : Int) = u0) (e1 : (qb cs si 1 : Int) = u1) (e2 : (qb cs si 2 : Int) = u2) :
    QGood gd od si 3 cs csd w (.returned (.tuple #[.int .i64 ((si + 4 : Nat) : Int), .int .i64 3, .nilIface])) ((((((((wr.setCell ⟨gq, 2, none⟩ a0).setCell ⟨gq, 1, none⟩ a1).setCell ⟨gq, 0, none⟩ a2).setCell ⟨gd, od + 2, none⟩ (.int .u8 u2)).setCell ⟨gq, 2, none⟩ a3).setCell ⟨gd, od + 1, none⟩ (.int .u8 u1)).setCell ⟨gq, 1, none⟩ a4).setCell ⟨gd, od, none⟩ (.int .u8 u0)) := by
  have hne : ∀ i, gd ≠ (⟨gq, i, none⟩ : Addr).block := fun i => by show gd ≠ gq; omega
  refine ⟨rfl, _, row_set (row_set_other (row_set (row_set_other (row_set (row_set_other (row_set_other (row_set_other hrow (hne 2) _) (hne 1) _) (hne 0) _) _ _) (hne 2) _) _ _) (hne 1) _) _ _, by simp, ?_⟩
  obtain ⟨h1, h2⟩ := q_cells (cs := cs) (si := si) (od := od) (m := 3) (csd := csd) (cs' := ((csd.setIfInBounds (od + 2) (.int .u8 u2)).setIfInBounds (od + 1) (.int .u8 u1)).setIfInBounds od (.int .u8 u0)) (by omega) (fun k => by
    rw [qs4 hds k]
    by_cases k0 : k = od
    · subst k0; rw [if_pos rfl, if_neg (by omega), Nat.sub_self, e0]
    · by_cases k1 : k = od + 1
      · subst k1; rw [if_neg k0, if_pos rfl, if_neg (by omega), show od + 1 - od = 1 by omega, e1]
      · by_cases k2 : k = od + 2
        · subst k2; rw [if_neg k0, if_neg k1, if_pos rfl, if_neg (by omega), show od + 2 - od = 2 by omega, e2]
        · rw [if_neg k0, if_neg k1, if_neg k2, if_pos (by omega)])
  refine ⟨h1, h2, ?_⟩
  have g1 := grown_new (grown_new (grown_new hg (grown_setCell wr gq 2 a0) hq) (grown_setCell _ gq 1 a1) hq) (grown_setCell _ gq 0 a2) hq
  exact grown_both (grown_both (grown_both (grown_both (grown_both (grown_any g1 _) (grown_setCell _ gd _ _) (.inl rfl)) (grown_setCell _ gq _ _) (.inr hq)) (grown_setCell _ gd _ _) (.inl rfl)) (grown_setCell _ gq _ _) (.inr hq)) (grown_setCell _ gd _ _) (.inl rfl)
theorem q3_end {gd gq od si : Nat} {cs : List Nat} {csd : Array Value} {w wr : World} {u0 u1 : Int} {a0 a1 a2 a4 : Value} (hrow : wr.heap[gd]? = some (.cells csd 5 (0, 0))) (hds : od + 3 ≤ csd.size) (hg : w.grownBy wr none) (hq : w.heap.size ≤ gq) (hgl : gd < w.heap.size)
    (e0 : (qb cs si 0 : Int) = u0) (e1 : (qb cs si 1 : Int) = u1) :
    QGood gd od si 2 cs csd w (.returned (.tuple #[.int .i64 ((si + 4 : Nat) : Int), .int .i64 2, .nilIface])) ((((((wr.setCell ⟨gq, 2, none⟩ a0).setCell ⟨gq, 1, none⟩ a1).setCell ⟨gq, 0, none⟩ a2).setCell ⟨gd, od + 1, none⟩ (.int .u8 u1)).setCell ⟨gq, 1, none⟩ a4).setCell ⟨gd, od, none⟩ (.int .u8 u0)) := by
  have hne : ∀ i, gd ≠ (⟨gq, i, none⟩ : Addr).block := fun i => by show gd ≠ gq; omega
  refine ⟨rfl, _, row_set (row_set_other (row_set (row_set_other (row_set_other (row_set_other hrow (hne 2) _) (hne 1) _) (hne 0) _) _ _) (hne 1) _) _ _, by simp, ?_⟩
  obtain ⟨h1, h2⟩ := q_cells (cs := cs) (si := si) (od := od) (m := 2) (csd := csd) (cs' := (csd.setIfInBounds (od + 1) (.int .u8 u1)).setIfInBounds od (.int .u8 u0)) (by omega) (fun k => by
    rw [qs3 hds k]
    by_cases k0 : k = od
    · subst k0; rw [if_pos rfl, if_neg (by omega), Nat.sub_self, e0]
    · by_cases k1 : k = od + 1
      · subst k1; rw [if_neg k0, if_pos rfl, if_neg (by omega), show od + 1 - od = 1 by omega, e1]
      · rw [if_neg k0, if_neg k1, if_pos (by omega)])
  refine ⟨h1, h2, ?_⟩
  have g1 := grown_new (grown_new (grown_new hg (grown_setCell wr gq 2 a0) hq) (grown_setCell _ gq 1 a1) hq) (grown_setCell _ gq 0 a2) hq
  exact grown_both (grown_both (grown_both (grown_any g1 _) (grown_setCell _ gd _ _) (.inl rfl)) (grown_setCell _ gq _ _) (.inr hq)) (grown_setCell _ gd _ _) (.inl rfl)
theorem q2_end {gd gq od si : Nat} {cs : List Nat} {csd : Array Value} {w wr : World} {u0 : Int} {a0 a1 a2 : Value} (hrow : wr.heap[gd]? = some (.cells csd 5 (0, 0))) (hds : od + 3 ≤ csd.size) (hg : w.grownBy wr none) (hq : w.heap.size ≤ gq) (hgl : gd < w.heap.size)
    (e0 : (qb cs si 0 : Int) = u0) :
    QGood gd od si 1 cs csd w (.returned (.tuple #[.int .i64 ((si + 4 : Nat) : Int), .int .i64 1, .nilIface])) ((((wr.setCell ⟨gq, 2, none⟩ a0).setCell ⟨gq, 1, none⟩ a1).setCell ⟨gq, 0, none⟩ a2).setCell ⟨gd, od, none⟩ (.int .u8 u0)) := by
  have hne : ∀ i, gd ≠ (⟨gq, i, none⟩ : Addr).block := fun i => by show gd ≠ gq; omega
  refine ⟨rfl, _, row_set (row_set_other (row_set_other (row_set_other hrow (hne 2) _) (hne 1) _) (hne 0) _) _ _, by simp, ?_⟩
  obtain ⟨h1, h2⟩ := q_cells (cs := cs) (si := si) (od := od) (m := 1) (csd := csd) (cs' := csd.setIfInBounds od (.int .u8 u0)) (by omega) (fun k => by
    rw [Array.getElem?_setIfInBounds]
    by_cases k0 : k = od
    · subst k0; rw [if_pos rfl, if_pos (by omega), if_neg (by omega), Nat.sub_self, e0]
    · rw [if_neg (by omega), if_pos (by omega)])
  refine ⟨h1, h2, ?_⟩
  have g1 := grown_new (grown_new (grown_new hg (grown_setCell wr gq 2 a0) hq) (grown_setCell _ gq 1 a1) hq) (grown_setCell _ gq 0 a2) hq
  exact grown_both (grown_any g1 _) (grown_setCell _ gd _ _) (.inl rfl)

/- ---- printed by gen_quantum.py ---- -/
theorem qv_lt {cs : List Nat} {si t i : Nat} (h : ∀ j, j < t → dmap (byteAt cs (si + j)) < 64) : qv cs si t i < 64 := by
  unfold qv; split
  · exact h _ ‹_›
  · decide
theorem qv_in {cs : List Nat} {si j i : Nat} (h : i < j) : qv cs si j i = dmap (byteAt cs (si + i)) := if_pos h
theorem qb_0 (cs : List Nat) (si : Nat) : qb cs si 0 = dmap (byteAt cs (si + 0)) * 4 + dmap (byteAt cs (si + 1)) / 16 := rfl
theorem qb_1 (cs : List Nat) (si : Nat) : qb cs si 1 = dmap (byteAt cs (si + 1)) % 16 * 16 + dmap (byteAt cs (si + 2)) / 4 := rfl
theorem qb_2 (cs : List Nat) (si : Nat) : qb cs si 2 = dmap (byteAt cs (si + 2)) % 4 * 64 + dmap (byteAt cs (si + 3)) := rfl
theorem q_shift {gd od si m : Nat} {cs : List Nat} {csd : Array Value} {w w' : World} {x : Int} (hx : ((si + 4 : Nat) : Int) = x) (h : QGood gd od si m cs csd w (.returned (.tuple #[.int .i64 ((si + 4 : Nat) : Int), .int .i64 (m : Int), .nilIface])) w') :
    QGood gd od si m cs csd w (.returned (.tuple #[.int .i64 x, .int .i64 (m : Int), .nilIface])) w' := hx ▸ h

set_option maxHeartbeats 2000000 in
set_option maxRecDepth 100000 in
theorem quantum_4 (ge b o L c si gd od ld cd : Nat) (cs : List Nat) (csd : Array Value) (w : World) (hL : si + 4 ≤ L) (hLb : L ≤ 4194304) (hx : Bytes cs) (he : IsEnc w ge)
    (hs : ∀ j, j < L → w.cell? ⟨b, o + j, none⟩ = some (.int .u8 (byteAt cs j : Nat))) (hgood : ∀ j, j < 4 → dmap (byteAt cs (si + j)) < 64)
    (hd : w.heap[gd]? = some (.cells csd 5 (0, 0))) (hdl : 3 ≤ ld) (hds : od + 3 ≤ csd.size) (hge : gd ≠ ge) :
    Calls Tryd.prog 47 #[.pointer (some ⟨ge, 0, none⟩), .slice (some ⟨gd, od, none⟩) ld cd, .slice (some ⟨b, o, none⟩) L c, .int .i64 (si : Nat)] w (QGood gd od si 3 cs csd w) := by
  obtain ⟨i0, hi, hz, _, _⟩ := info_parts info4
  have hL1 : si + 4 ≤ L := by omega
  have hbl : b < w.heap.size := block_lt_of_cell (hs si (by omega))
  have hgl : gd < w.heap.size := row_lt hd
  have HH := hid (And.intro hx (And.intro he (And.intro hs hgood)))
  have HD := hid (And.intro hd hds)
  clear hL hx he hs hgood hd hds
  go_enter Tryd.func47, Tryd.ntmps47
  go_wp2_with (first
    | (with_reducible refine wpList_alloc_row rfl 109 rfl i0 hi _ hz #[.int .u8 0, .int .u8 0, .int .u8 0, .int .u8 0] rfl ?_; intro w1 hg1 hs1 hb1)
    | ((with_reducible refine atOp (o := ⟨some 20, _, _, _, _, _⟩) ?_); refine wpList_load_cells rfl 72 (.tmp 19) rfl ge 64 256 rfl _ Tryd.underlying72 rfl (by kernel_rfl) (fun i => .int .u8 (dmap i : Nat)) (fun j hj => (HH.out.2.1.grown hb1.out (by simp)).dec j hj) ?_; intro v20))
  go_loopw [3, 10, 12, 13] (fun s3 s10 s12 s13 wr => ∃ j : Nat, j ≤ 4 ∧ s3 = .int .i64 ((si + j : Nat) : Int) ∧ s10 = .nilIface ∧ s12 = .int .i64 4 ∧ s13 = .int .i64 (j : Int) ∧ Hid (QRel cs si w.heap.size j w wr)) (fun _ _ _ s13 _ => 4 - (intOf s13).toNat)
  case atStart => exact ⟨0, Nat.zero_le _, rfl, rfl, rfl, rfl, hid ⟨hg1.out, hb1.out⟩⟩
  case round =>
    obtain ⟨j, hj, rfl, rfl, rfl, rfl, hq⟩ := hrel
    by_cases hlt : j < 4
    · obtain ⟨p, hp⟩ : ∃ p, p = si + j := ⟨_, rfl⟩
      have hpL : p < L := by omega
      have hc := (grown_cell hq.out.2 (p := ⟨b, o + p, none⟩) hbl (by simp)).trans (HH.out.2.2.1 p hpL)
      have hdec := ((HH.out.2.1).grown hq.out.2 (by simp)).dec (byteAt cs p) (HH.out.1 p)
      have hx8 := HH.out.1 p
      have hv := HH.out.2.2.2 j hlt
      have hold := (row_cell hq.out.1 j).trans (qcells_at cs si j j (by omega))
      have hfr := row_free hq.out.1 j
      rw [← hp] at hv
      rw [← hp]
      have HP := hid hp
      clear hp
      obtain ⟨x, hx⟩ : ∃ x, x = byteAt cs p := ⟨_, rfl⟩
      rw [← hx] at hc hdec hx8 hv
      obtain ⟨v, hvv⟩ : ∃ v, v = dmap x := ⟨_, rfl⟩
      rw [← hvv] at hdec hv
      have HX := hid (And.intro hx hvv)
      clear hx hvv
      have t1 : ((L : Int) == (p : Int)) = false := by rw [beq_eq_false_iff_ne]; omega
      have t2 : ((v : Int) != 255) = true := by rw [bne_iff_ne]; omega
      have t3 : (p : Int) < (L : Int) := by omega
      have t4 : (x : Int) < 256 := by omega
      have t5 : (j : Int) < 4 := by omega
      go_wp2_with fail
      go_roundw
      case rel => exact ⟨j + 1, by omega, congrArg _ (by have := HP.out; omega), rfl, rfl, by go_num, hid (q_step hq.out (Nat.le_refl _) (by omega) (by rw [HX.out.2, HX.out.1, HP.out]))⟩
      case measure => simp only [intOf]; omega
    · obtain rfl : j = 4 := by omega
      have z0 := (row_cell hq.out.1 0).trans (qcells_at cs si 4 0 (by decide))
      have z1 := (row_cell hq.out.1 1).trans (qcells_at cs si 4 1 (by decide))
      have z2 := (row_cell hq.out.1 2).trans (qcells_at cs si 4 2 (by decide))
      have z3 := (row_cell hq.out.1 3).trans (qcells_at cs si 4 3 (by decide))
      have y0 := row_free hq.out.1 0
      have y1 := row_free hq.out.1 1
      have y2 := row_free hq.out.1 2
      have hrow : wr.heap[gd]? = some (.cells csd 5 (0, 0)) := (hq.out.2.block gd hgl (by simp)).trans HD.out.1
      obtain ⟨d0, hd0⟩ := some_cell (i := od) hrow (by have := HD.out.2; omega)
      obtain ⟨d1, hd1⟩ := some_cell (i := od + 1) hrow (by have := HD.out.2; omega)
      obtain ⟨d2, hd2⟩ := some_cell (i := od + 2) hrow (by have := HD.out.2; omega)
      have f0 := row_free hrow od
      have f1 := row_free hrow (od + 1)
      have f2 := row_free hrow (od + 2)
      have hew := (HH.out.2.1).grown hq.out.2 (by simp)
      have hstr := hew.strict
      have b0 := qv_lt (i := 0) HH.out.2.2.2
      have b1 := qv_lt (i := 1) HH.out.2.2.2
      have b2 := qv_lt (i := 2) HH.out.2.2.2
      have b3 := qv_lt (i := 3) HH.out.2.2.2
      obtain ⟨q0, hq0⟩ : ∃ q, q = qv cs si 4 0 := ⟨_, rfl⟩
      obtain ⟨q1, hq1⟩ : ∃ q, q = qv cs si 4 1 := ⟨_, rfl⟩
      obtain ⟨q2, hq2⟩ : ∃ q, q = qv cs si 4 2 := ⟨_, rfl⟩
      obtain ⟨q3, hq3⟩ : ∃ q, q = qv cs si 4 3 := ⟨_, rfl⟩
      rw [← hq0] at z0 b0
      rw [← hq1] at z1 b1
      rw [← hq2] at z2 b2
      rw [← hq3] at z3 b3
      have HQ := hid (And.intro hq0 (And.intro hq1 (And.intro hq2 (And.intro hq3 hrow))))
      clear hq0 hq1 hq2 hq3 hrow
      have eV := quant_or q0 q1 q2 q3 b0 b1 b2 b3
      obtain ⟨V, hV⟩ : ∃ V, V = q0 * 262144 + q1 * 4096 + q2 * 64 + q3 := ⟨_, rfl⟩
      rw [← hV] at eV
      have hVb : V < 16777216 := by omega
      have HV := hid hV
      clear hV
      have k0 : (0 : Int) < (ld : Int) := by omega
      have k1 : (1 : Int) < (ld : Int) := by omega
      have k2 : (2 : Int) < (ld : Int) := by omega
      have hne : gd ≠ w.heap.size := by omega
      have hne2 : w.heap.size ≠ gd := by omega
      have hge2 : ge ≠ w.heap.size := by have := HH.out.2.1.lt; omega
      clear hew
      go_wp2_with fail
      go_ret3
      obtain ⟨hq0, hq1, hq2, hq3, hrow⟩ := HQ.out
      have HV2 := HV.out
      refine q4_end hrow HD.out.2 hq.out.2 (Nat.le_refl _) hgl ?_ ?_ ?_
      · rw [qb_0, ← qv_in (j := 4) (i := 0) (by decide), ← qv_in (j := 4) (i := 1) (by decide), ← hq0, ← hq1]; omega
      · rw [qb_1, ← qv_in (j := 4) (i := 1) (by decide), ← qv_in (j := 4) (i := 2) (by decide), ← hq1, ← hq2]; omega
      · rw [qb_2, ← qv_in (j := 4) (i := 2) (by decide), ← qv_in (j := 4) (i := 3) (by decide), ← hq2, ← hq3]; omega

set_option maxHeartbeats 2000000 in
set_option maxRecDepth 100000 in
theorem quantum_3 (ge b o L c si gd od ld cd : Nat) (cs : List Nat) (csd : Array Value) (w : World) (hL : si + 4 = L) (hp3 : byteAt cs (si + 3) = 61) (hLb : L ≤ 4194304) (hx : Bytes cs) (he : IsEnc w ge)
    (hs : ∀ j, j < L → w.cell? ⟨b, o + j, none⟩ = some (.int .u8 (byteAt cs j : Nat))) (hgood : ∀ j, j < 3 → dmap (byteAt cs (si + j)) < 64)
    (hd : w.heap[gd]? = some (.cells csd 5 (0, 0))) (hdl : 3 ≤ ld) (hds : od + 3 ≤ csd.size) (hge : gd ≠ ge) :
    Calls Tryd.prog 47 #[.pointer (some ⟨ge, 0, none⟩), .slice (some ⟨gd, od, none⟩) ld cd, .slice (some ⟨b, o, none⟩) L c, .int .i64 (si : Nat)] w (QGood gd od si 2 cs csd w) := by
  obtain ⟨i0, hi, hz, _, _⟩ := info_parts info4
  have hL1 : si + 4 ≤ L := by omega
  have hbl : b < w.heap.size := block_lt_of_cell (hs si (by omega))
  have hgl : gd < w.heap.size := row_lt hd
  have HH := hid (And.intro hx (And.intro he (And.intro hs hgood)))
  have HD := hid (And.intro hd hds)
  have HP3 := hid (And.intro hL (And.intro hp3 hp3))
  clear hp3
  clear hL hx he hs hgood hd hds
  go_enter Tryd.func47, Tryd.ntmps47
  go_wp2_with (first
    | (with_reducible refine wpList_alloc_row rfl 109 rfl i0 hi _ hz #[.int .u8 0, .int .u8 0, .int .u8 0, .int .u8 0] rfl ?_; intro w1 hg1 hs1 hb1)
    | ((with_reducible refine atOp (o := ⟨some 20, _, _, _, _, _⟩) ?_); refine wpList_load_cells rfl 72 (.tmp 19) rfl ge 64 256 rfl _ Tryd.underlying72 rfl (by kernel_rfl) (fun i => .int .u8 (dmap i : Nat)) (fun j hj => (HH.out.2.1.grown hb1.out (by simp)).dec j hj) ?_; intro v20))
  go_loopw [3, 10, 12, 13] (fun s3 s10 s12 s13 wr => ∃ j : Nat, j ≤ 3 ∧ s3 = .int .i64 ((si + j : Nat) : Int) ∧ s10 = .nilIface ∧ s12 = .int .i64 4 ∧ s13 = .int .i64 (j : Int) ∧ Hid (QRel cs si w.heap.size j w wr)) (fun _ _ _ s13 _ => 4 - (intOf s13).toNat)
  case atStart => exact ⟨0, Nat.zero_le _, rfl, rfl, rfl, rfl, hid ⟨hg1.out, hb1.out⟩⟩
  case round =>
    obtain ⟨j, hj, rfl, rfl, rfl, rfl, hq⟩ := hrel
    by_cases hlt : j < 3
    · obtain ⟨p, hp⟩ : ∃ p, p = si + j := ⟨_, rfl⟩
      have hpL : p < L := by omega
      have hc := (grown_cell hq.out.2 (p := ⟨b, o + p, none⟩) hbl (by simp)).trans (HH.out.2.2.1 p hpL)
      have hdec := ((HH.out.2.1).grown hq.out.2 (by simp)).dec (byteAt cs p) (HH.out.1 p)
      have hx8 := HH.out.1 p
      have hv := HH.out.2.2.2 j hlt
      have hold := (row_cell hq.out.1 j).trans (qcells_at cs si j j (by omega))
      have hfr := row_free hq.out.1 j
      rw [← hp] at hv
      rw [← hp]
      have HP := hid hp
      clear hp
      obtain ⟨x, hx⟩ : ∃ x, x = byteAt cs p := ⟨_, rfl⟩
      rw [← hx] at hc hdec hx8 hv
      obtain ⟨v, hvv⟩ : ∃ v, v = dmap x := ⟨_, rfl⟩
      rw [← hvv] at hdec hv
      have HX := hid (And.intro hx hvv)
      clear hx hvv
      have t1 : ((L : Int) == (p : Int)) = false := by rw [beq_eq_false_iff_ne]; omega
      have t2 : ((v : Int) != 255) = true := by rw [bne_iff_ne]; omega
      have t3 : (p : Int) < (L : Int) := by omega
      have t4 : (x : Int) < 256 := by omega
      have t5 : (j : Int) < 4 := by omega
      go_wp2_with fail
      go_roundw
      case rel => exact ⟨j + 1, by omega, congrArg _ (by have := HP.out; omega), rfl, rfl, by go_num, hid (q_step hq.out (Nat.le_refl _) (by omega) (by rw [HX.out.2, HX.out.1, HP.out]))⟩
      case measure => simp only [intOf]; omega
    · obtain rfl : j = 3 := by omega
      have z0 := (row_cell hq.out.1 0).trans (qcells_at cs si 3 0 (by decide))
      have z1 := (row_cell hq.out.1 1).trans (qcells_at cs si 3 1 (by decide))
      have z2 := (row_cell hq.out.1 2).trans (qcells_at cs si 3 2 (by decide))
      have z3 := (row_cell hq.out.1 3).trans (qcells_at cs si 3 3 (by decide))
      have y0 := row_free hq.out.1 0
      have y1 := row_free hq.out.1 1
      have y2 := row_free hq.out.1 2
      have hrow : wr.heap[gd]? = some (.cells csd 5 (0, 0)) := (hq.out.2.block gd hgl (by simp)).trans HD.out.1
      obtain ⟨d0, hd0⟩ := some_cell (i := od) hrow (by have := HD.out.2; omega)
      obtain ⟨d1, hd1⟩ := some_cell (i := od + 1) hrow (by have := HD.out.2; omega)
      obtain ⟨d2, hd2⟩ := some_cell (i := od + 2) hrow (by have := HD.out.2; omega)
      have f0 := row_free hrow od
      have f1 := row_free hrow (od + 1)
      have f2 := row_free hrow (od + 2)
      have hew := (HH.out.2.1).grown hq.out.2 (by simp)
      have hstr := hew.strict
      have b0 := qv_lt (i := 0) HH.out.2.2.2
      have b1 := qv_lt (i := 1) HH.out.2.2.2
      have b2 := qv_lt (i := 2) HH.out.2.2.2
      have b3 := qv_lt (i := 3) HH.out.2.2.2
      obtain ⟨q0, hq0⟩ : ∃ q, q = qv cs si 3 0 := ⟨_, rfl⟩
      obtain ⟨q1, hq1⟩ : ∃ q, q = qv cs si 3 1 := ⟨_, rfl⟩
      obtain ⟨q2, hq2⟩ : ∃ q, q = qv cs si 3 2 := ⟨_, rfl⟩
      obtain ⟨q3, hq3⟩ : ∃ q, q = qv cs si 3 3 := ⟨_, rfl⟩
      rw [← hq0] at z0 b0
      rw [← hq1] at z1 b1
      rw [← hq2] at z2 b2
      rw [← hq3] at z3 b3
      have HQ := hid (And.intro hq0 (And.intro hq1 (And.intro hq2 (And.intro hq3 hrow))))
      clear hq0 hq1 hq2 hq3 hrow
      have eV := quant_or q0 q1 q2 q3 b0 b1 b2 b3
      obtain ⟨V, hV⟩ : ∃ V, V = q0 * 262144 + q1 * 4096 + q2 * 64 + q3 := ⟨_, rfl⟩
      rw [← hV] at eV
      have hVb : V < 16777216 := by omega
      have HV := hid hV
      clear hV
      have k0 : (0 : Int) < (ld : Int) := by omega
      have k1 : (1 : Int) < (ld : Int) := by omega
      have k2 : (2 : Int) < (ld : Int) := by omega
      have hne : gd ≠ w.heap.size := by omega
      have hne2 : w.heap.size ≠ gd := by omega
      have hge2 : ge ≠ w.heap.size := by have := HH.out.2.1.lt; omega
      have hpad := hew.pad
      have hde : wr.cell? ⟨ge, 125, none⟩ = some (.int .u8 255) := hew.dec 61 (by decide)
      clear hew
      obtain ⟨p, hp⟩ : ∃ p, p = si + 3 := ⟨_, rfl⟩
      have hpL : p < L := by omega
      have hc := (grown_cell hq.out.2 (p := ⟨b, o + p, none⟩) hbl (by simp)).trans (HH.out.2.2.1 p hpL)
      rw [show byteAt cs p = 61 by rw [hp]; exact HP3.out.2.1] at hc
      have t1 : ((L : Int) == (p : Int)) = false := by rw [beq_eq_false_iff_ne]; omega
      have t3 : (p : Int) < (L : Int) := by omega
      have g1 : decide ((p : Int) + 1 < (L : Int)) = false := by have := HP3.out.1; simp; omega
      rw [← hp]
      have HP := hid hp
      clear hp
      go_wp2_with fail
      refine wp_loop_rounds 1 ?_
      rw [rounds_succ]
      go_wp2_with fail
      go_ret3
      obtain ⟨hq0, hq1, hq2, hq3, hrow⟩ := HQ.out
      have HV2 := HV.out
      have hz3 : q3 = 0 := by rw [hq3]; rfl
      refine q_shift (by have := HP.out; omega) (q3_end hrow HD.out.2 hq.out.2 (Nat.le_refl _) hgl ?_ ?_)
      · rw [qb_0, ← qv_in (j := 3) (i := 0) (by decide), ← qv_in (j := 3) (i := 1) (by decide), ← hq0, ← hq1]; omega
      · rw [qb_1, ← qv_in (j := 3) (i := 1) (by decide), ← qv_in (j := 3) (i := 2) (by decide), ← hq1, ← hq2]; omega

set_option maxHeartbeats 2000000 in
set_option maxRecDepth 100000 in
theorem quantum_2 (ge b o L c si gd od ld cd : Nat) (cs : List Nat) (csd : Array Value) (w : World) (hL : si + 4 = L) (hp2 : byteAt cs (si + 2) = 61) (hp3 : byteAt cs (si + 3) = 61) (hLb : L ≤ 4194304) (hx : Bytes cs) (he : IsEnc w ge)
    (hs : ∀ j, j < L → w.cell? ⟨b, o + j, none⟩ = some (.int .u8 (byteAt cs j : Nat))) (hgood : ∀ j, j < 2 → dmap (byteAt cs (si + j)) < 64)
    (hd : w.heap[gd]? = some (.cells csd 5 (0, 0))) (hdl : 3 ≤ ld) (hds : od + 3 ≤ csd.size) (hge : gd ≠ ge) :
    Calls Tryd.prog 47 #[.pointer (some ⟨ge, 0, none⟩), .slice (some ⟨gd, od, none⟩) ld cd, .slice (some ⟨b, o, none⟩) L c, .int .i64 (si : Nat)] w (QGood gd od si 1 cs csd w) := by
  obtain ⟨i0, hi, hz, _, _⟩ := info_parts info4
  have hL1 : si + 4 ≤ L := by omega
  have hbl : b < w.heap.size := block_lt_of_cell (hs si (by omega))
  have hgl : gd < w.heap.size := row_lt hd
  have HH := hid (And.intro hx (And.intro he (And.intro hs hgood)))
  have HD := hid (And.intro hd hds)
  have HP3 := hid (And.intro hL (And.intro hp2 hp3))
  clear hp2 hp3
  clear hL hx he hs hgood hd hds
  go_enter Tryd.func47, Tryd.ntmps47
  go_wp2_with (first
    | (with_reducible refine wpList_alloc_row rfl 109 rfl i0 hi _ hz #[.int .u8 0, .int .u8 0, .int .u8 0, .int .u8 0] rfl ?_; intro w1 hg1 hs1 hb1)
    | ((with_reducible refine atOp (o := ⟨some 20, _, _, _, _, _⟩) ?_); refine wpList_load_cells rfl 72 (.tmp 19) rfl ge 64 256 rfl _ Tryd.underlying72 rfl (by kernel_rfl) (fun i => .int .u8 (dmap i : Nat)) (fun j hj => (HH.out.2.1.grown hb1.out (by simp)).dec j hj) ?_; intro v20))
  go_loopw [3, 10, 12, 13] (fun s3 s10 s12 s13 wr => ∃ j : Nat, j ≤ 2 ∧ s3 = .int .i64 ((si + j : Nat) : Int) ∧ s10 = .nilIface ∧ s12 = .int .i64 4 ∧ s13 = .int .i64 (j : Int) ∧ Hid (QRel cs si w.heap.size j w wr)) (fun _ _ _ s13 _ => 4 - (intOf s13).toNat)
  case atStart => exact ⟨0, Nat.zero_le _, rfl, rfl, rfl, rfl, hid ⟨hg1.out, hb1.out⟩⟩
  case round =>
    obtain ⟨j, hj, rfl, rfl, rfl, rfl, hq⟩ := hrel
    by_cases hlt : j < 2
    · obtain ⟨p, hp⟩ : ∃ p, p = si + j := ⟨_, rfl⟩
      have hpL : p < L := by omega
      have hc := (grown_cell hq.out.2 (p := ⟨b, o + p, none⟩) hbl (by simp)).trans (HH.out.2.2.1 p hpL)
      have hdec := ((HH.out.2.1).grown hq.out.2 (by simp)).dec (byteAt cs p) (HH.out.1 p)
      have hx8 := HH.out.1 p
      have hv := HH.out.2.2.2 j hlt
      have hold := (row_cell hq.out.1 j).trans (qcells_at cs si j j (by omega))
      have hfr := row_free hq.out.1 j
      rw [← hp] at hv
      rw [← hp]
      have HP := hid hp
      clear hp
      obtain ⟨x, hx⟩ : ∃ x, x = byteAt cs p := ⟨_, rfl⟩
      rw [← hx] at hc hdec hx8 hv
      obtain ⟨v, hvv⟩ : ∃ v, v = dmap x := ⟨_, rfl⟩
      rw [← hvv] at hdec hv
      have HX := hid (And.intro hx hvv)
      clear hx hvv
      have t1 : ((L : Int) == (p : Int)) = false := by rw [beq_eq_false_iff_ne]; omega
      have t2 : ((v : Int) != 255) = true := by rw [bne_iff_ne]; omega
      have t3 : (p : Int) < (L : Int) := by omega
      have t4 : (x : Int) < 256 := by omega
      have t5 : (j : Int) < 4 := by omega
      go_wp2_with fail
      go_roundw
      case rel => exact ⟨j + 1, by omega, congrArg _ (by have := HP.out; omega), rfl, rfl, by go_num, hid (q_step hq.out (Nat.le_refl _) (by omega) (by rw [HX.out.2, HX.out.1, HP.out]))⟩
      case measure => simp only [intOf]; omega
    · obtain rfl : j = 2 := by omega
      have z0 := (row_cell hq.out.1 0).trans (qcells_at cs si 2 0 (by decide))
      have z1 := (row_cell hq.out.1 1).trans (qcells_at cs si 2 1 (by decide))
      have z2 := (row_cell hq.out.1 2).trans (qcells_at cs si 2 2 (by decide))
      have z3 := (row_cell hq.out.1 3).trans (qcells_at cs si 2 3 (by decide))
      have y0 := row_free hq.out.1 0
      have y1 := row_free hq.out.1 1
      have y2 := row_free hq.out.1 2
      have hrow : wr.heap[gd]? = some (.cells csd 5 (0, 0)) := (hq.out.2.block gd hgl (by simp)).trans HD.out.1
      obtain ⟨d0, hd0⟩ := some_cell (i := od) hrow (by have := HD.out.2; omega)
      obtain ⟨d1, hd1⟩ := some_cell (i := od + 1) hrow (by have := HD.out.2; omega)
      obtain ⟨d2, hd2⟩ := some_cell (i := od + 2) hrow (by have := HD.out.2; omega)
      have f0 := row_free hrow od
      have f1 := row_free hrow (od + 1)
      have f2 := row_free hrow (od + 2)
      have hew := (HH.out.2.1).grown hq.out.2 (by simp)
      have hstr := hew.strict
      have b0 := qv_lt (i := 0) HH.out.2.2.2
      have b1 := qv_lt (i := 1) HH.out.2.2.2
      have b2 := qv_lt (i := 2) HH.out.2.2.2
      have b3 := qv_lt (i := 3) HH.out.2.2.2
      obtain ⟨q0, hq0⟩ : ∃ q, q = qv cs si 2 0 := ⟨_, rfl⟩
      obtain ⟨q1, hq1⟩ : ∃ q, q = qv cs si 2 1 := ⟨_, rfl⟩
      obtain ⟨q2, hq2⟩ : ∃ q, q = qv cs si 2 2 := ⟨_, rfl⟩
      obtain ⟨q3, hq3⟩ : ∃ q, q = qv cs si 2 3 := ⟨_, rfl⟩
      rw [← hq0] at z0 b0
      rw [← hq1] at z1 b1
      rw [← hq2] at z2 b2
      rw [← hq3] at z3 b3
      have HQ := hid (And.intro hq0 (And.intro hq1 (And.intro hq2 (And.intro hq3 hrow))))
      clear hq0 hq1 hq2 hq3 hrow
      have eV := quant_or q0 q1 q2 q3 b0 b1 b2 b3
      obtain ⟨V, hV⟩ : ∃ V, V = q0 * 262144 + q1 * 4096 + q2 * 64 + q3 := ⟨_, rfl⟩
      rw [← hV] at eV
      have hVb : V < 16777216 := by omega
      have HV := hid hV
      clear hV
      have k0 : (0 : Int) < (ld : Int) := by omega
      have k1 : (1 : Int) < (ld : Int) := by omega
      have k2 : (2 : Int) < (ld : Int) := by omega
      have hne : gd ≠ w.heap.size := by omega
      have hne2 : w.heap.size ≠ gd := by omega
      have hge2 : ge ≠ w.heap.size := by have := HH.out.2.1.lt; omega
      have hpad := hew.pad
      have hde : wr.cell? ⟨ge, 125, none⟩ = some (.int .u8 255) := hew.dec 61 (by decide)
      clear hew
      obtain ⟨p, hp⟩ : ∃ p, p = si + 2 := ⟨_, rfl⟩
      have hpL : p < L := by omega
      have hc := (grown_cell hq.out.2 (p := ⟨b, o + p, none⟩) hbl (by simp)).trans (HH.out.2.2.1 p hpL)
      rw [show byteAt cs p = 61 by rw [hp]; exact HP3.out.2.1] at hc
      have t1 : ((L : Int) == (p : Int)) = false := by rw [beq_eq_false_iff_ne]; omega
      have t3 : (p : Int) < (L : Int) := by omega
      have hc1 := (grown_cell hq.out.2 (p := ⟨b, o + (p + 1), none⟩) hbl (by simp)).trans (HH.out.2.2.1 (p + 1) (by have := HP3.out.1; omega))
      rw [show byteAt cs (p + 1) = 61 by rw [hp]; exact HP3.out.2.2] at hc1
      have g0 : decide ((p : Int) + 1 < (L : Int)) = true := by have := HP3.out.1; simp; omega
      have t6 : (p : Int) + 1 < (L : Int) := by have := HP3.out.1; omega
      have g1 : decide ((p : Int) + 1 + 1 < (L : Int)) = false := by have := HP3.out.1; simp; omega
      have g2 : decide ((p : Int) + 2 < (L : Int)) = false := by have := HP3.out.1; simp; omega
      have t7 : ((p : Int) + 1 == (L : Int)) = false := by rw [beq_eq_false_iff_ne]; omega
      rw [← hp]
      have HP := hid hp
      clear hp
      go_wp2_with fail
      refine wp_loop_rounds 1 ?_
      rw [rounds_succ]
      go_wp2_with fail

      go_quiet (fail)
      go_wp2_with fail
      refine wp_loop_rounds 1 ?_
      rw [rounds_succ]
      go_wp2_with fail
      go_ret3
      obtain ⟨hq0, hq1, hq2, hq3, hrow⟩ := HQ.out
      have HV2 := HV.out
      have hz3 : q3 = 0 := by rw [hq3]; rfl
      have hz2 : q2 = 0 := by rw [hq2]; rfl
      refine q_shift (by have := HP.out; omega) (q2_end (wr := wr.drewN nq) hrow HD.out.2 (grown_trans hq.out.2 (grown_drewN wr none nq)) (Nat.le_refl _) hgl ?_)
      · rw [qb_0, ← qv_in (j := 2) (i := 0) (by decide), ← qv_in (j := 2) (i := 1) (by decide), ← hq0, ← hq1]; omega

#print axioms quantum_2
end Go.Proofs.YtmglaaejobbbiaaDoor
