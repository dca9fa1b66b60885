/-
  (*Encoding).Encode: the signs of a list of bytes, filled up, go into the row that is handed in. For a source that is not empty and a row of just the length that EncodedLen tells.
-/
import Derived.Test.YtmglaaejobbbiaaDoorNewEnc
namespace Go.Proofs.YtmglaaejobbbiaaDoor
open Go.RowKit

def EncPost (gd nd : Nat) (xs : List Nat) (w : World) (e : Ending) (w' : World) : Prop :=
  e = .returned (.tuple #[]) ∧ ∃ cs, w'.heap[gd]? = some (.cells cs 5 (0, 0)) ∧ cs.size = nd ∧ (∀ m, m < nd → cs[m]? = some (.int .u8 (enc xs m : Nat))) ∧ w.grownBy w' (some gd)

/-- What holds at the head of a round: j rounds are done, r bytes are left. -/
def EncRel (gd nd b o n c : Nat) (xs : List Nat) (w : World) (dst src : Value) (wr : World) : Prop :=
  ∃ (j r rc rd : Nat) (S D : Option Addr) (cs : Array Value), n = 3 * j + r ∧ c = 3 * j + rc ∧ nd = 4 * j + rd ∧ src = .slice S r rc ∧ dst = .slice D rd rd ∧
    (0 < r → S = some ⟨b, o + 3 * j, none⟩ ∧ D = some ⟨gd, 4 * j, none⟩) ∧
    wr.heap[gd]? = some (.cells cs 5 (0, 0)) ∧ cs.size = nd ∧ (∀ m, m < 4 * j → cs[m]? = some (.int .u8 (enc xs m : Nat))) ∧ w.grownBy wr (some gd)
theorem src_cell {w wr : World} {gd b o n : Nat} {xs : List Nat} (hgr : w.grownBy wr (some gd)) (hgb : gd ≠ b) (hs : ∀ j, j < n → w.cell? ⟨b, o + j, none⟩ = some (.int .u8 (byteAt xs j : Nat))) {k : Nat} (hk : k < n) :
    wr.cell? ⟨b, o + k, none⟩ = some (.int .u8 (byteAt xs k : Nat)) :=
  (grown_cell hgr (p := ⟨b, o + k, none⟩) (block_lt_of_cell (hs k hk)) (fun h => hgb (by injection h with h; exact h.symm))).trans (hs k hk)
theorem or3 (x0 x1 x2 : Nat) (h0 : x0 < 256) (h1 : x1 < 256) (h2 : x2 < 256) :
    bits BinOp.or IntKind.u64 (bits BinOp.or IntKind.u64 ((x0 : Int) * 65536) ((x1 : Int) * 256)) (x2 : Int) = ((x0 * 65536 + x1 * 256 + x2 : Nat) : Int) := by
  have e1 : ((x0 : Int) * 65536) = ((x0 * 65536 : Nat) : Int) := by omega
  have e2 : ((x1 : Int) * 256) = ((x1 * 256 : Nat) : Int) := by omega
  rw [e1, e2, u64_or_nat _ _ (by omega) (by omega), nat_join 16 (x0 * 65536) (x1 * 256) (by omega) (by omega), u64_or_nat _ _ (by omega) (by omega), nat_join 8 (x0 * 65536 + x1 * 256) x2 (by omega) (by omega)]
theorem or2 (x0 x1 : Nat) (h0 : x0 < 256) (h1 : x1 < 256) :
    bits BinOp.or IntKind.u64 ((x0 : Int) * 65536) ((x1 : Int) * 256) = ((x0 * 65536 + x1 * 256 : Nat) : Int) := by
  have e1 : ((x0 : Int) * 65536) = ((x0 * 65536 : Nat) : Int) := by omega
  have e2 : ((x1 : Int) * 256) = ((x1 * 256 : Nat) : Int) := by omega
  rw [e1, e2, u64_or_nat _ _ (by omega) (by omega), nat_join 16 (x0 * 65536) (x1 * 256) (by omega) (by omega)]
theorem and63 (V d : Nat) (h : V < 16777216) : bits BinOp.and IntKind.u64 ((V : Int) / (d : Int)) 63 = ((V / d % 64 : Nat) : Int) := by
  have e1 : ((V : Int) / (d : Int)) = ((V / d : Nat) : Int) := by simp
  have h2 : V / d ≤ V := Nat.div_le_self _ _
  rw [e1, show (63 : Int) = ((63 : Nat) : Int) from rfl, u64_and_nat _ _ (by omega) (by omega), nat_mask6]
theorem and63' (V : Nat) (h : V < 16777216) : bits BinOp.and IntKind.u64 (V : Int) 63 = ((V % 64 : Nat) : Int) := by
  rw [show (63 : Int) = ((63 : Nat) : Int) from rfl, u64_and_nat _ _ (by omega) (by omega), nat_mask6]
theorem one_0 (x : Nat) (h : x < 256) : bits BinOp.and IntKind.u64 (((x : Int) * 65536) / 262144) 63 = ((x / 4 : Nat) : Int) := by
  have e : ((x : Int) * 65536) / 262144 = ((x / 4 : Nat) : Int) := by omega
  rw [e, show (63 : Int) = ((63 : Nat) : Int) from rfl, u64_and_nat _ _ (by omega) (by omega), nat_mask6]
  congr 1; omega
theorem one_1 (x : Nat) (h : x < 256) : bits BinOp.and IntKind.u64 (((x : Int) * 65536) / 4096) 63 = ((x % 4 * 16 : Nat) : Int) := by
  have e : ((x : Int) * 65536) / 4096 = ((x * 16 : Nat) : Int) := by omega
  rw [e, show (63 : Int) = ((63 : Nat) : Int) from rfl, u64_and_nat _ _ (by omega) (by omega), nat_mask6]
  congr 1; omega
theorem some_cell {w : World} {g : Nat} {cs : Array Value} {t : TypeId} (h : w.heap[g]? = some (.cells cs t (0, 0))) {i : Nat} (hi : i < cs.size) : ∃ v, w.cell? ⟨g, i, none⟩ = some v :=
  ⟨cs[i], (row_cell h i).trans (Array.getElem?_eq_getElem hi)⟩
/-- Four stores in a row: what each cell holds behind them. -/
theorem four_cells {cs : Array Value} {q : Nat} {v0 v1 v2 v3 : Value} (h : q + 4 ≤ cs.size) (m : Nat) :
    ((((cs.setIfInBounds q v0).setIfInBounds (q + 1) v1).setIfInBounds (q + 2) v2).setIfInBounds (q + 3) v3)[m]? =
      if m = q then some v0 else if m = q + 1 then some v1 else if m = q + 2 then some v2 else if m = q + 3 then some v3 else cs[m]? := by
  simp only [Array.getElem?_setIfInBounds, Array.size_setIfInBounds]
  by_cases h0 : m = q
  · subst h0
    rw [if_neg (by omega), if_neg (by omega), if_neg (by omega), if_pos rfl, if_pos (by omega), if_pos rfl]
  · by_cases h1 : m = q + 1
    · subst h1
      rw [if_neg (by omega), if_neg (by omega), if_pos rfl, if_pos (by omega), if_neg h0, if_pos rfl]
    · by_cases h2 : m = q + 2
      · subst h2
        rw [if_neg (by omega), if_pos rfl, if_pos (by omega), if_neg h0, if_neg h1, if_pos rfl]
      · by_cases h3 : m = q + 3
        · subst h3
          rw [if_pos rfl, if_pos (by omega), if_neg h0, if_neg h1, if_neg h2, if_pos rfl]
        · rw [if_neg (by omega), if_neg (by omega), if_neg (by omega), if_neg (by omega), if_neg h0, if_neg h1, if_neg h2, if_neg h3]
theorem grown_four {w : World} {g a b c d : Nat} {v0 v1 v2 v3 : Value} :
    w.grownBy ((((w.setCell ⟨g, a, none⟩ v0).setCell ⟨g, b, none⟩ v1).setCell ⟨g, c, none⟩ v2).setCell ⟨g, d, none⟩ v3) (some g) :=
  grown_trans (grown_trans (grown_trans (grown_setCell w g a v0) (grown_setCell _ g b v1)) (grown_setCell _ g c v2)) (grown_setCell _ g d v3)
theorem enc_lt {xs : List Nat} {n m : Nat} (hxl : xs.length = n) (h : m < (8 * n + 5) / 6) : enc xs m = sg (six xs m) := by
  unfold enc; rw [hxl, if_pos h]
theorem enc_ge {xs : List Nat} {n m : Nat} (hxl : xs.length = n) (h : ¬ m < (8 * n + 5) / 6) : enc xs m = 61 := by
  unfold enc; rw [hxl, if_neg h]

theorem enc_step {gd nd b o n c : Nat} {xs : List Nat} {w wr : World} {csj : Array Value} {j r rc rd p q x0 x1 x2 V y0 y1 y2 y3 k : Nat} (hnd : nd = (n + 2) / 3 * 4) (hnc : n ≤ c) (hxl : xs.length = n) (hx : Bytes xs)
    (hnj : n = 3 * j + r) (hcj : c = 3 * j + rc) (hdj : nd = 4 * j + rd) (hrow : wr.heap[gd]? = some (.cells csj 5 (0, 0))) (hsz : csj.size = nd) (hcells : ∀ m, m < 4 * j → csj[m]? = some (.int .u8 (enc xs m : Nat))) (hgr : w.grownBy wr (some gd))
    (h3 : 3 ≤ r) (hp : p = o + 3 * j) (hq : q = 4 * j) (hx0 : x0 = byteAt xs (3 * j)) (hx1 : x1 = byteAt xs (3 * j + 1)) (hx2 : x2 = byteAt xs (3 * j + 2)) (hV : V = x0 * 65536 + x1 * 256 + x2)
    (hy0 : y0 = V / 262144 % 64) (hy1 : y1 = V / 4096 % 64) (hy2 : y2 = V / 64 % 64) (hy3 : y3 = V % 64) :
    EncRel gd nd b o n c xs w (.slice (if rd = 4 then some ⟨gd, q, none⟩ else some ⟨gd, q + 4, none⟩) (rd - 4) (rd - 4)) (.slice (if rc = 3 then some ⟨b, p, none⟩ else some ⟨b, p + 3, none⟩) (r - 3) (rc - 3))
      (((((wr.drewN k).setCell ⟨gd, q, none⟩ (.int .u8 (sg y0 : Nat))).setCell ⟨gd, q + 1, none⟩ (.int .u8 (sg y1 : Nat))).setCell ⟨gd, q + 2, none⟩ (.int .u8 (sg y2 : Nat))).setCell ⟨gd, q + 3, none⟩ (.int .u8 (sg y3 : Nat))) := by
  have b0 := hx (3 * j)
  have b1 := hx (3 * j + 1)
  have b2 := hx (3 * j + 2)
  rw [← hx0] at b0
  rw [← hx1] at b1
  rw [← hx2] at b2
  have e0 : enc xs (4 * j) = sg y0 := by rw [enc_lt hxl (by omega), six_0, ← hx0]; congr 1; omega
  have e1 : enc xs (4 * j + 1) = sg y1 := by rw [enc_lt hxl (by omega), six_1, ← hx0, ← hx1]; congr 1; omega
  have e2 : enc xs (4 * j + 2) = sg y2 := by rw [enc_lt hxl (by omega), six_2, ← hx1, ← hx2]; congr 1; omega
  have e3 : enc xs (4 * j + 3) = sg y3 := by rw [enc_lt hxl (by omega), six_3, ← hx2]; congr 1; omega
  have hrow' : (wr.drewN k).heap[gd]? = some (.cells csj 5 (0, 0)) := hrow
  refine ⟨j + 1, r - 3, rc - 3, rd - 4, _, _, _, by omega, by omega, by omega, rfl, rfl, ?_, row_set (row_set (row_set (row_set hrow' q _) _ _) _ _) _ _, by simpa using hsz, ?_, ?_⟩
  · intro hr
    rw [if_neg (by omega), if_neg (by omega)]
    exact ⟨by rw [hp, Nat.mul_add, ← Nat.add_assoc], by rw [hq, Nat.mul_add]⟩
  · intro m hm
    rw [four_cells (by omega) m]
    by_cases m0 : m = q
    · rw [if_pos m0, m0, hq, e0]
    · rw [if_neg m0]
      by_cases m1 : m = q + 1
      · rw [if_pos m1, m1, hq, e1]
      · rw [if_neg m1]
        by_cases m2 : m = q + 2
        · rw [if_pos m2, m2, hq, e2]
        · rw [if_neg m2]
          by_cases m3 : m = q + 3
          · rw [if_pos m3, m3, hq, e3]
          · rw [if_neg m3]
            exact hcells m (by omega)
  · exact grown_trans hgr (grown_trans (grown_drewN wr _ k) grown_four)
theorem enc_end {gd nd j : Nat} {xs : List Nat} {w wx : World} {csj : Array Value} {q : Nat} {u0 u1 u2 u3 : Int} (hrow : wx.heap[gd]? = some (.cells csj 5 (0, 0))) (hsz : csj.size = nd) (hcells : ∀ m, m < 4 * j → csj[m]? = some (.int .u8 (enc xs m : Nat)))
    (hgr : w.grownBy wx (some gd)) (hq : q = 4 * j) (hnd : nd = 4 * j + 4) (e0 : (enc xs (4 * j) : Int) = u0) (e1 : (enc xs (4 * j + 1) : Int) = u1) (e2 : (enc xs (4 * j + 2) : Int) = u2) (e3 : (enc xs (4 * j + 3) : Int) = u3) :
    EncPost gd nd xs w (.returned (.tuple #[])) ((((wx.setCell ⟨gd, q, none⟩ (.int .u8 u0)).setCell ⟨gd, q + 1, none⟩ (.int .u8 u1)).setCell ⟨gd, q + 2, none⟩ (.int .u8 u2)).setCell ⟨gd, q + 3, none⟩ (.int .u8 u3)) := by
  refine ⟨rfl, _, row_set (row_set (row_set (row_set hrow q _) _ _) _ _) _ _, by simpa using hsz, ?_, grown_trans hgr grown_four⟩
  intro m hm
  rw [four_cells (by omega) m]
  by_cases m0 : m = q
  · rw [if_pos m0, m0, hq, e0]
  · rw [if_neg m0]
    by_cases m1 : m = q + 1
    · rw [if_pos m1, m1, hq, e1]
    · rw [if_neg m1]
      by_cases m2 : m = q + 2
      · rw [if_pos m2, m2, hq, e2]
      · rw [if_neg m2]
        by_cases m3 : m = q + 3
        · rw [if_pos m3, m3, hq, e3]
        · rw [if_neg m3]
          exact hcells m (by omega)
def remOf : Value → Nat | .slice _ r _ => r | _ => 0

set_option maxHeartbeats 1000000 in
set_option maxRecDepth 100000 in
theorem encode_any (ge gd nd b o n c : Nat) (xs : List Nat) (cs : Array Value) (w : World) (hn : 0 < n) (hn2 : n ≤ 1048576) (hnd : nd = (n + 2) / 3 * 4) (hnc : n ≤ c) (hxl : xs.length = n) (hx : Bytes xs)
    (he : IsEnc w ge) (hd : w.heap[gd]? = some (.cells cs 5 (0, 0))) (hcs : cs.size = nd) (hge : gd ≠ ge) (hgb : gd ≠ b)
    (hs : ∀ j, j < n → w.cell? ⟨b, o + j, none⟩ = some (.int .u8 (byteAt xs j : Nat))) :
    Calls Tryd.prog 25 #[.pointer (some ⟨ge, 0, none⟩), .slice (some ⟨gd, 0, none⟩) nd nd, .slice (some ⟨b, o, none⟩) n c] w (EncPost gd nd xs w) := by
  have hn0 : ((n : Int) == 0) = false := by rw [beq_eq_false_iff_ne]; omega
  have HND := hid hnd
  have HXL := hid hxl
  have HX := hid hx
  have HE := hid he
  have HD := hid hd
  have HCS := hid hcs
  have HS := hid hs
  clear hnd hxl hx he hd hcs hs
  go_enter Tryd.func25, Tryd.ntmps25
  go_wp2_with ((with_reducible refine atOp (o := ⟨some 15, _, _, _, _, _⟩) ?_); refine wpList_load_cells rfl 71 (.tmp 14) rfl ge 0 64 rfl _ Tryd.underlying71 rfl (by kernel_rfl) (fun i => .int .u8 (sg i : Nat)) (fun j hj => by rw [Nat.zero_add]; exact HE.out.sign j hj) ?_; intro v15)
  simp only [Act.put, List.setIfInBounds_toArray, List.set_cons_succ, List.set_cons_zero]
  go_loopw [1, 2] (fun dst src wr => EncRel gd nd b o n c xs w dst src wr) (fun _ src _ => remOf src)
  case atStart => exact ⟨0, n, c, nd, _, _, cs, by omega, by omega, by omega, rfl, rfl, fun _ => ⟨by simp, by simp⟩, HD.out, HCS.out, fun m hm => by omega, ⟨rfl, rfl, rfl, Nat.le_refl _, fun _ _ _ => rfl⟩⟩
  case round =>
    obtain ⟨j, r, rc, rd, S, D, csj, hnj, hcj, hdj, rfl, rfl, haddr, hrow, hsz, hcells, hgr⟩ := hrel
    by_cases h3 : 3 ≤ r
    · obtain ⟨rfl, rfl⟩ := haddr (by omega)
      have c0 := src_cell hgr hgb HS.out (k := 3 * j) (by omega)
      have c1 := src_cell hgr hgb HS.out (k := 3 * j + 1) (by omega)
      have c2 := src_cell hgr hgb HS.out (k := 3 * j + 2) (by omega)
      rw [← Nat.add_assoc] at c1 c2
      have b0 := HX.out (3 * j)
      have b1 := HX.out (3 * j + 1)
      have b2 := HX.out (3 * j + 2)
      have hrd : 4 ≤ rd := by have := HND.out; omega
      have H1 := hid (And.intro hnj (And.intro hcj (And.intro hdj (And.intro hrow (And.intro hsz (And.intro hcells hgr))))))
      have er : (3 : Int) ≤ (r : Int) := by omega
      have er2 : r ≤ rc := by omega
      clear hnj hcj hdj hrow hsz hcells hgr haddr
      obtain ⟨p, hp⟩ : ∃ p, p = o + 3 * j := ⟨_, rfl⟩
      obtain ⟨q, hq⟩ : ∃ q, q = 4 * j := ⟨_, rfl⟩
      obtain ⟨x0, hx0⟩ : ∃ x, x = byteAt xs (3 * j) := ⟨_, rfl⟩
      obtain ⟨x1, hx1⟩ : ∃ x, x = byteAt xs (3 * j + 1) := ⟨_, rfl⟩
      obtain ⟨x2, hx2⟩ : ∃ x, x = byteAt xs (3 * j + 2) := ⟨_, rfl⟩
      rw [← hp] at c0 c1 c2
      rw [← hp, ← hq]
      rw [← hx0] at c0 b0
      rw [← hx1] at c1 b1
      rw [← hx2] at c2 b2
      have H2 := hid (And.intro hp (And.intro hq (And.intro hx0 (And.intro hx1 hx2))))
      clear hp hq hx0 hx1 hx2
      have k0 : (0 : Int) < (r : Int) := by omega
      have k1 : (1 : Int) < (r : Int) := by omega
      have k2 : (2 : Int) < (r : Int) := by omega
      go_upto_region 3 with fail
      go_cut [6] (fun v wx => v = .int .u64 ((x0 * 65536 + x1 * 256 + x2 : Nat) : Int) ∧ ∃ k, wx = wr.drewN k)
      case first =>
        go_quiet (fail)
        go_wp2_with fail
        go_meet
        exact ⟨congrArg _ (or3 x0 x1 x2 b0 b1 b2), _, rfl⟩
      case rest =>
        obtain ⟨rfl, k, rfl⟩ := hcut
        obtain ⟨V, hV⟩ : ∃ V, V = x0 * 65536 + x1 * 256 + x2 := ⟨_, rfl⟩
        rw [← hV]
        have hVlt : V < 16777216 := by omega
        have H3 := hid hV
        clear hV
        obtain ⟨hnj, hcj, hdj, hrow, hsz, hcells, hgr⟩ := H1.out
        obtain ⟨d0, hd0⟩ := some_cell (i := q) hrow (by have := H2.out.2.1; omega)
        obtain ⟨d1, hd1⟩ := some_cell (i := q + 1) hrow (by have := H2.out.2.1; omega)
        obtain ⟨d2, hd2⟩ := some_cell (i := q + 2) hrow (by have := H2.out.2.1; omega)
        obtain ⟨d3, hd3⟩ := some_cell (i := q + 3) hrow (by have := H2.out.2.1; omega)
        have f0 := row_free hrow q
        have f1 := row_free hrow (q + 1)
        have f2 := row_free hrow (q + 2)
        have f3 := row_free hrow (q + 3)
        have hew : IsEnc wr ge := HE.out.grown hgr (fun h => hge (by injection h with h; exact h.symm))
        have a0 : bits BinOp.and IntKind.u64 ((V : Int) / 262144) 63 = ((V / 262144 % 64 : Nat) : Int) := and63 V 262144 hVlt
        have a1 : bits BinOp.and IntKind.u64 ((V : Int) / 4096) 63 = ((V / 4096 % 64 : Nat) : Int) := and63 V 4096 hVlt
        have a2 : bits BinOp.and IntKind.u64 ((V : Int) / 64) 63 = ((V / 64 % 64 : Nat) : Int) := and63 V 64 hVlt
        have a3 : bits BinOp.and IntKind.u64 (V : Int) 63 = ((V % 64 : Nat) : Int) := and63' V hVlt
        obtain ⟨y0, hy0⟩ : ∃ y, y = V / 262144 % 64 := ⟨_, rfl⟩
        obtain ⟨y1, hy1⟩ : ∃ y, y = V / 4096 % 64 := ⟨_, rfl⟩
        obtain ⟨y2, hy2⟩ : ∃ y, y = V / 64 % 64 := ⟨_, rfl⟩
        obtain ⟨y3, hy3⟩ : ∃ y, y = V % 64 := ⟨_, rfl⟩
        rw [← hy0] at a0
        rw [← hy1] at a1
        rw [← hy2] at a2
        rw [← hy3] at a3
        have l0 : y0 < 64 := by omega
        have l1 : y1 < 64 := by omega
        have l2 : y2 < 64 := by omega
        have l3 : y3 < 64 := by omega
        have s0 := hew.sign y0 l0
        have s1 := hew.sign y1 l1
        have s2 := hew.sign y2 l2
        have s3 := hew.sign y3 l3
        have i0 : (y0 : Int) < 64 := by omega
        have i1 : (y1 : Int) < 64 := by omega
        have i2 : (y2 : Int) < 64 := by omega
        have i3 : (y3 : Int) < 64 := by omega
        have k3 : (3 : Int) < (rd : Int) := by omega
        have kk0 : (0 : Int) < (rd : Int) := by omega
        have kk1 : (1 : Int) < (rd : Int) := by omega
        have kk2 : (2 : Int) < (rd : Int) := by omega
        have kk4 : (4 : Int) ≤ (rd : Int) := by omega
        have H4 := hid (And.intro hy0 (And.intro hy1 (And.intro hy2 hy3)))
        clear hy0 hy1 hy2 hy3 hnj hcj hdj hrow hsz hcells hgr hew
        go_wp2_with fail
        go_roundw
        case rel => exact enc_step HND.out hnc HXL.out HX.out H1.out.1 H1.out.2.1 H1.out.2.2.1 H1.out.2.2.2.1 H1.out.2.2.2.2.1 H1.out.2.2.2.2.2.1 H1.out.2.2.2.2.2.2 h3 H2.out.1 H2.out.2.1 H2.out.2.2.1 H2.out.2.2.2.1 H2.out.2.2.2.2 H3.out H4.out.1 H4.out.2.1 H4.out.2.2.1 H4.out.2.2.2
        case measure => simp only [remOf]; omega
    · have er : ¬ ((3 : Int) ≤ (r : Int)) := by omega
      have H1 := hid (And.intro hnj (And.intro hcj (And.intro hdj (And.intro hrow (And.intro hsz (And.intro hcells (And.intro haddr hgr)))))))
      clear hnj hcj hdj hrow hsz hcells hgr haddr
      rcases (show r = 0 ∨ r = 1 ∨ r = 2 by omega) with rfl | rfl | rfl
      · go_wp2_with fail
        obtain ⟨hnj, hcj, hdj, hrow, hsz, hcells, haddr, hgr⟩ := H1.out
        refine bodyPost_ret (results_none rfl _ _ _) rfl ⟨rfl, csj, hrow, hsz, fun m hm => hcells m (by have := HND.out; omega), hgr⟩
      · obtain ⟨hnj, hcj, hdj, hrow, hsz, hcells, haddr, hgr⟩ := H1.out
        obtain ⟨rfl, rfl⟩ := haddr (by omega)
        have hrd : rd = 4 := by have := HND.out; omega
        have c0 := src_cell hgr hgb HS.out (k := 3 * j) (by omega)
        have b0 := HX.out (3 * j)
        obtain ⟨p, hp⟩ : ∃ p, p = o + 3 * j := ⟨_, rfl⟩
        obtain ⟨q, hq⟩ : ∃ q, q = 4 * j := ⟨_, rfl⟩
        obtain ⟨x0, hx0⟩ : ∃ x, x = byteAt xs (3 * j) := ⟨_, rfl⟩
        rw [← hp] at c0
        rw [← hp, ← hq]
        rw [← hx0] at c0 b0
        obtain ⟨d0, hd0⟩ := some_cell (i := q) hrow (by omega)
        obtain ⟨d1, hd1⟩ := some_cell (i := q + 1) hrow (by omega)
        obtain ⟨d2, hd2⟩ := some_cell (i := q + 2) hrow (by omega)
        obtain ⟨d3, hd3⟩ := some_cell (i := q + 3) hrow (by omega)
        have f0 := row_free hrow q
        have f1 := row_free hrow (q + 1)
        have f2 := row_free hrow (q + 2)
        have f3 := row_free hrow (q + 3)
        have hew : IsEnc wr ge := HE.out.grown hgr (fun h => hge (by injection h with h; exact h.symm))
        have a0 : bits BinOp.and IntKind.u64 (((x0 : Int) * 65536) / 262144) 63 = ((x0 / 4 : Nat) : Int) := one_0 x0 b0
        have a1 : bits BinOp.and IntKind.u64 (((x0 : Int) * 65536) / 4096) 63 = ((x0 % 4 * 16 : Nat) : Int) := one_1 x0 b0
        obtain ⟨y0, hy0⟩ : ∃ y, y = x0 / 4 := ⟨_, rfl⟩
        obtain ⟨y1, hy1⟩ : ∃ y, y = x0 % 4 * 16 := ⟨_, rfl⟩
        rw [← hy0] at a0
        rw [← hy1] at a1
        have l0 : y0 < 64 := by omega
        have l1 : y1 < 64 := by omega
        have s0 := hew.sign y0 l0
        have s1 := hew.sign y1 l1
        have sp := hew.pad
        have i0 : (y0 : Int) < 64 := by omega
        have i1 : (y1 : Int) < 64 := by omega
        subst hrd
        have H2 := hid (And.intro hp (And.intro hq (And.intro hx0 (And.intro hy0 hy1))))
        clear hp hq hx0 hy0 hy1 hnj hcj hdj hrow hsz hcells hgr hew haddr
        go_wp2_with fail
        obtain ⟨hnj, hcj, hdj, hrow, hsz, hcells, haddr, hgr⟩ := H1.out
        obtain ⟨hp, hq, hx0, hy0, hy1⟩ := H2.out
        have hz : byteAt xs (3 * j + 1) = 0 := byteAt_out (by rw [HXL.out]; omega)
        refine bodyPost_end (results_none rfl _ _ _) rfl (enc_end hrow hsz hcells hgr hq hdj ?_ ?_ ?_ ?_)
        · rw [enc_lt HXL.out (by omega), six_0, ← hx0, hy0]
        · rw [enc_lt HXL.out (by omega), six_1, ← hx0, hz, hy1]; simp
        · rw [enc_ge HXL.out (by omega)]; rfl
        · rw [enc_ge HXL.out (by omega)]; rfl
      · obtain ⟨hnj, hcj, hdj, hrow, hsz, hcells, haddr, hgr⟩ := H1.out
        obtain ⟨rfl, rfl⟩ := haddr (by omega)
        have hrd : rd = 4 := by have := HND.out; omega
        have c0 := src_cell hgr hgb HS.out (k := 3 * j) (by omega)
        have c1 := src_cell hgr hgb HS.out (k := 3 * j + 1) (by omega)
        rw [← Nat.add_assoc] at c1
        have b0 := HX.out (3 * j)
        have b1 := HX.out (3 * j + 1)
        obtain ⟨p, hp⟩ : ∃ p, p = o + 3 * j := ⟨_, rfl⟩
        obtain ⟨q, hq⟩ : ∃ q, q = 4 * j := ⟨_, rfl⟩
        obtain ⟨x0, hx0⟩ : ∃ x, x = byteAt xs (3 * j) := ⟨_, rfl⟩
        obtain ⟨x1, hx1⟩ : ∃ x, x = byteAt xs (3 * j + 1) := ⟨_, rfl⟩
        rw [← hp] at c0 c1
        rw [← hp, ← hq]
        rw [← hx0] at c0 b0
        rw [← hx1] at c1 b1
        obtain ⟨d0, hd0⟩ := some_cell (i := q) hrow (by omega)
        obtain ⟨d1, hd1⟩ := some_cell (i := q + 1) hrow (by omega)
        obtain ⟨d2, hd2⟩ := some_cell (i := q + 2) hrow (by omega)
        obtain ⟨d3, hd3⟩ := some_cell (i := q + 3) hrow (by omega)
        have f0 := row_free hrow q
        have f1 := row_free hrow (q + 1)
        have f2 := row_free hrow (q + 2)
        have f3 := row_free hrow (q + 3)
        have hew : IsEnc wr ge := HE.out.grown hgr (fun h => hge (by injection h with h; exact h.symm))
        subst hrd
        have H2 := hid (And.intro hp (And.intro hq (And.intro hx0 hx1)))
        have HEW := hid hew
        clear hp hq hx0 hx1 hnj hcj hdj hrow hsz hcells hgr hew haddr
        go_upto_region 21 with fail
        go_cut [8] (fun v wx => v = .int .u64 ((x0 * 65536 + x1 * 256 : Nat) : Int) ∧ ∃ k, wx = wr.drewN k)
        case first =>
          go_quiet (fail)
          go_wp2_with fail
          go_meet
          exact ⟨congrArg _ (or2 x0 x1 b0 b1), _, rfl⟩
        case rest =>
          obtain ⟨rfl, k, rfl⟩ := hcut
          obtain ⟨V, hV⟩ : ∃ V, V = x0 * 65536 + x1 * 256 := ⟨_, rfl⟩
          rw [← hV]
          have hVlt : V < 16777216 := by omega
          have a0 : bits BinOp.and IntKind.u64 ((V : Int) / 262144) 63 = ((V / 262144 % 64 : Nat) : Int) := and63 V 262144 hVlt
          have a1 : bits BinOp.and IntKind.u64 ((V : Int) / 4096) 63 = ((V / 4096 % 64 : Nat) : Int) := and63 V 4096 hVlt
          have a2 : bits BinOp.and IntKind.u64 ((V : Int) / 64) 63 = ((V / 64 % 64 : Nat) : Int) := and63 V 64 hVlt
          obtain ⟨y0, hy0⟩ : ∃ y, y = V / 262144 % 64 := ⟨_, rfl⟩
          obtain ⟨y1, hy1⟩ : ∃ y, y = V / 4096 % 64 := ⟨_, rfl⟩
          obtain ⟨y2, hy2⟩ : ∃ y, y = V / 64 % 64 := ⟨_, rfl⟩
          rw [← hy0] at a0
          rw [← hy1] at a1
          rw [← hy2] at a2
          have l0 : y0 < 64 := by omega
          have l1 : y1 < 64 := by omega
          have l2 : y2 < 64 := by omega
          have s0 := HEW.out.sign y0 l0
          have s1 := HEW.out.sign y1 l1
          have s2 := HEW.out.sign y2 l2
          have sp := HEW.out.pad
          have i0 : (y0 : Int) < 64 := by omega
          have i1 : (y1 : Int) < 64 := by omega
          have i2 : (y2 : Int) < 64 := by omega
          have H3 := hid (And.intro hV (And.intro hy0 (And.intro hy1 hy2)))
          clear hV hy0 hy1 hy2
          go_wp2_with fail
          obtain ⟨hnj, hcj, hdj, hrow, hsz, hcells, haddr, hgr⟩ := H1.out
          obtain ⟨hp, hq, hx0, hx1⟩ := H2.out
          obtain ⟨hV, hy0, hy1, hy2⟩ := H3.out
          have hz : byteAt xs (3 * j + 2) = 0 := byteAt_out (by rw [HXL.out]; omega)
          refine bodyPost_end (results_none rfl _ _ _) rfl (enc_end (wx := wr.drewN k) hrow hsz hcells (grown_trans hgr (grown_drewN wr _ k)) hq hdj ?_ ?_ ?_ ?_)
          · rw [enc_lt HXL.out (by omega), six_0, ← hx0, hy0]; congr 2; omega
          · rw [enc_lt HXL.out (by omega), six_1, ← hx0, ← hx1, hy1]; congr 2; omega
          · rw [enc_lt HXL.out (by omega), six_2, ← hx1, hz, hy2]; congr 2; omega
          · rw [enc_ge HXL.out (by omega)]; rfl

#print axioms encode_any
end Go.Proofs.YtmglaaejobbbiaaDoor
