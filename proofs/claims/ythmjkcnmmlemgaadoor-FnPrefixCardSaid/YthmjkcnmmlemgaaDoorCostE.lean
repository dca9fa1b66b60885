/-
  bcrypt.Cost and impl.Cost of a text of sixty bytes that does not begin with a dollar, that has a version above '2', or a cost that is not 4 to 31: which error there is; nothing that was there turns.
-/
import Derived.Test.YthmjkcnmmlemgaaDoorCostC
namespace Go.Proofs.YthmjkcnmmlemgaaDoor
open Go.RowKit

set_option maxHeartbeats 1000000 in
theorem decodeVersion_prefix (gp g c x : Nat) (T : List Nat) (w : World) (hb : Bts w g 60 T) (h0 : byteAt T 0 = x) (hx : x ≠ 36) :
    Calls Tryd.prog 24 #[.pointer (some ⟨gp, 0, none⟩), .slice (some ⟨g, 0, none⟩) 60 c] w fun e w' => e = .returned (.tuple #[.int .i64 (-1), .iface 64 (.int .u8 (x : Nat))]) ∧ w.grownBy w' none := by
  have c0 := (hb 0 (by decide)).2
  rw [h0] at c0
  have d1 : ((x : Int) == 36) = false := by rw [beq_eq_false_iff_ne]; omega
  clear hb h0
  go_enter Tryd.func24, Tryd.ntmps24
  go_wp2_with fail
  go_region
  all_goals
    go_wp2_with fail
    go_ret2
    exact ⟨rfl, grown_drew _ _⟩

set_option maxHeartbeats 1000000 in
theorem decodeVersion_new (gp g c x : Nat) (T : List Nat) (w : World) (hb : Bts w g 60 T) (h0 : byteAt T 0 = 36) (h1 : byteAt T 1 = x) (hx : 50 < x) :
    Calls Tryd.prog 24 #[.pointer (some ⟨gp, 0, none⟩), .slice (some ⟨g, 0, none⟩) 60 c] w fun e w' => e = .returned (.tuple #[.int .i64 (-1), .iface 63 (.int .u8 (x : Nat))]) ∧ w.grownBy w' none := by
  have c0 := (hb 0 (by decide)).2
  have c1 := (hb 1 (by decide)).2
  rw [h0] at c0
  rw [h1] at c1
  have d1 : (50 : Int) < (x : Int) := by omega
  clear hb h0 h1
  go_enter Tryd.func24, Tryd.ntmps24
  go_wp2_with fail
  go_region
  all_goals
    go_wp2_with fail
    go_ret2
    exact ⟨rfl, grown_drew _ _⟩

set_option maxHeartbeats 400000 in
theorem checkCost_bad (k : Nat) (w : World) (h : k < 4 ∨ 31 < k) :
    Calls Tryd.prog 28 #[.int .i64 (k : Nat)] w fun e w' => e = .returned (.iface 65 (.int .i64 (k : Nat))) ∧ w = w' := by
  by_cases h1 : k < 4
  · have d1 : decide ((k : Int) < 4) = true := by simp; omega
    clear h
    go_enter Tryd.func28, Tryd.ntmps28
    go_wp2_with fail
    go_ret
    exact ⟨rfl, rfl⟩
  · have d1 : decide ((k : Int) < 4) = false := by simp; omega
    have d2 : decide ((31 : Int) < (k : Int)) = true := by simp; omega
    clear h
    go_enter Tryd.func28, Tryd.ntmps28
    go_wp2_with fail
    go_ret
    exact ⟨rfl, rfl⟩

theorem iface_ne_nil (T : TypeId) (v : Value) (w : World) : (binOp .neq 40 (.iface T v) .nilIface).run Tryd.prog w = .ok (.bool true) w := by
  have he : ∀ d : Nat, (Op.equalIn (d + 1) 40 (.iface T v) .nilIface).run Tryd.prog w = .ok false w := fun d => by simp [Op.equalIn, run_underlying Tryd.underlying40]
  simp only [binOp]
  simp [Op.equal, Op.maxDepth, he 9999]
theorem iface_eq_nil (T : TypeId) (v : Value) (w : World) : (binOp .eql 40 (.iface T v) .nilIface).run Tryd.prog w = .ok (.bool false) w := by
  have he : ∀ d : Nat, (Op.equalIn (d + 1) 40 (.iface T v) .nilIface).run Tryd.prog w = .ok false w := fun d => by simp [Op.equalIn, run_underlying Tryd.underlying40]
  simp only [binOp]
  simp [Op.equal, Op.maxDepth, he 9999]

set_option maxHeartbeats 1000000 in
theorem decodeCost_bad (gp g c q r : Nat) (T : List Nat) (w : World) (hb : Bts w g 60 T) (hc : 60 ≤ c) (hq : q < 10) (hrr : r < 10) (h4 : byteAt T 4 = 48 + q) (h5 : byteAt T 5 = 48 + r) (hk : 10 * q + r < 4 ∨ 31 < 10 * q + r) :
    Calls Tryd.prog 25 #[.pointer (some ⟨gp, 0, none⟩), .slice (some ⟨g, 4, none⟩) 56 (c - 4)] w fun e w' => e = .returned (.tuple #[.int .i64 (-1), .iface 65 (.int .i64 ((10 * q + r : Nat) : Int))]) ∧ w.grownBy w' none := by
  have hnn := iface_ne_nil
  have htx : (convert 22 9 (.slice (some ⟨g, 4, none⟩) 2 (c - 4))).run Tryd.prog w = .ok (.string (textOf [48 + q, 48 + r])) w := text_of_cells (xs := [48 + q, 48 + r]) rfl (fun j hj => by
    rcases (show j = 0 ∨ j = 1 by omega) with rfl | rfl
    · have := (hb 4 (by decide)).2; rw [h4] at this; exact this
    · have := (hb 5 (by decide)).2; rw [h5] at this; exact this)
  obtain ⟨st, hst⟩ : ∃ st, st = textOf [48 + q, 48 + r] := ⟨_, rfl⟩
  rw [← hst] at htx
  have HST : Hid (st.data.toList = dig2 q r) := hid (by rw [hst]; exact textOf_two)
  have n1 : ¬ (c - 4 = 0) := by omega
  have n2 : (2 : Int) ≤ ((c - 4 : Nat) : Int) := by omega
  obtain ⟨d, hd⟩ : ∃ d, d = c - 4 := ⟨_, rfl⟩
  rw [← hd] at htx n1 n2 ⊢
  obtain ⟨k, hke⟩ : ∃ k, k = 10 * q + r := ⟨_, rfl⟩
  rw [← hke] at hk ⊢
  have HK := hid hke
  have HC := hid hk
  clear hb h4 h5 hst hd hke hk
  go_enter Tryd.func25, Tryd.ntmps25
  go_wp2_with fail
  refine (atoi_two st q r w hq hrr HST.out).mono ?_
  rintro e w1 ⟨rfl, hb1⟩
  rw [← HK.out]
  have H1 := hid (grown_of_below hb1 none)
  clear hb1
  go_wp2_with fail
  refine (checkCost_bad k w1 HC.out).mono ?_
  rintro e w1' ⟨rfl, rfl⟩
  go_wp2_with fail
  go_ret2
  exact ⟨rfl, H1.out⟩

set_option maxHeartbeats 1000000 in
theorem newFromHash_prefix (g c x : Nat) (T : List Nat) (w : World) (hb : Bts w g 60 T) (h0 : byteAt T 0 = x) (hx : x ≠ 36) :
    Calls Tryd.prog 21 #[.slice (some ⟨g, 0, none⟩) 60 c] w fun e w' => e = .returned (.tuple #[.pointer none, .iface 64 (.int .u8 (x : Nat))]) ∧ w.grownBy w' none := by
  obtain ⟨i1, hi1, hzz1⟩ := infoHashed'
  have hnn := iface_ne_nil
  have H := hid hb
  clear hb
  go_enter Tryd.func21, Tryd.ntmps21
  go_wp2_with ((with_reducible refine atOp (o := ⟨some 12, _, _, _, _, _⟩) ?_); refine wpList_alloc_row rfl 59 rfl i1 hi1 _ hzz1 _ rfl ?_; intro w1 hr1 hl1 hg1; have H1 := hid (And.intro hr1.out hg1.out); clear hr1 hg1)
  refine (decodeVersion_prefix w.heap.size g c x T w1 (H.out.grown H1.out.2 (by simp)) h0 hx).mono ?_
  rintro e w2 ⟨rfl, hg2⟩
  have H2 := hid (grown_trans H1.out.2 hg2)
  clear hg2
  go_wp2_with fail
  go_ret2
  exact ⟨rfl, H2.out⟩

set_option maxHeartbeats 1000000 in
theorem cost_prefix (g c x : Nat) (T : List Nat) (w : World) (hb : Bts w g 60 T) (h0 : byteAt T 0 = x) (hx : x ≠ 36) :
    Calls Tryd.prog 12 #[.slice (some ⟨g, 0, none⟩) 60 c] w fun e w' => e = .returned (.tuple #[.int .i64 0, .iface 64 (.int .u8 (x : Nat))]) ∧ w.grownBy w' none := by
  have hnn := iface_ne_nil
  have H := hid (newFromHash_prefix g c x T w hb h0 hx)
  clear hb
  go_enter Tryd.func12, Tryd.ntmps12
  go_wp2_with fail
  refine H.out.mono ?_
  rintro e w1 ⟨rfl, hg⟩
  have H1 := hid hg
  clear hg
  go_wp2_with fail
  go_ret2
  exact ⟨rfl, H1.out⟩

set_option maxHeartbeats 1000000 in
theorem newFromHash_new (g c x : Nat) (T : List Nat) (w : World) (hb : Bts w g 60 T) (h0 : byteAt T 0 = 36) (h1 : byteAt T 1 = x) (hx : 50 < x) :
    Calls Tryd.prog 21 #[.slice (some ⟨g, 0, none⟩) 60 c] w fun e w' => e = .returned (.tuple #[.pointer none, .iface 63 (.int .u8 (x : Nat))]) ∧ w.grownBy w' none := by
  obtain ⟨i1, hi1, hzz1⟩ := infoHashed'
  have hnn := iface_ne_nil
  have H := hid hb
  clear hb
  go_enter Tryd.func21, Tryd.ntmps21
  go_wp2_with ((with_reducible refine atOp (o := ⟨some 12, _, _, _, _, _⟩) ?_); refine wpList_alloc_row rfl 59 rfl i1 hi1 _ hzz1 _ rfl ?_; intro w1 hr1 hl1 hg1; have H1 := hid (And.intro hr1.out hg1.out); clear hr1 hg1)
  refine (decodeVersion_new w.heap.size g c x T w1 (H.out.grown H1.out.2 (by simp)) h0 h1 hx).mono ?_
  rintro e w2 ⟨rfl, hg2⟩
  have H2 := hid (grown_trans H1.out.2 hg2)
  clear hg2
  go_wp2_with fail
  go_ret2
  exact ⟨rfl, H2.out⟩

set_option maxHeartbeats 1000000 in
theorem cost_new (g c x : Nat) (T : List Nat) (w : World) (hb : Bts w g 60 T) (h0 : byteAt T 0 = 36) (h1 : byteAt T 1 = x) (hx : 50 < x) :
    Calls Tryd.prog 12 #[.slice (some ⟨g, 0, none⟩) 60 c] w fun e w' => e = .returned (.tuple #[.int .i64 0, .iface 63 (.int .u8 (x : Nat))]) ∧ w.grownBy w' none := by
  have hnn := iface_ne_nil
  have H := hid (newFromHash_new g c x T w hb h0 h1 hx)
  clear hb
  go_enter Tryd.func12, Tryd.ntmps12
  go_wp2_with fail
  refine H.out.mono ?_
  rintro e w1 ⟨rfl, hg⟩
  have H1 := hid hg
  clear hg
  go_wp2_with fail
  go_ret2
  exact ⟨rfl, H1.out⟩

set_option maxHeartbeats 1000000 in
theorem newFromHash_bad (g c q r vv : Nat) (T : List Nat) (w : World) (hb : Bts w g 60 T) (hc : 60 ≤ c) (hh : Head T vv q r) (hv : vv ≤ 50) (hk : 10 * q + r < 4 ∨ 31 < 10 * q + r) :
    Calls Tryd.prog 21 #[.slice (some ⟨g, 0, none⟩) 60 c] w fun e w' => e = .returned (.tuple #[.pointer none, .iface 65 (.int .i64 ((10 * q + r : Nat) : Int))]) ∧ w.grownBy w' none := by
  obtain ⟨i1, hi1, hzz1⟩ := infoHashed'
  have hnn := iface_ne_nil
  have H := hid hb
  clear hb
  have HH := hid hh
  have HK := hid hk
  have n1 : ¬ (c = 4) := by omega
  clear hh hk
  have hgl : g < w.heap.size := block_lt_of_cell (H.out 0 (by decide)).2
  go_enter Tryd.func21, Tryd.ntmps21
  go_wp2_with ((with_reducible refine atOp (o := ⟨some 12, _, _, _, _, _⟩) ?_); refine wpList_alloc_row rfl 59 rfl i1 hi1 _ hzz1 _ rfl ?_; intro w1 hr1 hl1 hg1; have H1 := hid (And.intro hr1.out hg1.out); clear hr1 hg1)
  obtain ⟨gp, hgp⟩ : ∃ gp, gp = w.heap.size := ⟨_, rfl⟩
  have hR1 : Hid (HRow w1 gp (.slice none 0 0) (.slice none 0 0) 0 0 0 ∧ w.grownBy w1 none) := hid ⟨by rw [hgp]; exact H1.out.1, H1.out.2⟩
  have hgw : w.heap.size ≤ gp := by omega
  have hne : g ≠ gp := by omega
  rw [← hgp]
  clear hgp H1
  refine (decodeVersion_ok gp g c 0 vv _ _ T w1 hR1.out.1 (H.out.grown hR1.out.2 (by simp)) hne HH.out.2.2.1 HH.out.2.2.2.1 hv HH.out.2.2.2.2.1).mono ?_
  rintro e w2 ⟨rfl, hr2, hg2⟩
  have H2 := hid (grown_new hR1.out.2 hg2 hgw)
  clear hr2 hg2
  go_wp2_with fail
  refine Calls.mono (decodeCost_bad gp g c q r T w2 (H.out.grown H2.out (by simp)) hc HH.out.2.2.2.2.2.2.2.1 HH.out.2.2.2.2.2.2.2.2 HH.out.2.2.2.2.2.1 HH.out.2.2.2.2.2.2.1 HK.out) ?_
  rintro e w3 ⟨rfl, hg3⟩
  have H3 := hid (grown_trans H2.out hg3)
  clear hg3
  go_wp2_with fail
  go_ret2
  exact ⟨rfl, H3.out⟩

set_option maxHeartbeats 1000000 in
theorem cost_bad (g c q r vv : Nat) (T : List Nat) (w : World) (hb : Bts w g 60 T) (hc : 60 ≤ c) (hh : Head T vv q r) (hv : vv ≤ 50) (hk : 10 * q + r < 4 ∨ 31 < 10 * q + r) :
    Calls Tryd.prog 12 #[.slice (some ⟨g, 0, none⟩) 60 c] w fun e w' => e = .returned (.tuple #[.int .i64 0, .iface 65 (.int .i64 ((10 * q + r : Nat) : Int))]) ∧ w.grownBy w' none := by
  have hnn := iface_ne_nil
  have H := hid (newFromHash_bad g c q r vv T w hb hc hh hv hk)
  clear hb
  go_enter Tryd.func12, Tryd.ntmps12
  go_wp2_with fail
  refine H.out.mono ?_
  rintro e w1 ⟨rfl, hg⟩
  have H1 := hid hg
  clear hg
  go_wp2_with fail
  go_ret2
  exact ⟨rfl, H1.out⟩

set_option maxHeartbeats 400000 in
theorem coded_prefix (x : Int) (w : World) :
    Calls Tryd.prog 14 #[.iface 64 (.int .u8 x)] w fun e w' => e = .returned (.int .i64 4) ∧ w = w' := by
  have hq := iface_eq_nil
  have a0 : ∀ w : World, (Instr.typeAssert (.iface 64 (.int .u8 x)) 40 61 true).run Tryd.prog w = .ok (.tuple #[.agg #[], .bool false]) w := fun w => by kernel_rfl
  have a1 : ∀ w : World, (Instr.typeAssert (.iface 64 (.int .u8 x)) 40 62 true).run Tryd.prog w = .ok (.tuple #[.agg #[], .bool false]) w := fun w => by kernel_rfl
  have a2 : ∀ w : World, (Instr.typeAssert (.iface 64 (.int .u8 x)) 40 63 true).run Tryd.prog w = .ok (.tuple #[.int .u8 0, .bool false]) w := fun w => by kernel_rfl
  have a3 : ∀ w : World, (Instr.typeAssert (.iface 64 (.int .u8 x)) 40 64 true).run Tryd.prog w = .ok (.tuple #[(.int .u8 x), .bool true]) w := fun w => by kernel_rfl
  go_enter Tryd.func14, Tryd.ntmps14
  go_wp2_with fail
  go_ret
  exact ⟨rfl, rfl⟩

set_option maxHeartbeats 400000 in
theorem coded_new (x : Int) (w : World) :
    Calls Tryd.prog 14 #[.iface 63 (.int .u8 x)] w fun e w' => e = .returned (.int .i64 3) ∧ w = w' := by
  have hq := iface_eq_nil
  have a0 : ∀ w : World, (Instr.typeAssert (.iface 63 (.int .u8 x)) 40 61 true).run Tryd.prog w = .ok (.tuple #[.agg #[], .bool false]) w := fun w => by kernel_rfl
  have a1 : ∀ w : World, (Instr.typeAssert (.iface 63 (.int .u8 x)) 40 62 true).run Tryd.prog w = .ok (.tuple #[.agg #[], .bool false]) w := fun w => by kernel_rfl
  have a2 : ∀ w : World, (Instr.typeAssert (.iface 63 (.int .u8 x)) 40 63 true).run Tryd.prog w = .ok (.tuple #[(.int .u8 x), .bool true]) w := fun w => by kernel_rfl
  go_enter Tryd.func14, Tryd.ntmps14
  go_wp2_with fail
  go_ret
  exact ⟨rfl, rfl⟩

set_option maxHeartbeats 400000 in
theorem coded_bad (x : Int) (w : World) :
    Calls Tryd.prog 14 #[.iface 65 (.int .i64 x)] w fun e w' => e = .returned (.int .i64 5) ∧ w = w' := by
  have hq := iface_eq_nil
  have a0 : ∀ w : World, (Instr.typeAssert (.iface 65 (.int .i64 x)) 40 61 true).run Tryd.prog w = .ok (.tuple #[.agg #[], .bool false]) w := fun w => by kernel_rfl
  have a1 : ∀ w : World, (Instr.typeAssert (.iface 65 (.int .i64 x)) 40 62 true).run Tryd.prog w = .ok (.tuple #[.agg #[], .bool false]) w := fun w => by kernel_rfl
  have a2 : ∀ w : World, (Instr.typeAssert (.iface 65 (.int .i64 x)) 40 63 true).run Tryd.prog w = .ok (.tuple #[.int .u8 0, .bool false]) w := fun w => by kernel_rfl
  have a3 : ∀ w : World, (Instr.typeAssert (.iface 65 (.int .i64 x)) 40 64 true).run Tryd.prog w = .ok (.tuple #[.int .u8 0, .bool false]) w := fun w => by kernel_rfl
  have a4 : ∀ w : World, (Instr.typeAssert (.iface 65 (.int .i64 x)) 40 65 true).run Tryd.prog w = .ok (.tuple #[(.int .i64 x), .bool true]) w := fun w => by kernel_rfl
  go_enter Tryd.func14, Tryd.ntmps14
  go_wp2_with fail
  go_ret
  exact ⟨rfl, rfl⟩

set_option maxHeartbeats 1000000 in
theorem implCost_prefix (g c x : Nat) (T : List Nat) (w : World) (hb : Bts w g 60 T) (hl : T.length = 60) (hx8 : Bytes T) (h0 : byteAt T 0 = x) (hx : x ≠ 36) :
    Calls Tryd.prog 7 #[.slice (some ⟨g, 0, none⟩) 60 c] w fun e w' => e = .returned (.tuple #[.int .i64 0, .int .i64 4]) ∧ w.grownBy w' none := by
  have HC := hid (And.intro (clone_any g 0 60 c T w (by decide) hl (fun j hj => (hb j hj).2)) (And.intro hl hx8))
  clear hb hl hx8
  go_enter Tryd.func7, Tryd.ntmps7
  go_wp2_with fail
  refine HC.out.1.mono ?_
  rintro e w1 ⟨v, rfl, h1', h2⟩
  obtain ⟨g1, c1, _, rfl, _, _, hlc, _, _, _, _⟩ := h1'.form (by rw [HC.out.2.1]; decide)
  rw [HC.out.2.1] at h1' hlc ⊢
  have H1 := hid (And.intro (own_bts h1' HC.out.2.1 HC.out.2.2) (grown_of_below h2 none))
  clear h1' h2
  have HX := hid (cost_prefix g1 c1 x T w1 H1.out.1 h0 hx)
  go_wp2_with fail
  refine HX.out.mono ?_
  rintro e w2 ⟨rfl, hg2⟩
  have H2 := hid (grown_trans H1.out.2 hg2)
  clear hg2
  go_wp2_with fail
  refine (coded_prefix _ w2).mono ?_
  rintro e w2' ⟨rfl, rfl⟩
  go_wp2_with fail
  go_ret2
  exact ⟨rfl, H2.out⟩

set_option maxHeartbeats 1000000 in
theorem implCost_new (g c x : Nat) (T : List Nat) (w : World) (hb : Bts w g 60 T) (hl : T.length = 60) (hx8 : Bytes T) (h0 : byteAt T 0 = 36) (h1 : byteAt T 1 = x) (hx : 50 < x) :
    Calls Tryd.prog 7 #[.slice (some ⟨g, 0, none⟩) 60 c] w fun e w' => e = .returned (.tuple #[.int .i64 0, .int .i64 3]) ∧ w.grownBy w' none := by
  have HC := hid (And.intro (clone_any g 0 60 c T w (by decide) hl (fun j hj => (hb j hj).2)) (And.intro hl hx8))
  clear hb hl hx8
  go_enter Tryd.func7, Tryd.ntmps7
  go_wp2_with fail
  refine HC.out.1.mono ?_
  rintro e w1 ⟨v, rfl, h1', h2⟩
  obtain ⟨g1, c1, _, rfl, _, _, hlc, _, _, _, _⟩ := h1'.form (by rw [HC.out.2.1]; decide)
  rw [HC.out.2.1] at h1' hlc ⊢
  have H1 := hid (And.intro (own_bts h1' HC.out.2.1 HC.out.2.2) (grown_of_below h2 none))
  clear h1' h2
  have HX := hid (cost_new g1 c1 x T w1 H1.out.1 h0 h1 hx)
  go_wp2_with fail
  refine HX.out.mono ?_
  rintro e w2 ⟨rfl, hg2⟩
  have H2 := hid (grown_trans H1.out.2 hg2)
  clear hg2
  go_wp2_with fail
  refine (coded_new _ w2).mono ?_
  rintro e w2' ⟨rfl, rfl⟩
  go_wp2_with fail
  go_ret2
  exact ⟨rfl, H2.out⟩

set_option maxHeartbeats 1000000 in
theorem implCost_bad (g c q r vv : Nat) (T : List Nat) (w : World) (hb : Bts w g 60 T) (hl : T.length = 60) (hx8 : Bytes T) (hh : Head T vv q r) (hv : vv ≤ 50) (hk : 10 * q + r < 4 ∨ 31 < 10 * q + r) :
    Calls Tryd.prog 7 #[.slice (some ⟨g, 0, none⟩) 60 c] w fun e w' => e = .returned (.tuple #[.int .i64 0, .int .i64 5]) ∧ w.grownBy w' none := by
  have HC := hid (And.intro (clone_any g 0 60 c T w (by decide) hl (fun j hj => (hb j hj).2)) (And.intro hl hx8))
  clear hb hl hx8
  go_enter Tryd.func7, Tryd.ntmps7
  go_wp2_with fail
  refine HC.out.1.mono ?_
  rintro e w1 ⟨v, rfl, h1', h2⟩
  obtain ⟨g1, c1, _, rfl, _, _, hlc, _, _, _, _⟩ := h1'.form (by rw [HC.out.2.1]; decide)
  rw [HC.out.2.1] at h1' hlc ⊢
  have H1 := hid (And.intro (own_bts h1' HC.out.2.1 HC.out.2.2) (grown_of_below h2 none))
  clear h1' h2
  have HX := hid (cost_bad g1 c1 q r vv T w1 H1.out.1 hlc hh hv hk)
  go_wp2_with fail
  refine HX.out.mono ?_
  rintro e w2 ⟨rfl, hg2⟩
  have H2 := hid (grown_trans H1.out.2 hg2)
  clear hg2
  go_wp2_with fail
  refine (coded_bad _ w2).mono ?_
  rintro e w2' ⟨rfl, rfl⟩
  go_wp2_with fail
  go_ret2
  exact ⟨rfl, H2.out⟩

#print axioms implCost_prefix
#print axioms implCost_new
#print axioms implCost_bad
end Go.Proofs.YthmjkcnmmlemgaaDoor
