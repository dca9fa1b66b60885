/-
  spec.Expand: the tables into which a key and a salt are taken (no salt: zeros): what the key schedule gives (expT in YthmjkcnmmlemgaaDoorFish); nothing that was there turns.
-/
import Derived.Test.YthmjkcnmmlemgaaDoorCyc
import Derived.Test.YthmjkcnmmlemgaaDoorState
import Derived.Deep.RegionWith
import Derived.BigQuiet
import Derived.Deep.QuietTactic
namespace Go.Proofs.YthmjkcnmmlemgaaDoor
open Go.RowKit

/-- The tables t lie at block gs; nothing but them has turned. -/
def ExpS (w0 : World) (gs : Nat) (t : Nat → Nat) (w : World) : Prop := Sta w gs t ∧ w0.grownBy w (some gs)
theorem ExpS.set {w0 w : World} {gs i a : Nat} {t : Nat → Nat} (h : ExpS w0 gs t w) (ha : a < 4294967296) : ExpS w0 gs (setT t i a) (w.setCell ⟨gs, i, none⟩ (.int .u32 (a : Nat))) :=
  ⟨h.1.set i a ha, grown_trans h.2 (grown_setCell _ gs i _)⟩
theorem ExpS.drew {w0 w : World} {gs : Nat} {t : Nat → Nat} (h : ExpS w0 gs t w) (k : Nat) : ExpS w0 gs t (w.drewN k) := ⟨h.1, grown_trans h.2 (grown_drewN w _ k)⟩
/-- m blocks are laid in. -/
def ExFS (w0 : World) (gs : Nat) (t0 sw : Nat → Nat) (m A B : Nat) (w : World) : Prop := ∃ T, fillT t0 sw m = (T, A, B) ∧ ExpS w0 gs T w
theorem ExFS.set {w0 w : World} {gs m A B a b k i j x y X Y : Nat} {t0 sw T : Nat → Nat} (h0 : fillT t0 sw m = (T, A, B)) (hE : ExpS w0 gs T w) (hX : X = A ^^^ sw (2 * m)) (hY : Y = B ^^^ sw (2 * m + 1)) (ha : a < 4294967296) (hb : b < 4294967296)
    (ea : a = bfL T X Y) (eb : b = bfR T X Y) (ex : x = a) (ey : y = b) (hi : i = 2 * m) (hj : j = 2 * m + 1) :
    ExFS w0 gs t0 sw (m + 1) a b (((w.drewN k).setCell ⟨gs, i, none⟩ (.int .u32 (x : Nat))).setCell ⟨gs, j, none⟩ (.int .u32 (y : Nat))) := by
  subst hi hj ex ey
  exact ⟨_, fillT_step h0 hX hY ea eb, ExpS.set (ExpS.set (hE.drew k) ha) hb⟩
theorem ExFS.set' {w0 w : World} {gs m A B a b k i j x y X Y : Nat} {t0 sw T : Nat → Nat} (h0 : fillT t0 sw m = (T, A, B)) (hE : ExpS w0 gs T w) (hX : X = A ^^^ sw (2 * m)) (hY : Y = B ^^^ sw (2 * m + 1)) (ha : a < 4294967296) (hb : b < 4294967296)
    (ea : a = bfL T X Y) (eb : b = bfR T X Y) (ex : x = a) (ey : y = b) (hi : i = 2 * m) (hj : j = 2 * m + 1) :
    ExFS w0 gs t0 sw (m + 1) a b (((w.drewN k).setCell ⟨gs, j, none⟩ (.int .u32 (y : Nat))).setCell ⟨gs, i, none⟩ (.int .u32 (x : Nat))) := by
  subst hi hj ex ey
  refine ⟨_, fillT_step h0 hX hY ea eb, ?_⟩
  rw [setT_swap _ (by omega)]
  exact ExpS.set (ExpS.set (hE.drew k) hb) ha

/-- n numbers lie at block g. -/
def Wds (w : World) (g n : Nat) (ws : Nat → Nat) : Prop := ∀ j, j < n → w.cell? ⟨g, j, none⟩ = some (.int .u32 (ws j : Nat))
theorem own_wds {w : World} {base n N : Nat} {v : Value} {ys : List Nat} (h : OwnW w base v ((List.range N).map (wdW ys n))) (hN : 0 < N) :
    ∃ g cap, v = .slice (some ⟨g, 0, none⟩) N cap ∧ base ≤ g ∧ g < w.heap.size ∧ Hid (Wds w g N (wdW ys n)) := by
  have hl : ((List.range N).map (wdW ys n)).length = N := by simp
  obtain ⟨g, cap, hv, hb, hg, hc⟩ := h.form (by rw [hl]; exact hN)
  rw [hl] at hv hc
  refine ⟨g, cap, hv, hb, hg, hid fun j hj => ?_⟩
  have := hc j hj
  rw [Nat.zero_add] at this
  rw [this]
  simp [List.getD_eq_getElem?_getD, hj]
theorem wdW_zero : wdW [0] 1 = noSalt := by
  have e : ∀ i, byteAt [0] i = 0 := by
    intro i
    match i with
    | 0 => rfl
    | _ + 1 => rfl
  have it : ∀ (k : Nat) (p : Nat × Nat), p.1 = 0 → (itW [0] 1 p k).1 = 0 := by
    intro k
    induction k with
    | zero => exact fun _ h => h
    | succ k ih => intro p h; simp [itW, stepW, ih p h, e]
  funext m
  exact it 4 _ rfl

/-- What a salt is to Expand: none, or bytes; its numbers. -/
def SaltS (w : World) (a : Option Addr) (n : Nat) (sw : Nat → Nat) : Prop :=
  (a = none ∧ n = 0 ∧ noSalt = sw) ∨ ∃ g o zs, a = some ⟨g, o, none⟩ ∧ Key w g o n zs ∧ wdW zs n = sw
theorem saltS_none (w : World) : SaltS w none 0 noSalt := .inl ⟨rfl, rfl, rfl⟩
def CutS (wr : World) (sw : Nat → Nat) (s2 : Value) (wx : World) : Prop :=
  ∃ g o n c zs, s2 = .slice (some ⟨g, o, none⟩) n c ∧ Key wx g o n zs ∧ wdW zs n = sw ∧ wr.grownBy wx none
/-- What a call leaves that gives the State t; nothing that was there has turned. -/
def StaF (t : Nat → Nat) (w : World) (e : Ending) (w' : World) : Prop := ∃ cs, e = .returned (.agg cs) ∧ Arr cs 1042 0 t ∧ Below w.heap.size w w'
theorem bodyPost_staF {fn : Func} {p : Tmp} {a : Act} {W w : World} {g : Nat} {t : Nat → Nat} (h : fn.results = #[.cell p 30]) (hp : a.tmps.getD p undef = .pointer (some ⟨g, 0, none⟩)) (hd : a.defers = []) (hs : Sta w g t) (hb : Below W.heap.size W w) :
    bodyPost Tryd.prog fn (StaF t W) .normal a w := by
  obtain ⟨cs, h1, h2⟩ := results_sta h a.tmps hp hs
  exact bodyPost_end h1 hd ⟨cs, rfl, h2, hb⟩
theorem feis_lt {t : Nat → Nat} {l r : Nat} (ht : ∀ i, i < 18 → t i < 4294967296) (hl : l < 4294967296) (hr : r < 4294967296) : ∀ i, i < 18 → (feis t l r i).1 < 4294967296 ∧ (feis t l r i).2 < 4294967296
  | 0, _ => ⟨hr, xor_lt32 hl (ht 0 (by decide))⟩
  | i + 1, h => by
    have ih := feis_lt ht hl hr i (by omega)
    exact ⟨ih.2, xor_lt32 ih.1 (xor_lt32 (Nat.mod_lt _ (by decide)) (ht (i + 1) h))⟩
theorem bf_lt {w : World} {g l r : Nat} {t : Nat → Nat} (hs : Sta w g t) (hl : l < 4294967296) (hr : r < 4294967296) : bfL t l r < 4294967296 ∧ bfR t l r < 4294967296 := by
  have h := feis_lt (t := t) (l := l) (r := r) (fun i hi => hs.lt (by omega)) hl hr 16 (by decide)
  exact ⟨xor_lt32 h.1 (hs.lt (by decide)), h.2⟩
theorem crypt_quiet {g l r k a b : Nat} {t : Nat → Nat} {w : World} (hl : l < 4294967296) (hr : r < 4294967296) (hs : Sta w g t) (hab : a = bfL t l r ∧ b = bfR t l r) :
    Calls Tryd.prog 17 #[.pointer (some ⟨g, 0, none⟩), .int .u32 (l : Nat), .int .u32 (r : Nat)] (w.drewN k) fun e w' => e = .returned (.tuple #[.int .u32 (a : Nat), .int .u32 (b : Nat)]) ∧ ∃ m, w' = w.drewN m := by
  refine (crypt_any g l r t (w.drewN k) hl hr (hs.drew k)).mono ?_
  rintro e w' ⟨a, b, _, _, ha, hb, rfl, m, rfl⟩
  rw [ha, hb, hab.1, hab.2]
  exact ⟨rfl, _, World.drewN_drewN _ _ _⟩

set_option maxHeartbeats 4000000 in
set_option maxRecDepth 100000 in
theorem specExpand_any (cs : Array Value) (gk ok n c : Nat) (ys : List Nat) (sa : Option Addr) (ns c2 : Nat) (sw t : Nat → Nat) (w : World) (hcs : Arr cs 1042 0 t) (hk : Key w gk ok n ys) (hs : SaltS w sa ns sw) :
    Calls Tryd.prog 22 #[.agg cs, .slice (some ⟨gk, ok, none⟩) n c, .slice sa ns c2] w (StaF (expT t (wdW ys n) sw) w) := by
  have hgk : gk < w.heap.size := block_lt_of_cell (hk.2.2.2 0 hk.1)
  have HK := hid hk
  have HS := hid hs
  have HC := hid hcs
  clear hk hs hcs
  obtain ⟨kw, hkw⟩ : ∃ kw, kw = wdW ys n := ⟨_, rfl⟩
  have HW := hid hkw
  rw [← hkw]
  clear hkw
  go_enter Tryd.func22, Tryd.ntmps22
  go_wp2_with (first
    | ((with_reducible refine atOp (o := ⟨some 3, _, _, _, _, _⟩) ?_); refine wpList_box_sta rfl (.tmp 0) rfl cs rfl t HC.out ?_; intro w1 hr1 hs1 hg1)
    | ((with_reducible refine atOp (o := ⟨some 6, _, _, _, _, _⟩) ?_); refine wpList_alloc_sta rfl rfl ?_; intro w2 hr2 hs2 hg2))
  have HB2 := hid (((Below.refl w.heap.size w).grown hg1.out (Nat.le_refl _) (by simp)).grown hg2.out (Nat.le_of_lt hs1) (by simp))
  refine Calls.mono (cycle_any gk ok n c 18 ys w2 ((HK.out.grown hg1.out (by simp)).grown hg2.out (by simp)) (by decide)) ?_
  rintro e w3 ⟨v, rfl, hv, hb3⟩
  obtain ⟨ga, ca, rfl, hga, hgal, HD⟩ := own_wds hv (by decide)
  obtain ⟨gs, hgs⟩ : ∃ g, g = w.heap.size := ⟨_, rfl⟩
  obtain ⟨gr, hgr⟩ : ∃ g, g = w1.heap.size := ⟨_, rfl⟩
  have hgkr : gk < gs := by omega
  have HGS := hid hgs
  have hl1 : gs < gr := by omega
  have hl2 : gr < ga := by omega
  have H3 : Hid (ExpS w3 gs (keyT t kw 0) w3 ∧ Room w3 gr ∧ Below gs w w3) := hid (by
    refine ⟨⟨?_, ⟨rfl, rfl, rfl, Nat.le_refl _, fun _ _ _ => rfl⟩⟩, ?_, ?_⟩
    · rw [hgs]
      exact ((hr1.out.grown hg2.out (by simp)).below hb3 (by omega))
    · rw [hgr]
      exact hr2.out.below hb3 (by omega)
    · rw [hgs]
      exact HB2.out.trans (hb3.mono (by omega)))
  rw [← hgs, ← hgr]
  clear hgs hgr hv hb3 hr1 hr2 hg1 hg2 hs1 hs2 HB2 hga
  go_wp2_with fail
  go_loopw [17] (fun i wr => ∃ I : Nat, I ≤ 18 ∧ i = .int .i64 (I : Nat) ∧ Hid (ExpS w3 gs (keyT t kw I) wr)) (fun i _ => 18 - (intOf i).toNat)
  case atStart => exact ⟨0, by decide, rfl, hid H3.out.1⟩
  case round =>
    obtain ⟨I, hI, rfl, hE⟩ := hrel
    by_cases hlt : I < 18
    · have cj := (grown_cell hE.out.2 (p := ⟨ga, I, none⟩) hgal (fun e => by have e : ga = gs := Option.some.inj e; omega)).trans (HD.out I hlt)
      rw [← HW.out] at cj
      have bj : kw I < 4294967296 := by rw [HW.out]; exact wdW_lt HK.out.2.2.1 I
      obtain ⟨X, hX⟩ : ∃ X, X = kw I := ⟨_, rfl⟩
      rw [← hX] at cj bj
      have pc : wr.cell? ⟨gs, I, none⟩ = _ := hE.out.1.cell (i := I) (by omega)
      have pf : wr.frozen? ⟨gs, I, none⟩ = false := hE.out.1.free I
      have pb := hE.out.1.lt (i := I) (by omega)
      obtain ⟨P, hP⟩ : ∃ P, P = keyT t kw I I := ⟨_, rfl⟩
      rw [← hP] at pc pb
      have HKS := hid (keyT_step hP hX.symm)
      have ex := u32_xor_nat P X pb bj
      clear hP hX
      go_wp2_with fail
      go_roundw
      case rel => exact ⟨I + 1, by omega, by go_num, hid (by rw [HKS.out]; exact ExpS.set hE.out (xor_lt32 pb bj))⟩
      case measure => simp only [intOf]; omega
    · have HE : Hid (ExpS w3 gs (keyT t kw 18) wr) := hid (by
        have e : I = 18 := by omega
        rw [← e]; exact hE.out)
      have hI18 : ¬ ((I : Int) < 18) := by omega
      clear hE
      go_upto_if 34 with fail
      go_cut [2] (fun s2 wx => Hid (CutS wr sw s2 wx))
      case first =>
        rcases HS.out with ⟨rfl, rfl, hsw⟩ | ⟨g, o, zs, rfl, hks, hsw⟩
        · go_wp2_with fail
          go_meet
          refine hid ⟨_, 0, 1, _, [0], rfl, ⟨by decide, by decide, Bytes.of_mem (by simp), fun i hi => ?_⟩, wdW_zero.trans hsw, grown_alloc wr none _⟩
          obtain rfl : i = 0 := by omega
          exact row_cell (heap_alloc_new wr _) 0
        · have hns : ((ns : Int) == 0) = false := by have := hks.1; rw [beq_eq_false_iff_ne]; omega
          go_wp2_with fail
          go_meet
          refine hid ⟨g, o, ns, c2, zs, rfl, ?_, hsw, grown_drewN wr none 0⟩
          have hgl : g < gs := by rw [HGS.out]; exact block_lt_of_cell (hks.2.2.2 0 hks.1)
          exact ⟨hks.1, hks.2.1, hks.2.2.1, fun i hi => (grown_cell HE.out.2 (p := ⟨g, o + i, none⟩) (by have := H3.out.2.2.size; have := HE.out.2.size; simp; omega) (fun e => by have e : g = gs := Option.some.inj e; omega)).trans ((H3.out.2.2.cell (p := ⟨g, o + i, none⟩) (by simp; omega)).trans (hks.2.2.2 i hi))⟩
      case rest =>
        obtain ⟨gz, oz, nz, cz, zs, rfl, hkz, hsw, hgz⟩ := hcut.out
        have HZ := hid (And.intro hkz (And.intro hsw hgz))
        clear hkz hsw hgz hcut
        go_wp2_with fail
        refine Calls.mono (cycle_any gz oz nz cz 1042 zs wc HZ.out.1 (by decide)) ?_
        rintro e w5 ⟨v, rfl, hv, hb5⟩
        obtain ⟨g2, ca2, rfl, hg2, hg2l, HD2⟩ := own_wds hv (by decide)
        rw [HZ.out.2.1] at HD2
        have hl3 : gs < g2 := by have := HZ.out.2.2.size; have := HE.out.2.size; omega
        have hsb : ∀ m, sw m < 4294967296 := fun m => by rw [← HZ.out.2.1]; exact wdW_lt HZ.out.1.2.2.1 m
        have HSB := hid hsb
        have H5 : Hid (ExFS w5 gs (keyT t kw 18) sw 0 0 0 w5 ∧ Room w5 gr ∧ Below gs w w5) := hid (by
          have q := H3.out.2.2.size
          have q2 := HE.out.2.size
          have q3 := HZ.out.2.2.size
          refine ⟨⟨_, rfl, ?_, ⟨rfl, rfl, rfl, Nat.le_refl _, fun _ _ _ => rfl⟩⟩, ?_, ?_⟩
          · exact (HE.out.1.grown HZ.out.2.2 (by simp)).below hb5 (by omega)
          · exact ((H3.out.2.1.grown HE.out.2 (fun e => by have e : gr = gs := Option.some.inj e; omega)).grown HZ.out.2.2 (by simp)).below hb5 (by omega)
          · exact ((H3.out.2.2.grown HE.out.2 (by rw [HGS.out]; exact H3.out.2.2.size) (fun k e => by injection e with e; omega)).grown HZ.out.2.2 (by omega) (by simp)).trans (hb5.mono (by omega)))
        clear hsb hv hb5 hg2 HZ H3 HE
        go_wp2_with fail
        go_loopw [10, 11, 12] (fun l r i wr => ∃ A B I : Nat, A < 4294967296 ∧ B < 4294967296 ∧ 2 * I ≤ 1042 ∧ l = .int .u32 (A : Nat) ∧ r = .int .u32 (B : Nat) ∧ i = .int .i64 ((2 * I : Nat) : Int) ∧ Hid (ExFS w5 gs (keyT t kw 18) sw I A B wr)) (fun _ _ i _ => 1042 - (intOf i).toNat)
        case atStart => exact ⟨0, 0, 0, by decide, by decide, by decide, rfl, rfl, rfl, hid H5.out.1⟩
        case round =>
          obtain ⟨A, B, I, hA, hB, hI, rfl, rfl, rfl, hE⟩ := hrel
          obtain ⟨i, hi⟩ : ∃ i, i = 2 * I := ⟨_, rfl⟩
          rw [← hi]
          by_cases hlt : i < 1042
          · have hi1 : i + 1 < 1042 := by omega
            obtain ⟨T, hT, hET⟩ := hE.out
            have HT := hid (And.intro hT hET)
            clear hT hET
            have c1 := (grown_cell HT.out.2.2 (p := ⟨g2, i, none⟩) hg2l (fun e => by have e : g2 = gs := Option.some.inj e; omega)).trans (HD2.out i hlt)
            have c2' := (grown_cell HT.out.2.2 (p := ⟨g2, i + 1, none⟩) hg2l (fun e => by have e : g2 = gs := Option.some.inj e; omega)).trans (HD2.out (i + 1) hi1)
            have b1 := HSB.out i
            have b2 := HSB.out (i + 1)
            have HI := hid hi
            clear hi
            obtain ⟨X0, hX0⟩ : ∃ X, X = sw i := ⟨_, rfl⟩
            obtain ⟨Y0, hY0⟩ : ∃ X, X = sw (i + 1) := ⟨_, rfl⟩
            rw [← hX0] at c1 b1
            rw [← hY0] at c2' b2
            have e1 := u32_xor_nat A X0 hA b1
            have e2 := u32_xor_nat B Y0 hB b2
            obtain ⟨X, hX⟩ : ∃ X, X = A ^^^ X0 := ⟨_, rfl⟩
            obtain ⟨Y, hY⟩ : ∃ X, X = B ^^^ Y0 := ⟨_, rfl⟩
            have bX : X < 4294967296 := by rw [hX]; exact xor_lt32 hA b1
            have bY : Y < 4294967296 := by rw [hY]; exact xor_lt32 hB b2
            rw [← hX] at e1
            rw [← hY] at e2
            have HXY : Hid (X = A ^^^ sw (2 * I) ∧ Y = B ^^^ sw (2 * I + 1)) := hid (by rw [hX, hY, hX0, hY0, ← HI.out]; exact ⟨rfl, rfl⟩)
            clear hX hY hX0 hY0
            have i1 : (i : Int) + 1 < 1042 := by omega
            obtain ⟨ba, bb⟩ := bf_lt HT.out.2.1 bX bY
            obtain ⟨a, ha⟩ : ∃ a, a = bfL T X Y := ⟨_, rfl⟩
            obtain ⟨b, hb⟩ : ∃ a, a = bfR T X Y := ⟨_, rfl⟩
            rw [← ha] at ba
            rw [← hb] at bb
            have HAB := hid (And.intro ha hb)
            clear ha hb
            go_upto_region 13 with fail
            go_quiet (((go_at_call 17); exact crypt_quiet bX bY HT.out.2.1 HAB.out))
            clear c1 c2' e1 e2
            have f1 : wr.frozen? ⟨gs, i, none⟩ = false := HT.out.2.1.free _
            have f2 : wr.frozen? ⟨gs, i + 1, none⟩ = false := HT.out.2.1.free _
            have d1 : wr.cell? ⟨gs, i, none⟩ = _ := HT.out.2.1.cell (i := i) (by omega)
            have d2 : wr.cell? ⟨gs, i + 1, none⟩ = _ := HT.out.2.1.cell (i := i + 1) (by omega)
            by_cases h18 : i < 18
            · have i2 : (i : Int) + 1 < 18 := by have := HI.out; omega
              go_wp2_with fail
              go_roundw
              case rel => exact ⟨a, b, I + 1, ba, bb, by have := HI.out; omega, rfl, rfl, congrArg _ (by have := HI.out; omega), by exact hid (ExFS.set HT.out.1 HT.out.2 HXY.out.1 HXY.out.2 ba bb HAB.out.1 HAB.out.2 (by exact rfl) (by exact rfl) (by have := HI.out; omega) (by have := HI.out; omega))⟩
              case measure => simp only [intOf]; omega
            · obtain ⟨k, hk⟩ : ∃ k, k = i - 18 := ⟨_, rfl⟩
              have k0 : (18 : Int) ≤ (i : Int) := by omega
              have ek : (i : Int) - 18 = (k : Int) := by omega
              have p1 : (18 + (i - 18) / 256 * 256 + (i - 18) % 256) = i := by omega
              have p2 : (18 + (i - 18) / 256 * 256 + ((i - 18) % 256 + 1)) = i + 1 := by omega
              have q1 : (i - 18) / 256 < 4 := by omega
              have q2 : (i - 18) % 256 + 1 < 256 := by have := HI.out; omega
              have z1 : wr.frozen? ⟨gs, 18 + (i - 18) / 256 * 256 + (i - 18) % 256, none⟩ = false := HT.out.2.1.free _
              have z2 : wr.frozen? ⟨gs, 18 + (i - 18) / 256 * 256 + ((i - 18) % 256 + 1), none⟩ = false := HT.out.2.1.free _
              have d3 : wr.cell? ⟨gs, 18 + (i - 18) / 256 * 256 + (i - 18) % 256, none⟩ = _ := HT.out.2.1.cell (i := 18 + (i - 18) / 256 * 256 + (i - 18) % 256) (by omega)
              have d4 : wr.cell? ⟨gs, 18 + (i - 18) / 256 * 256 + ((i - 18) % 256 + 1), none⟩ = _ := HT.out.2.1.cell (i := 18 + (i - 18) / 256 * 256 + ((i - 18) % 256 + 1)) (by omega)
              have HP := hid (And.intro p1 p2)
              clear p1 p2 f1 f2 d1 d2
              go_upto_region 17 with fail
              go_region
              all_goals
                go_wp2_with fail
                go_roundw
                case rel => exact ⟨a, b, I + 1, ba, bb, by have := HI.out; omega, rfl, rfl, congrArg _ (by have := HI.out; omega), by first | exact hid (ExFS.set HT.out.1 HT.out.2 HXY.out.1 HXY.out.2 ba bb HAB.out.1 HAB.out.2 (by exact rfl) (by exact rfl) (HP.out.1.trans HI.out) (HP.out.2.trans (by rw [HI.out]))) | exact hid (ExFS.set' HT.out.1 HT.out.2 HXY.out.1 HXY.out.2 ba bb HAB.out.1 HAB.out.2 (by exact rfl) (by exact rfl) (HP.out.1.trans HI.out) (HP.out.2.trans (by rw [HI.out])))⟩
                case measure => simp only [intOf]; omega
          · have HE5 : Hid (ExFS w5 gs (keyT t kw 18) sw 521 A B wr) := hid (by
              have e : I = 521 := by omega
              rw [← e]
              exact hE.out)
            have hi3 : ¬ ((i : Int) < 1042) := by omega
            clear hi hE hI
            obtain ⟨T, hT, hET⟩ := HE5.out
            have HR := hid (H5.out.2.1.grown hET.2 (fun e => by have e : gr = gs := Option.some.inj e; omega))
            have HG := hid (H5.out.2.2.grown hET.2 (by rw [HGS.out]; exact H5.out.2.2.size) (fun k e => by injection e with e; omega))
            have HT := hid hET.1
            have HF : Hid (expT t kw sw = T) := hid (by rw [expT, hT])
            clear hT hET HE5
            go_wp2_with (first
              | ((with_reducible refine atOp (o := ⟨some 89, _, _, _, _, _⟩) ?_); refine wpList_load_sta rfl (.tmp 3) rfl gs rfl T HT.out ?_; intro cs2 hcs2)
              | ((with_reducible refine atOp (o := ⟨none, .store _ (.tmp 6) _, _, _, _, _⟩) ?_); refine wpList_store_sta rfl (.tmp 6) (.tmp 89) rfl gr cs2 rfl rfl T hcs2.out HR.out ?_; intro w7 hr7 hs7 hg7))
            refine bodyPost_staF rfl rfl rfl (by rw [HF.out]; exact hr7.out) ?_
            rw [← HGS.out]
            exact HG.out.grown hg7.out (by rw [HGS.out]; exact HG.out.size) (fun k e => by injection e with e; omega)
#print axioms specExpand_any
end Go.Proofs.YthmjkcnmmlemgaaDoor
