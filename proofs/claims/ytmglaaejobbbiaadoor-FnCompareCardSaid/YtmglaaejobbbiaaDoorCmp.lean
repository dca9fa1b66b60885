/-
  CompareHashAndPassword and impl.Compare of the text that a password has: no error; nothing that was there turns.
-/
import Derived.Test.YtmglaaejobbbiaaDoorCostC
import Derived.Test.YtmglaaejobbbiaaDoorGen
import Derived.BigRegion
namespace Go.Proofs.YtmglaaejobbbiaaDoor
open Go.RowKit

theorem byte_sign {xs : List Nat} : Bytes (signs xs) := Bytes.of_mem fun y hy => by
  obtain ⟨i, hi, rfl⟩ := List.mem_iff_getElem.1 hy
  have := signs_lt (xs := xs) i hi
  unfold byteAt at this
  rwa [List.getD_eq_getElem?_getD, List.getElem?_eq_getElem hi] at this
theorem head_hash {k : Nat} {S A : List Nat} (hk : k ≤ 31) (hS : S.length = 22) (hA : A.length = 31) (bS : Bytes S) (bA : Bytes A) : Head (hashL k S A) 50 (k / 10) (k % 10) := by
  refine ⟨hashL_length hS hA, Bytes.of_mem fun y hy => ?_, rfl, rfl, rfl, rfl, rfl, by omega, by omega⟩
  unfold hashL at hy
  rcases List.mem_append.1 hy with hy | hy
  · simp at hy
    omega
  · rcases List.mem_append.1 hy with hy | hy
    · exact bS.mem y hy
    · exact bA.mem y hy
theorem hash_salt {k : Nat} {S A : List Nat} (hS : S.length = 22) : ∀ j, j < 22 → byteAt (hashL k S A) (7 + j) = byteAt S j := by
  intro j hj
  unfold hashL
  rw [byteAt_append, if_neg (by simp), byteAt_append, if_pos (by simp; omega)]
  congr 1
  simp
theorem hash_tail {k : Nat} {S A : List Nat} (hS : S.length = 22) : ∀ j, j < 31 → byteAt (hashL k S A) (29 + j) = byteAt A j := by
  intro j hj
  unfold hashL
  rw [byteAt_append, if_neg (by simp; omega), byteAt_append, if_neg (by simp; omega)]
  congr 1
  simp
  omega
/-- What newFromHash has laid of a text, as the walks read it. -/
theorem laid_salt {w : World} {gs k : Nat} {ss A : List Nat} (hs : ss.length = 16) (h : BRow w gs 24 (putL (fun _ => 0) 0 22 (fun j => byteAt (hashL k (signs ss) A) (7 + j)))) : Own w gs (.slice (some ⟨gs, 0, none⟩) 22 24) (signs ss) := by
  obtain ⟨cs, hr, hz, hc⟩ := h
  refine Own.mk (Nat.le_refl _) hr (by rw [signs_length, hs]) (by decide) (by decide) hz (fun j hj => ?_)
  have e := (hc j (by omega)).2
  unfold putL at e
  rw [if_pos (by omega), Nat.sub_zero] at e
  dsimp only at e
  rw [hash_salt (by rw [signs_length, hs]) j hj] at e
  exact e
theorem laid_tail {w : World} {gh k : Nat} {S A : List Nat} (hS : S.length = 22) (bA : Bytes A) (h : BRow w gh 31 (putL (fun _ => 0) 0 31 (fun j => byteAt (hashL k S A) (29 + j)))) : Bts w gh 31 A := by
  intro j hj
  refine ⟨bA j, ?_⟩
  rw [Nat.zero_add, h.cell hj]
  unfold putL
  rw [if_pos (by omega), Nat.sub_zero]
  dsimp only
  rw [hash_tail hS j hj]

theorem own_text {w w' : World} {base : Nat} {v : Value} {xs : List Nat} (h : Own w base v xs) (hg : w.grownBy w' none) : (convert 22 9 v).run Tryd.prog w' = .ok (.string (textOf xs)) w' := text_of_own (h.grown hg (Classical.em _))

/-- A guard for a contract at one call's arguments: 'with_reducible refine atArgs (args := ..) ?_' fails at once at any other call. -/
theorem atArgs {P : Program} {f : FuncId} {args : Array Value} {w : World} {Q : Ending → World → Prop} (h : Calls P f args w Q) : Calls P f args w Q := h
/-- Two '*hashed' of one salt and of the same signs lie there. -/
def Pair (w0 w : World) (gp gq gs gh gu cu k : Nat) (S A : List Nat) : Prop :=
  HRow w gp (.slice (some ⟨gh, 0, none⟩) 31 31) (.slice (some ⟨gs, 0, none⟩) 22 24) k 50 97 ∧ HRow w gq (.slice (some ⟨gu, 0, none⟩) 31 cu) (.slice (some ⟨gs, 0, none⟩) 22 24) k 50 97 ∧ Bts w gs 22 S ∧ Bts w gh 31 A ∧ Bts w gu 31 A ∧ w0.grownBy w none
theorem Pair.grown {w0 w w' : World} {gp gq gs gh gu cu k : Nat} {S A : List Nat} (h : Pair w0 w gp gq gs gh gu cu k S A) (hg : w.grownBy w' none) : Pair w0 w' gp gq gs gh gu cu k S A :=
  ⟨h.1.grown hg (by simp), h.2.1.grown hg (by simp), h.2.2.1.grown hg (by simp), h.2.2.2.1.grown hg (by simp), h.2.2.2.2.1.grown hg (by simp), grown_trans h.2.2.2.2.2 hg⟩
theorem pair_box {w0 w : World} {gp gs gh gu cu k : Nat} {S A : List Nat} (h1 : HRow w gp (.slice (some ⟨gh, 0, none⟩) 31 31) (.slice (some ⟨gs, 0, none⟩) 22 24) k 50 97) (h2 : Bts w gs 22 S) (h3 : Bts w gh 31 A) (h4 : Bts w gu 31 A) (h5 : w0.grownBy w none) :
    Pair w0 (w.alloc (.cells #[.slice (some ⟨gu, 0, none⟩) 31 cu, .slice (some ⟨gs, 0, none⟩) 22 24, .int .i64 (k : Nat), .int .u8 50, .int .u8 97] 46)).drew gp w.heap.size gs gh gu cu k S A := by
  have hg : w.grownBy (w.alloc (.cells #[.slice (some ⟨gu, 0, none⟩) 31 cu, .slice (some ⟨gs, 0, none⟩) 22 24, .int .i64 (k : Nat), .int .u8 50, .int .u8 97] 46)).drew none := grown_trans (grown_alloc w none _) (grown_drew _ none)
  exact ⟨h1.grown hg (by simp), heap_alloc_new w _, h2.grown hg (by simp), h3.grown hg (by simp), h4.grown hg (by simp), grown_trans h5 hg⟩

set_option maxHeartbeats 8000000 in
set_option maxRecDepth 100000 in
theorem compare_ok (g c : Nat) (a : Option Addr) (n d k : Nat) (xs ss : List Nat) (t M : Nat → Nat) (w : World) (hb : Bts w g 60 (fullL t M xs ss k)) (hc : 60 ≤ c) (hn : n ≤ 72) (hnd : n ≤ d) (hnone : a = none → d = 0) (hk : 4 ≤ k) (hk2 : k ≤ 31) (hsrc : Src w a n xs) (hss : ss.length = 16) (hsb : Bytes ss)
    (hg : Glob w t) (hgb : globTop ≤ w.heap.size) (hm : Mag w M) :
    Calls Tryd.prog 12 #[.slice (some ⟨g, 0, none⟩) 60 c, .slice a n d] w fun e w' => e = .returned .nilIface ∧ w.grownBy w' none := by
  have hs1 : (signs ss).length = 22 := by rw [signs_length, hss]
  have hs2 : (signs (rawL t M xs ss k)).length = 31 := by simp [signs_length, rawL]
  have hh := head_hash (k := k) hk2 hs1 hs2 byte_sign byte_sign
  have ek : 10 * (k / 10) + k % 10 = k := by omega
  have HN := newFromHash_ok g c (k / 10) (k % 10) 50 (fullL t M xs ss k) w hb hc hh.2.2.2.2.2.2.2.1 hh.2.2.2.2.2.2.2.2 hh.2.2.1 hh.2.2.2.1 (by decide) hh.2.2.2.2.1 hh.2.2.2.2.2.1 hh.2.2.2.2.2.2.1 (by omega) (by omega)
  rw [ek] at HN
  have H := hid (And.intro HN (And.intro hsrc (And.intro hss (And.intro hsb (And.intro hg (And.intro hm (And.intro hs1 hs2)))))))
  clear HN hb hsrc hss hsb hg hm hs1 hs2 hh ek hc
  go_enter Tryd.func12, Tryd.ntmps12
  go_wp2_with fail
  refine H.out.1.mono ?_
  rintro e w1 ⟨gp, gs, gh, hgp, hps, hsh, hghl, rfl, hr, hbs, hbh, hg1⟩
  have H1 : Hid (HRow w1 gp (.slice (some ⟨gh, 0, none⟩) 31 31) (.slice (some ⟨gs, 0, none⟩) 22 24) k 50 97 ∧ Own w1 gs (.slice (some ⟨gs, 0, none⟩) 22 24) (signs ss) ∧ Bts w1 gh 31 (signs (rawL t M xs ss k)) ∧ w.grownBy w1 none) :=
    hid ⟨hr, laid_salt H.out.2.2.1 hbs, laid_tail H.out.2.2.2.2.2.2.1 byte_sign hbh, hg1⟩
  have K1 : Hid (SrcB gs w1 a n xs ∧ Glob w1 t ∧ Mag w1 M) := hid ⟨(H.out.2.1.srcB.below (below_of_grown hg1 (Nat.le_refl _) (by simp)) (Nat.le_refl _)).mono (by omega), H.out.2.2.2.2.1.grown hg1 (by simp), H.out.2.2.2.2.2.1.grown hg1⟩
  have c1 : w1.cell? ⟨gp, 1, none⟩ = some (.slice (some ⟨gs, 0, none⟩) 22 24) := row_cell hr 1
  have c2 : w1.cell? ⟨gp, 2, none⟩ = some (.int .i64 (k : Nat)) := row_cell hr 2
  clear hr hbs hbh hg1
  go_upto_region 4 with fail
  go_cut [7, 6] from 17 to 29 (fun u er wx => er = .nilIface ∧ ∃ gu cu, u = .slice (some ⟨gu, 0, none⟩) 31 cu ∧ w1.heap.size ≤ gu ∧ gu < wx.heap.size ∧ Hid (HRow wx gp (.slice (some ⟨gh, 0, none⟩) 31 31) (.slice (some ⟨gs, 0, none⟩) 22 24) k 50 97 ∧ Bts wx gs 22 (signs ss) ∧ Bts wx gh 31 (signs (rawL t M xs ss k)) ∧ Bts wx gu 31 (signs (rawL t M xs ss k)) ∧ w.grownBy wx none))
  case first =>
    have hll : (signs (rawL t M xs ss k)).length = 31 := H.out.2.2.2.2.2.2.2
    go_region_with (go_at_call 16; go_loud (refine Calls.mono (raw_any a n d k gs (.slice (some ⟨gs, 0, none⟩) 22 24) xs ss t M w1.drew hn hnd hnone hk2 K1.out.1 H1.out.2.1 H.out.2.2.1 H.out.2.2.2.1 K1.out.2.1 (by omega) K1.out.2.2 (show gs ≤ w1.heap.size by omega)) ?_); rintro e w2 ⟨u, rfl, hu2, hs2, hg2⟩; obtain ⟨gu, cu, curu, rfl, hgu1, hgu2, _, _, _, _, _⟩ := hu2.form (by rw [hll]; decide); rw [hll] at hu2 ⊢; have H2 := hid (And.intro hu2 (And.intro hs2 hg2)); clear hu2 hs2 hg2)
    all_goals
      go_wp2_with fail
      go_meet
      have hgr : w1.grownBy w2 (some gs) := drew_grown H2.out.2.2
      exact ⟨rfl, gu, cu, rfl, hgu1, hgu2, hid ⟨H1.out.1.grown hgr (by simp; omega), own_bts' H2.out.2.1 H.out.2.2.2.2.2.2.1, H1.out.2.2.1.grown hgr (by simp; omega), own_bts' H2.out.1 hll, grown_new H1.out.2.2.2 hgr (by omega)⟩⟩
  case rest =>
    obtain ⟨rfl, gu, cu, rfl, hgu, hgul, H2⟩ := hcut
    obtain ⟨w2, hw2⟩ : ∃ w2 : World, w2 = wc := ⟨_, rfl⟩
    rw [← hw2] at H2 hgul ⊢
    clear hw2 H1 K1 c1 c2
    have c1 : w2.cell? ⟨gp, 1, none⟩ = some (.slice (some ⟨gs, 0, none⟩) 22 24) := row_cell H2.out.1 1
    have c2 : w2.cell? ⟨gp, 2, none⟩ = some (.int .i64 (k : Nat)) := row_cell H2.out.1 2
    have c3 : w2.cell? ⟨gp, 3, none⟩ = some (.int .u8 50) := row_cell H2.out.1 3
    have c4 : w2.cell? ⟨gp, 4, none⟩ = some (.int .u8 97) := row_cell H2.out.1 4
    go_upto_region 7 with fail
    go_cut [8] from 33 to 51 (fun v wx => ∃ gq, v = .pointer (some ⟨gq, 0, none⟩) ∧ Hid (Pair w wx gp gq gs gh gu cu k (signs ss) (signs (rawL t M xs ss k))))
    case first =>
      go_region
      all_goals
        go_wp2_with fail
        go_meet
        exact ⟨_, rfl, hid (pair_box H2.out.1 H2.out.2.1 H2.out.2.2.1 H2.out.2.2.2.1 H2.out.2.2.2.2)⟩
    case rest =>
      obtain ⟨gq, rfl, H3⟩ := hcut
      obtain ⟨w3, hw3⟩ : ∃ w3 : World, w3 = wc := ⟨_, rfl⟩
      rw [← hw3] at H3 ⊢
      clear hw3 H2 c1 c2 c3 c4
      have HS : Hid ((signs ss).length = 22 ∧ (signs (rawL t M xs ss k)).length = 31) := hid ⟨H.out.2.2.2.2.2.2.1, H.out.2.2.2.2.2.2.2⟩
      obtain ⟨st, hst⟩ : ∃ st, st = textOf (hashL k (signs ss) (signs (rawL t M xs ss k))) := ⟨_, rfl⟩
      have HST := hid hst
      clear hst
      go_upto_region 8 with fail
      go_region_with (go_at_call 14; go_loud (first
        | ((with_reducible refine atArgs (args := #[.pointer (some ⟨gp, 0, none⟩)]) ?_); refine Calls.mono (hashM_any gp gh 31 gs 24 k (signs ss) (signs (rawL t M xs ss k)) w3.drew hk2 HS.out.1 HS.out.2 H3.out.1 H3.out.2.2.1 H3.out.2.2.2.1) ?_; rintro e w4 ⟨v4, rfl, hv4, hg4⟩; have H4 := hid (H3.out.grown (drew_grown hg4)); have h4g := hid hg4; have hv4' := hid hv4; have t4 : (convert 22 9 v4).run Tryd.prog w4 = .ok (.string st) w4 := (by rw [HST.out]; exact text_of_own hv4); clear hv4 hg4)
        | ((with_reducible refine atArgs (args := #[.pointer (some ⟨gq, 0, none⟩)]) ?_); refine Calls.mono (hashM_any gq gu cu gs 24 k (signs ss) (signs (rawL t M xs ss k)) w4 hk2 HS.out.1 HS.out.2 H4.out.2.1 H4.out.2.2.1 H4.out.2.2.2.2.1) ?_; rintro e w5 ⟨v5, rfl, hv5, hg5⟩; have H5 := hid (H4.out.grown hg5); have t5 : (convert 22 9 v5).run Tryd.prog w5 = .ok (.string st) w5 := (by rw [HST.out]; exact text_of_own hv5); have t4' : (convert 22 9 v4).run Tryd.prog w5 = .ok (.string st) w5 := (by rw [HST.out]; exact own_text hv4'.out hg5); clear hv5 hg5)))
      all_goals
        go_wp2_with fail
        go_ret
        exact ⟨rfl, H5.out.2.2.2.2.2⟩
#print axioms compare_ok
end Go.Proofs.YtmglaaejobbbiaaDoor
