/-
  GenerateFromPassword and impl.Hash: the whole text of a password of at most 72 bytes and a cost of 4 to 10; a longer password is refused; nothing that was there turns.
-/
import Derived.Test.YtmglaaejobbbiaaDoorHashM
namespace Go.Proofs.YtmglaaejobbbiaaDoor
open Go.RowKit

/-- The text of a password. -/
def fullL (t M : Nat → Nat) (xs ss : List Nat) (k : Nat) : List Nat := hashL k (signs ss) (signs (rawL t M xs ss k))
theorem signs_lt {xs : List Nat} : ∀ j, j < (signs xs).length → byteAt (signs xs) j < 256 := by
  intro j hj
  have hm : j < (8 * xs.length + 5) / 6 := by rwa [signs_length] at hj
  rw [signs_at hm]
  unfold sg
  rcases Nat.lt_or_ge (six xs j) 64 with h6 | h6
  · exact sg_lt _ h6
  · rw [List.getD_eq_getElem?_getD, List.getElem?_eq_none (by simpa [alphaL] using h6)]
    decide
theorem own_bts' {w : World} {base g n cap : Nat} {xs : List Nat} (h : Own w base (.slice (some ⟨g, 0, none⟩) n cap) (signs xs)) (hl : (signs xs).length = n) : Bts w g n (signs xs) := by
  subst hl
  exact fun j hj => ⟨signs_lt j hj, h.cells j hj⟩

def GenPost (L : List Nat) (w : World) (e : Ending) (w' : World) : Prop := ∃ v, e = .returned (.tuple #[v, .nilIface]) ∧ Own w' w.heap.size v L ∧ w.grownBy w' none

set_option maxHeartbeats 1000000 in
theorem generate_any (a : Option Addr) (n c k rb ro rc : Nat) (xs ss : List Nat) (t M : Nat → Nat) (w : World) (hn : n ≤ 72) (hnc : n ≤ c) (hnone : a = none → c = 0) (hk : 4 ≤ k) (hk2 : k ≤ 31) (hsrc : Src w a n xs) (hss : ss.length = 16) (hsb : Bytes ss)
    (hr : ∀ j, j < 16 → w.cell? ⟨rb, ro + j, none⟩ = some (.int .u8 (byteAt ss j : Nat))) (hg : Glob w t) (hgb : globTop ≤ w.heap.size) (hm : Mag w M) :
    Calls Tryd.prog 8 #[.slice a n c, .int .i64 (k : Nat), .slice (some ⟨rb, ro, none⟩) 16 rc] w (GenPost (fullL t M xs ss k) w) := by
  have H := hid (newFromPassword_any a n c k rb ro rc xs ss t M w hn hnc hnone hk hk2 hsrc hss hsb hr hg hgb hm)
  have d1 : ¬ ((72 : Int) < (n : Int)) := by omega
  have hs1 : (signs ss).length = 22 := by rw [signs_length, hss]
  have hs2 : (signs (rawL t M xs ss k)).length = 31 := by simp [signs_length, rawL]
  have HL := hid (And.intro hs1 hs2)
  clear hsrc hss hsb hr hg hm hs1 hs2
  go_enter Tryd.func8, Tryd.ntmps8
  go_wp2_with fail
  refine H.out.mono ?_
  rintro e w1 ⟨gp, u, s, hgp, rfl, hrow, hu, hs, hg1⟩
  obtain ⟨gh, ch, _, rfl, _, _, _, _, _, _, _⟩ := hu.form (by rw [HL.out.2]; decide)
  obtain ⟨gs, cs, _, rfl, _, _, _, _, _, _, _⟩ := hs.form (by rw [HL.out.1]; decide)
  rw [HL.out.2] at hrow hu
  rw [HL.out.1] at hrow hs
  have H1 := hid (And.intro hrow (And.intro (own_bts' hs HL.out.1) (And.intro (own_bts' hu HL.out.2) hg1)))
  clear hrow hu hs hg1
  go_wp2_with fail
  refine (hashM_any gp gh ch gs cs k (signs ss) (signs (rawL t M xs ss k)) w1 hk2 HL.out.1 HL.out.2 H1.out.1 H1.out.2.1 H1.out.2.2.1).mono ?_
  rintro e w2 ⟨v, rfl, hv, hg2⟩
  have H2 := hid (And.intro (hv.mono H1.out.2.2.2.size) (grown_trans H1.out.2.2.2 hg2))
  clear hv hg2
  go_wp2_with fail
  go_ret2
  exact ⟨v, rfl, H2.out.1, H2.out.2⟩

def tooLong : Value := .iface 39 (.agg #[])
set_option maxHeartbeats 1000000 in
theorem generate_long (a : Option Addr) (n c : Nat) (x y : Value) (w : World) (hn : 72 < n) :
    Calls Tryd.prog 8 #[.slice a n c, x, y] w fun e w' => e = .returned (.tuple #[.slice none 0 0, .iface 39 (.agg #[])]) ∧ w = w' := by
  have d1 : (72 : Int) < (n : Int) := by omega
  go_enter Tryd.func8, Tryd.ntmps8
  go_wp2_with fail
  go_ret2
  exact ⟨rfl, rfl⟩

theorem own_src {w : World} {base n c : Nat} {a : Option Addr} {xs : List Nat} (h : Own w base (.slice a n c) xs) (hl : xs.length = n) (hx : Bytes xs) : Src w a n xs ∧ n ≤ c ∧ (a = none → c = 0) := by
  subst hl
  rcases h.2 with ⟨h', h0⟩ | ⟨g, cap, cur, h', hbg, hg, hnc, hcm, hcs, ht⟩
  · simp only [Value.slice.injEq] at h'
    obtain ⟨rfl, h1, rfl⟩ := h'
    exact ⟨⟨rfl, .inl h1⟩, by omega, fun _ => rfl⟩
  · simp only [Value.slice.injEq, true_and] at h'
    obtain ⟨rfl, rfl⟩ := h'
    exact ⟨⟨rfl, .inr ⟨g, 0, rfl, row_lt hg, hx, h.cells⟩⟩, hnc, fun e => by cases e⟩
theorem src_bytes {w : World} {a : Option Addr} {n : Nat} {xs : List Nat} (h : Src w a n xs) : Bytes xs := SrcB.bytes h
theorem Mag.grown {w w' : World} {M : Nat → Nat} (h : Mag w M) (hg : w.grownBy w' none) : Mag w' M := fun i hi => ⟨(h i hi).1, (grown_cell hg (block_lt_of_cell (h i hi).2) (by simp)).trans (h i hi).2⟩

def ImplHPost (L : List Nat) (w : World) (e : Ending) (w' : World) : Prop := ∃ v, e = .returned (.tuple #[v, .bool true]) ∧ Own w' w.heap.size v L ∧ w.grownBy w' none

set_option maxHeartbeats 1000000 in
theorem implHash_any (a b : Option Addr) (n c d k : Nat) (xs ss : List Nat) (t M : Nat → Nat) (w : World) (hn : n ≤ 72) (hk : 4 ≤ k) (hk2 : k ≤ 10) (hsrc : Src w a n xs) (hsalt : Src w b 16 ss) (hg : Glob w t) (hgb : globTop ≤ w.heap.size) (hm : Mag w M) :
    Calls Tryd.prog 5 #[.slice a n c, .int .i64 (k : Nat), .slice b 16 d] w (ImplHPost (fullL t M xs ss k) w) := by
  have HC := hid (And.intro (clone_src (c := c) hsrc (by omega)) (And.intro hsrc (And.intro hsalt (And.intro hg hm))))
  have d1 : ¬ ((10 : Int) < (k : Int)) := by omega
  clear hsrc hsalt hg hm
  go_enter Tryd.func5, Tryd.ntmps5
  go_wp2_with fail
  refine HC.out.1.mono ?_
  rintro e w1 ⟨v, rfl, h1, h2⟩
  obtain ⟨a1, c1, rfl⟩ := own_slice h1
  rw [HC.out.2.1.1] at h1 ⊢
  have H1 := hid (And.intro h1 (grown_of_below h2 none))
  clear h1 h2
  go_wp2_with fail
  refine (clone_src (c := d) (HC.out.2.2.1.below (below_of_grown H1.out.2 (Nat.le_refl _) (by simp))) (by decide)).mono ?_
  rintro e w2 ⟨v, rfl, h1, h2⟩
  have hg2 := grown_of_below h2 none
  obtain ⟨g, cap, cur, rfl, _, _, _, _, _, _, _⟩ := h1.form (by rw [HC.out.2.2.1.1]; decide)
  have hc := h1.cells
  rw [HC.out.2.2.1.1] at hc ⊢
  obtain ⟨s1, s2, s3⟩ := own_src (H1.out.1.grown hg2 (Classical.em _)) HC.out.2.1.1 (src_bytes HC.out.2.1)
  have H2 := hid (And.intro hc (And.intro (grown_trans H1.out.2 hg2) (And.intro s1 (And.intro s2 s3))))
  have hsz := (grown_trans H1.out.2 hg2).size
  clear h1 h2 hg2 hc s1 s2 s3
  go_wp2_with fail
  refine (generate_any a1 n c1 k g 0 cap xs ss t M w2 hn H2.out.2.2.2.1 H2.out.2.2.2.2 hk (by omega) H2.out.2.2.1 HC.out.2.2.1.1 (src_bytes HC.out.2.2.1) H2.out.1 (HC.out.2.2.2.1.grown H2.out.2.1 (by simp)) (Nat.le_trans hgb hsz) (HC.out.2.2.2.2.grown H2.out.2.1)).mono ?_
  rintro e w3 ⟨u, rfl, hu, hg3⟩
  have H3 := hid (And.intro (hu.mono hsz) (grown_trans H2.out.2.1 hg3))
  clear hu hg3
  go_wp2_with fail
  go_ret2
  exact ⟨u, rfl, H3.out.1, H3.out.2⟩

theorem long_not_nil (w : World) : (binOp .neq 30 (.iface 39 (.agg #[])) .nilIface).run Tryd.prog w = .ok (.bool true) w := by
  have he : ∀ d : Nat, (Op.equalIn (d + 1) 30 (.iface 39 (.agg #[])) .nilIface).run Tryd.prog w = .ok false w := fun d => by simp [Op.equalIn, run_underlying Tryd.underlying30]
  simp only [binOp]
  simp [Op.equal, Op.maxDepth, he 9999]

set_option maxHeartbeats 1000000 in
theorem implHash_long (a b : Option Addr) (n c d k : Nat) (xs ss : List Nat) (w : World) (hn : 72 < n) (hn2 : n ≤ 1024) (hk2 : k ≤ 10) (hsrc : Src w a n xs) (hsalt : Src w b 16 ss) :
    Calls Tryd.prog 5 #[.slice a n c, .int .i64 (k : Nat), .slice b 16 d] w fun e w' => e = .returned (.tuple #[.slice none 0 0, .bool false]) ∧ w.grownBy w' none := by
  have hq := long_not_nil
  have HC := hid (And.intro (clone_src (c := c) hsrc (by omega)) (And.intro hsrc hsalt))
  have d1 : ¬ ((10 : Int) < (k : Int)) := by omega
  clear hsrc hsalt
  go_enter Tryd.func5, Tryd.ntmps5
  go_wp2_with fail
  refine HC.out.1.mono ?_
  rintro e w1 ⟨v, rfl, h1, h2⟩
  obtain ⟨a1, c1, rfl⟩ := own_slice h1
  rw [HC.out.2.1.1] at h1 ⊢
  have H1 := hid (And.intro h1 (grown_of_below h2 none))
  clear h1 h2
  go_wp2_with fail
  refine (clone_src (c := d) (HC.out.2.2.below (below_of_grown H1.out.2 (Nat.le_refl _) (by simp))) (by decide)).mono ?_
  rintro e w2 ⟨v, rfl, h1, h2⟩
  have H2 := hid (grown_trans H1.out.2 (grown_of_below h2 none))
  clear h1 h2
  go_wp2_with fail
  refine (generate_long a1 n c1 (.int .i64 (k : Nat)) v w2 hn).mono ?_
  rintro e w3 ⟨rfl, rfl⟩
  go_wp2_with fail
  go_ret2
  exact ⟨rfl, H2.out⟩
#print axioms implHash_any
#print axioms implHash_long
end Go.Proofs.YtmglaaejobbbiaaDoor
