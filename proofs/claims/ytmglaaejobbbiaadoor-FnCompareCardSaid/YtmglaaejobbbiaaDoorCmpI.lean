/-
  impl.Compare of the text that a password has, at a cost of 4 to 10: zero; nothing that was there turns.
-/
import Derived.Test.YtmglaaejobbbiaaDoorCmp
namespace Go.Proofs.YtmglaaejobbbiaaDoor
open Go.RowKit

set_option maxHeartbeats 2000000 in
theorem implCompare_ok (g c : Nat) (a : Option Addr) (n d k : Nat) (xs ss : List Nat) (t M : Nat → Nat) (w : World) (hb : Bts w g 60 (fullL t M xs ss k)) (hn : n ≤ 72) (hk : 4 ≤ k) (hk2 : k ≤ 10) (hsrc : Src w a n xs) (hss : ss.length = 16) (hsb : Bytes ss)
    (hg : Glob w t) (hgb : globTop ≤ w.heap.size) (hm : Mag w M) :
    Calls Tryd.prog 7 #[.slice (some ⟨g, 0, none⟩) 60 c, .slice a n d] w fun e w' => e = .returned (.int .i64 0) ∧ w.grownBy w' none := by
  have hq := nil_is_nil
  have hs1 : (signs ss).length = 22 := by rw [signs_length, hss]
  have hs2 : (signs (rawL t M xs ss k)).length = 31 := by simp [signs_length, rawL]
  have hh := head_hash (k := k) (by omega) hs1 hs2 byte_sign byte_sign
  have ek : 10 * (k / 10) + k % 10 = k := by omega
  obtain ⟨T, hT⟩ : ∃ T, T = fullL t M xs ss k := ⟨_, rfl⟩
  have hhT : Head T 50 (k / 10) (k % 10) := by rw [hT]; exact hh
  rw [← hT] at hb
  have H := hid (And.intro hb (And.intro hsrc (And.intro hss (And.intro hsb (And.intro hg (And.intro hm hhT))))))
  have HE := hid (And.intro ek hT)
  have dk : decide ((10 : Int) < (k : Int)) = false := by simp; omega
  clear hb hsrc hss hsb hg hm hs1 hs2 hh ek hT hhT
  have HC := hid (clone_any g 0 60 c T w (by decide) H.out.2.2.2.2.2.2.1 (fun j hj => (H.out.1 j hj).2))
  go_enter Tryd.func7, Tryd.ntmps7
  go_wp2_with fail
  refine HC.out.mono ?_
  rintro e w1 ⟨v, rfl, h1, h2⟩
  obtain ⟨g1, c1, _, rfl, _, _, hlc, _, _, _, _⟩ := h1.form (by rw [H.out.2.2.2.2.2.2.1]; decide)
  rw [H.out.2.2.2.2.2.2.1] at h1 hlc ⊢
  have H1 := hid (And.intro (own_bts h1 H.out.2.2.2.2.2.2.1 H.out.2.2.2.2.2.2.2.1) (grown_of_below h2 none))
  clear h1 h2
  go_wp2_with fail
  refine (cost_ok g1 c1 (k / 10) (k % 10) 50 T w1 H1.out.1 hlc H.out.2.2.2.2.2.2 (by decide) (by omega) (by omega)).mono ?_
  rw [HE.out.1]
  rintro e w2 ⟨rfl, hg2⟩
  have H2 := hid (grown_trans H1.out.2 hg2)
  clear hg2
  go_wp2_with fail
  refine (clone_any g 0 60 c T w2 (by decide) H.out.2.2.2.2.2.2.1 (fun j hj => ((H.out.1.grown H2.out (by simp)) j hj).2)).mono ?_
  rintro e w3 ⟨v, rfl, h1, h2⟩
  obtain ⟨g3, c3, _, rfl, _, _, hlc3, _, _, _, _⟩ := h1.form (by rw [H.out.2.2.2.2.2.2.1]; decide)
  rw [H.out.2.2.2.2.2.2.1] at h1 hlc3 ⊢
  have H3 := hid (And.intro (own_bts h1 H.out.2.2.2.2.2.2.1 H.out.2.2.2.2.2.2.2.1) (grown_trans H2.out (grown_of_below h2 none)))
  clear h1 h2
  go_wp2_with fail
  refine (clone_src (c := d) (H.out.2.1.below (below_of_grown H3.out.2 (Nat.le_refl _) (by simp))) (by omega)).mono ?_
  rintro e w4 ⟨v, rfl, h1, h2⟩
  have hg4 := grown_of_below h2 none
  obtain ⟨a4, c4, rfl⟩ := own_slice h1
  rw [H.out.2.1.1] at h1 ⊢
  obtain ⟨s1, s2, s3⟩ := own_src h1 H.out.2.1.1 (src_bytes H.out.2.1)
  have H4 := hid (And.intro (H3.out.1.grown hg4 (by simp)) (And.intro (grown_trans H3.out.2 hg4) (And.intro s1 (And.intro s2 s3))))
  have hsz := (grown_trans H3.out.2 hg4).size
  clear h1 h2 hg4 s1 s2 s3
  go_wp2_with fail
  refine (compare_ok g3 c3 a4 n c4 k xs ss t M w4 (by rw [← HE.out.2]; exact H4.out.1) hlc3 hn H4.out.2.2.2.1 H4.out.2.2.2.2 hk (by omega) H4.out.2.2.1 H.out.2.2.1 H.out.2.2.2.1 (H.out.2.2.2.2.1.grown H4.out.2.1 (by simp)) (Nat.le_trans hgb hsz) (H.out.2.2.2.2.2.1.grown H4.out.2.1)).mono ?_
  rintro e w5 ⟨rfl, h5⟩
  have H5 := hid (grown_trans H4.out.2.1 h5)
  clear h5
  go_wp2_with fail
  refine (coded_nil w5).mono ?_
  rintro e w5' ⟨rfl, rfl⟩
  go_wp2_with fail
  go_ret
  exact ⟨rfl, H5.out⟩
#print axioms implCompare_ok
end Go.Proofs.YtmglaaejobbbiaaDoor
