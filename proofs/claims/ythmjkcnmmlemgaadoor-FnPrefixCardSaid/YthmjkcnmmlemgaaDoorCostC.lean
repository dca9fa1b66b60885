/-
  bcrypt.Cost and impl.Cost of a text whose cost is 4 to 31: that cost, and no error; nothing that was there turns.
-/
import Derived.Test.YthmjkcnmmlemgaaDoorNewH
import Derived.Test.YthmjkcnmmlemgaaDoorArg
namespace Go.Proofs.YthmjkcnmmlemgaaDoor
open Go.RowKit

/-- How a text of sixty bytes begins: '$', a version, 'a', a byte, two digits. -/
def Head (T : List Nat) (vv q r : Nat) : Prop := T.length = 60 ∧ Bytes T ∧ byteAt T 0 = 36 ∧ byteAt T 1 = vv ∧ byteAt T 2 = 97 ∧ byteAt T 4 = 48 + q ∧ byteAt T 5 = 48 + r ∧ q < 10 ∧ r < 10

set_option maxHeartbeats 1000000 in
theorem cost_ok (g c q r vv : Nat) (T : List Nat) (w : World) (hb : Bts w g 60 T) (hc : 60 ≤ c) (hh : Head T vv q r) (hv : vv ≤ 50) (hk1 : 4 ≤ 10 * q + r) (hk2 : 10 * q + r ≤ 31) :
    Calls Tryd.prog 12 #[.slice (some ⟨g, 0, none⟩) 60 c] w fun e w' => e = .returned (.tuple #[.int .i64 ((10 * q + r : Nat) : Int), .nilIface]) ∧ w.grownBy w' none := by
  have H := hid (newFromHash_ok g c q r vv T w hb hc hh.2.2.2.2.2.2.2.1 hh.2.2.2.2.2.2.2.2 hh.2.2.1 hh.2.2.2.1 hv hh.2.2.2.2.1 hh.2.2.2.2.2.1 hh.2.2.2.2.2.2.1 hk1 hk2)
  obtain ⟨k, hk⟩ : ∃ k, k = 10 * q + r := ⟨_, rfl⟩
  rw [← hk] at H ⊢
  clear hb hh hk1 hk2 hk
  go_enter Tryd.func12, Tryd.ntmps12
  go_wp2_with fail
  refine H.out.mono ?_
  rintro e w1 ⟨gp, gs, gh, _, _, _, _, rfl, hr, _, _, hg⟩
  have c2 : w1.cell? ⟨gp, 2, none⟩ = some (.int .i64 (k : Nat)) := row_cell hr 2
  have H1 := hid hg
  clear hr hg
  go_wp2_with fail
  go_ret2
  exact ⟨rfl, H1.out⟩

theorem nil_is_nil (w : World) : (binOp .eql 40 .nilIface .nilIface).run Tryd.prog w = .ok (.bool true) w := by
  have he : ∀ d : Nat, (Op.equalIn (d + 1) 40 .nilIface .nilIface).run Tryd.prog w = .ok true w := fun d => by simp [Op.equalIn, run_underlying Tryd.underlying40]
  simp only [binOp]
  simp [Op.equal, Op.maxDepth, he 9999]

set_option maxHeartbeats 400000 in
theorem coded_nil (w : World) :
    Calls Tryd.prog 14 #[.nilIface] w fun e w' => e = .returned (.int .i64 0) ∧ w = w' := by
  have hq := nil_is_nil
  go_enter Tryd.func14, Tryd.ntmps14
  go_wp2_with fail
  go_ret
  exact ⟨rfl, rfl⟩

set_option maxHeartbeats 1000000 in
theorem implCost_ok (g c q r vv : Nat) (T : List Nat) (w : World) (hb : Bts w g 60 T) (hh : Head T vv q r) (hv : vv ≤ 50) (hk1 : 4 ≤ 10 * q + r) (hk2 : 10 * q + r ≤ 31) :
    Calls Tryd.prog 7 #[.slice (some ⟨g, 0, none⟩) 60 c] w fun e w' => e = .returned (.tuple #[.int .i64 ((10 * q + r : Nat) : Int), .int .i64 0]) ∧ w.grownBy w' none := by
  have HC := hid (And.intro (clone_any g 0 60 c T w (by decide) hh.1 (fun j hj => (hb j hj).2)) hh)
  clear hb hh
  go_enter Tryd.func7, Tryd.ntmps7
  go_wp2_with fail
  refine HC.out.1.mono ?_
  rintro e w1 ⟨v, rfl, h1, h2⟩
  obtain ⟨g1, c1, _, rfl, _, _, hlc, _, _, _, _⟩ := h1.form (by rw [HC.out.2.1]; decide)
  rw [HC.out.2.1] at h1 hlc ⊢
  have H1 := hid (And.intro (own_bts h1 HC.out.2.1 HC.out.2.2.1) (grown_of_below h2 none))
  clear h1 h2
  go_wp2_with fail
  refine (cost_ok g1 c1 q r vv T w1 H1.out.1 hlc HC.out.2 hv hk1 hk2).mono ?_
  rintro e w2 ⟨rfl, hg2⟩
  have H2 := hid (grown_trans H1.out.2 hg2)
  clear hg2
  go_wp2_with fail
  refine (coded_nil w2).mono ?_
  rintro e w2' ⟨rfl, rfl⟩
  go_wp2_with fail
  go_ret2
  exact ⟨rfl, H2.out⟩
#print axioms implCost_ok
end Go.Proofs.YthmjkcnmmlemgaaDoor
