/-
  The walk of the law FnShort: a text of fewer than 59 bytes is too short for Cost and for Compare; the law returns true; nothing that was there turns. Whatever the six open variables hold.
-/
import Derived.Test.YtbmgilgglfnnbaaDoorArg
namespace Go.Proofs.YtbmgilgglfnnbaaDoor
open Go.RowKit

def tooShort : Value := .iface 41 (.agg #[])

set_option maxHeartbeats 400000 in
theorem newFromHash_short (a : Option Addr) (n c : Nat) (w : World) (hn : n < 59) :
    Calls Tryd.prog 10 #[.slice a n c] w fun e w' => e = .returned (.tuple #[.pointer none, .iface 41 (.agg #[])]) ∧ w = w' := by
  go_enter Tryd.func10, Tryd.ntmps10
  go_wp2_with fail
  go_ret2
  exact ⟨rfl, rfl⟩

set_option maxHeartbeats 400000 in
theorem cost_short (a : Option Addr) (n c : Nat) (w : World) (hn : n < 59) :
    Calls Tryd.prog 6 #[.slice a n c] w fun e w' => e = .returned (.tuple #[.int .i64 0, .iface 41 (.agg #[])]) ∧ w = w' := by
  go_enter Tryd.func6, Tryd.ntmps6
  go_wp2_with fail
  refine (newFromHash_short a n c w hn).mono ?_
  rintro e w' ⟨rfl, rfl⟩
  go_wp2_with fail
  go_ret2
  exact ⟨rfl, rfl⟩

set_option maxHeartbeats 400000 in
theorem cahp_short (a : Option Addr) (n c : Nat) (v : Value) (w : World) (hn : n < 59) :
    Calls Tryd.prog 9 #[.slice a n c, v] w fun e w' => e = .returned (.iface 41 (.agg #[])) ∧ w = w' := by
  go_enter Tryd.func9, Tryd.ntmps9
  go_wp2_with fail
  refine (newFromHash_short a n c w hn).mono ?_
  rintro e w' ⟨rfl, rfl⟩
  go_wp2_with fail
  go_ret
  exact ⟨rfl, rfl⟩

theorem short_not_nil (w : World) : (binOp .eql 28 (.iface 41 (.agg #[])) .nilIface).run Tryd.prog w = .ok (.bool false) w := by
  have he : ∀ d : Nat, (Op.equalIn (d + 1) 28 (.iface 41 (.agg #[])) .nilIface).run Tryd.prog w = .ok false w := fun d => by simp [Op.equalIn, run_underlying Tryd.underlying28]
  simp only [binOp]
  simp [Op.equal, Op.maxDepth, he 9999]

theorem short_as_other (w : World) : (Instr.typeAssert (.iface 41 (.agg #[])) 28 40 true).run Tryd.prog w = .ok (.tuple #[.agg #[], .bool false]) w := by kernel_rfl
theorem short_as_short (w : World) : (Instr.typeAssert (.iface 41 (.agg #[])) 28 41 true).run Tryd.prog w = .ok (.tuple #[.agg #[], .bool true]) w := by kernel_rfl

set_option maxHeartbeats 400000 in
theorem coded_short (w : World) :
    Calls Tryd.prog 8 #[.iface 41 (.agg #[])] w fun e w' => e = .returned (.int .i64 2) ∧ w = w' := by
  have hq := short_not_nil
  have ha := short_as_other
  have hb := short_as_short
  go_enter Tryd.func8, Tryd.ntmps8
  go_wp2_with fail
  go_ret
  exact ⟨rfl, rfl⟩

set_option maxHeartbeats 400000 in
theorem implCost_short (a : Option Addr) (n c : Nat) (xs : List Nat) (w : World) (hn : n < 59) (hs : Src w a n xs) :
    Calls Tryd.prog 4 #[.slice a n c] w fun e w' => e = .returned (.tuple #[.int .i64 0, .int .i64 2]) ∧ Below w.heap.size w w' := by
  have HC := hid (And.intro hs.1 (clone_src (c := c) hs (by omega)))
  clear hs
  go_enter Tryd.func4, Tryd.ntmps4
  go_wp2_with fail
  refine HC.out.2.mono ?_
  rintro e w1 ⟨v, rfl, h1, h2⟩
  obtain ⟨a1, c1, rfl⟩ := own_slice h1
  have H1 := hid h2
  clear h1 h2
  rw [HC.out.1]
  go_wp2_with fail
  refine (cost_short a1 n c1 w1 hn).mono ?_
  rintro e w1' ⟨rfl, rfl⟩
  go_wp2_with fail
  refine (coded_short w1).mono ?_
  rintro e w1' ⟨rfl, rfl⟩
  go_wp2_with fail
  go_ret2
  exact ⟨rfl, H1.out⟩

set_option maxHeartbeats 400000 in
theorem implCompare_short (a b : Option Addr) (n c m d : Nat) (xs ys : List Nat) (w : World) (hn : n < 59) (hm : m ≤ 72) (hs : Src w a n xs) (ht : Src w b m ys) :
    Calls Tryd.prog 5 #[.slice a n c, .slice b m d] w fun e w' => e = .returned (.int .i64 2) ∧ Below w.heap.size w w' := by
  have HC := hid (And.intro hs.1 (And.intro (clone_src (c := c) hs (by omega)) (And.intro hs ht)))
  clear hs ht
  go_enter Tryd.func5, Tryd.ntmps5
  go_wp2_with fail
  refine HC.out.2.1.mono ?_
  rintro e w1 ⟨v, rfl, h1, h2⟩
  obtain ⟨a1, c1, rfl⟩ := own_slice h1
  have H1 := hid h2
  clear h1 h2
  rw [HC.out.1]
  go_wp2_with fail
  refine (cost_short a1 n c1 w1 hn).mono ?_
  rintro e w1' ⟨rfl, rfl⟩
  go_wp2_with fail
  refine (clone_src (c := c) (HC.out.2.2.1.below H1.out) (by omega)).mono ?_
  rintro e w2 ⟨v, rfl, h1, h2⟩
  obtain ⟨a2, c2, rfl⟩ := own_slice h1
  have H2 := hid (H1.out.trans (h2.mono H1.out.size))
  clear h1 h2
  rw [HC.out.1]
  go_wp2_with fail
  refine (clone_src (c := d) (HC.out.2.2.2.below H2.out) (by omega)).mono ?_
  rintro e w3 ⟨v, rfl, h1, h2⟩
  have H3 := hid (H2.out.trans (h2.mono H2.out.size))
  clear h1 h2
  go_wp2_with fail
  refine (cahp_short a2 n c2 v w3 hn).mono ?_
  rintro e w3' ⟨rfl, rfl⟩
  go_wp2_with fail
  refine (coded_short w3).mono ?_
  rintro e w3' ⟨rfl, rfl⟩
  go_wp2_with fail
  go_ret
  exact ⟨rfl, H3.out⟩

set_option maxHeartbeats 1000000 in
theorem lawShort_some (a b : Option Addr) (n c m d : Nat) (xs ys : List Nat) (w : World) (hn : n < 59) (hm : m ≤ 72) (hs : Src w a n xs) (ht : Src w b m ys) :
    Calls Tryd.prog 3 #[.slice a n c, .slice b m d] w (LawPost w) := by
  have d1 : decide ((2147483647 : Int) < (n : Int)) = false := by simp; omega
  have d2 : decide ((2147483647 : Int) < (m : Int)) = false := by simp; omega
  have d3 : decide ((58 : Int) < (n : Int)) = false := by simp; omega
  have d4 : decide ((72 : Int) < (m : Int)) = false := by simp; omega
  have H := hid (And.intro hs ht)
  clear hs ht
  go_enter Tryd.func3, Tryd.ntmps3
  go_wp2_with fail
  refine (implCost_short a n c xs w hn H.out.1).mono ?_
  rintro e w1 ⟨rfl, hb⟩
  have H1 := hid hb
  clear hb
  go_wp2_with fail
  refine (implCompare_short a b n c m d xs ys w1 hn hm (H.out.1.below H1.out) (H.out.2.below H1.out)).mono ?_
  rintro e w2 ⟨rfl, hb⟩
  have H2 := hid (H1.out.trans (hb.mono H1.out.size))
  clear hb
  go_wp2_with fail
  go_ret
  exact ⟨rfl, H2.out⟩

set_option maxHeartbeats 1000000 in
theorem lawShort_else (a b : Option Addr) (n c m d : Nat) (w : World) (h : 58 < n ∨ 72 < m) :
    Calls Tryd.prog 3 #[.slice a n c, .slice b m d] w (LawPost w) := by
  by_cases h1 : 2147483647 < n
  · have d1 : decide ((2147483647 : Int) < (n : Int)) = true := by simp; omega
    clear h
    go_enter Tryd.func3, Tryd.ntmps3
    go_wp2_with fail
    go_ret
    exact ⟨rfl, Below.refl _ _⟩
  · have d1 : decide ((2147483647 : Int) < (n : Int)) = false := by simp; omega
    by_cases h2 : 2147483647 < m
    · have d2 : decide ((2147483647 : Int) < (m : Int)) = true := by simp; omega
      clear h
      go_enter Tryd.func3, Tryd.ntmps3
      go_wp2_with fail
      go_ret
      exact ⟨rfl, Below.refl _ _⟩
    · have d2 : decide ((2147483647 : Int) < (m : Int)) = false := by simp; omega
      by_cases h3 : 58 < n
      · have d3 : decide ((58 : Int) < (n : Int)) = true := by simp; omega
        clear h
        go_enter Tryd.func3, Tryd.ntmps3
        go_wp2_with fail
        go_ret
        exact ⟨rfl, Below.refl _ _⟩
      · have d3 : decide ((58 : Int) < (n : Int)) = false := by simp; omega
        have d4 : decide ((72 : Int) < (m : Int)) = true := by simp; omega
        clear h
        go_enter Tryd.func3, Tryd.ntmps3
        go_wp2_with fail
        go_ret
        exact ⟨rfl, Below.refl _ _⟩

theorem lawShort_any (a b : Option Addr) (n c m d : Nat) (zs us : List Int) (w : World) (h : IsRow .u8 w a n c zs) (k : IsRow .u8 w b m d us) :
    Calls Tryd.prog 3 #[.slice a n c, .slice b m d] w (LawPost w) := by
  rcases (show (58 < n ∨ 72 < m) ∨ ¬ (58 < n ∨ 72 < m) from Classical.em _) with hb | hb
  · exact lawShort_else a b n c m d w hb
  · obtain ⟨xs, hs⟩ := h.src
    obtain ⟨ys, ht⟩ := k.src
    exact lawShort_some a b n c m d xs ys w (by omega) (by omega) hs ht
#print axioms lawShort_any
end Go.Proofs.YtbmgilgglfnnbaaDoor
