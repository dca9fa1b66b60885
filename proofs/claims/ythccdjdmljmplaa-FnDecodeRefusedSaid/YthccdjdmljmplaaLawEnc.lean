/-
  The walk of the law FnEncode: it returns true; nothing that was there turns.
-/
import Derived.Test.YthccdjdmljmplaaB64Enc
import Derived.Test.YthccdjdmljmplaaSpecEnc
namespace Go.Proofs.Ythccdjdmljmplaa
open Go.RowKit

/-- A slice of integers that came in: nil, or a row of 'cap' numbers of which the first 'len' are its elements. -/
def IsRow (k : IntKind) (w : World) (a : Option Addr) (len cap : Nat) (zs : List Int) : Prop :=
  (a = none ∧ len = 0 ∧ cap = 0 ∧ zs = []) ∨
  ∃ x, a = some x ∧ len ≤ cap ∧ cap ≤ maxLen ∧ zs.length = cap ∧ (∀ i, i < zs.length → w.cell? (x.add i) = some (.int k (zs.getD i 0))) ∧ ∀ n ∈ zs, (Lit.int k n).wf = true

theorem wf_u8 {n : Int} (h : (Lit.int .u8 n).wf = true) : 0 ≤ n ∧ n < 256 := by
  simp [Lit.wf, IntKind.min, IntKind.max, IntKind.signed, IntKind.bits] at h
  omega

theorem IsRow.bytes {w : World} {a : Option Addr} {len cap : Nat} {zs : List Int} (h : IsRow .u8 w a len cap zs) (hl : 0 < len) :
    ∃ b o xs, a = some ⟨b, o, none⟩ ∧ len ≤ cap ∧ xs.length = len ∧ Bytes xs ∧ ∀ j, j < len → w.cell? ⟨b, o + j, none⟩ = some (.int .u8 (byteAt xs j : Nat)) := by
  rcases h with ⟨_, h0, _⟩ | ⟨x, rfl, hlc, _, hz, hcell, hwf⟩
  · omega
  · obtain ⟨b, o, spot⟩ := x
    have hc := hcell 0 (by omega)
    have hspot : spot = none := by simpa [Addr.add] using World.cell?_spot hc
    subst hspot
    have hget : ∀ j, (hj : j < len) → zs.getD j 0 = ((zs[j]'(by omega)).toNat : Int) := by
      intro j hj
      have := wf_u8 (hwf _ (List.getElem_mem (show j < zs.length by omega)))
      rw [List.getD_eq_getElem?_getD, List.getElem?_eq_getElem (by omega)]
      simp only [Option.getD_some]
      omega
    refine ⟨b, o, (zs.take len).map Int.toNat, rfl, hlc, by simp; omega, Bytes.of_mem (fun y hy => ?_), fun j hj => ?_⟩
    · simp only [List.mem_map] at hy
      obtain ⟨z, hz', rfl⟩ := hy
      have := wf_u8 (hwf z (List.mem_of_mem_take hz'))
      omega
    · have hadd : (⟨b, o, none⟩ : Addr).add j = ⟨b, o + j, none⟩ := by unfold Addr.add; split <;> simp_all
      rw [← hadd, hcell j (by omega), hget j hj]
      have e : byteAt ((zs.take len).map Int.toNat) j = (zs[j]'(by omega)).toNat := by
        unfold byteAt
        rw [List.getD_eq_getElem?_getD, List.getElem?_map, List.getElem?_take, if_pos hj, List.getElem?_eq_getElem (by omega)]
        rfl
      rw [e]

set_option maxHeartbeats 400000 in
theorem implEncode_zero (a : Option Addr) (c : Nat) (w : World) :
    Calls Try.prog 7 #[.slice a 0 c] w fun e w' => e = .returned (.slice none 0 0) ∧ w = w' := by
  go_enter Try.func7, Try.ntmps7
  go_wp2_with fail
  go_ret
  exact ⟨rfl, rfl⟩

set_option maxHeartbeats 400000 in
theorem specEncode_zero (a : Option Addr) (c : Nat) (w : World) :
    Calls Try.prog 8 #[.slice a 0 c] w (OwnPost [] w) := by
  go_enter Try.func8, Try.ntmps8
  go_wp2_with fail
  refine wp_loop_rounds 1 ?_
  rw [rounds_succ]
  go_wp2_with fail
  go_ret
  exact ⟨_, rfl, World.ownsRow_made w #[] 0 (Nat.le_refl _) (by decide) rfl, (Below.refl _ _).alloc (Nat.le_refl _) _⟩

theorem text_nil (w : World) : (convert 22 9 (.slice none 0 0)).run Try.prog w = .ok (.string (textOf [])) w := by
  rw [run_convert_bytes_nil w 22 5 Try.underlying22 Try.underlying5 0 0 9 Try.underlying9]; rfl

def LawPost (w : World) (e : Ending) (w' : World) : Prop := e = .returned (.bool true) ∧ Below w.heap.size w w'

/-- The law's last limb: the one byte 0 becomes two signs. -/
theorem one_zero (w : World) : ∀ j, j < 1 → (w.alloc (.cells #[.int .u8 0] 5)).cell? ⟨w.heap.size, 0 + j, none⟩ = some (.int .u8 (byteAt [0] j : Nat)) := by
  intro j hj
  obtain rfl : j = 0 := by omega
  simp [byteAt]

/-- The end of both ways: 'impl.Encode([]byte{0})' has two signs. -/
theorem zero_call (w : World) : Calls Try.prog 7 #[.slice (some ⟨w.heap.size, 0, none⟩) 1 1] (w.alloc (.cells #[.int .u8 0] 5)) fun e w' =>
    ∃ g cap, e = .returned (.slice (some ⟨g, 0, none⟩) 2 cap) ∧ Below w.heap.size w w' := by
  refine (implEncode_any w.heap.size 0 1 1 [0] (w.alloc (.cells #[.int .u8 0] 5)) (by omega) (by omega) (Nat.le_refl 1) rfl (Bytes.of_mem (fun x hx => by simp at hx; omega)) (one_zero w)).mono ?_
  rintro e w' ⟨v, rfl, ho, hb⟩
  have hl : (signs [0]).length = 2 := by rw [signs_length]; rfl
  obtain ⟨g, cap, cur, rfl, _⟩ := ho.form (by omega)
  rw [hl]
  exact ⟨g, cap, rfl, ((Below.refl w.heap.size w).alloc (Nat.le_refl _) _).trans (hb.mono (by simp))⟩

set_option maxHeartbeats 1000000 in
theorem lawEncode_some (b o n c : Nat) (xs : List Nat) (w : World) (hn : 0 < n) (hn2 : n ≤ 1024) (hnc : n ≤ c) (hxl : xs.length = n) (hx : Bytes xs)
    (hs : ∀ j, j < n → w.cell? ⟨b, o + j, none⟩ = some (.int .u8 (byteAt xs j : Nat))) :
    Calls Try.prog 3 #[.slice (some ⟨b, o, none⟩) n c] w (LawPost w) := by
  have hbl : b < w.heap.size := block_lt_of_cell (hs 0 hn)
  have HX := hid (And.intro hxl (And.intro hx hs))
  have d1 : decide ((2147483647 : Int) < (n : Int)) = false := by simp; omega
  have d2 : decide ((1024 : Int) < (n : Int)) = false := by simp; omega
  clear hxl hx hs
  go_enter Try.func3, Try.ntmps3
  go_wp2_with fail
  refine (implEncode_any b o n c xs w hn (by omega) hnc HX.out.1 HX.out.2.1 HX.out.2.2).mono ?_
  rintro e w1 ⟨v1, rfl, ho1, hb1⟩
  have H1 := hid (And.intro ho1 hb1)
  clear ho1 hb1
  go_wp2_with fail
  refine (specEncode_any b o n c xs w1 (by omega) HX.out.1 HX.out.2.1 (fun j hj => (H1.out.2.cell (p := ⟨b, o + j, none⟩) hbl).trans (HX.out.2.2 j hj))).mono ?_
  rintro e w2 ⟨v2, rfl, ho2, hb2⟩
  have H2 := hid (And.intro (H1.out.1.below hb2) (And.intro (ho2.mono H1.out.2.size) (H1.out.2.trans (hb2.mono H1.out.2.size))))
  clear ho2 hb2
  go_wp2_with fail
  refine (same_true v1 v2 (textOf (signs xs)) w2 (text_of_own H2.out.1) (text_of_own H2.out.2.1)).mono ?_
  rintro e w2' ⟨rfl, rfl⟩
  go_wp2_with fail
  refine (zero_call w2).mono ?_
  rintro e w3 ⟨g, cap, rfl, hb3⟩
  have H3 := hid (H2.out.2.2.trans (hb3.mono H2.out.2.2.size))
  clear hb3
  go_wp2_with fail
  go_ret
  exact ⟨rfl, H3.out⟩

set_option maxHeartbeats 1000000 in
theorem lawEncode_zero (a : Option Addr) (c : Nat) (w : World) :
    Calls Try.prog 3 #[.slice a 0 c] w (LawPost w) := by
  go_enter Try.func3, Try.ntmps3
  go_wp2_with fail
  refine (implEncode_zero a c w).mono ?_
  rintro e w1 ⟨rfl, rfl⟩
  go_wp2_with fail
  refine (specEncode_zero a c w).mono ?_
  rintro e w2 ⟨v2, rfl, ho2, hb2⟩
  have H2 := hid (And.intro ho2 hb2)
  clear ho2 hb2
  go_wp2_with fail
  refine (same_true (.slice none 0 0) v2 (textOf []) w2 (text_nil w2) (text_of_own H2.out.1)).mono ?_
  rintro e w2' ⟨rfl, rfl⟩
  go_wp2_with fail
  refine (zero_call w2).mono ?_
  rintro e w3 ⟨g, cap, rfl, hb3⟩
  have H3 := hid (H2.out.2.trans (hb3.mono H2.out.2.size))
  clear hb3
  go_wp2_with fail
  go_ret
  exact ⟨rfl, H3.out⟩

set_option maxHeartbeats 1000000 in
theorem lawEncode_long (a : Option Addr) (n c : Nat) (w : World) (hn : 1024 < n) :
    Calls Try.prog 3 #[.slice a n c] w (LawPost w) := by
  have d2 : decide ((1024 : Int) < (n : Int)) = true := by simp; omega
  by_cases hb : 2147483647 < n
  · have d1 : decide ((2147483647 : Int) < (n : Int)) = true := by simp; omega
    go_enter Try.func3, Try.ntmps3
    go_wp2_with fail
    go_ret
    exact ⟨rfl, Below.refl _ _⟩
  · have d1 : decide ((2147483647 : Int) < (n : Int)) = false := by simp; omega
    go_enter Try.func3, Try.ntmps3
    go_wp2_with fail
    go_ret
    exact ⟨rfl, Below.refl _ _⟩

theorem lawEncode_any (a : Option Addr) (len cap : Nat) (zs : List Int) (w : World) (h : IsRow .u8 w a len cap zs) :
    Calls Try.prog 3 #[.slice a len cap] w (LawPost w) := by
  rcases Nat.lt_or_ge 1024 len with hb | hb
  · exact lawEncode_long a len cap w hb
  · rcases Nat.eq_zero_or_pos len with rfl | h0
    · exact lawEncode_zero a cap w
    · obtain ⟨b, o, xs, rfl, hlc, hxl, hx, hs⟩ := h.bytes h0
      exact lawEncode_some b o len cap xs w h0 hb hlc hxl hx hs

#print axioms lawEncode_any
end Go.Proofs.Ythccdjdmljmplaa
