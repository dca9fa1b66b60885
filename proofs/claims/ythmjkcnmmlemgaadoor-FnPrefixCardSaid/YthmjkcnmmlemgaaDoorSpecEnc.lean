/-
  spec.Encode: bit by bit, the signs of the bytes in new memory. For every slice of at most 2^20 bytes.
-/
import Derived.Test.YthmjkcnmmlemgaaDoorRow
import Derived.Test.YthmjkcnmmlemgaaDoorAlpha
import Derived.BigQuiet
import Derived.Deep.QuietTactic
namespace Go.Proofs.YthmjkcnmmlemgaaDoor
open Go.RowKit

def signsTo (xs : List Nat) (m : Nat) : List Nat := (List.range m).map fun m => sg (six xs m)
theorem signsTo_length (xs : List Nat) (m : Nat) : (signsTo xs m).length = m := by simp [signsTo]
theorem signsTo_succ (xs : List Nat) (m : Nat) : signsTo xs (m + 1) = signsTo xs m ++ [sg (six xs m)] := by simp [signsTo, List.range_succ]
theorem valsOf_append (xs ys : List Nat) : valsOf (xs ++ ys) = valsOf xs ++ valsOf ys := by simp [valsOf]

theorem one_new (w : World) (v : Value) (t : TypeId) : ∀ j u, [v][j]? = some u → (w.alloc (.cells #[v] t)).cell? ((⟨w.heap.size, 0, none⟩ : Addr).add j) = some u := by
  intro j u hu
  match j, hu with
  | 0, hu => simp at hu; subst hu; simp [Addr.add]
theorem one_one (k : IntKind) (x : Int) : ∀ u ∈ [Value.int k x], u.oneCell' = true := by
  intro u hu; simp at hu; subst hu; rfl
theorem own_to {w : World} {base m : Nat} {v : Value} {xs : List Nat} (h : Own w base v xs) (hl : xs.length = m) : w.ownsRow base 5 1 v m (valsOf xs) := by subst hl; exact h
theorem own_snoc {w : World} {base m : Nat} {v : Value} {xs : List Nat} {x : Nat} (h : w.ownsRow base 5 1 v (m + 1) (valsOf xs ++ [.int .u8 (x : Nat)])) (hl : xs.length = m) : Own w base v (xs ++ [x]) := by
  have e : (xs ++ [x]).length = m + 1 := by simp [hl]
  unfold Own
  rw [e, valsOf_append]
  exact h
theorem bit_of (x e : Nat) (h : x < 256) : bits BinOp.and IntKind.u8 ((x : Int) / 2 ^ e) 1 = ((x / 2 ^ e % 2 : Nat) : Int) := by
  have e1 : ((x : Int) / 2 ^ e) = ((x / 2 ^ e : Nat) : Int) := by simp
  have h2 : x / 2 ^ e ≤ x := Nat.div_le_self _ _
  rw [e1, show (1 : Int) = ((1 : Nat) : Int) from rfl, u8_and_nat _ _ (by omega) (by omega), nat_mask1]

set_option maxHeartbeats 4000000 in
set_option maxRecDepth 100000 in
theorem specEncode_any (b o n c : Nat) (xs : List Nat) (w : World) (hn2 : n ≤ 1048576) (hxl : xs.length = n) (hx : Bytes xs)
    (hs : ∀ j, j < n → w.cell? ⟨b, o + j, none⟩ = some (.int .u8 (byteAt xs j : Nat))) :
    Calls Tryd.prog 8 #[.slice (some ⟨b, o, none⟩) n c] w (OwnPost (signs xs) w) := by
  obtain ⟨i0, hi, hz0, hz1, hz2⟩ := info_parts infoByte
  obtain ⟨sl, hsl⟩ : ∃ sl, sl = (8 * n + 5) / 6 := ⟨_, rfl⟩
  have hsl3 : sl ≤ 1398102 := by omega
  have HXL := hid hxl
  have HX := hid hx
  have HS := hid hs
  have HSL := hid hsl
  clear hxl hs hx hsl
  go_enter Tryd.func8, Tryd.ntmps8
  go_wp2_with fail
  go_loopw [3, 4] (fun v i wr => ∃ m : Nat, m ≤ sl ∧ i = .int .i64 ((6 * m : Nat) : Int) ∧ Own wr w.heap.size v (signsTo xs m) ∧ Below w.heap.size w wr) (fun _ i _ => 6 * sl - (intOf i).toNat)
  case atStart => exact ⟨0, Nat.zero_le _, rfl, World.ownsRow_made w #[] 0 (Nat.le_refl _) (by decide) rfl, (Below.refl _ _).alloc (Nat.le_refl _) _⟩
  case round =>
    obtain ⟨m, hm, rfl, hown, hbel⟩ := hrel
    have H1 := hid (And.intro hown hbel)
    clear hown hbel
    by_cases hlt : m < sl
    · have h6 : 6 * m < 8 * n := by have := HSL.out; omega
      have hm2 : 6 * m ≤ 8388608 := by omega
      obtain ⟨i6, hi6⟩ : ∃ i, i = 6 * m := ⟨_, rfl⟩
      rw [← hi6] at h6 hm2
      rw [← hi6]
      have HI := hid hi6
      clear hi6
      go_wp2_with fail
      go_loop [5, 6] (fun a k => ∃ t : Nat, t ≤ 6 ∧ k = .int .i64 ((i6 + t : Nat) : Int) ∧ a = .int .i64 ((acc xs i6 t : Nat) : Int)) (fun _ k => i6 + 6 - (intOf k).toNat)
      case atStart => exact ⟨0, by omega, rfl, rfl⟩
      case round =>
        obtain ⟨t, ht, rfl, rfl⟩ := hrel
        by_cases ht6 : t < 6
        · have hacc := acc_le xs i6 t ht
          have hsucc : acc xs i6 (t + 1) = 2 * acc xs i6 t + bitAt xs (i6 + t) := rfl
          have HSU := hid hsucc
          clear hsucc
          obtain ⟨A, hA⟩ : ∃ A, A = acc xs i6 t := ⟨_, rfl⟩
          rw [← hA] at hacc
          rw [← hA]
          obtain ⟨k, hk⟩ : ∃ k, k = i6 + t := ⟨_, rfl⟩
          rw [← hk]
          have hklt : k < i6 + 6 := by omega
          have hkb : k ≤ 8388614 := by omega
          have HK := hid (And.intro hA hk)
          clear hA hk
          by_cases hin : k < 8 * n
          · have hc := (H1.out.2.cell (p := ⟨b, o + k / 8, none⟩) (block_lt_of_cell (HS.out (k / 8) (by omega)))).trans (HS.out (k / 8) (by omega))
            have hb8 := HX.out (k / 8)
            obtain ⟨x, hx⟩ : ∃ x, x = byteAt xs (k / 8) := ⟨_, rfl⟩
            rw [← hx] at hc hb8
            have HXX := hid hx
            clear hx
            have hidx : (k : Int) / 8 < (n : Int) := by omega
            have hbit := bit_of x (7 - k % 8) hb8
            obtain ⟨β, hβ⟩ : ∃ β, β = x / 2 ^ (7 - k % 8) % 2 := ⟨_, rfl⟩
            have hβ2 : β < 2 := by rw [hβ]; exact Nat.mod_lt _ (by decide)
            rw [← hβ] at hbit
            have HB := hid hβ
            clear hβ
            go_wp2_with fail
            go_round
            case rel =>
              refine ⟨t + 1, by omega, congrArg _ (by have := HK.out.2; omega), congrArg _ ?_⟩
              rw [HSU.out, ← HK.out.1, ← HK.out.2]
              have : bitAt xs k = β := by rw [HB.out, HXX.out]; rfl
              omega
            case measure => simp only [intOf]; omega
          · go_wp2_with fail
            go_round
            case rel =>
              refine ⟨t + 1, by omega, congrArg _ (by have := HK.out.2; omega), congrArg _ ?_⟩
              rw [HSU.out, ← HK.out.1, ← HK.out.2, bitAt_out (by rw [HXL.out]; omega)]
              omega
            case measure => simp only [intOf]; omega
        · obtain rfl : t = 6 := by omega
          have hsx := acc_six HX.out m
          rw [← HI.out] at hsx
          rw [hsx]
          have hs64 := six_lt HX.out m
          obtain ⟨y, hy⟩ : ∃ y, y = six xs m := ⟨_, rfl⟩
          rw [← hy] at hs64
          rw [← hy]
          have HY := hid hy
          have hsig := alphaB_at y hs64
          unfold alphaB at hsig
          clear hsx hy
          go_wp2_with ((with_reducible refine atOp (o := ⟨some 46, _, _, _, _, _⟩) ?_); refine wpList_append_own _ rfl (.tmp 42) (.tmp 45) 22 rfl w.heap.size 5 i0 (.int .u8 0) 1 1 Tryd.underlying22 hi hz0 hz1 hz2 rfl (by decide) u3 m (valsOf (signsTo xs m)) rfl (World.ownsRow.alloc (own_to H1.out.1 (signsTo_length xs m)) _) ⟨wr.heap.size, 0, none⟩ 1 1 [.int .u8 (sg y : Nat)] rfl rfl (one_new wr _ _) (one_one _ _) (by unfold maxLen; omega) (by omega) (by have := H1.out.2.size; simp; omega) ?_; intro v' w1 hown hgr _; have H2 := hid (And.intro hown hgr); clear hown hgr)
          go_roundw
          case rel =>
            refine ⟨m + 1, by omega, congrArg _ (by have := HI.out; omega), ?_, ?_⟩
            · rw [signsTo_succ, ← HY.out]
              exact own_snoc H2.out.1 (signsTo_length xs m)
            · refine (H1.out.2.alloc H1.out.2.size _).grown H2.out.2 (by have := H1.out.2.size; simp; omega) (fun k hk => ?_)
              exact (H1.out.1.lt k hk.symm.symm).1
          case measure => simp only [intOf]; have := HI.out; omega
    · obtain rfl : m = sl := by omega
      have hge : ¬ (6 * m < 8 * n) := by have := HSL.out; omega
      go_wp2_with fail
      go_ret
      refine ⟨_, rfl, ?_, H1.out.2⟩
      have e : signsTo xs m = signs xs := by unfold signsTo signs; rw [HSL.out, HXL.out]
      rw [← e]
      exact H1.out.1
#print axioms specEncode_any
end Go.Proofs.YthmjkcnmmlemgaaDoor
