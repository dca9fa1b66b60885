/-
  The six package variables that a row leaves open, as the walks read them: whatever numbers of 32 bits the tables hold, whatever bytes the text.
-/
import Derived.Test.YtmglaaejobbbiaaDoorRaw
import Derived.OpenVars
import Derived.OpenShut
import Derived.ChangeArms
namespace Go.Proofs.YtmglaaejobbbiaaDoor
open Go.RowKit

theorem block_ints {H : Type} {P : Program} {W : World} {enc : TypeId × Value → H} {base : Nat} {spare : Nat → Bool} {held : Bool} {fuel n g : Nat} {name : String} {t e : TypeId} {k : IntKind} {cs : Array Value} {x : DataW H × List MemPlace}
    (hu : P.underlying t = some (.array n e)) (he : P.underlying e = some (.int k)) (hce : P.cellsOf e = 1) (hg : P.globalNamed name = some g) (h : W.var? P name = some cs) (ht : DataW.trod enc P W base spare held fuel t cs.toList = some x) :
    ∀ i, i < n → ∃ z : Int, (Lit.int k z).wf = true ∧ W.cell? ⟨g, i, none⟩ = some (.int k z) := by
  intro i hi
  obtain ⟨xs, m, rfl, _, hl, hxl, hx⟩ := DataW.trod_array hu ht
  have hxi := hx i hi
  rw [hce, Nat.mul_one, List.getElem?_eq_getElem (by omega)] at hxi
  obtain ⟨z, hz, _, hw⟩ := DataW.trod_int he hxi
  refine ⟨z, hw, ?_⟩
  unfold World.var? at h
  rw [hg] at h
  simp only [Option.bind_some] at h
  cases hb : W.heap[g]? with
  | none => rw [hb] at h; cases h
  | some o =>
    rw [hb] at h
    cases o with
    | cells cs' t' fr =>
      simp only [Option.some.injEq] at h
      subst h
      rw [cell_of_row W g i cs' t' fr hb]
      have e1 := congrArg (fun l => l[0]?) hz
      simp only [List.getElem?_take, List.getElem?_drop] at e1
      simpa using e1
    | _ => cases h
theorem nums_of {W : World} {g n : Nat} (h : ∀ i, i < n → ∃ z : Int, (Lit.int .u32 z).wf = true ∧ W.cell? ⟨g, i, none⟩ = some (.int .u32 z)) : ∃ f : Nat → Nat, ∀ i, i < n → f i < 4294967296 ∧ W.cell? ⟨g, i, none⟩ = some (.int .u32 (f i : Nat)) := by
  have h' : ∀ i, ∃ z : Nat, i < n → z < 4294967296 ∧ W.cell? ⟨g, i, none⟩ = some (.int .u32 (z : Nat)) := by
    intro i
    by_cases hi : i < n
    · obtain ⟨z, hw, hc⟩ := h i hi
      simp [Lit.wf, IntKind.min, IntKind.max, IntKind.signed, IntKind.bits] at hw
      exact ⟨z.toNat, fun _ => ⟨by omega, by rw [Int.toNat_of_nonneg (by omega)]; exact hc⟩⟩
    · exact ⟨0, fun h => absurd h hi⟩
  exact ⟨fun i => (h' i).choose, fun i hi => (h' i).choose_spec hi⟩
theorem bytes_of {W : World} {g n : Nat} (h : ∀ i, i < n → ∃ z : Int, (Lit.int .u8 z).wf = true ∧ W.cell? ⟨g, i, none⟩ = some (.int .u8 z)) : ∃ f : Nat → Nat, ∀ i, i < n → f i < 256 ∧ W.cell? ⟨g, i, none⟩ = some (.int .u8 (f i : Nat)) := by
  have h' : ∀ i, ∃ z : Nat, i < n → z < 256 ∧ W.cell? ⟨g, i, none⟩ = some (.int .u8 (z : Nat)) := by
    intro i
    by_cases hi : i < n
    · obtain ⟨z, hw, hc⟩ := h i hi
      simp [Lit.wf, IntKind.min, IntKind.max, IntKind.signed, IntKind.bits] at hw
      exact ⟨z.toNat, fun _ => ⟨by omega, by rw [Int.toNat_of_nonneg (by omega)]; exact hc⟩⟩
    · exact ⟨0, fun h => absurd h hi⟩
  exact ⟨fun i => (h' i).choose, fun i hi => (h' i).choose_spec hi⟩
/-- Five tables as one. -/
def tab5 (p a b c d : Nat → Nat) : Nat → Nat := fun i => if i < 18 then p i else if i < 274 then a (i - 18) else if i < 530 then b (i - 274) else if i < 786 then c (i - 530) else d (i - 786)
theorem glob_of {W : World} {p a b c d : Nat → Nat}
    (h1 : ∀ i, i < 18 → p i < 4294967296 ∧ W.cell? ⟨1, i, none⟩ = some (.int .u32 (p i : Nat)))
    (h2 : ∀ i, i < 256 → a i < 4294967296 ∧ W.cell? ⟨2, i, none⟩ = some (.int .u32 (a i : Nat)))
    (h3 : ∀ i, i < 256 → b i < 4294967296 ∧ W.cell? ⟨3, i, none⟩ = some (.int .u32 (b i : Nat)))
    (h4 : ∀ i, i < 256 → c i < 4294967296 ∧ W.cell? ⟨4, i, none⟩ = some (.int .u32 (c i : Nat)))
    (h5 : ∀ i, i < 256 → d i < 4294967296 ∧ W.cell? ⟨5, i, none⟩ = some (.int .u32 (d i : Nat))) : Glob W (tab5 p a b c d) := by
  have e1 : ∀ i, i < 18 → tab5 p a b c d (0 + i) = p i := fun i hi => by unfold tab5; rw [if_pos (by omega), Nat.zero_add]
  have e2 : ∀ i, i < 256 → tab5 p a b c d (18 + i) = a i := fun i hi => by unfold tab5; rw [if_neg (by omega), if_pos (by omega), Nat.add_sub_cancel_left]
  have e3 : ∀ i, i < 256 → tab5 p a b c d (274 + i) = b i := fun i hi => by unfold tab5; rw [if_neg (by omega), if_neg (by omega), if_pos (by omega), Nat.add_sub_cancel_left]
  have e4 : ∀ i, i < 256 → tab5 p a b c d (530 + i) = c i := fun i hi => by unfold tab5; rw [if_neg (by omega), if_neg (by omega), if_neg (by omega), if_pos (by omega), Nat.add_sub_cancel_left]
  have e5 : ∀ i, i < 256 → tab5 p a b c d (786 + i) = d i := fun i hi => by unfold tab5; rw [if_neg (by omega), if_neg (by omega), if_neg (by omega), if_neg (by omega), Nat.add_sub_cancel_left]
  exact ⟨fun i hi => by rw [e1 i hi]; exact h1 i hi, fun i hi => by rw [e2 i hi]; exact h2 i hi, fun i hi => by rw [e3 i hi]; exact h3 i hi, fun i hi => by rw [e4 i hi]; exact h4 i hi, fun i hi => by rw [e5 i hi]; exact h5 i hi⟩

/-- Out of the row's reading: the six variables. -/
theorem open_of {H : Type} {enc : TypeId × Value → H} {W : World} {sp : Nat → Bool} {gs : List (DataW H)} {q : List MemPlace} {more : List String}
    (h : DataW.TrodVars enc Tryd.prog W sp (["loop.example/pub-g03046/pub/crypto/bcrypt.magicCipherData", "loop.example/pub-g03046/pub/crypto/blowfish.p", "loop.example/pub-g03046/pub/crypto/blowfish.s0", "loop.example/pub-g03046/pub/crypto/blowfish.s1", "loop.example/pub-g03046/pub/crypto/blowfish.s2", "loop.example/pub-g03046/pub/crypto/blowfish.s3"] ++ more) gs q) :
    ∃ t M, Glob W t ∧ Mag W M := by
  have step : ∀ {n : String} {ns : List String} {gs : List (DataW H)} {q : List MemPlace}, DataW.TrodVars enc Tryd.prog W sp (n :: ns) gs q →
      (∃ g t cs fuel x, Tryd.prog.globalNamed n = some g ∧ (Tryd.prog.globals[g]?).map (·.type) = some t ∧ W.var? Tryd.prog n = some cs ∧ DataW.trod enc Tryd.prog W 0 sp true fuel t cs.toList = some x) ∧ ∃ gs' q', DataW.TrodVars enc Tryd.prog W sp ns gs' q' := by
    intro n ns gs q h
    cases gs with
    | nil => exact h.elim
    | cons d ds =>
      obtain ⟨g, t, cs, fuel, p, q', h1, h2, h3, h4, hs, _⟩ := h
      exact ⟨⟨g, t, cs, fuel, _, h1, h2, h3, h4⟩, ds, q', hs⟩
  obtain ⟨⟨g0, t0, c0, f0, x0, a0, b0, v0, r0⟩, _, _, k0⟩ := step h
  obtain ⟨⟨g1, t1, c1, f1, x1, a1, b1, v1, r1⟩, _, _, k1⟩ := step k0
  obtain ⟨⟨g2, t2, c2, f2, x2, a2, b2, v2, r2⟩, _, _, k2⟩ := step k1
  obtain ⟨⟨g3, t3, c3, f3, x3, a3, b3, v3, r3⟩, _, _, k3⟩ := step k2
  obtain ⟨⟨g4, t4, c4, f4, x4, a4, b4, v4, r4⟩, _, _, k4⟩ := step k3
  obtain ⟨⟨g5, t5, c5, f5, x5, a5, b5, v5, r5⟩, _, _, k5⟩ := step k4
  obtain rfl : g0 = 0 := Option.some.inj (a0.symm.trans (show Tryd.prog.globalNamed "loop.example/pub-g03046/pub/crypto/bcrypt.magicCipherData" = some 0 by kernel_rfl))
  obtain rfl : g1 = 1 := Option.some.inj (a1.symm.trans (show Tryd.prog.globalNamed "loop.example/pub-g03046/pub/crypto/blowfish.p" = some 1 by kernel_rfl))
  obtain rfl : g2 = 2 := Option.some.inj (a2.symm.trans (show Tryd.prog.globalNamed "loop.example/pub-g03046/pub/crypto/blowfish.s0" = some 2 by kernel_rfl))
  obtain rfl : g3 = 3 := Option.some.inj (a3.symm.trans (show Tryd.prog.globalNamed "loop.example/pub-g03046/pub/crypto/blowfish.s1" = some 3 by kernel_rfl))
  obtain rfl : g4 = 4 := Option.some.inj (a4.symm.trans (show Tryd.prog.globalNamed "loop.example/pub-g03046/pub/crypto/blowfish.s2" = some 4 by kernel_rfl))
  obtain rfl : g5 = 5 := Option.some.inj (a5.symm.trans (show Tryd.prog.globalNamed "loop.example/pub-g03046/pub/crypto/blowfish.s3" = some 5 by kernel_rfl))
  obtain rfl : t0 = 53 := Option.some.inj (b0.symm.trans (by kernel_rfl))
  obtain rfl : t1 = 78 := Option.some.inj (b1.symm.trans (by kernel_rfl))
  obtain rfl : t2 = 79 := Option.some.inj (b2.symm.trans (by kernel_rfl))
  obtain rfl : t3 = 79 := Option.some.inj (b3.symm.trans (by kernel_rfl))
  obtain rfl : t4 = 79 := Option.some.inj (b4.symm.trans (by kernel_rfl))
  obtain rfl : t5 = 79 := Option.some.inj (b5.symm.trans (by kernel_rfl))
  obtain ⟨M, hM⟩ := bytes_of (block_ints (n := 24) Tryd.underlying53 Tryd.underlying5 (by kernel_rfl) a0 v0 r0)
  obtain ⟨p, hp⟩ := nums_of (block_ints (n := 18) Tryd.underlying78 Tryd.underlying57 (by kernel_rfl) a1 v1 r1)
  obtain ⟨s0, hs0⟩ := nums_of (block_ints (n := 256) Tryd.underlying79 Tryd.underlying57 (by kernel_rfl) a2 v2 r2)
  obtain ⟨s1, hs1⟩ := nums_of (block_ints (n := 256) Tryd.underlying79 Tryd.underlying57 (by kernel_rfl) a3 v3 r3)
  obtain ⟨s2, hs2⟩ := nums_of (block_ints (n := 256) Tryd.underlying79 Tryd.underlying57 (by kernel_rfl) a4 v4 r4)
  obtain ⟨s3, hs3⟩ := nums_of (block_ints (n := 256) Tryd.underlying79 Tryd.underlying57 (by kernel_rfl) a5 v5 r5)
  exact ⟨_, M, glob_of hp hs0 hs1 hs2 hs3, hM⟩
/-- The variables' blocks are there. -/
theorem glob_top {W : World} {t : Nat → Nat} (h : Glob W t) : globTop ≤ W.heap.size := by
  obtain ⟨h1, h2, h3, h4, h5⟩ := h
  have b1 : 1 < W.heap.size := block_lt_of_cell (h1 0 (by decide)).2
  have b2 : 2 < W.heap.size := block_lt_of_cell (h2 0 (by decide)).2
  have b3 : 3 < W.heap.size := block_lt_of_cell (h3 0 (by decide)).2
  have b4 : 4 < W.heap.size := block_lt_of_cell (h4 0 (by decide)).2
  have b5 : 5 < W.heap.size := block_lt_of_cell (h5 0 (by decide)).2
  unfold globTop
  omega
#print axioms open_of
end Go.Proofs.YtmglaaejobbbiaaDoor
