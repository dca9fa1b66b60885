/-
  The five tables that a row leaves open, as the walks read them.
-/
import Derived.Test.YthmjkcnmmlemgaaDoorVarsB
namespace Go.Proofs.YthmjkcnmmlemgaaDoor
open Go.RowKit

/-- Out of the row's reading: the five tables. -/
theorem open_of5 {H : Type} {enc : TypeId × Value → H} {W : World} {sp : Nat → Bool} {gs : List (DataW H)} {q : List MemPlace} {more : List String}
    (h : DataW.TrodVars enc Tryd.prog W sp (["loop.example/pub-g03046/pub/crypto/blowfish.p", "loop.example/pub-g03046/pub/crypto/blowfish.s0", "loop.example/pub-g03046/pub/crypto/blowfish.s1", "loop.example/pub-g03046/pub/crypto/blowfish.s2", "loop.example/pub-g03046/pub/crypto/blowfish.s3"] ++ more) gs q) :
    ∃ t, Glob W t := by
  have step : ∀ {n : String} {ns : List String} {gs : List (DataW H)} {q : List MemPlace}, DataW.TrodVars enc Tryd.prog W sp (n :: ns) gs q →
      (∃ g t cs fuel x, Tryd.prog.globalNamed n = some g ∧ (Tryd.prog.globals[g]?).map (·.type) = some t ∧ W.var? Tryd.prog n = some cs ∧ DataW.trod enc Tryd.prog W 0 sp true fuel t cs.toList = some x) ∧ ∃ gs' q', DataW.TrodVars enc Tryd.prog W sp ns gs' q' := by
    intro n ns gs q h
    cases gs with
    | nil => exact h.elim
    | cons d ds =>
      obtain ⟨g, t, cs, fuel, p, q', h1, h2, h3, h4, hs, _⟩ := h
      exact ⟨⟨g, t, cs, fuel, _, h1, h2, h3, h4⟩, ds, q', hs⟩
  obtain ⟨⟨g1, t1, c1, f1, x1, a1, b1, v1, r1⟩, _, _, k1⟩ := step h
  obtain ⟨⟨g2, t2, c2, f2, x2, a2, b2, v2, r2⟩, _, _, k2⟩ := step k1
  obtain ⟨⟨g3, t3, c3, f3, x3, a3, b3, v3, r3⟩, _, _, k3⟩ := step k2
  obtain ⟨⟨g4, t4, c4, f4, x4, a4, b4, v4, r4⟩, _, _, k4⟩ := step k3
  obtain ⟨⟨g5, t5, c5, f5, x5, a5, b5, v5, r5⟩, _, _, k5⟩ := step k4
  obtain rfl : g1 = 0 := Option.some.inj (a1.symm.trans (show Tryd.prog.globalNamed "loop.example/pub-g03046/pub/crypto/blowfish.p" = some 0 by kernel_rfl))
  obtain rfl : g2 = 1 := Option.some.inj (a2.symm.trans (show Tryd.prog.globalNamed "loop.example/pub-g03046/pub/crypto/blowfish.s0" = some 1 by kernel_rfl))
  obtain rfl : g3 = 2 := Option.some.inj (a3.symm.trans (show Tryd.prog.globalNamed "loop.example/pub-g03046/pub/crypto/blowfish.s1" = some 2 by kernel_rfl))
  obtain rfl : g4 = 3 := Option.some.inj (a4.symm.trans (show Tryd.prog.globalNamed "loop.example/pub-g03046/pub/crypto/blowfish.s2" = some 3 by kernel_rfl))
  obtain rfl : g5 = 4 := Option.some.inj (a5.symm.trans (show Tryd.prog.globalNamed "loop.example/pub-g03046/pub/crypto/blowfish.s3" = some 4 by kernel_rfl))
  obtain rfl : t1 = 26 := Option.some.inj (b1.symm.trans (by kernel_rfl))
  obtain rfl : t2 = 27 := Option.some.inj (b2.symm.trans (by kernel_rfl))
  obtain rfl : t3 = 27 := Option.some.inj (b3.symm.trans (by kernel_rfl))
  obtain rfl : t4 = 27 := Option.some.inj (b4.symm.trans (by kernel_rfl))
  obtain rfl : t5 = 27 := Option.some.inj (b5.symm.trans (by kernel_rfl))
  obtain ⟨p, hp⟩ := nums_of (block_ints (n := 18) Tryd.underlying26 Tryd.underlying25 (by kernel_rfl) a1 v1 r1)
  obtain ⟨s0, hs0⟩ := nums_of (block_ints (n := 256) Tryd.underlying27 Tryd.underlying25 (by kernel_rfl) a2 v2 r2)
  obtain ⟨s1, hs1⟩ := nums_of (block_ints (n := 256) Tryd.underlying27 Tryd.underlying25 (by kernel_rfl) a3 v3 r3)
  obtain ⟨s2, hs2⟩ := nums_of (block_ints (n := 256) Tryd.underlying27 Tryd.underlying25 (by kernel_rfl) a4 v4 r4)
  obtain ⟨s3, hs3⟩ := nums_of (block_ints (n := 256) Tryd.underlying27 Tryd.underlying25 (by kernel_rfl) a5 v5 r5)
  exact ⟨_, glob_of hp hs0 hs1 hs2 hs3⟩
#print axioms open_of5
end Go.Proofs.YthmjkcnmmlemgaaDoor
