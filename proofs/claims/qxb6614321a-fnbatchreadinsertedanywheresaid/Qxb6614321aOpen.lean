/-
  Opening a script that came in.
-/
import Derived.Test.Qxb6614321aPlain
import Derived.ProofKit
import Derived.Deep.SlicePairs
namespace Go.Proofs.Qxb6614321a
open Go.ChangeShapes Go.WideShapes Go.ChangeAt Go.RowKit

theorem own : ownKnob Try.prog.godebug = none := by kernel_rfl
theorem Try.laidOut : laidOutB Try.prog = true := by kernel_rfl
theorem Try.cells36 : Try.prog.cellsOf 36 = 2 := by kernel_rfl
theorem Try.cells4 : Try.prog.cellsOf 4 = 1 := by kernel_rfl
theorem Try.cells9 : Try.prog.cellsOf 9 = 1 := by kernel_rfl

set_option maxRecDepth 100000 in
theorem open22 {H : Type} {enc : TypeId × Value → H} {W : World} {base : Nat} {v : Value} {d : DataW H} {p : List MemPlace} (hv : Value.okWide Try.prog W .any base 22 v)
    (h : DataW.Trod enc Try.prog W 0 (fun _ => true) true 22 v d p) : ∃ a cap os, v = .slice a (List.length os) cap ∧ ScriptAt W a os := by
  obtain ⟨a0, len, cap, rfl⟩ := okWide_slice Try.underlying22 hv
  obtain ⟨fuel, hf⟩ := h
  rcases Deep.open_slice_pairs Try.underlying22 Try.underlying36 Try.cells36 rfl rfl Try.cells4 Try.cells9 hf with ⟨hcs, _⟩ | ⟨a, len', cap', m, n, V0, V1, D0, D1, P0, P1, hcs, _, hl, _, hm, _, hx⟩
  · simp [Value.cells] at hcs
    obtain ⟨rfl, rfl, rfl⟩ := hcs
    exact ⟨none, 0, [], rfl, fun h0 => absurd h0 (Nat.lt_irrefl _)⟩
  · simp [Value.cells] at hcs
    obtain ⟨rfl, rfl, rfl⟩ := hcs
    simp only [if_true] at hm
    have each : ∀ i, i < len → ∃ q : Opn, V0 i = .bool q.1 ∧ V1 i = .string q.2 := by
      intro i hi
      obtain ⟨_, _, h0, h1⟩ := hx i (by omega)
      obtain ⟨b, hb, _⟩ := DataW.trod_bool Try.underlying4 h0
      obtain ⟨s, hs, _⟩ := DataW.trod_string Try.underlying9 h1
      simp at hb hs
      exact ⟨(b, s), hb, hs⟩
    obtain ⟨f, hfn⟩ := Deep.choose_lt each
    have hlen : ((List.range len).map f).length = len := by simp
    refine ⟨some a, cap, (List.range len).map f, by rw [hlen], ?_⟩
    intro h0
    rw [hlen] at h0
    obtain ⟨b, off, spot⟩ := a
    have hspot : spot = none := by
      have := (hx 0 (by omega)).1
      simpa [Addr.add] using World.cell?_spot this
    subst hspot
    refine ⟨b, off, rfl, fun j hj => ?_⟩
    rw [hlen] at hj
    obtain ⟨h0, h1, _⟩ := hx j (by omega)
    have ej : at' ((List.range len).map f) j = f j := by simp [at', List.getD, hj]
    rw [add_plain] at h0 h1
    rw [ej, h0, (hfn j hj).1, Nat.add_assoc, h1, (hfn j hj).2]
    exact ⟨rfl, rfl⟩

end Go.Proofs.Qxb6614321a
