/-
  Opening a slice of strings that came in; closed facts of the program for the cards.
-/
import Derived.Test.Qxb6614318aFmtLaw1
import Derived.ProofKit
import Derived.ChangeSlices
import Derived.SliceStrings
import Derived.ChangeSame
import Derived.ChangeMaps5
import Derived.JoinedOf
import Derived.Carry
import Derived.Stop.JoinedAt
import Derived.Stop.JoinedTold
import Derived.SevenToldRow
namespace Go.Proofs.Qxb6614318aFmt
open Go.ChangeShapes Go.WideShapes Go.ChangeAt Go.RowKit Go.Kit
open Go.Extern.Stop Go.Stop Go.Extern

theorem Tryf.own : ownKnob Tryf.prog.godebug = none := by kernel_rfl
theorem Tryf.laidOut : laidOutB Tryf.pinned.checked.prog = true := by kernel_rfl
theorem Tryf.cells9 : Tryf.prog.cellsOf 9 = 1 := by kernel_rfl
theorem Tryf.stopKnobs : Tryf.pinned.checked.prog.stopKnobs = [] := by kernel_rfl
theorem Tryf.quiet (os : Os) : Stop.quiet Tryf.pinned.checked.prog os := by
  intro k hk
  rw [Tryf.stopKnobs] at hk
  cases hk

set_option maxRecDepth 100000 in
theorem open22 {H : Type} {enc : TypeId × Value → H} {W : World} {base : Nat} {v : Value} {d : DataW H} {p : List MemPlace} (hv : Value.okWide Tryf.prog W .any base 22 v)
    (h : DataW.Trod enc Tryf.prog W 0 (fun _ => true) true 22 v d p) : ∃ a cap xs, v = .slice a xs.length cap ∧ Cells W a xs ∧ ∀ x ∈ xs, x.size ≤ maxLen := by
  obtain ⟨a0, len, cap, rfl⟩ := okWide_slice Tryf.underlying22 hv
  obtain ⟨fuel, hf⟩ := h
  rcases open_strings Tryf.underlying22 Tryf.underlying9 Tryf.cells9 hf with ⟨hcs, _⟩ | ⟨a, len', cap', ss, hcs, _, hl, _, hz, _, hcell, hws⟩
  · simp [Value.cells] at hcs
    obtain ⟨rfl, rfl, rfl⟩ := hcs
    exact ⟨none, 0, [], rfl, (fun h0 => absurd h0 (Nat.lt_irrefl _)), fun x hx => by cases hx⟩
  · simp [Value.cells] at hcs
    obtain ⟨rfl, rfl, rfl⟩ := hcs
    simp only [if_true] at hz
    have hlen : (ss.take len).length = len := by rw [List.length_take]; omega
    refine ⟨some a, cap, ss.take len, by rw [hlen], ?_, fun x hx => hws x (List.mem_of_mem_take hx)⟩
    intro h0
    rw [hlen] at h0
    obtain ⟨b, off, spot⟩ := a
    have hspot : spot = none := by simpa [Addr.add] using World.cell?_spot (hcell 0 (by omega))
    subst hspot
    refine ⟨b, off, rfl, fun j hj => ?_⟩
    rw [hlen] at hj
    rw [← add_plain, hcell j (by omega), Lib.getD_takeS _ _ _ hj]

end Go.Proofs.Qxb6614318aFmt
