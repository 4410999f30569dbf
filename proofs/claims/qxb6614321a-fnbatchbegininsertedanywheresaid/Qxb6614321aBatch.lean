/-
  Batches in memory, and what Begin and Read do to one.
-/
import Derived.Test.Qxb6614321aRows
import Derived.WalkKit
import Derived.WalkSpells
import Derived.WalkLawsBesides
import Derived.BigQuiet
namespace Go.Proofs.Qxb6614321a
open Go.RowKit

/-- A request: its verb and its key (value and table are empty). -/
abbrev Req := ByteArray × ByteArray

/-- The four cells of each request, one behind the other. -/
def cellsOf (rs : List Req) : List Value := rs.flatMap fun r => [.string r.1, .string r.2, .string ⟨#[]⟩, .string ⟨#[]⟩]

/-- Block bp holds a batch of just these requests; its row of requests lies from block base on. -/
def BatchAt (w : World) (base bp : Nat) (rs : List Req) : Prop :=
  ∃ v, w.cell? ⟨bp, 0, none⟩ = some v ∧ w.frozen? ⟨bp, 0, none⟩ = false ∧ bp < base ∧ base ≤ w.heap.size ∧ w.ownsRow base 39 4 v rs.length (cellsOf rs)

/-- w' is w but for block bp and for what lies from block base on. -/
structure Kept (base bp : Nat) (w w' : World) : Prop where
  os : w'.os = w.os
  tape : w'.tape = w.tape
  output : w'.output = w.output
  size : w.heap.size ≤ w'.heap.size
  block : ∀ k, k < base → k ≠ bp → w'.heap[k]? = w.heap[k]?

theorem Kept.refl (base bp : Nat) (w : World) : Kept base bp w w := ⟨rfl, rfl, rfl, Nat.le_refl _, fun _ _ _ => rfl⟩
theorem Kept.trans {base bp : Nat} {a b c : World} (h : Kept base bp a b) (k : Kept base bp b c) : Kept base bp a c :=
  ⟨k.os.trans h.os, k.tape.trans h.tape, k.output.trans h.output, Nat.le_trans h.size k.size, fun i hi hne => (k.block i hi hne).trans (h.block i hi hne)⟩

theorem Try.info39 : (Try.prog.info? 39).map (fun i => (i.zero, i.size, i.bytes)) = some (some (.agg #[.string ⟨#[]⟩, .string ⟨#[]⟩, .string ⟨#[]⟩, .string ⟨#[]⟩]), 4, 64) := by kernel_rfl

def beginS : ByteArray := ⟨#[66, 69, 71, 73, 78]⟩
def readS : ByteArray := ⟨#[82, 69, 65, 68]⟩

theorem own_same {w w' : World} {base : Nat} {e : TypeId} {size : Nat} {v : Value} {n : Nat} {xs : List Value} (h : w.ownsRow base e size v n xs) (hh : ∀ k, base ≤ k → k < w.heap.size → w'.heap[k]? = w.heap[k]?) : w'.ownsRow base e size v n xs := by
  obtain ⟨h1, h2⟩ := h
  refine ⟨h1, ?_⟩
  rcases h2 with h2 | ⟨g, cap, cur, e1, hb, hg, h3⟩
  · exact Or.inl h2
  · exact Or.inr ⟨g, cap, cur, e1, hb, (hh g hb (Array.getElem?_eq_some_iff.1 hg).1).trans hg, h3⟩

theorem own_block {w : World} {base bp : Nat} {e : TypeId} {size : Nat} {v : Value} {n : Nat} {xs : List Value} (h : w.ownsRow base e size v n xs) (hbp : bp < base) : some bp ≠ v.ownBlock := by
  rcases h.2 with ⟨rfl, _⟩ | ⟨g, cap, cur, rfl, hb, _⟩
  · simp [Value.ownBlock]
  · intro e
    simp [Value.ownBlock] at e
    omega

theorem own_written {w : World} {base : Nat} {e : TypeId} {size : Nat} {v : Value} {n : Nat} {xs : List Value} (h : w.ownsRow base e size v n xs) (hn : 0 < n) : ∃ g cap, v = .slice (some ⟨g, 0, none⟩) n cap := by
  rcases h.2 with ⟨_, h0⟩ | ⟨g, cap, cur, rfl, _⟩
  · omega
  · exact ⟨g, cap, rfl⟩

theorem cellsOf_snoc (rs : List Req) (r : Req) : cellsOf (rs ++ [r]) = cellsOf rs ++ [.string r.1, .string r.2, .string ⟨#[]⟩, .string ⟨#[]⟩] := by
  simp [cellsOf]

theorem new_cells (w : World) (xs : List Value) (t : TypeId) (j : Nat) (u : Value) (h : xs[j]? = some u) : (w.alloc (.cells xs.toArray t)).cell? ((⟨w.heap.size, 0, none⟩ : Addr).add j) = some u := by
  have hg : (w.alloc (.cells xs.toArray t)).heap[w.heap.size]? = some (.cells xs.toArray t (0, 0)) := heap_alloc_new w _
  have e1 : (⟨w.heap.size, 0, none⟩ : Addr).add j = ⟨w.heap.size, j, none⟩ := by simp [Addr.add]; intro h0; exact h0.symm
  rw [e1]
  unfold World.cell?
  simp only [hg]
  simpa using h

theorem four_one (a b c d : ByteArray) : ∀ u ∈ [Value.string a, .string b, .string c, .string d], u.oneCell' = true := by
  intro u hu
  simp only [List.mem_cons, List.mem_nil_iff, or_false] at hu
  rcases hu with rfl | rfl | rfl | rfl <;> rfl

/-- What append and the store behind it leave. -/
theorem batch_snoc {base bp g cap : Nat} {rs : List Req} {r : Req} {v : Value} {o : Obj} {w w1 : World} (hf : w.frozen? ⟨bp, 0, none⟩ = false) (hc : w.cell? ⟨bp, 0, none⟩ = some v) (hbp : bp < base) (hbase : base ≤ w.heap.size) (hown : w.ownsRow base 39 4 v rs.length (cellsOf rs))
    (hown1 : w1.ownsRow base 39 4 (.slice (some ⟨g, 0, none⟩) (rs.length + 1) cap) (rs.length + 1) (cellsOf rs ++ [.string r.1, .string r.2, .string ⟨#[]⟩, .string ⟨#[]⟩])) (hgrow : (w.alloc o).grownBy w1 v.ownBlock) :
    BatchAt (w1.setCell ⟨bp, 0, none⟩ (.slice (some ⟨g, 0, none⟩) (rs.length + 1) cap)) base bp (rs ++ [r]) ∧ Kept base bp w (w1.setCell ⟨bp, 0, none⟩ (.slice (some ⟨g, 0, none⟩) (rs.length + 1) cap)) := by
  have hblk : w1.heap[bp]? = w.heap[bp]? := (hgrow.block bp (by simp; omega) (own_block hown hbp)).trans (Below.heap_alloc w o bp (by omega))
  have hc1 : w1.cell? ⟨bp, 0, none⟩ = some v := (World.cell?_of_block (a := ⟨bp, 0, none⟩) hblk).trans hc
  have hf1 : w1.frozen? ⟨bp, 0, none⟩ = false := (World.frozen?_of_block (a := ⟨bp, 0, none⟩) hblk).trans hf
  have hsz : w.heap.size + 1 ≤ w1.heap.size := by have := hgrow.size; simpa using this
  refine ⟨⟨_, World.cell?_setCell_same _ _ _ (by rw [hc1]), (World.frozen?_setCell _ _ _ _).trans hf1, hbp, by simp; omega, ?_⟩, ⟨?_, ?_, ?_, by simp; omega, fun k hk hne => ?_⟩⟩
  · rw [cellsOf_snoc, List.length_append]
    exact own_same hown1 (fun k hk _ => Below.heap_setCell _ _ _ _ (show k ≠ bp by omega))
  · exact hgrow.os
  · exact hgrow.tape
  · exact hgrow.output
  · rw [Below.heap_setCell _ _ _ _ (by simpa using hne)]
    exact (hgrow.block k (by simp; omega) (own_block hown hk)).trans (Below.heap_alloc w o k (by omega))

set_option maxHeartbeats 1000000 in
theorem begin8 (base bp : Nat) (rs : List Req) (w : World) (hb : BatchAt w base bp rs) (hn : rs.length ≤ 4000000) :
    Calls Try.prog 8 #[.pointer (some ⟨bp, 0, none⟩)] w fun e w' => e = .returned (.tuple #[]) ∧ BatchAt w' base bp (rs ++ [(beginS, ⟨#[]⟩)]) ∧ Kept base bp w w' := by
  obtain ⟨v, hc, hf, hbp, hbase, hown⟩ := hb
  obtain ⟨i0, hi, hz0, hz1, hz2⟩ := info_parts Try.info39
  go_enter Try.func8, Try.ntmps8
  go_wp2_with (at_builtin; refine wpList_append_own _ rfl _ _ 24 rfl base 39 i0 _ 4 64 Try.underlying24 hi hz0 hz1 hz2 rfl (by decide) v rs.length (cellsOf rs) rfl (hown.alloc _) ⟨w.heap.size, 0, none⟩ 1 1 [.string beginS, .string ⟨#[]⟩, .string ⟨#[]⟩, .string ⟨#[]⟩] rfl rfl ?c1 ?c2 ?b1 ?b2 ?b3 ?K)
  case c1 => exact new_cells w [.string beginS, .string ⟨#[]⟩, .string ⟨#[]⟩, .string ⟨#[]⟩] 39
  case c2 => exact four_one _ _ _ _
  case b1 => unfold maxLen; omega
  case b2 => omega
  case b3 => simp; omega
  case K =>
    intro v' w1 hown1 hgrow1 _
    obtain ⟨g, cap, hv'⟩ := own_written hown1 (by omega)
    subst hv'
    have hblk : w1.heap[bp]? = w.heap[bp]? := (hgrow1.block bp (by simp; omega) (own_block hown hbp)).trans (Below.heap_alloc w _ bp (by omega))
    have hc1 : w1.cell? ⟨bp, 0, none⟩ = some v := (World.cell?_of_block (a := ⟨bp, 0, none⟩) hblk).trans hc
    have hf1 : w1.frozen? ⟨bp, 0, none⟩ = false := (World.frozen?_of_block (a := ⟨bp, 0, none⟩) hblk).trans hf
    go_wp2
    go_end0
    exact ⟨rfl, batch_snoc (r := (beginS, ⟨#[]⟩)) hf hc hbp hbase hown hown1 hgrow1⟩

set_option maxHeartbeats 1000000 in
theorem read13 (base bp : Nat) (rs : List Req) (key : ByteArray) (w : World) (hb : BatchAt w base bp rs) (hn : rs.length ≤ 4000000) :
    Calls Try.prog 13 #[.pointer (some ⟨bp, 0, none⟩), .string key] w fun e w' => e = .returned (.tuple #[]) ∧ BatchAt w' base bp (rs ++ [(readS, key)]) ∧ Kept base bp w w' := by
  obtain ⟨v, hc, hf, hbp, hbase, hown⟩ := hb
  obtain ⟨i0, hi, hz0, hz1, hz2⟩ := info_parts Try.info39
  go_enter Try.func13, Try.ntmps13
  go_wp2_with (at_builtin; refine wpList_append_own _ rfl _ _ 24 rfl base 39 i0 _ 4 64 Try.underlying24 hi hz0 hz1 hz2 rfl (by decide) v rs.length (cellsOf rs) rfl (hown.alloc _) ⟨w.heap.size, 0, none⟩ 1 1 [.string readS, .string key, .string ⟨#[]⟩, .string ⟨#[]⟩] rfl rfl ?c1 ?c2 ?b1 ?b2 ?b3 ?K)
  case c1 => exact new_cells w [.string readS, .string key, .string ⟨#[]⟩, .string ⟨#[]⟩] 39
  case c2 => exact four_one _ _ _ _
  case b1 => unfold maxLen; omega
  case b2 => omega
  case b3 => simp; omega
  case K =>
    intro v' w1 hown1 hgrow1 _
    obtain ⟨g, cap, hv'⟩ := own_written hown1 (by omega)
    subst hv'
    have hblk : w1.heap[bp]? = w.heap[bp]? := (hgrow1.block bp (by simp; omega) (own_block hown hbp)).trans (Below.heap_alloc w _ bp (by omega))
    have hc1 : w1.cell? ⟨bp, 0, none⟩ = some v := (World.cell?_of_block (a := ⟨bp, 0, none⟩) hblk).trans hc
    have hf1 : w1.frozen? ⟨bp, 0, none⟩ = false := (World.frozen?_of_block (a := ⟨bp, 0, none⟩) hblk).trans hf
    go_wp2
    go_end0
    exact ⟨rfl, batch_snoc (r := (readS, key)) hf hc hbp hbase hown hown1 hgrow1⟩

end Go.Proofs.Qxb6614321a
