/-
  Reading a batch: ZZBatchLen, ZZBatchRequest, sameRequest.
-/
import Derived.Test.Qxb6614321aScript
namespace Go.Proofs.Qxb6614321a
open Go.RowKit

theorem BatchAt.below {base bp : Nat} {rs : List Req} {w w' : World} (h : BatchAt w base bp rs) (hb : Below w.heap.size w w') : BatchAt w' base bp rs := by
  obtain ⟨v, hc, hf, hbp, hbase, hown⟩ := h
  refine ⟨v, ?_, ?_, hbp, Nat.le_trans hbase hb.size, own_same hown (fun k _ hk => hb.block k hk)⟩
  · rw [hb.cell (p := ⟨bp, 0, none⟩) (show bp < w.heap.size by omega)]
    exact hc
  · rw [hb.frozen (p := ⟨bp, 0, none⟩) (show bp < w.heap.size by omega)]
    exact hf

set_option maxHeartbeats 400000 in
theorem len9 (base bp : Nat) (rs : List Req) (w : World) (hb : BatchAt w base bp rs) :
    Calls Try.prog 9 #[.pointer (some ⟨bp, 0, none⟩)] w fun e w' => e = .returned (.int .i64 rs.length) ∧ w' = w := by
  obtain ⟨v, hc, hf, hbp, hbase, hown⟩ := hb
  rcases hown.2 with ⟨rfl, h0⟩ | ⟨g, cap, cur, rfl, _⟩
  · rw [h0]
    clear hown h0
    go_enter Try.func9, Try.ntmps9
    go_wp2
    go_ret
    exact ⟨rfl, rfl⟩
  · clear hown
    go_enter Try.func9, Try.ntmps9
    go_wp2
    go_ret
    exact ⟨rfl, rfl⟩

def reqAt (rs : List Req) (j : Nat) : Req := rs.getD j (⟨#[]⟩, ⟨#[]⟩)

theorem cellsOf_get : ∀ (rs : List Req) (j : Nat), j < rs.length → (cellsOf rs)[j * 4]? = some (.string (reqAt rs j).1) ∧ (cellsOf rs)[j * 4 + 1]? = some (.string (reqAt rs j).2) ∧ (cellsOf rs)[j * 4 + 2]? = some (.string ⟨#[]⟩) ∧ (cellsOf rs)[j * 4 + 3]? = some (.string ⟨#[]⟩)
  | [], j, h => by simp at h
  | r :: rs, 0, _ => by simp [cellsOf, reqAt]
  | r :: rs, j + 1, h => by
    have := cellsOf_get rs j (by simpa using h)
    have e : ∀ i, (cellsOf (r :: rs))[(j + 1) * 4 + i]? = (cellsOf rs)[j * 4 + i]? := by
      intro i
      have e1 : cellsOf (r :: rs) = [Value.string r.1, .string r.2, .string ⟨#[]⟩, .string ⟨#[]⟩] ++ cellsOf rs := by simp [cellsOf]
      rw [e1, List.getElem?_append_right (by simp; omega)]
      congr 1
      simp
      omega
    have e0 := e 0
    simp only [Nat.add_zero] at e0
    rw [e0, e 1, e 2, e 3]
    simpa [reqAt] using this

theorem row_cells {w : World} {base g cap : Nat} {rs : List Req} {j : Nat} (h : w.ownsRow base 39 4 (.slice (some ⟨g, 0, none⟩) rs.length cap) rs.length (cellsOf rs)) (hj : j < rs.length) :
    w.cell? ⟨g, j * 4, none⟩ = some (.string (reqAt rs j).1) ∧ w.cell? ⟨g, j * 4 + 1, none⟩ = some (.string (reqAt rs j).2) ∧ w.cell? ⟨g, j * 4 + 2, none⟩ = some (.string ⟨#[]⟩) ∧ w.cell? ⟨g, j * 4 + 3, none⟩ = some (.string ⟨#[]⟩) := by
  rcases h.2 with ⟨h0, _⟩ | ⟨g', cap', cur, e1, _, hg, _, _, _, htake⟩
  · cases h0
  · cases e1
    have key : ∀ m x, (cellsOf rs)[m]? = some x → w.cell? ⟨g, m, none⟩ = some x := by
      intro m x hm
      rw [← htake, List.getElem?_take] at hm
      split at hm
      · unfold World.cell?
        simp only [hg]
        simpa using hm
      · cases hm
    obtain ⟨h0, h1, h2, h3⟩ := cellsOf_get rs j hj
    exact ⟨key _ _ h0, key _ _ h1, key _ _ h2, key _ _ h3⟩

set_option maxHeartbeats 1000000 in
theorem request10 (base bp : Nat) (rs : List Req) (j : Nat) (w : World) (hb : BatchAt w base bp rs) (hj : j < rs.length) (hl : rs.length ≤ 4000000) :
    Calls Try.prog 10 #[.pointer (some ⟨bp, 0, none⟩), .int .i64 j] w fun e w' => e = .returned (.tuple #[.string (reqAt rs j).1, .string (reqAt rs j).2, .string ⟨#[]⟩, .string ⟨#[]⟩]) ∧ Below w.heap.size w w' := by
  obtain ⟨v, hc, hf, hbp, hbase, hown⟩ := hb
  obtain ⟨g, cap, rfl⟩ := own_written hown (by omega)
  obtain ⟨h0, h1, h2, h3⟩ := row_cells hown hj
  generalize reqAt rs j = r at h0 h1 ⊢
  clear hown
  go_enter Try.func10, Try.ntmps10
  go_wp2
  go_quiet (fail)
  go_wp2
  refine bodyPost_ret (v := .tuple #[.string r.1, .string r.2, .string ⟨#[]⟩, .string ⟨#[]⟩]) (by simp [results, Try.results10, go_sem]) rfl ⟨rfl, ?_⟩
  exact below_drewN ((Below.refl _ _).alloc (Nat.le_refl _) _) _

set_option maxHeartbeats 1000000 in
theorem same11 (base1 bp1 base2 bp2 : Nat) (rs1 rs2 : List Req) (i j : Nat) (w : World) (hb1 : BatchAt w base1 bp1 rs1) (hb2 : BatchAt w base2 bp2 rs2) (hi : i < rs1.length) (hj : j < rs2.length) (hl1 : rs1.length ≤ 4000000) (hl2 : rs2.length ≤ 4000000) (heq : reqAt rs1 i = reqAt rs2 j) :
    Calls Try.prog 11 #[.pointer (some ⟨bp1, 0, none⟩), .int .i64 i, .pointer (some ⟨bp2, 0, none⟩), .int .i64 j] w fun e w' => e = .returned (.bool true) ∧ Below w.heap.size w w' := by
  have hr1 := request10 base1 bp1 rs1 i w hb1 hi hl1
  rw [heq] at hr1
  have hr2 := fun w1 (hb : Below w.heap.size w w1) => request10 base2 bp2 rs2 j w1 (hb2.below hb) hj hl2
  generalize reqAt rs2 j = r at hr1 hr2
  have HR2 : Hid (∀ w1, Below w.heap.size w w1 → Calls Try.prog 10 #[.pointer (some ⟨bp2, 0, none⟩), .int .i64 j] w1 fun e w' => e = .returned (.tuple #[.string r.1, .string r.2, .string ⟨#[]⟩, .string ⟨#[]⟩]) ∧ Below w1.heap.size w1 w') := hr2
  clear hr2 heq hb1 hb2
  have HR1 : Hid (Calls Try.prog 10 #[.pointer (some ⟨bp1, 0, none⟩), .int .i64 i] w fun e w' => e = .returned (.tuple #[.string r.1, .string r.2, .string ⟨#[]⟩, .string ⟨#[]⟩]) ∧ Below w.heap.size w w') := hr1
  clear hr1
  go_enter Try.func11, Try.ntmps11
  go_wp2_with fail
  refine (HR1.out).mono ?_
  rintro e w1 ⟨rfl, h1⟩
  go_wp2_with fail
  refine (HR2.out w1 h1).mono ?_
  rintro e w2 ⟨rfl, h2⟩
  go_wp2
  go_ret
  exact ⟨rfl, h1.trans (h2.mono h1.size)⟩

end Go.Proofs.Qxb6614321a
