/-
  The two batches, request by request; and how a batch is kept.
-/
import Derived.Test.Qxb6614321aRead
namespace Go.Proofs.Qxb6614321a
open Go.RowKit

/-- The batch with one request put in at place m. -/
def withR (os : List Opn) (m : Nat) (r : Req) : List Req := reqs os 0 m ++ [r] ++ reqs os m os.length
def plainR (os : List Opn) : List Req := reqs os 0 os.length

theorem reqs_to (os : List Opn) (m : Nat) : reqs os 0 m = (os.take m).map reqOf := by simp [reqs]
theorem reqs_from (os : List Opn) (m : Nat) : reqs os m os.length = (os.drop m).map reqOf := by simp [reqs]

theorem plainR_len (os : List Opn) : (plainR os).length = os.length := by simp [plainR, reqs_to]
theorem withR_len (os : List Opn) (m : Nat) (r : Req) (hm : m ≤ os.length) : (withR os m r).length = os.length + 1 := by
  simp [withR, reqs_to, reqs_from]
  omega

theorem reqAt_eq (rs : List Req) (j : Nat) (r : Req) (h : rs[j]? = some r) : reqAt rs j = r := by simp [reqAt, List.getD, h]

theorem withR_at (os : List Opn) (m : Nat) (r : Req) (hm : m ≤ os.length) : reqAt (withR os m r) m = r := by
  apply reqAt_eq
  have hl : (reqs os 0 m).length = m := by rw [reqs_to]; simp; omega
  unfold withR
  rw [List.append_assoc, List.getElem?_append_right (by omega), hl]
  simp

theorem plainR_get (os : List Opn) (i : Nat) : (plainR os)[i]? = (os[i]?).map reqOf := by simp [plainR, reqs_to]

theorem with_low (os : List Opn) (m i : Nat) (r : Req) (hm : m ≤ os.length) (hi : i < m) : reqAt (plainR os) i = reqAt (withR os m r) i := by
  have hl : (reqs os 0 m).length = m := by rw [reqs_to]; simp; omega
  unfold reqAt
  rw [List.getD_eq_getElem?_getD, List.getD_eq_getElem?_getD, plainR_get]
  unfold withR
  rw [List.append_assoc, List.getElem?_append_left (by omega), reqs_to]
  simp [hi]

theorem with_high (os : List Opn) (m i : Nat) (r : Req) (hm : m ≤ os.length) (hi : m ≤ i) : reqAt (plainR os) i = reqAt (withR os m r) (i + 1) := by
  have hl : (reqs os 0 m ++ [r]).length = m + 1 := by rw [List.length_append, reqs_to]; simp; omega
  unfold reqAt
  rw [List.getD_eq_getElem?_getD, List.getD_eq_getElem?_getD, plainR_get]
  unfold withR
  rw [List.getElem?_append_right (by omega), hl, reqs_from]
  simp only [List.getElem?_map, List.getElem?_drop]
  have e : m + (i + 1 - (m + 1)) = i := by omega
  rw [e]

/-- A batch below base2, whose cells are not block bp2's, stays. -/
theorem BatchAt.kept {base1 bp1 base2 bp2 : Nat} {rs : List Req} {w w' : World} (h : BatchAt w base1 bp1 rs) (hk : Kept base2 bp2 w w') (h1 : bp1 ≠ bp2) (h2 : bp2 < base1) (h3 : w.heap.size ≤ base2) : BatchAt w' base1 bp1 rs := by
  obtain ⟨v, hc, hf, hbp, hbase, hown⟩ := h
  have hblk := hk.block bp1 (by omega) h1
  exact ⟨v, (World.cell?_of_block (a := ⟨bp1, 0, none⟩) hblk).trans hc, (World.frozen?_of_block (a := ⟨bp1, 0, none⟩) hblk).trans hf, hbp, Nat.le_trans hbase hk.size,
    own_same hown (fun k hk1 hk2 => hk.block k (by omega) (by omega))⟩

/-- An empty batch. -/
theorem batch_nil {base bp : Nat} {w : World} (hc : w.cell? ⟨bp, 0, none⟩ = some (.slice none 0 0)) (hf : w.frozen? ⟨bp, 0, none⟩ = false) (h1 : bp < base) (h2 : base ≤ w.heap.size) : BatchAt w base bp [] :=
  ⟨_, hc, hf, h1, h2, World.ownsRow_nil w base 39 4⟩

theorem below_kept {n base bp : Nat} {w0 w w' : World} (h : Below n w0 w) (hk : Kept base bp w w') (h1 : n ≤ base) (h2 : n ≤ bp) : Below n w0 w' :=
  h.trans ⟨hk.os, hk.tape, hk.output, hk.size, fun k hkn => hk.block k (by omega) (by omega)⟩

/-- The two new batches, empty. -/
theorem two_new (w : World) : ∃ W, W = (w.alloc (.cells #[.slice none 0 0] 26)).alloc (.cells #[.slice none 0 0] 26) ∧ W.heap.size = w.heap.size + 2 ∧ Below w.heap.size w W ∧ BatchAt W (w.heap.size + 2) w.heap.size [] ∧
    W.cell? ⟨w.heap.size + 1, 0, none⟩ = some (.slice none 0 0) ∧ W.frozen? ⟨w.heap.size + 1, 0, none⟩ = false := by
  refine ⟨_, rfl, by simp, ((Below.refl _ _).alloc (Nat.le_refl _) _).alloc (by simp) _, ?_, ?_, ?_⟩
  · refine batch_nil ?_ ?_ (by omega) (by simp)
    · simp
    · simp
  · simp
  · simp

theorem ScriptAt.below {w w' : World} {a : Option Addr} {os : List Opn} (h : ScriptAt w a os) (hl : ∀ b off, 0 < os.length → a = some ⟨b, off, none⟩ → b < w.heap.size) (hb : Below w.heap.size w w') : ScriptAt w' a os := by
  intro h0
  obtain ⟨b, off, e, hc⟩ := h h0
  refine ⟨b, off, e, fun j hj => ?_⟩
  have hblk := hb.block b (hl b off h0 e)
  rw [World.cell?_of_block (a := ⟨b, off + j * 2, none⟩) hblk, World.cell?_of_block (a := ⟨b, off + j * 2 + 1, none⟩) hblk]
  exact hc j hj

theorem script_lt {w : World} {a : Option Addr} {os : List Opn} (hs : ScriptAt w a os) : ∀ b off, 0 < os.length → a = some ⟨b, off, none⟩ → b < w.heap.size := by
  intro b off h0 e
  obtain ⟨b', off', e', hc⟩ := hs h0
  rw [e] at e'
  cases e'
  have h1 := (hc 0 h0).1
  rcases Nat.lt_or_ge b w.heap.size with h2 | h2
  · exact h2
  · have : w.heap[b]? = none := by simp [h2]
    simp [World.cell?, this] at h1

/-- playBatch from the script's head. -/
theorem play7_0 (base bp : Nat) (a : Option Addr) (c : Nat) (os : List Opn) (n : Nat) (w : World) (hb : BatchAt w base bp []) (hs : ScriptAt w a os) (hsb : ScriptBelow base bp a os) (hn : n ≤ os.length) (hl : os.length ≤ 1048576) :
    Calls Try.prog 7 #[.pointer (some ⟨bp, 0, none⟩), .slice a os.length c, .int .i64 0, .int .i64 n] w fun e w' => e = .returned (.tuple #[]) ∧ BatchAt w' base bp (reqs os 0 n) ∧ Kept base bp w w' :=
  play7 base bp [] a c os 0 n w hb hs hsb (Nat.zero_le _) hn hl (Nat.zero_le _)

/-- What the two batches are, in a world on the way. -/
structure Both (w0 w : World) (base1 bp1 base2 bp2 : Nat) (os : List Opn) (m : Nat) (r : Req) : Prop where
  plain : BatchAt w base1 bp1 (plainR os)
  inserted : BatchAt w base2 bp2 (withR os m r)
  below : Below w0.heap.size w0 w

theorem Both.next {w0 w w' : World} {base1 bp1 base2 bp2 : Nat} {os : List Opn} {m : Nat} {r : Req} (h : Both w0 w base1 bp1 base2 bp2 os m r) (hb : Below w.heap.size w w') : Both w0 w' base1 bp1 base2 bp2 os m r :=
  ⟨h.plain.below hb, h.inserted.below hb, h.below.trans (hb.mono h.below.size)⟩

section
variable {w0 w : World} {base1 bp1 base2 bp2 : Nat} {os : List Opn} {m : Nat} {r : Req}

theorem both_len1 (h : Both w0 w base1 bp1 base2 bp2 os m r) : Calls Try.prog 9 #[.pointer (some ⟨bp1, 0, none⟩)] w fun e w' => e = .returned (.int .i64 (os.length : Int)) ∧ w' = w := by
  have := len9 _ _ _ w h.plain
  rw [plainR_len] at this
  exact this

theorem both_len2 (h : Both w0 w base1 bp1 base2 bp2 os m r) (hm : m ≤ os.length) : Calls Try.prog 9 #[.pointer (some ⟨bp2, 0, none⟩)] w fun e w' => e = .returned (.int .i64 ((os.length : Int) + 1)) ∧ w' = w := by
  have := len9 _ _ _ w h.inserted
  rw [withR_len os m r hm] at this
  exact this

theorem both_req (h : Both w0 w base1 bp1 base2 bp2 os m r) (hm : m ≤ os.length) (hl : os.length ≤ 1048576) :
    Calls Try.prog 10 #[.pointer (some ⟨bp2, 0, none⟩), .int .i64 (m : Int)] w fun e w' => e = .returned (.tuple #[.string r.1, .string r.2, .string ⟨#[]⟩, .string ⟨#[]⟩]) ∧ Below w.heap.size w w' := by
  have hw := withR_len os m r hm
  have := request10 _ _ _ m w h.inserted (by omega) (by omega)
  rw [withR_at os m r hm] at this
  exact this

theorem both_low (h : Both w0 w base1 bp1 base2 bp2 os m r) (hm : m ≤ os.length) (hl : os.length ≤ 1048576) {i : Nat} (hi : i < m) :
    Calls Try.prog 11 #[.pointer (some ⟨bp1, 0, none⟩), .int .i64 (i : Int), .pointer (some ⟨bp2, 0, none⟩), .int .i64 (i : Int)] w fun e w' => e = .returned (.bool true) ∧ Below w.heap.size w w' := by
  have hw := withR_len os m r hm
  have hp := plainR_len os
  exact same11 _ _ _ _ _ _ i i w h.plain h.inserted (by omega) (by omega) (by omega) (by omega) (with_low os m i r hm hi)

theorem both_high (h : Both w0 w base1 bp1 base2 bp2 os m r) (hm : m ≤ os.length) (hl : os.length ≤ 1048576) {i : Nat} (hi : m ≤ i) (hi2 : i < os.length) :
    Calls Try.prog 11 #[.pointer (some ⟨bp1, 0, none⟩), .int .i64 (i : Int), .pointer (some ⟨bp2, 0, none⟩), .int .i64 ((i : Int) + 1)] w fun e w' => e = .returned (.bool true) ∧ Below w.heap.size w w' := by
  have hw := withR_len os m r hm
  have hp := plainR_len os
  exact same11 _ _ _ _ _ _ i (i + 1) w h.plain h.inserted (by omega) (by omega) (by omega) (by omega) (with_high os m i r hm hi)
end

end Go.Proofs.Qxb6614321a
