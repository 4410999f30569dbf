/-
  FnBatchReadInsertedAnywhere: the walk.
-/
import Derived.Test.Qxb6614321aPlain
namespace Go.Proofs.Qxb6614321a
open Go.RowKit

set_option maxRecDepth 100000 in
set_option maxHeartbeats 2000000 in
theorem law4 (a : Option Addr) (c : Nat) (os : List Opn) (key : ByteArray) (i : Int) (w : World) (hs : ScriptAt w a os) :
    Calls Try.prog 4 #[.slice a os.length c, .string key, .int .i64 i] w fun e w' => e = .returned (.bool true) ∧ Below w.heap.size w w' := by
  go_enter Try.func4, Try.ntmps4
  go_wp2_with fail
  refine (bytes12 a c os key i w hs).mono ?_
  rintro e w' ⟨⟨b, rfl, hb⟩, hw⟩
  obtain rfl := hw.symm
  cases b
  · go_wp2
    go_ret
    exact ⟨rfl, Below.refl _ _⟩
  have hl : os.length ≤ 1048576 := hb rfl
  clear hb
  go_wp2_with fail
  refine (tooBig6 a c os key.size w hl hs).mono ?_
  rintro e w' ⟨⟨b, rfl⟩, hw⟩
  obtain rfl := hw.symm
  cases b
  case true =>
    go_wp2
    go_ret
    exact ⟨rfl, Below.refl _ _⟩
  by_cases hat : 0 ≤ i ∧ i ≤ (os.length : Int)
  case neg =>
    go_wp2
    all_goals first
      | (go_ret; exact ⟨rfl, Below.refl _ _⟩)
      | (exfalso; omega)
  obtain ⟨hat0, hat1⟩ := hat
  obtain ⟨m, rfl⟩ : ∃ m : Nat, i = (m : Int) := ⟨i.toNat, by omega⟩
  have hm : m ≤ os.length := by omega
  go_wp2_with fail
  obtain ⟨W, hW, hWs, hWb, hP0, hc2, hf2⟩ := two_new w
  rw [← hW]
  have hsl := script_lt hs
  have hsW : ScriptAt W a os := hs.below hsl hWb
  have hsb1 : ScriptBelow (w.heap.size + 2) w.heap.size a os := fun h0 b off e => by have := hsl b off h0 e; exact ⟨by omega, by omega⟩
  refine (play7_0 (w.heap.size + 2) w.heap.size a c os os.length W hP0 hsW hsb1 (Nat.le_refl _) hl).mono ?_
  rintro e w1 ⟨rfl, hP1, hk1⟩
  have hz1 : w.heap.size + 2 ≤ w1.heap.size := by have := hk1.size; omega
  have hblk := hk1.block (w.heap.size + 1) (by omega) (by omega)
  have hQ1 : BatchAt w1 w1.heap.size (w.heap.size + 1) [] := batch_nil ((World.cell?_of_block (a := ⟨w.heap.size + 1, 0, none⟩) hblk).trans hc2) ((World.frozen?_of_block (a := ⟨w.heap.size + 1, 0, none⟩) hblk).trans hf2) (by omega) (Nat.le_refl _)
  have hs1 : ScriptAt w1 a os := hsW.kept hsb1 hk1
  have hsb2 : ScriptBelow w1.heap.size (w.heap.size + 1) a os := fun h0 b off e => by have := hsl b off h0 e; exact ⟨by omega, by omega⟩
  have hB1 : Below w.heap.size w w1 := below_kept hWb hk1 (by omega) (Nat.le_refl _)
  have HP1 : Hid (BatchAt w1 (w.heap.size + 2) w.heap.size (plainR os)) := hP1
  clear hP1 hk1 hblk hP0 hc2 hf2 hsW hsb1 hWs hWb
  clear hW
  go_wp2_with fail
  refine (play7_0 w1.heap.size (w.heap.size + 1) a c os m w1 hQ1 hs1 hsb2 hm hl).mono ?_
  rintro e w2 ⟨rfl, hQ2, hk2⟩
  have hl0 : (reqs os 0 m).length ≤ 1048576 := Nat.le_trans (reqs_length os 0 m) hl
  go_wp2_with fail
  refine (read13 w1.heap.size (w.heap.size + 1) (reqs os 0 m) key w2 hQ2 (by omega)).mono ?_
  rintro e w3 ⟨rfl, hQ3, hk3⟩
  have hk13 := hk2.trans hk3
  have hs3 : ScriptAt w3 a os := hs1.kept hsb2 hk13
  go_wp2_with fail
  refine (play7 w1.heap.size (w.heap.size + 1) _ a c os m os.length w3 hQ3 hs3 hsb2 hm (Nat.le_refl _) hl (by rw [List.length_append]; simp only [List.length_cons, List.length_nil]; omega)).mono ?_
  rintro e w4 ⟨rfl, hQ4, hk4⟩
  have hk14 := hk13.trans hk4
  have hall : Both w w4 (w.heap.size + 2) w.heap.size w1.heap.size (w.heap.size + 1) os m (readS, key) :=
    ⟨HP1.out.kept hk14 (by omega) (by omega) (Nat.le_refl _), hQ4, below_kept hB1 hk14 (by have := hB1.size; omega) (by omega)⟩
  clear hQ4 hk14 hk4 hs3 hk13 hk3 hQ3 hQ2 hk2 hQ1 hs1 hB1 HP1 hl0
  go_wp2_with fail
  refine (both_len1 hall).mono ?_
  rintro e w' ⟨rfl, hw⟩
  obtain rfl := hw.symm
  go_wp2_with fail
  refine (both_len2 hall hm).mono ?_
  rintro e w' ⟨rfl, hw⟩
  obtain rfl := hw.symm
  go_wp2_with fail
  have hreq : Calls Try.prog 10 #[.pointer (some ⟨w.heap.size + 1, 0, none⟩), .int .i64 (m : Int)] w4 fun e w' => e = .returned (.tuple #[.string ⟨#[82, 69, 65, 68]⟩, .string key, .string ⟨#[]⟩, .string ⟨#[]⟩]) ∧ Below w4.heap.size w4 w' := both_req hall hm hl
  refine hreq.mono ?_
  rintro e w5 ⟨rfl, hb5⟩
  have hall5 := hall.next hb5
  clear hall hb5 hreq
  go_wp2
  go_loopw [14] (fun i wr => ∃ k : Nat, k ≤ os.length ∧ i = .int .i64 k ∧ Both w wr (w.heap.size + 2) w.heap.size w1.heap.size (w.heap.size + 1) os m (readS, key)) (fun i _ => os.length - (intOf i).toNat)
  case atStart => exact ⟨0, Nat.zero_le _, rfl, hall5⟩
  case round =>
    obtain ⟨k, hk, rfl, hbk⟩ := hrel
    clear hall5
    by_cases hlt : k < os.length
    · by_cases hkm : k < m
      · go_wp2_with (go_at_call 11; refine (both_low hbk hm hl hkm).mono ?_; rintro e w6 ⟨rfl, hb6⟩)
        go_roundw
        case rel => exact ⟨k + 1, by omega, by go_num, hbk.next hb6⟩
        case measure => simp [intOf]; omega
      · go_wp2_with (go_at_call 11; refine (both_high hbk hm hl (by omega) hlt).mono ?_; rintro e w6 ⟨rfl, hb6⟩)
        go_roundw
        case rel => exact ⟨k + 1, by omega, by go_num, hbk.next hb6⟩
        case measure => simp [intOf]; omega
    · go_wp2
      go_ret
      exact ⟨rfl, hbk.below⟩

end Go.Proofs.Qxb6614321a
