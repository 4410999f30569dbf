/-
  internal/strconv.ParseUint(s, 10, 31), strconv.ParseUint, arc, ZZarc (after the shelf's own walk at 32 bits, turned to this program and to 31 bits).
-/
import Derived.Test.Qxb6608926aDoorErr
import Derived.Test.Qxb6608926aDoorScan
import Derived.Lib.ConvBytes
import Derived.Lib.Hide
import Derived.Laws.Strings3
import Derived.Laws.Closers25
import Derived.Laws.Closers25b
import Derived.BigQuiet
namespace Go.Proofs.Qxb6608926aDoor
open Go.RowKit

/-- The inner package's errors by their codes. -/
def errV : Nat → Value
  | 0 => .nilIface
  | k => .iface 40 (.int .i64 k)

def scanV (x : Nat × Nat) : Value := .tuple #[.int .u64 (x.2 : Int), errV x.1]

set_option maxHeartbeats 400000 in
theorem lower28 (c : Int) (w : World) : Calls Tryd.prog 28 #[.int .u8 c] w fun e w' => e = .returned (.int .u8 (bits .or .u8 c 32)) ∧ w' = w := by
  go_enter Tryd.func28, Tryd.ntmps28
  go_wp2
  go_ret
  exact ⟨rfl, rfl⟩

set_option maxHeartbeats 400000 in
set_option maxRecDepth 100000 in
theorem parse22_empty (w : World) : Calls Tryd.prog 22 #[.string ⟨#[]⟩, .int .i64 10, .int .i64 31] w fun e w' => e = .returned (scanV (2, 0)) ∧ w' = w := by
  go_enter Tryd.func22, Tryd.ntmps22
  go_wp2
  go_ret2
  exact ⟨rfl, rfl⟩

set_option maxHeartbeats 4000000 in
set_option maxRecDepth 100000 in
theorem parse22 (t : ByteArray) (hne : t.size ≠ 0) (hmax : t.size ≤ 2000000) (w : World) :
    Calls Tryd.prog 22 #[.string t, .int .i64 10, .int .i64 31] w fun e w' => e = .returned (scanV (scan 0 t.data.toList)) ∧ w' = Lib.bytesWorld w 5 t := by
  have hemp : t.toList.isEmpty = false := by
    rw [← decide_eq_emptyBytes]
    exact decide_eq_false (fun h => hne (by rw [h]; rfl))
  have hcv := Lib.run_convert_string_bytes (P := Tryd.prog) w 9 42 5 t (u := .string) Tryd.underlying9 Tryd.underlying42 Tryd.underlying5
  have hB : ∀ j, j < t.size → (Lib.bytesWorld w 5 t).cell? ⟨w.heap.size, j, none⟩ = some (.int .u8 (t.data.toList.getD j 0).toNat) := fun j hj => Lib.bytesWorld_cell w 5 t j hj
  obtain ⟨W1, hW1⟩ : ∃ W1, W1 = Lib.bytesWorld w 5 t := ⟨_, rfl⟩
  rw [← hW1] at hcv hB ⊢
  clear hW1
  obtain ⟨bs, hL⟩ : ∃ bs, bs = t.data.toList := ⟨_, rfl⟩
  have hLn : bs.length = t.size := by rw [hL, Lib.size_eq]
  rw [← hL] at hB ⊢
  clear hL
  have hmv : IntKind.u64.wrap (IntKind.u64.wrap 2147483648 - 1) = 2147483647 := by
    rw [IntKind.wrap_u64, IntKind.wrap_u64]
    decide
  go_enter Tryd.func22, Tryd.ntmps22
  go_wp2
  go_loop [12, 13, 101] (fun vu vn vi => ∃ (k acc : Nat) (a : Int), vu = .bool false ∧ vn = .int .u64 a ∧ vi = .int .i64 k ∧ k ≤ t.size ∧ Hid (a = (acc : Int) ∧ acc ≤ 2147483647 ∧ scan 0 bs = scan acc (bs.drop k)))
    (fun _ _ vi => t.size - (intOf vi).toNat)
  case atStart => exact ⟨0, 0, 0, rfl, rfl, rfl, by omega, rfl, by omega, rfl⟩
  case round =>
    obtain ⟨k, acc, a, rfl, rfl, rfl, hk, hh⟩ := hrel
    obtain ⟨ha, hacc, hdec⟩ := hh.out
    clear hh
    have a0 : 0 ≤ a := by omega
    have a1 : a ≤ 2147483647 := by omega
    by_cases hkn : k < t.size
    · have hc := hB k hkn
      have hdrop : bs.drop k = bs[k]'(by omega) :: bs.drop (k + 1) := List.drop_eq_getElem_cons (by omega)
      have hget : bs.getD k 0 = bs[k]'(by omega) := by simp [List.getD, List.getElem?_eq_getElem (show k < bs.length by omega)]
      rw [hdrop] at hdec
      rw [hget] at hc
      generalize bs[k]'(by omega) = c at hc hdec
      have hc256 : c.toNat < 256 := c.toNat_lt
      clear hB hdrop hget
      by_cases hdig : 48 ≤ c.toNat ∧ c.toNat ≤ 57
      · obtain ⟨hd0, hd1⟩ := hdig
        by_cases hov : 2147483647 < acc * 10 + (c.toNat - 48)
        · rw [scan_over hd0 hd1 hov] at hdec
          have iov : 2147483647 < a * 10 + ((c.toNat : Int) - 48) := by omega
          have HD : Hid (scan 0 bs = (1, 2147483647)) := hdec
          clear hacc hov ha hdec
          go_wp2
          go_ret2
          exact ⟨by rw [HD.out]; rfl, rfl⟩
        · rw [scan_step hd0 hd1 hov] at hdec
          have HN : Hid (a * 10 + ((c.toNat : Int) - 48) = ((acc * 10 + (c.toNat - 48) : Nat) : Int) ∧ acc * 10 + (c.toNat - 48) ≤ 2147483647 ∧ scan 0 bs = scan (acc * 10 + (c.toNat - 48)) (bs.drop (k + 1))) := Lib.hid ⟨by omega, by omega, hdec⟩
          have iov : a * 10 + ((c.toNat : Int) - 48) ≤ 2147483647 := by omega
          clear hacc hov hdec ha
          go_wp2
          refine ⟨⟨k + 1, acc * 10 + (c.toNat - 48), a * 10 + ((c.toNat : Int) - 48), rfl, (by first | rfl | (congr 1; omega)), (by first | rfl | (congr 1; omega)), by omega, HN⟩, by simp [intOf]; omega⟩
      · rw [scan_bad hdig] at hdec
        have HD : Hid (scan 0 bs = (2, 0)) := hdec
        clear hacc ha hdec
        have hv0 := bits_lo_u8 .or (c.toNat : Int) 32
        have hv1 := bits_hi_u8 .or (c.toNat : Int) 32
        have hu0 := bits_lo_u8 .or 95 32
        have hu1 := bits_hi_u8 .or 95 32
        go_wp2_with (go_at_call 28; refine (lower28 _ _).mono ?_; rintro e w' ⟨rfl, rfl⟩)
        all_goals go_ret2
        all_goals exact ⟨by rw [HD.out]; rfl, rfl⟩
    · have hkk : k = t.size := by omega
      subst hkk
      have hF : scan acc (bs.drop t.size) = (0, acc) := by rw [List.drop_eq_nil_of_le (by omega)]; rfl
      rw [hF] at hdec
      have HD : Hid (scan 0 bs = (0, acc)) := hdec
      subst ha
      clear hacc hF a0 a1 hdec
      go_wp2
      go_ret2
      exact ⟨by rw [HD.out]; rfl, rfl⟩

end Go.Proofs.Qxb6608926aDoor
