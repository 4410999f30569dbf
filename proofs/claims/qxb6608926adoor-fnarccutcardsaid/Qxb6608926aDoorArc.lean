/-
  strconv.ParseUint(s, 10, 31), oid.arc, oid.ZZarc, zzIsDigit, zzBytes.
-/
import Derived.Test.Qxb6608926aDoorParse
namespace Go.Proofs.Qxb6608926aDoor
open Go.RowKit

/-- The two sentinels of strconv hold interface values. -/
def ErrsAt (w : World) : Prop := (∃ te pe, w.cell? ⟨1, 0, none⟩ = some (.iface te pe)) ∧ (∃ te pe, w.cell? ⟨2, 0, none⟩ = some (.iface te pe))

theorem lt_of_cell {w : World} {b o : Nat} {v : Value} (h : w.cell? ⟨b, o, none⟩ = some v) : b < w.heap.size := by
  rcases Nat.lt_or_ge b w.heap.size with h1 | h1
  · exact h1
  · have : w.heap[b]? = none := by simp [h1]
    simp [World.cell?, this] at h

theorem ErrsAt.below {w w' : World} (h : ErrsAt w) (hb : Below w.heap.size w w') : ErrsAt w' := by
  obtain ⟨⟨t1, p1, h1⟩, ⟨t2, p2, h2⟩⟩ := h
  exact ⟨⟨t1, p1, by rw [hb.cell (p := ⟨1, 0, none⟩) (lt_of_cell h1)]; exact h1⟩, ⟨t2, p2, by rw [hb.cell (p := ⟨2, 0, none⟩) (lt_of_cell h2)]; exact h2⟩⟩

/-- scan's three ends. -/
theorem scan_ends : ∀ (l : List UInt8) (acc : Nat), acc ≤ 2147483647 → (∃ u, scan acc l = (0, u) ∧ u ≤ 2147483647) ∨ scan acc l = (1, 2147483647) ∨ scan acc l = (2, 0)
  | [], acc, h => Or.inl ⟨acc, rfl, h⟩
  | c :: r, acc, _ => by
    by_cases hd : 48 ≤ c.toNat ∧ c.toNat ≤ 57
    · by_cases ho : 2147483647 < acc * 10 + (c.toNat - 48)
      · exact Or.inr (Or.inl (scan_over hd.1 hd.2 ho))
      · rw [scan_step hd.1 hd.2 ho]
        exact scan_ends r _ (by omega)
    · exact Or.inr (Or.inr (scan_bad hd))

theorem arcOf_ends (l : List UInt8) : (∃ u, arcOf l = (0, u) ∧ u ≤ 2147483647) ∨ arcOf l = (1, 2147483647) ∨ arcOf l = (2, 0) := by
  unfold arcOf
  split
  · exact Or.inr (Or.inr rfl)
  · exact scan_ends l 0 (by omega)

theorem parse22_any (t : ByteArray) (hmax : t.size ≤ 2000000) (w : World) :
    Calls Tryd.prog 22 #[.string t, .int .i64 10, .int .i64 31] w fun e w' => e = .returned (scanV (arcOf t.data.toList)) ∧ Below w.heap.size w w' := by
  by_cases h0 : t.size = 0
  · have ht : t = ⟨#[]⟩ := by
      apply ByteArray.ext
      exact Array.eq_empty_of_size_eq_zero h0
    subst ht
    refine (parse22_empty w).mono ?_
    rintro e w' ⟨rfl, rfl⟩
    exact ⟨rfl, Below.refl _ _⟩
  · refine (parse22 t h0 hmax w).mono ?_
    rintro e w' ⟨rfl, rfl⟩
    have hne : t.data.toList ≠ [] := fun e => h0 (by rw [Lib.size_eq, e]; rfl)
    exact ⟨by unfold arcOf; rw [if_neg hne], Lib.bytesWorld_below w 5 t⟩

/-- The code says: a number, or an error that is not nil. -/
def ErrIs (code : Nat) (r : Value) : Prop := (code = 0 ∧ r = .nilIface) ∨ (code ≠ 0 ∧ ∃ a, r = .iface 43 (.pointer (some a)))

set_option maxHeartbeats 400000 in
theorem parse20 (t : ByteArray) (w : World) (hmax : t.size ≤ 2000000) (he : ErrsAt w) :
    Calls Tryd.prog 20 #[.string t, .int .i64 10, .int .i64 31] w fun e w' => ∃ r, e = .returned (.tuple #[.int .u64 ((arcOf t.data.toList).2 : Int), r]) ∧ ErrIs (arcOf t.data.toList).1 r ∧ Below w.heap.size w w' := by
  have hp := parse22_any t hmax w
  rcases arcOf_ends t.data.toList with ⟨u, hx, _⟩ | hx | hx
  · rw [hx] at hp ⊢
    have hp' : Calls Tryd.prog 22 #[.string t, .int .i64 10, .int .i64 31] w fun e w' => e = .returned (.tuple #[.int .u64 (u : Int), .nilIface]) ∧ Below w.heap.size w w' := hp
    clear hp hx
    go_enter Tryd.func20, Tryd.ntmps20
    go_wp2_with (go_at_call 22; refine hp'.mono ?_; rintro e w1 ⟨rfl, hb1⟩)
    go_ret2
    exact ⟨_, rfl, Or.inl ⟨rfl, rfl⟩, hb1⟩
  · rw [hx] at hp ⊢
    have hp' : Calls Tryd.prog 22 #[.string t, .int .i64 10, .int .i64 31] w fun e w' => e = .returned (.tuple #[.int .u64 2147483647, .iface 40 (.int .i64 1)]) ∧ Below w.heap.size w w' := hp
    clear hp hx
    go_enter Tryd.func20, Tryd.ntmps20
    go_wp2_with (go_at_call 22; refine hp'.mono ?_; rintro e w1 ⟨rfl, hb1⟩)
    obtain ⟨_, te, pe, hv⟩ := he.below hb1
    refine (toError23_range _ t _ _ _ _ hmax hv (Or.inr ⟨te, pe, rfl⟩)).mono ?_
    rintro e w2 ⟨N, rfl, hb2⟩
    go_wp2
    go_ret2
    exact ⟨_, rfl, Or.inr ⟨by decide, _, rfl⟩, hb1.trans (hb2.mono hb1.size)⟩
  · rw [hx] at hp ⊢
    have hp' : Calls Tryd.prog 22 #[.string t, .int .i64 10, .int .i64 31] w fun e w' => e = .returned (.tuple #[.int .u64 0, .iface 40 (.int .i64 2)]) ∧ Below w.heap.size w w' := hp
    clear hp hx
    go_enter Tryd.func20, Tryd.ntmps20
    go_wp2_with (go_at_call 22; refine hp'.mono ?_; rintro e w1 ⟨rfl, hb1⟩)
    obtain ⟨⟨te, pe, hv⟩, _⟩ := he.below hb1
    refine (toError23_syntax _ t _ _ _ _ hmax hv (Or.inr ⟨te, pe, rfl⟩)).mono ?_
    rintro e w2 ⟨N, rfl, hb2⟩
    go_wp2
    go_ret2
    exact ⟨_, rfl, Or.inr ⟨by decide, _, rfl⟩, hb1.trans (hb2.mono hb1.size)⟩

set_option maxHeartbeats 400000 in
theorem arc16 (t : ByteArray) (w : World) (hmax : t.size ≤ 2000000) (he : ErrsAt w) :
    Calls Tryd.prog 16 #[.string t] w fun e w' => e = .returned (.tuple #[.int .i64 ((arcOf t.data.toList).2 : Int), .bool ((arcOf t.data.toList).1 == 0)]) ∧ Below w.heap.size w w' := by
  have hp := parse20 t w hmax he
  obtain ⟨x, y, hxy, hy⟩ : ∃ x y, arcOf t.data.toList = (x, y) ∧ y ≤ 2147483647 := by
    rcases arcOf_ends t.data.toList with ⟨u, h, hu⟩ | h | h
    · exact ⟨_, _, h, hu⟩
    · exact ⟨_, _, h, Nat.le_refl _⟩
    · exact ⟨_, _, h, Nat.zero_le _⟩
  rw [hxy] at hp ⊢
  clear hxy
  simp only at hp ⊢
  go_enter Tryd.func16, Tryd.ntmps16
  go_wp2_with (go_at_call 20; refine hp.mono ?_; rintro e w1 ⟨r, rfl, hr, hb1⟩)
  rcases hr with ⟨rfl, rfl⟩ | ⟨hx, q, rfl⟩
  · go_quiet (fail)
    go_wp2
    go_ret2
    exact ⟨rfl, below_drewN hb1 _⟩
  · go_quiet (fail)
    go_wp2
    go_ret2
    have hx' : (x == 0) = false := by simpa using hx
    exact ⟨by rw [hx']; rfl, below_drewN hb1 _⟩

set_option maxHeartbeats 400000 in
theorem zzarc13 (t : ByteArray) (w : World) (hmax : t.size ≤ 2000000) (he : ErrsAt w) :
    Calls Tryd.prog 13 #[.string t] w fun e w' => e = .returned (.tuple #[.int .i64 ((arcOf t.data.toList).2 : Int), .bool ((arcOf t.data.toList).1 == 0)]) ∧ Below w.heap.size w w' := by
  go_enter Tryd.func13, Tryd.ntmps13
  go_wp2_with (go_at_call 16; refine (arc16 t _ hmax he).mono ?_; rintro e w1 ⟨rfl, hb1⟩)
  go_ret2
  exact ⟨rfl, hb1⟩

/-- The call hands back some bool. -/
def SomeBool (e : Ending) : Prop := ∃ b, e = .returned (.bool b)

set_option maxHeartbeats 400000 in
theorem bytes12 (t : ByteArray) (i : Int) (w : World) : Calls Tryd.prog 12 #[.string t, .int .i64 i] w fun e w' => SomeBool e ∧ w' = w := by
  go_enter Tryd.func12, Tryd.ntmps12
  go_wp2
  all_goals (go_ret; exact ⟨⟨_, rfl⟩, rfl⟩)

/-- A decimal digit. -/
def digB (c : UInt8) : Bool := decide (48 ≤ c.toNat) && decide (c.toNat ≤ 57)

set_option maxHeartbeats 400000 in
theorem isDigit11 (c : UInt8) (w : World) : Calls Tryd.prog 11 #[.int .u8 c.toNat] w fun e w' => e = .returned (.bool (digB c)) ∧ w' = w := by
  by_cases h0 : 48 ≤ c.toNat
  · by_cases h1 : c.toNat ≤ 57
    · go_enter Tryd.func11, Tryd.ntmps11
      go_wp2
      go_ret
      exact ⟨by simp [digB, h0, h1]; omega, rfl⟩
    · go_enter Tryd.func11, Tryd.ntmps11
      go_wp2
      go_ret
      exact ⟨by simp [digB, h0, h1]; omega, rfl⟩
  · go_enter Tryd.func11, Tryd.ntmps11
    go_wp2
    go_ret
    exact ⟨by simp [digB, h0], rfl⟩

end Go.Proofs.Qxb6608926aDoor
