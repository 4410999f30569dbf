/-
  The leaves: zzContains, slices.Index, slices.Contains, zzSomeUnknown.
-/
import Derived.Test.Qxb6614318aFmtRows
import Derived.WalkKit
import Derived.WalkSpells
import Derived.WalkLawsBesides
import Derived.Lib.SlicesS
namespace Go.Proofs.Qxb6614318aFmt
open Go.RowKit

/-- The value v is a slice of strings over xs in the world w (a nil or empty one: no address is known). -/
def StrsAt (w : World) (v : Value) (xs : List ByteArray) : Prop :=
  (xs = [] ∧ ∃ a cap, v = .slice a 0 cap) ∨
  (∃ b off cap, v = .slice (some ⟨b, off, none⟩) xs.length cap ∧ ∀ j, j < xs.length → w.cell? ⟨b, off + j, none⟩ = some (.string (xs.getD j ByteArray.empty)))

theorem ret_bool {a b : Bool} (h : a = b) : Ending.returned (.bool a) = .returned (.bool b) := by rw [h]
theorem ret_int {k : IntKind} {a b : Int} (h : a = b) : Ending.returned (.int k a) = .returned (.int k b) := by rw [h]

/-- s is none of the first k strings. -/
def Unmet (xs : List ByteArray) (s : ByteArray) (k : Nat) : Prop := ∀ j, j < k → xs.getD j ByteArray.empty ≠ s

theorem unmet_zero (xs : List ByteArray) (s : ByteArray) : Unmet xs s 0 := fun _ hj => absurd hj (Nat.not_lt_zero _)

theorem unmet_succ {xs : List ByteArray} {s : ByteArray} {k : Nat} (h : Unmet xs s k) (hk : k < xs.length) (h2 : (xs[k].toList == s.toList) = false) : Unmet xs s (k + 1) := by
  intro j hj
  by_cases e : j = k
  · have := (Lib.bytes_beq_false_iff _ _).1 h2
    simpa [e, List.getD, hk] using this
  · exact h j (by omega)

theorem has_hit {xs : List ByteArray} {s : ByteArray} {k : Nat} (hk : k < xs.length) (h : (xs[k].toList == s.toList) = true) : Lib.containsS xs s = true := by
  rw [Lib.containsS_iff, ← (Lib.bytes_beq_iff _ _).1 h]
  exact List.getElem_mem hk

theorem has_miss {xs : List ByteArray} {s : ByteArray} {k : Nat} (h : Unmet xs s k) (hk : xs.length ≤ k) : Lib.containsS xs s = false := by
  cases e : Lib.containsS xs s
  · rfl
  · obtain ⟨j, hj, rfl⟩ := List.mem_iff_getElem.1 ((Lib.containsS_iff _ _).1 e)
    exact absurd (by simp [List.getD, hj]) (h j (by omega))

set_option maxHeartbeats 400000 in
theorem contains19_some (b off cap : Nat) (xs : List ByteArray) (s : ByteArray) (w : World) (hl : xs.length ≤ 1000000000)
    (hc : ∀ j, j < xs.length → w.cell? ⟨b, off + j, none⟩ = some (.string (xs.getD j ByteArray.empty))) :
    Calls Tryf.prog 19 #[.slice (some ⟨b, off, none⟩) xs.length cap, .string s] w fun e w' => e = .returned (.bool (Lib.containsS xs s)) ∧ w' = w := by
  go_enter Tryf.func19, Tryf.ntmps19
  go_wp2
  go_loop [9] (fun i => ∃ k : Nat, k ≤ xs.length ∧ i = .int .i64 k ∧ Unmet xs s k) (fun i => xs.length - (intOf i).toNat)
  case atStart => exact ⟨0, Nat.zero_le _, rfl, unmet_zero _ _⟩
  case round =>
    obtain ⟨k, hk, rfl, hne⟩ := hrel
    by_cases hlt : k < xs.length
    · have hck := hc k hlt
      go_wp2
      · go_ret
        exact ⟨ret_bool (has_hit hlt ‹_›).symm, rfl⟩
      · go_round
        case rel => exact ⟨k + 1, by omega, by go_num, unmet_succ hne hlt ‹_›⟩
        case measure => simp [intOf]; omega
    · go_wp2
      go_ret
      exact ⟨ret_bool (has_miss hne (by omega)).symm, rfl⟩

set_option maxHeartbeats 400000 in
theorem contains19_none (a : Option Addr) (cap : Nat) (s : ByteArray) (w : World) :
    Calls Tryf.prog 19 #[.slice a 0 cap, .string s] w fun e w' => e = .returned (.bool (Lib.containsS [] s)) ∧ w' = w := by
  go_enter Tryf.func19, Tryf.ntmps19
  go_wp2
  refine wp_loop_rounds 1 ?_
  rw [rounds_succ]
  go_wp2
  go_ret
  exact ⟨rfl, rfl⟩

theorem contains19_any (v : Value) (xs : List ByteArray) (s : ByteArray) (w : World) (hv : StrsAt w v xs) (hl : xs.length ≤ 1000000000) :
    Calls Tryf.prog 19 #[v, .string s] w fun e w' => e = .returned (.bool (Lib.containsS xs s)) ∧ w' = w := by
  rcases hv with ⟨rfl, a, cap, rfl⟩ | ⟨b, off, cap, rfl, hc⟩
  · exact contains19_none a cap s w
  · exact contains19_some b off cap xs s w hl hc

theorem idx_hit {xs : List ByteArray} {s : ByteArray} {k : Nat} (hk : k < xs.length) (hu : Unmet xs s k) (h : (s.toList == xs[k].toList) = true) : (k : Int) = Lib.idxOfS xs s := by
  have e : s = xs[k] := (Lib.bytes_beq_iff _ _).1 h
  have := Lib.idxFromS_hit s xs k 0 hk (by simp [List.getD, hk, e]) hu
  rw [Lib.idxOfS, this]
  simp

theorem idx_miss {xs : List ByteArray} {s : ByteArray} {k : Nat} (hu : Unmet xs s k) (hk : xs.length ≤ k) : (-1 : Int) = Lib.idxOfS xs s :=
  (Lib.idxFromS_miss s xs 0 (fun j hj => hu j (by omega))).symm

theorem unmet_succ' {xs : List ByteArray} {s : ByteArray} {k : Nat} (h : Unmet xs s k) (hk : k < xs.length) (h2 : (s.toList == xs[k].toList) = false) : Unmet xs s (k + 1) :=
  unmet_succ h hk (by rw [Lib.bytes_beq_false_iff] at h2 ⊢; exact fun e => h2 e.symm)

set_option maxHeartbeats 400000 in
theorem index26_some (b off cap : Nat) (xs : List ByteArray) (s : ByteArray) (w : World) (hl : xs.length ≤ 1000000000)
    (hc : ∀ j, j < xs.length → w.cell? ⟨b, off + j, none⟩ = some (.string (xs.getD j ByteArray.empty))) :
    Calls Tryf.prog 26 #[.slice (some ⟨b, off, none⟩) xs.length cap, .string s] w fun e w' => e = .returned (.int .i64 (Lib.idxOfS xs s)) ∧ w' = w := by
  go_enter Tryf.func26, Tryf.ntmps26
  go_wp2
  go_loop [8] (fun i => ∃ k : Nat, k ≤ xs.length ∧ i = .int .i64 k ∧ Unmet xs s k) (fun i => xs.length - (intOf i).toNat)
  case atStart => exact ⟨0, Nat.zero_le _, rfl, unmet_zero _ _⟩
  case round =>
    obtain ⟨k, hk, rfl, hne⟩ := hrel
    by_cases hlt : k < xs.length
    · have hck := hc k hlt
      go_wp2
      · go_ret
        exact ⟨ret_int (idx_hit hlt hne ‹_›), rfl⟩
      · go_round
        case rel => exact ⟨k + 1, by omega, by go_num, unmet_succ' hne hlt ‹_›⟩
        case measure => simp [intOf]; omega
    · go_wp2
      go_ret
      exact ⟨ret_int (idx_miss hne (by omega)), rfl⟩

set_option maxHeartbeats 400000 in
theorem index26_none (a : Option Addr) (cap : Nat) (s : ByteArray) (w : World) :
    Calls Tryf.prog 26 #[.slice a 0 cap, .string s] w fun e w' => e = .returned (.int .i64 (Lib.idxOfS [] s)) ∧ w' = w := by
  go_enter Tryf.func26, Tryf.ntmps26
  go_wp2
  refine wp_loop_rounds 1 ?_
  rw [rounds_succ]
  go_wp2
  go_ret
  exact ⟨rfl, rfl⟩

theorem index26_any (v : Value) (xs : List ByteArray) (s : ByteArray) (w : World) (hv : StrsAt w v xs) (hl : xs.length ≤ 1000000000) :
    Calls Tryf.prog 26 #[v, .string s] w fun e w' => e = .returned (.int .i64 (Lib.idxOfS xs s)) ∧ w' = w := by
  rcases hv with ⟨rfl, a, cap, rfl⟩ | ⟨b, off, cap, rfl, hc⟩
  · exact index26_none a cap s w
  · exact index26_some b off cap xs s w hl hc

set_option maxHeartbeats 400000 in
theorem contains21_any (v : Value) (xs : List ByteArray) (s : ByteArray) (w : World) (hv : StrsAt w v xs) (hl : xs.length ≤ 1000000000) :
    Calls Tryf.prog 21 #[v, .string s] w fun e w' => e = .returned (.bool (Lib.containsS xs s)) ∧ w' = w := by
  go_enter Tryf.func21, Tryf.ntmps21
  go_wp2_with (go_at_call 26; refine (index26_any _ _ _ _ hv hl).mono ?_; rintro e w' ⟨rfl, rfl⟩)
  go_ret
  exact ⟨rfl, rfl⟩

/-- Some name is not among the known ones. -/
def someUnknown (names known : List ByteArray) : Bool := names.any (fun n => !Lib.containsS known n)

theorem su_take {names known : List ByteArray} {k : Nat} (hk : k < names.length) : someUnknown (names.take (k + 1)) known = (someUnknown (names.take k) known || !Lib.containsS known names[k]) := by
  unfold someUnknown
  rw [List.take_succ_eq_append_getElem hk, List.any_append]
  simp only [List.any_cons, List.any_nil, Bool.or_false]

theorem su_hit {names known : List ByteArray} {k : Nat} (hk : k < names.length) (h : Lib.containsS known names[k] = false) : someUnknown names known = true := by
  unfold someUnknown
  rw [List.any_eq_true]
  exact ⟨names[k], List.getElem_mem hk, by simp [h]⟩

/-- The first k names are all known. -/
def AllKnown (names known : List ByteArray) (k : Nat) : Prop := someUnknown (names.take k) known = false

theorem ak_zero (names known : List ByteArray) : AllKnown names known 0 := by simp [AllKnown, someUnknown]
theorem ak_succ {names known : List ByteArray} {k : Nat} (h : AllKnown names known k) (hk : k < names.length) (h2 : Lib.containsS known names[k] = true) : AllKnown names known (k + 1) := by
  unfold AllKnown at *
  rw [su_take hk, h, h2]
  rfl
theorem ak_end {names known : List ByteArray} {k : Nat} (h : AllKnown names known k) (hk : names.length ≤ k) : someUnknown names known = false := by
  unfold AllKnown at h
  rwa [List.take_of_length_le hk] at h

set_option maxHeartbeats 400000 in
theorem unknown9_some (b off cap : Nat) (xs : List ByteArray) (v : Value) (known : List ByteArray) (w : World) (hl : xs.length ≤ 1000000000) (hv : StrsAt w v known) (hl2 : known.length ≤ 1000000000)
    (hc : ∀ j, j < xs.length → w.cell? ⟨b, off + j, none⟩ = some (.string (xs.getD j ByteArray.empty))) :
    Calls Tryf.prog 9 #[.slice (some ⟨b, off, none⟩) xs.length cap, v] w fun e w' => e = .returned (.bool (someUnknown xs known)) ∧ w' = w := by
  go_enter Tryf.func9, Tryf.ntmps9
  go_wp2
  go_loop [9] (fun i => ∃ k : Nat, k ≤ xs.length ∧ i = .int .i64 k ∧ AllKnown xs known k) (fun i => xs.length - (intOf i).toNat)
  case atStart => exact ⟨0, Nat.zero_le _, rfl, ak_zero _ _⟩
  case round =>
    obtain ⟨k, hk, rfl, hne⟩ := hrel
    by_cases hlt : k < xs.length
    · have hck := hc k hlt
      by_cases hin : Lib.containsS known xs[k] = true
      · go_wp2_with (go_at_call 19; refine (contains19_any _ _ _ _ hv hl2).mono ?_; rintro e w' ⟨rfl, rfl⟩)
        go_round
        case rel => exact ⟨k + 1, by omega, by go_num, ak_succ hne hlt hin⟩
        case measure => simp [intOf]; omega
      · have hin' : Lib.containsS known xs[k] = false := by simpa using hin
        clear hin
        go_wp2_with (go_at_call 19; refine (contains19_any _ _ _ _ hv hl2).mono ?_; rintro e w' ⟨rfl, rfl⟩)
        go_ret
        exact ⟨ret_bool (su_hit hlt hin').symm, rfl⟩
    · go_wp2
      go_ret
      exact ⟨ret_bool (ak_end hne (by omega)).symm, rfl⟩

set_option maxHeartbeats 400000 in
theorem unknown9_none (a : Option Addr) (cap : Nat) (v : Value) (known : List ByteArray) (w : World) :
    Calls Tryf.prog 9 #[.slice a 0 cap, v] w fun e w' => e = .returned (.bool (someUnknown [] known)) ∧ w' = w := by
  go_enter Tryf.func9, Tryf.ntmps9
  go_wp2
  refine wp_loop_rounds 1 ?_
  rw [rounds_succ]
  go_wp2
  go_ret
  exact ⟨rfl, rfl⟩

theorem unknown9_any (u v : Value) (xs known : List ByteArray) (w : World) (hu : StrsAt w u xs) (hv : StrsAt w v known) (hl : xs.length ≤ 1000000000) (hl2 : known.length ≤ 1000000000) :
    Calls Tryf.prog 9 #[u, v] w fun e w' => e = .returned (.bool (someUnknown xs known)) ∧ w' = w := by
  rcases hu with ⟨rfl, a, cap, rfl⟩ | ⟨b, off, cap, rfl, hc⟩
  · exact unknown9_none a cap v known w
  · exact unknown9_some b off cap xs v known w hl hv hl2 hc

end Go.Proofs.Qxb6614318aFmt
