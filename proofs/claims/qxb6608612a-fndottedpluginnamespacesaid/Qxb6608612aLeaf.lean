/-
  The leaves of the two laws on dotted names.
-/
import Derived.Test.Qxb6608612aRows
import Derived.WalkKit
import Derived.WalkSpells
import Derived.WalkLawsBesides
namespace Go.Proofs.Qxb6608612a
open Go.RowKit

/-- The call hands back some bool. -/
def SomeBool (e : Ending) : Prop := ∃ b, e = .returned (.bool b)

set_option maxHeartbeats 400000 in
theorem bytes6 (a b c d : ByteArray) (w : World) : Calls Try.prog 6 #[.string a, .string b, .string c, .string d] w fun e w' => SomeBool e ∧ w' = w := by
  go_enter Try.func6, Try.ntmps6
  go_wp2
  all_goals (go_ret; exact ⟨⟨_, rfl⟩, rfl⟩)

set_option maxHeartbeats 400000 in
theorem bytes10 (a b c d : ByteArray) (w : World) : Calls Try.prog 10 #[.string a, .string b, .string c, .string d] w fun e w' => SomeBool e ∧ w' = w := by
  go_enter Try.func10, Try.ntmps10
  go_wp2
  all_goals (go_ret; exact ⟨⟨_, rfl⟩, rfl⟩)

/-- The dotted name. -/
def dotted (p n : ByteArray) : ByteArray := p ++ ⟨#[46]⟩ ++ n

set_option maxHeartbeats 400000 in
theorem dotted8 (p n : ByteArray) (w : World) (hp : p.size ≤ 262144) (hn : n.size ≤ 262144) : Calls Try.prog 8 #[.agg #[.string p, .string n]] w fun e w' => e = .returned (.string (dotted p n)) ∧ Grown w w' := by
  go_enter Try.func8, Try.ntmps8
  go_wp2
  go_ret
  exact ⟨rfl, ((Grown.refl _).alloc _ _).alloc _ _⟩

/-- No byte of s below place k is a dot. -/
def NoDot (s : ByteArray) (k : Nat) : Prop := ∀ j (h : j < s.size), j < k → s[j] ≠ 46

theorem noDot_zero (s : ByteArray) : NoDot s 0 := fun _ _ h => absurd h (Nat.not_lt_zero _)
theorem noDot_succ {s : ByteArray} {k : Nat} (h : NoDot s k) (hk : k < s.size) (hb : ((s[k].toNat : Int) == 46) = false) : NoDot s (k + 1) := by
  intro j hj hlt
  by_cases e : j = k
  · subst e
    intro h46
    rw [h46] at hb
    simp at hb
  · exact h j hj (by omega)
theorem dot_hit {c : UInt8} (h : ((c.toNat : Int) == 46) = true) : c = 46 := by
  have h1 : (c.toNat : Int) = 46 := by simpa using h
  have h2 : c.toNat = 46 := by omega
  exact UInt8.toNat_inj.1 h2

/-- Is there a dot in s? -/
def dotB (s : ByteArray) : Bool := s.data.toList.contains 46

theorem dotB_false {s : ByteArray} (h : NoDot s s.size) : dotB s = false := by
  unfold dotB
  rw [← Bool.not_eq_true]
  intro hc
  have hm : (46 : UInt8) ∈ s.data.toList := by simpa using hc
  obtain ⟨j, hj, e⟩ := List.mem_iff_getElem.1 hm
  have hj' : j < s.size := by rw [Array.length_toList] at hj; exact hj
  exact h j hj' hj' e

theorem noDot_of {s : ByteArray} (h : dotB s = false) (k : Nat) : NoDot s k := by
  intro j hj _ e
  unfold dotB at h
  have : (46 : UInt8) ∈ s.data.toList := by
    rw [← e]
    exact List.mem_iff_getElem.2 ⟨j, by rw [Array.length_toList]; exact hj, rfl⟩
  rw [List.contains_iff_mem.2 this] at h
  cases h

theorem dotB_true {s : ByteArray} {k : Nat} (hk : k < s.size) (h : ((s[k].toNat : Int) == 46) = true) : dotB s = true := by
  cases e : dotB s
  · exact absurd (dot_hit h) (noDot_of e (k + 1) k hk (Nat.lt_succ_self k))
  · rfl

theorem ret_bool {a b : Bool} (h : a = b) : Ending.returned (.bool a) = .returned (.bool b) := by rw [h]
theorem ret_int {k : IntKind} {a b : Int} (h : a = b) : Ending.returned (.int k a) = .returned (.int k b) := by rw [h]

set_option maxHeartbeats 400000 in
theorem hasDot7 (s : ByteArray) (w : World) (hp : s.size ≤ 262144) : Calls Try.prog 7 #[.string s] w fun e w' => e = .returned (.bool (dotB s)) ∧ w' = w := by
  go_enter Try.func7, Try.ntmps7
  go_wp2
  go_loop [3] (fun i => ∃ k : Nat, k ≤ s.size ∧ i = .int .i64 k ∧ NoDot s k) (fun i => s.size - (intOf i).toNat)
  case atStart => exact ⟨0, Nat.zero_le _, rfl, noDot_zero s⟩
  case round =>
    obtain ⟨k, hk, rfl, hn⟩ := hrel
    by_cases hlt : k < s.size
    · go_wp2
      · go_ret
        exact ⟨ret_bool (dotB_true hlt ‹_›).symm, rfl⟩
      · go_round
        case rel => exact ⟨k + 1, by omega, by go_num, noDot_succ hn hlt ‹_›⟩
        case measure => simp [intOf]; omega
    · obtain rfl : k = s.size := by omega
      go_wp2
      go_ret
      exact ⟨ret_bool (dotB_false hn).symm, rfl⟩

/-- The first dot, where it is known to lie at m. -/
theorem firstDot9 (s : ByteArray) (m : Nat) (w : World) (hp : s.size ≤ 1048576) (hm : m < s.size) (hd : s[m] = 46) (hno : NoDot s m) : Calls Try.prog 9 #[.string s] w fun e w' => e = .returned (.int .i64 m) ∧ w' = w := by
  go_enter Try.func9, Try.ntmps9
  go_wp2
  go_loop [3] (fun i => ∃ k : Nat, k ≤ m ∧ i = .int .i64 k) (fun i => s.size - (intOf i).toNat)
  case atStart => exact ⟨0, Nat.zero_le _, rfl⟩
  case round =>
    obtain ⟨k, hk, rfl⟩ := hrel
    have hlt : k < s.size := by omega
    by_cases hkm : k = m
    · subst hkm
      have hd' : ((s[k].toNat : Int) == 46) = true := by rw [hd]; rfl
      clear hd
      go_wp2
      go_ret
      exact ⟨rfl, rfl⟩
    · have hne : ((s[k].toNat : Int) == 46) = false := by
        cases e : ((s[k].toNat : Int) == 46)
        · rfl
        · exact absurd (dot_hit e) (hno k hlt (by omega))
      clear hd
      go_wp2
      go_round
      case rel => exact ⟨k + 1, by omega, by go_num⟩
      case measure => simp [intOf]; omega

end Go.Proofs.Qxb6608612a
