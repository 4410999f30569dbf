/-
  The plain laws of 'scan': what the whole text gives, out of its two pieces. No Go in sight.
-/
import Derived.Test.Qxb6608926aDoorScan
namespace Go.Proofs.Qxb6608926aDoor

def Dig (c : UInt8) : Prop := 48 ≤ c.toNat ∧ c.toNat ≤ 57

theorem scan_append : ∀ (A B : List UInt8) (acc : Nat), scan acc (A ++ B) = if (scan acc A).1 = 0 then scan (scan acc A).2 B else scan acc A
  | [], B, acc => by simp [scan]
  | c :: A, B, acc => by
    by_cases hd : 48 ≤ c.toNat ∧ c.toNat ≤ 57
    · by_cases ho : 2147483647 < acc * 10 + (c.toNat - 48)
      · rw [List.cons_append, scan_over hd.1 hd.2 ho, scan_over hd.1 hd.2 ho]
        simp
      · rw [List.cons_append, scan_step hd.1 hd.2 ho, scan_step hd.1 hd.2 ho]
        exact scan_append A B _
    · rw [List.cons_append, scan_bad hd, scan_bad hd]
      simp

/-- The number that decimal digits write. -/
def val : List UInt8 → Nat
  | [] => 0
  | c :: r => (c.toNat - 48) * 10 ^ r.length + val r

theorem scan_all : ∀ (l : List UInt8) (acc : Nat), (∀ c ∈ l, Dig c) → acc ≤ 2147483647 →
    scan acc l = if acc * 10 ^ l.length + val l ≤ 2147483647 then (0, acc * 10 ^ l.length + val l) else (1, 2147483647)
  | [], acc, _, h => by simp [scan, val, h]
  | c :: r, acc, hl, h => by
    have hd : Dig c := hl c List.mem_cons_self
    have hr : ∀ x ∈ r, Dig x := fun x hx => hl x (List.mem_cons_of_mem _ hx)
    have e : acc * 10 ^ (c :: r).length + val (c :: r) = (acc * 10 + (c.toNat - 48)) * 10 ^ r.length + val r := by
      simp only [List.length_cons, val, Nat.pow_succ, Nat.add_mul]
      rw [Nat.mul_comm (10 ^ r.length) 10, Nat.mul_assoc]
      omega
    rw [e]
    by_cases ho : 2147483647 < acc * 10 + (c.toNat - 48)
    · rw [scan_over hd.1 hd.2 ho]
      have h1 : 1 ≤ 10 ^ r.length := Nat.pos_of_ne_zero (by simp)
      have h2 : acc * 10 + (c.toNat - 48) ≤ (acc * 10 + (c.toNat - 48)) * 10 ^ r.length := Nat.le_mul_of_pos_right _ h1
      rw [if_neg (by omega)]
    · rw [scan_step hd.1 hd.2 ho]
      exact scan_all r _ hr (by omega)

theorem digits_of : ∀ (l : List UInt8) (acc : Nat), (scan acc l).1 = 0 → ∀ c ∈ l, Dig c
  | [], _, _ => fun c hc => by cases hc
  | c :: r, acc, h => by
    by_cases hd : 48 ≤ c.toNat ∧ c.toNat ≤ 57
    · by_cases ho : 2147483647 < acc * 10 + (c.toNat - 48)
      · rw [scan_over hd.1 hd.2 ho] at h
        cases h
      · rw [scan_step hd.1 hd.2 ho] at h
        intro x hx
        rcases List.mem_cons.1 hx with rfl | hx
        · exact hd
        · exact digits_of r _ h x hx
    · rw [scan_bad hd] at h
      cases h

theorem scan_grows : ∀ (l : List UInt8) (a b : Nat), scan a l = (1, 2147483647) → a ≤ b → b ≤ 2147483647 → scan b l = (1, 2147483647)
  | [], a, b, h, _, _ => by simp [scan] at h
  | c :: r, a, b, h, hab, hb => by
    by_cases hd : 48 ≤ c.toNat ∧ c.toNat ≤ 57
    · by_cases hob : 2147483647 < b * 10 + (c.toNat - 48)
      · exact scan_over hd.1 hd.2 hob
      · rw [scan_step hd.1 hd.2 hob]
        rw [scan_step hd.1 hd.2 (by omega)] at h
        exact scan_grows r _ _ h (by omega) (by omega)
    · rw [scan_bad hd] at h
      simp at h

theorem arcOf_ne {l : List UInt8} (h : l ≠ []) : arcOf l = scan 0 l := by unfold arcOf; rw [if_neg h]
theorem arcOf_nil : arcOf [] = (2, 0) := rfl
theorem arcOf_digit {c : UInt8} (h : Dig c) : arcOf [c] = (0, c.toNat - 48) := by
  rw [arcOf_ne (by simp), scan_step h.1 h.2 (by have := h.2; omega)]
  simp [scan]
theorem arcOf_other {c : UInt8} (h : ¬ Dig c) : arcOf [c] = (2, 0) := by
  rw [arcOf_ne (by simp), scan_bad h]

/-- The whole, out of the pieces. -/
theorem whole {A B : List UInt8} (hA : A ≠ []) : arcOf (A ++ B) = if (arcOf A).1 = 0 then scan (arcOf A).2 B else arcOf A := by
  rw [arcOf_ne (by simp [hA]), arcOf_ne hA, scan_append]

theorem whole_stop {A B : List UInt8} {x : Nat × Nat} (hA : A ≠ []) (h : arcOf A = x) (hx : x.1 ≠ 0) : arcOf (A ++ B) = x := by
  rw [whole hA, h, if_neg hx]

theorem whole_go {A B : List UInt8} {u : Nat} (hA : A ≠ []) (h : arcOf A = (0, u)) : arcOf (A ++ B) = scan u B := by
  rw [whole hA, h]
  simp

theorem go_bad {u : Nat} {c : UInt8} {r : List UInt8} (h : ¬ Dig c) : scan u (c :: r) = (2, 0) := scan_bad h

theorem go_zero {B : List UInt8} {q : Nat × Nat} (hB : B ≠ []) (h : arcOf B = q) : scan 0 B = q := by rw [← arcOf_ne hB]; exact h

theorem go_digits {u m : Nat} {B : List UInt8} (hB : B ≠ []) (h : arcOf B = (0, m)) (hu : u ≤ 2147483647) :
    scan u B = if u * 10 ^ B.length + m ≤ 2147483647 then (0, u * 10 ^ B.length + m) else (1, 2147483647) := by
  rw [arcOf_ne hB] at h
  have hd := digits_of B 0 (by rw [h])
  have h0 := scan_all B 0 hd (by omega)
  rw [h] at h0
  have hm : m = val B := by
    split at h0
    · simp at h0; exact h0
    · simp at h0
  rw [scan_all B u hd hu, hm]

theorem go_range {u : Nat} {B : List UInt8} (hB : B ≠ []) (h : arcOf B = (1, 2147483647)) (hu : u ≤ 2147483647) : scan u B = (1, 2147483647) := by
  rw [arcOf_ne hB] at h
  exact scan_grows B 0 u h (Nat.zero_le _) hu

theorem go_other {u : Nat} {B : List UInt8} (hB : B ≠ []) (h : arcOf B = (2, 0)) : scan u B = (1, 2147483647) ∨ scan u B = (2, 0) := by
  rw [arcOf_ne hB] at h
  by_cases h0 : (scan u B).1 = 0
  · have hd := digits_of B u h0
    have := scan_all B 0 hd (by omega)
    rw [h] at this
    split at this <;> simp at this
  · have ends : ∀ (l : List UInt8) (acc : Nat), (scan acc l).1 = 0 ∨ scan acc l = (1, 2147483647) ∨ scan acc l = (2, 0) := by
      intro l
      induction l with
      | nil => intro acc; exact Or.inl rfl
      | cons c r ih =>
        intro acc
        by_cases hd : 48 ≤ c.toNat ∧ c.toNat ≤ 57
        · by_cases ho : 2147483647 < acc * 10 + (c.toNat - 48)
          · exact Or.inr (Or.inl (scan_over hd.1 hd.2 ho))
          · rw [scan_step hd.1 hd.2 ho]
            exact ih _
        · exact Or.inr (Or.inr (scan_bad hd))
    rcases ends B u with h1 | h1 | h1
    · exact absurd h1 h0
    · exact Or.inl h1
    · exact Or.inr h1

theorem pow_big {u k m : Nat} (hu : 1 ≤ u) (hk : 10 ≤ k) : ¬ u * 10 ^ k + m ≤ 2147483647 := by
  have h1 : 10 ^ 10 ≤ 10 ^ k := Nat.pow_le_pow_right (by omega) hk
  have h2 : 10 ^ k ≤ u * 10 ^ k := Nat.le_mul_of_pos_left _ hu
  have h3 : (10 : Nat) ^ 10 = 10000000000 := by decide
  omega

end Go.Proofs.Qxb6608926aDoor
