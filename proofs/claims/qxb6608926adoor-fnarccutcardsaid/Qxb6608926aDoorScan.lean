/-
  What ParseUint(s, 10, 31) computes: no Go in sight.
-/
import Derived.KernelRfl
namespace Go.Proofs.Qxb6608926aDoor

/-- Reading decimal digits behind acc: (0, the number) · (1, 2^31-1): too great · (2, 0): a byte that is no digit. -/
def scan (acc : Nat) : List UInt8 → Nat × Nat
  | [] => (0, acc)
  | c :: r =>
    if 48 ≤ c.toNat ∧ c.toNat ≤ 57 then
      if 2147483647 < acc * 10 + (c.toNat - 48) then (1, 2147483647) else scan (acc * 10 + (c.toNat - 48)) r
    else (2, 0)

theorem scan_over {acc : Nat} {c : UInt8} {r : List UInt8} (h0 : 48 ≤ c.toNat) (h1 : c.toNat ≤ 57) (h : 2147483647 < acc * 10 + (c.toNat - 48)) : scan acc (c :: r) = (1, 2147483647) := by
  simp [scan, h0, h1, h]
theorem scan_step {acc : Nat} {c : UInt8} {r : List UInt8} (h0 : 48 ≤ c.toNat) (h1 : c.toNat ≤ 57) (h : ¬ 2147483647 < acc * 10 + (c.toNat - 48)) : scan acc (c :: r) = scan (acc * 10 + (c.toNat - 48)) r := by
  simp [scan, h0, h1, h]
theorem scan_bad {acc : Nat} {c : UInt8} {r : List UInt8} (h : ¬ (48 ≤ c.toNat ∧ c.toNat ≤ 57)) : scan acc (c :: r) = (2, 0) := by
  simp [scan, h]

/-- What arc gives: the empty text is refused too. -/
def arcOf (l : List UInt8) : Nat × Nat := if l = [] then (2, 0) else scan 0 l

end Go.Proofs.Qxb6608926aDoor
