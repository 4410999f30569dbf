/-
  Dotted names as bytes: no Go in sight.
-/
import Derived.Test.Qxb6608612aLeaf
import Derived.Lib.Strings
namespace Go.Proofs.Qxb6608612a

theorem size_dotted (p n : ByteArray) : (dotted p n).size = p.size + 1 + n.size := by
  simp [dotted, ByteArray.size_append]
  rfl

theorem data_dotted (p n : ByteArray) : (dotted p n).data.toList = p.data.toList ++ 46 :: n.data.toList := by
  simp [dotted, ByteArray.data_append]

theorem ba_ext {a b : ByteArray} (h : a.data.toList = b.data.toList) : a = b := ByteArray.ext (Array.toList_inj.mp h)

theorem get_list (s : ByteArray) (j : Nat) (h : j < s.size) : s[j] = s.data.toList[j]'(by rw [Array.length_toList]; exact h) := rfl

theorem dotted_at (p n : ByteArray) (h : p.size < (dotted p n).size) : (dotted p n)[p.size] = 46 := by
  rw [get_list]
  simp only [data_dotted]
  have e : p.size = p.data.toList.length := by rw [Array.length_toList]; rfl
  simp only [e]
  rw [List.getElem_append_right (Nat.le_refl _)]
  simp only [Nat.sub_self, List.getElem_cons_zero]

theorem dotted_noDot (p n : ByteArray) (h : NoDot p p.size) : NoDot (dotted p n) p.size := by
  intro j hj hlt
  rw [get_list]
  simp only [data_dotted]
  rw [List.getElem_append_left (by rw [Array.length_toList]; exact hlt)]
  exact h j hlt hlt

theorem dotted_left (p n : ByteArray) : (dotted p n).extract 0 p.size = p := by
  apply ba_ext
  rw [Lib.extract_data, data_dotted, Lib.size_eq]
  simp

theorem dotted_right (p n : ByteArray) : (dotted p n).extract (p.size + 1) (dotted p n).size = n := by
  apply ba_ext
  rw [Lib.extract_data, data_dotted, Lib.size_eq, Lib.size_eq, data_dotted]
  have e : p.data.toList ++ 46 :: n.data.toList = (p.data.toList ++ [46]) ++ n.data.toList := by simp
  rw [e, List.drop_left' (by simp)]
  apply List.take_of_length_le
  simp
  omega

/-- Two lists without a dot, each followed by a dot and a rest: alike just if part by part. -/
theorem cut_inj : ∀ {p q n m : List UInt8}, (46 : UInt8) ∉ p → (46 : UInt8) ∉ q → p ++ 46 :: n = q ++ 46 :: m → p = q ∧ n = m
  | [], [], _, _, _, _, h => ⟨rfl, by simpa using h⟩
  | [], c :: q, _, _, _, hq, h => by
    simp only [List.nil_append, List.cons_append, List.cons.injEq] at h
    exact absurd (by rw [← h.1]; exact List.mem_cons_self) hq
  | c :: p, [], _, _, hp, _, h => by
    simp only [List.nil_append, List.cons_append, List.cons.injEq] at h
    exact absurd (by rw [h.1]; exact List.mem_cons_self) hp
  | c :: p, d :: q, _, _, hp, hq, h => by
    simp only [List.cons_append, List.cons.injEq] at h
    obtain ⟨h1, h2⟩ := cut_inj (fun hm => hp (List.mem_cons_of_mem _ hm)) (fun hm => hq (List.mem_cons_of_mem _ hm)) h.2
    exact ⟨by rw [h.1, h1], h2⟩

theorem not_mem_of {s : ByteArray} (h : dotB s = false) : (46 : UInt8) ∉ s.data.toList := by
  intro hm
  unfold dotB at h
  rw [List.contains_iff_mem.2 hm] at h
  cases h

theorem dotted_inj {p n q m : ByteArray} (hp : dotB p = false) (hq : dotB q = false) (h : dotted p n = dotted q m) : p = q ∧ n = m := by
  have e : p.data.toList ++ 46 :: n.data.toList = q.data.toList ++ 46 :: m.data.toList := by rw [← data_dotted, ← data_dotted, h]
  obtain ⟨h1, h2⟩ := cut_inj (not_mem_of hp) (not_mem_of hq) e
  exact ⟨ba_ext h1, ba_ext h2⟩

theorem beq_iff (x y : ByteArray) : (x.toList == y.toList) = true ↔ x = y := by
  rw [beq_iff_eq, ByteArray.toList_eq, ByteArray.toList_eq]
  exact ⟨ba_ext, fun h => by rw [h]⟩

theorem beq_ff {x y : ByteArray} (h : x ≠ y) : (x.toList == y.toList) = false := by
  rw [← Bool.not_eq_true]
  exact fun e => h ((beq_iff x y).1 e)

theorem beq_tt {x y : ByteArray} (h : x = y) : (x.toList == y.toList) = true := (beq_iff x y).2 h

theorem beq_dotted {p n q m : ByteArray} (hp : dotB p = false) (hq : dotB q = false) : ((dotted p n).toList == (dotted q m).toList) = ((p.toList == q.toList) && (n.toList == m.toList)) := by
  rw [Bool.eq_iff_iff, Bool.and_eq_true, beq_iff, beq_iff, beq_iff]
  exact ⟨fun h => dotted_inj hp hq h, fun ⟨h1, h2⟩ => by rw [h1, h2]⟩

open Go.RowKit in
theorem grown_trans {a b c : World} (h : Grown a b) (k : Grown b c) : Grown a c :=
  ⟨World.keptBut_trans h.1 k.1, fun x => (k.2.1 x).trans (h.2.1 x), Nat.le_trans h.2.2 k.2.2⟩

end Go.Proofs.Qxb6608612a
