/-
  FnDottedPluginNamespace: the walk and the row (after the seat's shell).
-/
import Derived.Test.Qxb6608612aPlain
import Derived.WalkKit
import Derived.ProofKit
import Derived.OpenShut
import Derived.ShutString
namespace Go.Proofs.Qxb6608612a.fnDottedPluginNamespace
open Go.ChangeShapes Go.WideShapes Go.ChangeAt Go.RowKit
open Go.ChangeMaps (open_string shut_string)
set_option linter.unusedVariables false      -- a walk need not use every 'w<i>' (that an integer argument fits its kind)

theorem own : ownKnob Try.prog.godebug = none := by kernel_rfl

/-- What zzHasPrefix computes. -/
def hpB (s p : ByteArray) : Bool := decide (p.size ≤ s.size) && ((s.extract 0 p.size).toList == p.toList)

set_option maxHeartbeats 400000 in
theorem hasPrefix11 (s p : ByteArray) (w : World) (hs : s.size ≤ 1048576) (hp : p.size ≤ 1048576) : Calls Try.prog 11 #[.string s, .string p] w fun e w' => e = .returned (.bool (hpB s p)) ∧ w' = w := by
  by_cases h : p.size ≤ s.size
  · go_enter Try.func11, Try.ntmps11
    go_wp2
    go_ret
    exact ⟨ret_bool (by simp [hpB, h]), rfl⟩
  · go_enter Try.func11, Try.ntmps11
    go_wp2
    go_ret
    exact ⟨ret_bool (by simp [hpB, h]), rfl⟩

theorem hpB_dotted {p q m : ByteArray} (hp : dotB p = false) (hq : dotB q = false) : hpB (dotted q m) (dotted p ⟨#[]⟩) = (p.toList == q.toList) := by
  rw [Bool.eq_iff_iff, beq_iff, hpB, Bool.and_eq_true, beq_iff, decide_eq_true_eq]
  constructor
  · rintro ⟨_, h⟩
    have e : ((dotted q m).extract 0 (dotted p ⟨#[]⟩).size).data.toList = (dotted p ⟨#[]⟩).data.toList := by rw [h]
    rw [Lib.extract_data, data_dotted, data_dotted] at e
    simp only [List.drop_zero, Nat.sub_zero] at e
    have e2 : q.data.toList ++ 46 :: m.data.toList = p.data.toList ++ 46 :: (List.drop (dotted p ⟨#[]⟩).size (q.data.toList ++ 46 :: m.data.toList)) := by
      conv => lhs; rw [← List.take_append_drop (dotted p ⟨#[]⟩).size (q.data.toList ++ 46 :: m.data.toList), e]
      simp
    exact ba_ext (cut_inj (not_mem_of hq) (not_mem_of hp) e2).1.symm
  · rintro rfl
    have hz : (dotted p ⟨#[]⟩).size = p.size + 1 := by rw [size_dotted]; rfl
    refine ⟨by rw [hz, size_dotted]; omega, ?_⟩
    apply ba_ext
    rw [Lib.extract_data, data_dotted, data_dotted, hz, Lib.size_eq]
    have e : p.data.toList ++ 46 :: m.data.toList = (p.data.toList ++ [46]) ++ m.data.toList := by simp
    rw [e, List.drop_zero, List.take_left' (by simp)]

theorem dotted_empty (p n : ByteArray) : dotted p ⟨#[]⟩ ++ n = dotted p n := by
  apply ba_ext
  rw [ByteArray.data_append, Array.toList_append, data_dotted, data_dotted]
  simp

set_option maxHeartbeats 1000000 in
theorem walk (a0 : ByteArray) (a1 : ByteArray) (a2 : ByteArray) (a3 : ByteArray) (w0 : a0.size ≤ maxLen) (w1 : a1.size ≤ maxLen) (w2 : a2.size ≤ maxLen) (w3 : a3.size ≤ maxLen) (w : World) :
    Calls Try.prog 4 #[.string a0, .string a1, .string a2, .string a3] w fun e w' => e = .returned (.bool true) ∧ Grown w w' := by
  go_enter Try.func4, Try.ntmps4
  go_wp2_with (first
    | (go_at_call 10; refine (bytes10 _ _ _ _ _).mono ?_; rintro e w' ⟨⟨b, rfl⟩, hw⟩; obtain rfl := hw.symm)
    | (go_at_call 7; refine (hasDot7 _ _ (by omega)).mono ?_; rintro e w' ⟨rfl, hw⟩; obtain rfl := hw.symm))
  all_goals first | (go_ret; exact ⟨rfl, Grown.refl _⟩) | skip
  have hd0 : dotB a0 = false := by simpa using ‹¬dotB a0 = true›
  have hd2 : dotB a2 = false := ‹dotB a2 = false›
  have hz0 : (dotted a0 ⟨#[]⟩).size = a0.size + 1 := by rw [size_dotted]; rfl
  have hz1 := size_dotted a0 a1
  have hz2 := size_dotted a2 a3
  have he := dotted_empty a0 a1
  have hp := hpB_dotted (m := a3) hd0 hd2
  refine (dotted8 _ _ _ (by omega) (by exact Nat.zero_le _)).mono ?_
  rintro e wA ⟨rfl, gA⟩
  go_wp2_with fail
  refine (dotted8 _ _ _ (by omega) (by omega)).mono ?_
  rintro e wB ⟨rfl, gB⟩
  go_wp2_with fail
  refine (dotted8 _ _ _ (by omega) (by omega)).mono ?_
  rintro e wC ⟨rfl, gC⟩
  go_wp2_with (go_at_call 11; refine (hasPrefix11 _ _ _ (by omega) (by omega)).mono ?_; rintro e wD ⟨rfl, rfl⟩)
  go_ret
  exact ⟨rfl, grown_trans (grown_trans gA gB) gC⟩

/-! ### THE ROW's STEP: WRITTEN OUT: LEAVE IT -/
set_option maxRecDepth 100000 in
theorem lifted (os : Os) (started : os.Started) (H : Type) (enc : TypeId × Value → H) :
    ReturnsInHanded {} Try.checked os 4 .any (Rows.fnDottedPluginNamespaceSpec.pre6 enc Try.prog Try.f4 Rows.fnDottedPluginNamespaceRow.domain false) (Rows.fnDottedPluginNamespaceSpec.post enc Try.prog Try.f4 false true false false) := by
  refine returnsInHanded_of_change (C := Try.checked) own started (by kernel_rfl) Try.func4
    (ChangeSpec.witness6 (enc := enc) (C := Try.checked) false ⟨#[], #[.string ByteArray.empty, .string ByteArray.empty, .string ByteArray.empty, .string ByteArray.empty], []⟩ 8 (by kernel_rfl) (by kernel_rfl) (by kernel_rfl) (by kernel_rfl)) ?_
  intro W base args ds gs before hval0 hW hcnd _
  have hval : ∀ (j : Nat) t v, Try.f4.params[j]? = some t → args[j]? = some v → Value.okWide Try.prog W .any base t v := hval0
  have hW' := hW
  obtain ⟨p, q, hA0, hV, rfl, hfz, hnd⟩ := hW
  have hA : DataW.TrodAll enc Try.prog W 0 (fun _ => true) true Try.f4.params.toList args.toList ds p := hA0
  rw [Try.params4] at hA hval
  obtain ⟨v0, vs0, d0, ds0, p0, q0, hargs, rfl, rfl, h0, r0⟩ := trodAll_cons hA
  obtain ⟨v1, vs1, d1, ds1, p1, q1, rfl, rfl, rfl, h1, r1⟩ := trodAll_cons r0
  obtain ⟨v2, vs2, d2, ds2, p2, q2, rfl, rfl, rfl, h2, r2⟩ := trodAll_cons r1
  obtain ⟨v3, vs3, d3, ds3, p3, q3, rfl, rfl, rfl, h3, r3⟩ := trodAll_cons r2
  obtain ⟨rfl, rfl, rfl⟩ := trodAll_nil r3
  obtain rfl : args = #[v0, v1, v2, v3] := by cases args; simp_all
  obtain ⟨rfl, rfl⟩ := trodVars_none hV
  obtain ⟨a0, rfl, rfl, rfl, w0⟩ := open_string Try.underlying9 (hval 0 9 v0 rfl rfl) h0
  obtain ⟨a1, rfl, rfl, rfl, w1⟩ := open_string Try.underlying9 (hval 1 9 v1 rfl rfl) h1
  obtain ⟨a2, rfl, rfl, rfl, w2⟩ := open_string Try.underlying9 (hval 2 9 v2 rfl rfl) h2
  obtain ⟨a3, rfl, rfl, rfl, w3⟩ := open_string Try.underlying9 (hval 3 9 v3 rfl rfl) h3
  clear hA0 hval0
  simp only [List.append_nil] at hW'
  refine (walk a0 a1 a2 a3 w0 w1 w2 w3 W).mono fun e W' ⟨he, hg⟩ => ?_
  subst he
  exact ⟨_, rfl, post_of_same (pa := []) (pv := []) hW' (fun _ _ _ => (trodAll_cons_mk (shut_bool Try.underlying4 _) trodAll_mk0)) (fun sp _ => (trodAll_cons_mk (shut_string Try.underlying9 w0) (trodAll_cons_mk (shut_string Try.underlying9 w1) (trodAll_cons_mk (shut_string Try.underlying9 w2) (trodAll_cons_mk (shut_string Try.underlying9 w3) trodAll_mk0))))) (fun _ _ => rfl) rfl
    (hg.frame _) hg.2.1 (ok_one (by kernel_rfl) rfl (okWide_bool_mk Try.underlying4 _))⟩

theorem over : Rows.fnDottedPluginNamespaceRow.holds Try.pinned (OpenSpec.ofChange Rows.fnDottedPluginNamespaceSpec) :=
  OpenClaim.holds_of_wide 4 Try.f4 rfl rfl rfl rfl rfl rfl rfl ⟨rfl, rfl, rfl, rfl, rfl⟩ rfl rfl rfl rfl rfl (by kernel_rfl) Try.func4 (by kernel_rfl)
    (of_decide_eq_true (by kernel_rfl)) (by unfold Func.isWrapper; first | (rw [if_pos (by decide +kernel)]; kernel_rfl) | (rw [if_neg (by decide +kernel)]; exact ⟨rfl, rfl⟩))
    (fun os started H enc _ => lifted os started H enc)

/-- ████ THE STATEMENT ████ -/
theorem proved : Rows.FnDottedPluginNamespaceSaid :=
  over
end Go.Proofs.Qxb6608612a.fnDottedPluginNamespace

namespace Go.Proofs.Qxb6608612a
theorem namespace_proved : Rows.FnDottedPluginNamespaceSaid := fnDottedPluginNamespace.proved
end Go.Proofs.Qxb6608612a
