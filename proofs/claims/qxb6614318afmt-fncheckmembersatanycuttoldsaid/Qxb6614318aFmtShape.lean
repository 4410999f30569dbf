/-
  The witness's world has its shape: a check in one pass over each variable's cells (the kit's own check walks its list of cell types anew for each cell: at the tables of this program the kernel outgrows its lid).
-/
import Derived.Test.Qxb6614318aFmtRows
import Derived.Stop.Joined
namespace Go.Proofs.Qxb6614318aFmt
open Go.Extern.Stop Go.Stop Go.Extern

/-- Each cell fits its type, one behind the other. -/
def okZ (P : Program) : List TypeId → List Value → Bool
  | [], [] => true
  | t :: ts, c :: cs => Cell.okB P t c && okZ P ts cs
  | _, _ => false

theorem okZ_length {P : Program} : ∀ {ts : List TypeId} {cs : List Value}, okZ P ts cs = true → ts.length = cs.length
  | [], [], _ => rfl
  | [], _ :: _, h => by simp [okZ] at h
  | _ :: _, [], h => by simp [okZ] at h
  | t :: ts, c :: cs, h => by
    simp only [okZ, Bool.and_eq_true] at h
    simp [okZ_length h.2]

theorem okZ_get {P : Program} : ∀ {ts : List TypeId} {cs : List Value}, okZ P ts cs = true → ∀ (i : Nat) (v : Value), cs[i]? = some v → ∃ u, ts[i]? = some u ∧ Cell.okB P u v = true
  | [], [], _, i, v, hv => by simp at hv
  | [], _ :: _, h, _, _, _ => by simp [okZ] at h
  | _ :: _, [], h, _, _, _ => by simp [okZ] at h
  | t :: ts, c :: cs, h, 0, v, hv => by
    simp only [okZ, Bool.and_eq_true] at h
    simp at hv
    subst hv
    exact ⟨t, rfl, h.1⟩
  | t :: ts, c :: cs, h, i + 1, v, hv => by
    simp only [okZ, Bool.and_eq_true] at h
    obtain ⟨u, hu, hc⟩ := okZ_get h.2 i v (by simpa using hv)
    exact ⟨u, by simpa using hu, hc⟩

/-- A row of cells fits its type. -/
def rowZ (P : Program) (t : TypeId) (cs : Array Value) : Bool :=
  match P.cellTypes P.depth t with
  | some ts => okZ P ts cs.toList
  | Option.none => false

theorem rowZ_ok {P : Program} {w : World} {r : Reach} {base : Nat} {t : TypeId} {cs : Array Value} (h : rowZ P t cs = true) : Row.ok P w r base t cs := by
  unfold rowZ at h
  split at h
  · rename_i ts hts
    have hl := okZ_length h
    refine ⟨ts, hts, ⟨1, by simpa using hl.symm⟩, fun i v hv => ?_⟩
    have hi : i < ts.length := by
      have := (Array.getElem?_eq_some_iff.1 hv).1
      rw [hl]
      simpa using this
    obtain ⟨u, hu, hc⟩ := okZ_get h i v (by simpa using hv)
    exact ⟨u, by rw [Nat.mod_eq_of_lt hi]; exact hu, Cell.ok_of_okB hc⟩
  · cases h

/-- One variable's block fits. -/
def oneZ (P : Program) (w0 w : World) (g : Nat) : Bool :=
  match (w0.heap[g]?).bind Obj.row? with
  | Option.none => true
  | some (zero, t) =>
    match w.heap[g]? with
    | some (.cells cs t' frozen) => decide (t' = t) && decide (frozen = (0, 0)) && cs.size == zero.size && (!P.buildable t || rowZ P t cs)
    | _ => false

theorem shaped_of_Z {P : Program} {w : World} (hv : (List.range P.globals.size).all (oneZ P (begin P (fun _ _ => 0) default).world w) = true)
    (hr : (w.heap.toList.drop P.globals.size).take ((begin P (fun _ _ => 0) default).world.heap.size - P.globals.size) =
      (begin P (fun _ _ => 0) default).world.heap.toList.drop P.globals.size) : w.Shaped P := by
  refine ⟨fun g zero t hg hz => ?_, fun k h1 h2 => ?_⟩
  case refine_2 =>
    have := congrArg (·[k - P.globals.size]?) hr
    simp only [List.getElem?_take, List.getElem?_drop, Array.getElem?_toList] at this
    rw [if_pos (by omega), Nat.add_sub_cancel' h1] at this
    exact this
  simp only [List.all_eq_true, List.mem_range] at hv
  have := hv g hg
  unfold oneZ at this
  rw [hz] at this
  simp only at this
  split at this
  · rename_i cs t' fr hw
    simp only [Bool.and_eq_true, decide_eq_true_eq, beq_iff_eq, Bool.or_eq_true, Bool.not_eq_true'] at this
    obtain ⟨⟨⟨rfl, rfl⟩, hs⟩, hb⟩ := this
    refine ⟨cs, hw, hs, fun hbuild => ?_⟩
    rcases hb with hb | hb
    · rw [hbuild] at hb; cases hb
    · exact rowZ_ok hb
  · cases this

/-- 'There is an input that fits', the world's shape by the check above. -/
theorem witness_Z {H : Type} {enc : TypeId × Value → H} {C : Checked} {os : Os} {f : FuncId} {fn : Func} {s : OpenSpec} {conds : List PathCond} {apart : Bool} (modest : Bool) (i : Input) (fuel : Nat)
    (hv : (List.range C.prog.globals.size).all (oneZ C.prog (begin C.prog (fun _ _ => 0) default).world (World.plainHolding C.prog os i)) = true)
    (hr : ((World.plainHolding C.prog os i).heap.toList.drop C.prog.globals.size).take ((begin C.prog (fun _ _ => 0) default).world.heap.size - C.prog.globals.size) =
      (begin C.prog (fun _ _ => 0) default).world.heap.toList.drop C.prog.globals.size)
    (hok : Input.okWideB C.prog (World.plainHolding C.prog os i) f ⟨#[], i.args, []⟩ = true)
    (hpre : s.bare.preB enc C.prog fn conds apart (World.plainHolding C.prog os i).memory i.args fuel = true)
    (hsz : s.bare.sizedB enc C.prog fn apart (World.plainHolding C.prog os i).memory i.args fuel = true) (hk : s.cond = Option.none) (F : Stop.Interp) :
    ∃ (w : World) (tape : Tape) (i : Input), w.os = os ∧ (w.forCall tape i).Shaped C.prog ∧ i.vars = [] ∧ Input.okWide C.prog (w.forCall tape i) .any w.heap.size f i ∧
      s.preRow enc C.prog fn conds apart [] (w.forCall tape i).memory i.args ∧ ({ modest := modest } : Assume).holds C.prog (lone (Frame.enter C.prog f i.args .normal) [] (w.forCall tape i)) ∧ F.answers tape :=
  ⟨World.holding C.prog os i, F.over fun _ _ => 0, ⟨#[], i.args, []⟩, rfl, shaped_of_Z hv hr, (Input.okWide_of_okWideB (base := 0) hok).1, (Input.okWide_of_okWideB hok).2, OpenSpec.preRow_of_B hk fuel hpre hsz (laidMetH_nil _ _), by
    simp only [Assume.holds]
    exact ⟨by simp, by simp, fun _ => F.over_modest Modest.zero, by simp, by simp⟩, F.over_answers _⟩

end Go.Proofs.Qxb6614318aFmt
