/-
  STATEMENT 2: a quicker check that a start's package-level variables have their types' shapes: the cells and their types are gone through side by side, once. No dump.
-/
import Derived.Shaped
namespace Go.Proofs.Qxb6612971aDoor
open Go

def allZip (P : Program) : List Value → List TypeId → Bool
  | [], _ => true
  | v :: vs, u :: us => Cell.okB P u v && allZip P vs us
  | _ :: _, [] => false

theorem allZip_at (P : Program) : ∀ (vs : List Value) (us : List TypeId), allZip P vs us = true → ∀ (i : Nat) (v : Value), vs[i]? = some v → ∃ u, us[i]? = some u ∧ Cell.okB P u v = true
  | [], _, _, i, v, hv => by simp at hv
  | _ :: _, [], h, _, _, _ => by simp [allZip] at h
  | x :: vs, y :: us, h, i, v, hv => by
    simp only [allZip, Bool.and_eq_true] at h
    cases i with
    | zero =>
      simp at hv
      subst hv
      exact ⟨y, rfl, h.1⟩
    | succ i =>
      simp at hv
      obtain ⟨u, hu, ho⟩ := allZip_at P vs us h.2 i v hv
      exact ⟨u, by simpa using hu, ho⟩

def rowFastB (P : Program) (t : TypeId) (cs : Array Value) : Bool :=
  match P.cellTypes P.depth t with
  | some ts => cs.toList.length == ts.length && allZip P cs.toList ts
  | none => false

theorem rowOk_of_fast {P : Program} {w : World} {r : Reach} {base : Nat} {t : TypeId} {cs : Array Value} (h : rowFastB P t cs = true) : Row.ok P w r base t cs := by
  unfold rowFastB at h
  split at h
  · rename_i ts hts
    simp only [Bool.and_eq_true, beq_iff_eq] at h
    have hl : cs.size = ts.length := by rw [← h.1, Array.length_toList]
    refine ⟨ts, hts, ⟨1, by omega⟩, fun i v hv => ?_⟩
    have hi : i < cs.size := (Array.getElem?_eq_some_iff.1 hv).1
    obtain ⟨u, hu, ho⟩ := allZip_at P _ _ h.2 i v (by simpa using hv)
    exact ⟨u, by rw [Nat.mod_eq_of_lt (by omega)]; exact hu, Cell.ok_of_okB ho⟩
  · cases h

/-- One variable. -/
def oneFastB (P : Program) (o0 o : Option Obj) : Bool :=
  match o0.bind Obj.row? with
  | none => true
  | some (zero, t) =>
    match o with
    | some (.cells cs t' frozen) => decide (t' = t) && decide (frozen = (0, 0)) && cs.size == zero.size && (!P.buildable t || rowFastB P t cs)
    | _ => false

theorem shaped_of_fast {P : Program} {w : World} (hv : ∀ g, g < P.globals.size → oneFastB P (((begin P (fun _ _ => 0) default).world).heap[g]?) (w.heap[g]?) = true)
    (hr : (w.heap.toList.drop P.globals.size).take ((begin P (fun _ _ => 0) default).world.heap.size - P.globals.size) =
      (begin P (fun _ _ => 0) default).world.heap.toList.drop P.globals.size) : w.Shaped P := by
  refine ⟨fun g zero t hg hz => ?_, fun k h1 h2 => ?_⟩
  case refine_2 =>
    have := congrArg (·[k - P.globals.size]?) hr
    simp only [List.getElem?_take, List.getElem?_drop, Array.getElem?_toList] at this
    rw [if_pos (by omega), Nat.add_sub_cancel' h1] at this
    exact this
  have := hv g hg
  unfold oneFastB at this
  rw [hz] at this
  simp only at this
  split at this
  · rename_i cs t' fr hw
    simp only [Bool.and_eq_true, decide_eq_true_eq, beq_iff_eq, Bool.or_eq_true, Bool.not_eq_true'] at this
    obtain ⟨⟨⟨rfl, rfl⟩, hs⟩, hb⟩ := this
    refine ⟨cs, hw, hs, fun hbuild => ?_⟩
    rcases hb with hb | hb
    · rw [hbuild] at hb; cases hb
    · exact rowOk_of_fast hb
  · cases this

end Go.Proofs.Qxb6612971aDoor
