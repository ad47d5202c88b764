/-
  PLAIN LAWS, NO DUMP: a format that holds no percent sign reads as itself; the format percent-s writes its one string.
-/
import Derived.Stop.FmtTextKit
import Derived.Stop.FmtTextVerbs
import Derived.Stop.Told
import Derived.Stop.Texts
namespace Go.Proofs.Qxb6612961aFmt
open Go.Extern.Stop Go.Stop Go.Extern Go.Kit

/-- No percent sign among the bytes. -/
def NoPct (l : List UInt8) : Prop := ∀ c ∈ l, c ≠ 37

theorem parseFrom_nopct : ∀ (l : List UInt8) (fuel : Nat), NoPct l → l.length < fuel → FmtText.parseFrom fuel l = some (l.map fun c => FmtText.Piece.lit [c])
  | [], fuel, _, hf => by
    cases fuel with
    | zero => simp at hf
    | succ fuel => simp [FmtText.parseFrom]
  | c :: r, fuel, h, hf => by
    cases fuel with
    | zero => simp at hf
    | succ fuel =>
      have hc : c ≠ 37 := h c List.mem_cons_self
      have hr : NoPct r := fun x hx => h x (List.mem_cons_of_mem _ hx)
      have ih := parseFrom_nopct r fuel hr (by simp at hf; omega)
      rw [FmtText.parseFrom]
      · rw [ih]; rfl
      · intro e; exact hc e

theorem parse_nopct (l : List UInt8) (h : NoPct l) : FmtText.parse l = some (l.map fun c => FmtText.Piece.lit [c]) :=
  parseFrom_nopct l _ h (by omega)

theorem render_lits (wrap : Bool) : ∀ l : List UInt8, FmtText.render wrap (l.map fun c => FmtText.Piece.lit [c]) [] = some l
  | [] => rfl
  | c :: r => by
    rw [List.map_cons, FmtText.render_lit, render_lits wrap r]
    rfl

theorem text_nopct (l : List UInt8) (h : NoPct l) : FmtText.text "fmt.Sprintf" [l] = some l := by
  rw [FmtText.text_sprintf (parse_nopct l h) FmtText.operands_nil]
  exact render_lits _ l

theorem walk_nopct (n : Nat) : ∀ (l : List UInt8) (fuel k : Nat) (acc : List (Nat × UInt8 × Bool)), NoPct l → l.length < fuel → FmtDoors.walk n fuel k l acc = some (acc, k)
  | [], fuel, k, acc, _, hf => by
    cases fuel with
    | zero => simp at hf
    | succ fuel => simp [FmtDoors.walk]
  | c :: r, fuel, k, acc, h, hf => by
    cases fuel with
    | zero => simp at hf
    | succ fuel =>
      have hc : c ≠ 37 := h c List.mem_cons_self
      have hr : NoPct r := fun x hx => h x (List.mem_cons_of_mem _ hx)
      have ih := walk_nopct n r fuel k acc hr (by simp at hf; omega)
      simp [FmtDoors.walk, hc, ih]

theorem printed_nopct (f : ByteArray) (h : NoPct f.data.toList) : FmtStop.printed? f 0 = some [] := by
  have hs : f.data.toList.length < f.size + 1 := by
    rw [Array.length_toList]
    exact Nat.lt_succ_self _
  unfold FmtStop.printed?
  rw [walk_nopct 0 _ _ 0 [] h hs]
  rfl

theorem parse_s : (FmtText.parse [37, 115]).map FmtText.glue = some [.verb {} 115] := by rfl

/-- The shape of a string operand, as the model spells it. -/
def shapeS : List UInt8 := [12, 6, 0, 0, 0, 0, 0, 0, 0, 115, 116, 114, 105, 110, 103]

theorem text_s (s : List UInt8) (hs : s.length < 2 ^ 64) : FmtText.text "fmt.Sprintf" [[37, 115], shapeS, FmtStop.pack s] = some s := by
  have hn := FmtText.operand_str_at (sh := shapeS) rfl rfl s hs
  rw [FmtText.text_sprintf_glued parse_s (FmtText.operands_cons hn FmtText.operands_nil)]
  simp [FmtText.render, FmtText.printArg_s_str]

theorem ext_list {a b : ByteArray} (h : a.data.toList = b.data.toList) : a = b := by
  apply ByteArray.ext
  exact Array.toList_inj.1 h

/-- Told: Sprintf of a format without a percent sign and of no operand. -/
theorem told_nopct (F : Interp) (f : ByteArray) (h : NoPct f.data.toList) (hl : f.size < 2 ^ 63) : FmtStop.textOf (F.told "fmt.Sprintf" [f.data.toList] 0) = f := by
  apply ext_list
  rw [textOf_list]
  exact told_string F (text_nopct _ h) (by rw [Array.length_toList]; exact hl)

/-- Told: Sprintf of percent-s and one string. -/
theorem told_s (F : Interp) (f : ByteArray) (hl : f.size < 2 ^ 63) : FmtStop.textOf (F.told "fmt.Sprintf" [[37, 115], shapeS, FmtStop.pack f.data.toList] 0) = f := by
  have hl' : f.data.toList.length < 2 ^ 63 := by rw [Array.length_toList]; exact hl
  apply ext_list
  rw [textOf_list]
  exact told_string F (text_s _ (by omega)) hl'

end Go.Proofs.Qxb6612961aFmt
