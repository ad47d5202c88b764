/-
  STATEMENT 2: the six calls that the law makes, and the law's walk.
-/
import Derived.Test.Qxb6612971aDoorParts
namespace Go.Proofs.Qxb6612971aDoor
open Go.RowKit Go.Extern.Stop Go.Stop Go.Extern

theorem of_nil (w : World) : Calls Tryd.prog 7 #[] w fun ev w' => ev = .returned (.bool false) ∧ Below w.heap.size w w' := by
  go_enter Tryd.func7, Tryd.ntmps7
  go_wp2_with fail
  refine (unr_nil _).mono ?_
  rintro e w' ⟨rfl, hb⟩
  go_wp2
  go_ret
  exact ⟨rfl, hb⟩

theorem of_plain (a : ByteArray) (w : World) (hg : HoldsErr w) : Calls Tryd.prog 8 #[.string a] w fun ev w' => ev = .returned (.bool false) ∧ Below w.heap.size w w' := by
  go_enter Tryd.func8, Tryd.ntmps8
  go_wp2_with fail
  refine (new_any a _).mono ?_
  rintro e w' ⟨rfl, rfl⟩
  go_wp2_with fail
  refine (unr_plain _ _ (hg.alloc _)).mono ?_
  rintro e w' ⟨rfl, hb⟩
  go_wp2
  go_ret
  exact ⟨rfl, ((Below.refl _ _).alloc (Nat.le_refl _) _).trans (hb.mono (by simp))⟩

theorem of_wrapped (a : ByteArray) (w : World) (hg : HoldsErr w) : Calls Tryd.prog 10 #[.string a] w fun ev w' => ev = .returned (.bool true) ∧ Below w.heap.size w w' := by
  go_enter Tryd.func10, Tryd.ntmps10
  go_wp2_with fail
  refine (new_any a _).mono ?_
  rintro e w' ⟨rfl, rfl⟩
  go_wp2_with fail
  refine (unr_wrapped _ _ (hg.alloc _)).mono ?_
  rintro e w' ⟨rfl, hb⟩
  go_wp2
  go_ret
  exact ⟨rfl, ((Below.refl _ _).alloc (Nat.le_refl _) _).trans (hb.mono (by simp))⟩

/-- The world behind two calls of errors.New and the variadic slice. -/
theorem three_below (w : World) (o0 o1 o2 : Obj) : Below w.heap.size w (((w.alloc o0).alloc o1).alloc o2) :=
  (((Below.refl _ _).alloc (Nat.le_refl _) _).alloc (by simp) _).alloc (by simp; omega) _

theorem of_joined_plain (a b : ByteArray) (w : World) (hg : HoldsErr w) : Calls Tryd.prog 9 #[.string a, .string b] w fun ev w' => ev = .returned (.bool false) ∧ Below w.heap.size w w' := by
  go_enter Tryd.func9, Tryd.ntmps9
  go_wp2_with fail
  refine (new_any a _).mono ?_
  rintro e w' ⟨rfl, rfl⟩
  go_wp2_with fail
  refine (new_any b _).mono ?_
  rintro e w' ⟨rfl, rfl⟩
  go_wp2_with fail
  refine (join_two (w.heap.size + 1 + 1) 46 46 (.pointer (some ⟨w.heap.size, 0, none⟩)) (.pointer (some ⟨w.heap.size + 1, 0, none⟩)) _ (by go_simp) (by go_simp) (by go_simp)).mono ?_
  rintro e w1 ⟨jb, ab, c, rfl, hj, h0, h1, hb1⟩
  have B1 := (three_below w _ _ _).trans (hb1.mono (three_below w _ _ _).size)
  have HJ := hidU hj
  have H0 := hidU h0
  have H1 := hidU h1
  clear hj h0 h1 hb1
  go_wp2_with fail
  refine (unr_join_pp jb ab c _ _ w1 (hg.below B1) HJ.out H0.out H1.out).mono ?_
  rintro e w' ⟨rfl, hb⟩
  go_wp2
  go_ret
  exact ⟨rfl, B1.trans (hb.mono B1.size)⟩

theorem of_joined_first (a b : ByteArray) (w : World) (hg : HoldsErr w) : Calls Tryd.prog 11 #[.string a, .string b] w fun ev w' => ev = .returned (.bool true) ∧ Below w.heap.size w w' := by
  go_enter Tryd.func11, Tryd.ntmps11
  go_wp2_with fail
  refine (new_any a _).mono ?_
  rintro e w' ⟨rfl, rfl⟩
  go_wp2_with fail
  refine (new_any b _).mono ?_
  rintro e w' ⟨rfl, rfl⟩
  go_wp2_with fail
  refine (join_two (w.heap.size + 1 + 1) 41 46 (.agg #[.iface 46 (.pointer (some ⟨w.heap.size, 0, none⟩))]) (.pointer (some ⟨w.heap.size + 1, 0, none⟩)) _ (by go_simp) (by go_simp) (by go_simp)).mono ?_
  rintro e w1 ⟨jb, ab, c, rfl, hj, h0, h1, hb1⟩
  have B1 := (three_below w _ _ _).trans (hb1.mono (three_below w _ _ _).size)
  have HJ := hidU hj
  have H0 := hidU h0
  clear hj h0 h1 hb1
  go_wp2_with fail
  refine (unr_join_h jb ab c _ w1 (hg.below B1) HJ.out H0.out).mono ?_
  rintro e w' ⟨rfl, hb⟩
  go_wp2
  go_ret
  exact ⟨rfl, B1.trans (hb.mono B1.size)⟩

theorem of_joined_second (a b : ByteArray) (w : World) (hg : HoldsErr w) : Calls Tryd.prog 12 #[.string a, .string b] w fun ev w' => ev = .returned (.bool true) ∧ Below w.heap.size w w' := by
  go_enter Tryd.func12, Tryd.ntmps12
  go_wp2_with fail
  refine (new_any a _).mono ?_
  rintro e w' ⟨rfl, rfl⟩
  go_wp2_with fail
  refine (new_any b _).mono ?_
  rintro e w' ⟨rfl, rfl⟩
  go_wp2_with fail
  refine (join_two (w.heap.size + 1 + 1) 46 41 (.pointer (some ⟨w.heap.size, 0, none⟩)) (.agg #[.iface 46 (.pointer (some ⟨w.heap.size + 1, 0, none⟩))]) _ (by go_simp) (by go_simp) (by go_simp)).mono ?_
  rintro e w1 ⟨jb, ab, c, rfl, hj, h0, h1, hb1⟩
  have B1 := (three_below w _ _ _).trans (hb1.mono (three_below w _ _ _).size)
  have HJ := hidU hj
  have H0 := hidU h0
  have H1 := hidU h1
  clear hj h0 h1 hb1
  go_wp2_with fail
  refine (unr_join_ph jb ab c _ _ w1 (hg.below B1) HJ.out H0.out H1.out).mono ?_
  rintro e w' ⟨rfl, hb⟩
  go_wp2
  go_ret
  exact ⟨rfl, B1.trans (hb.mono B1.size)⟩

/-- Do the two lengths sum to at most 1<<20? -/
def fitsB (r f : ByteArray) : Bool := decide (r.size + f.size ≤ 1048576)

set_option maxHeartbeats 400000 in
theorem bytes_any (r f : ByteArray) (w : World) (hr : r.size ≤ maxLen) (hf : f.size ≤ maxLen) :
    Calls Tryd.prog 6 #[.string r, .string f] w fun e w' => e = .returned (.bool (fitsB r f)) ∧ w' = w := by
  unfold maxLen at hr hf
  by_cases h1 : r.size ≤ 1048576
  · by_cases h2 : f.size ≤ 1048576
    · by_cases h3 : r.size + f.size ≤ 1048576
      · have e : fitsB r f = true := by simp [fitsB, h3]
        rw [e]
        go_enter Tryd.func6, Tryd.ntmps6
        go_wp2
        go_ret
        exact ⟨rfl, rfl⟩
      · have e : fitsB r f = false := by simp [fitsB, h3]
        rw [e]
        go_enter Tryd.func6, Tryd.ntmps6
        go_wp2
        go_ret
        exact ⟨rfl, rfl⟩
    · have e : fitsB r f = false := by simp [fitsB]; omega
      rw [e]
      go_enter Tryd.func6, Tryd.ntmps6
      go_wp2
      go_ret
      exact ⟨rfl, rfl⟩
  · have e : fitsB r f = false := by simp [fitsB]; omega
    rw [e]
    go_enter Tryd.func6, Tryd.ntmps6
    go_wp2
    go_ret
    exact ⟨rfl, rfl⟩

set_option maxHeartbeats 1000000 in
theorem law_walk (a b : ByteArray) (w : World) (ha : a.size ≤ maxLen) (hb : b.size ≤ maxLen) (hg : HoldsErr w) :
    Calls Tryd.prog 3 #[.string a, .string b] w fun e w' => e = .returned (.bool true) ∧ Below w.heap.size w w' := by
  by_cases h3 : fitsB a b = true
  case neg =>
    have h3' : fitsB a b = false := by simpa using h3
    have C := bytes_any a b w ha hb
    rw [h3'] at C
    unfold maxLen at ha hb
    clear h3 h3'
    go_enter Tryd.func3, Tryd.ntmps3
    go_wp2_with (go_at_call 6; refine C.mono ?_; rintro e w' ⟨rfl, rfl⟩)
    go_ret
    exact ⟨rfl, Below.refl _ _⟩
  case pos =>
    have C := bytes_any a b w ha hb
    rw [h3] at C
    unfold maxLen at ha hb
    clear h3
    by_cases h1 : a.size ≤ 524288
    case neg =>
      go_enter Tryd.func3, Tryd.ntmps3
      go_wp2_with (go_at_call 6; refine C.mono ?_; rintro e w' ⟨rfl, rfl⟩)
      go_ret
      exact ⟨rfl, Below.refl _ _⟩
    case pos =>
      by_cases h2 : b.size ≤ 524288
      case neg =>
        go_enter Tryd.func3, Tryd.ntmps3
        go_wp2_with (go_at_call 6; refine C.mono ?_; rintro e w' ⟨rfl, rfl⟩)
        go_ret
        exact ⟨rfl, Below.refl _ _⟩
      case pos =>
        go_enter Tryd.func3, Tryd.ntmps3
        go_wp2_with (go_at_call 6; refine C.mono ?_; rintro e w' ⟨rfl, rfl⟩)
        refine (of_nil _).mono ?_
        rintro e w1 ⟨rfl, hb1⟩
        have g1 := hg.below hb1
        go_wp2_with fail
        refine (of_plain a _ g1).mono ?_
        rintro e w2 ⟨rfl, hb2⟩
        have g2 := g1.below hb2
        go_wp2_with fail
        refine (of_joined_plain a b _ g2).mono ?_
        rintro e w3 ⟨rfl, hb3⟩
        have g3 := g2.below hb3
        go_wp2_with fail
        refine (of_wrapped a _ g3).mono ?_
        rintro e w4 ⟨rfl, hb4⟩
        have g4 := g3.below hb4
        go_wp2_with fail
        refine (of_joined_first a b _ g4).mono ?_
        rintro e w5 ⟨rfl, hb5⟩
        have g5 := g4.below hb5
        go_wp2_with fail
        refine (of_joined_second a b _ g5).mono ?_
        rintro e w6 ⟨rfl, hb6⟩
        go_wp2
        go_ret
        have t2 := hb1.trans (hb2.mono hb1.size)
        have t3 := t2.trans (hb3.mono t2.size)
        have t4 := t3.trans (hb4.mono t3.size)
        have t5 := t4.trans (hb5.mono t4.size)
        exact ⟨rfl, t5.trans (hb6.mono t5.size)⟩

end Go.Proofs.Qxb6612971aDoor
