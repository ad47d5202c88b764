/-
  STATEMENT 3: what the law's walk carries behind each call.
-/
import Derived.Test.Qxb6613007aOwnWalks
namespace Go.Proofs.Qxb6613007a
open Go.RowKit

/-- A block holds the six cells of a Bound. -/
def Six (w : World) (g : Nat) (a s m r : Int) (f1 f2 : Bool) : Prop :=
  w.cell? ⟨g, 0, none⟩ = some (.int .i64 a) ∧ w.cell? ⟨g, 1, none⟩ = some (.int .i64 s) ∧ w.cell? ⟨g, 2, none⟩ = some (.int .i64 m) ∧ w.cell? ⟨g, 3, none⟩ = some (.int .i64 r) ∧ w.cell? ⟨g, 4, none⟩ = some (.bool f1) ∧ w.cell? ⟨g, 5, none⟩ = some (.bool f2)

theorem Six.below {w w' : World} {g : Nat} {a s m r : Int} {f1 f2 : Bool} (h : Six w g a s m r f1 f2) (hg : g < w.heap.size) (hb : Below w.heap.size w w') : Six w' g a s m r f1 f2 := by
  obtain ⟨h0, h1, h2, h3, h4, h5⟩ := h
  exact ⟨(hb.cell hg).trans h0, (hb.cell hg).trans h1, (hb.cell hg).trans h2, (hb.cell hg).trans h3, (hb.cell hg).trans h4, (hb.cell hg).trans h5⟩

/-- The two Bounds lie in the law's own first two blocks; nothing older has turned. -/
def Both (w0 w : World) (a s m r : Int) (f1 f2 : Bool) (a2 s2 m2 r2 : Int) (g1 g2 : Bool) : Prop :=
  Below w0.heap.size w0 w ∧ w0.heap.size + 1 < w.heap.size ∧ Six w w0.heap.size a s m r f1 f2 ∧ Six w (w0.heap.size + 1) a2 s2 m2 r2 g1 g2

theorem Both.step {w0 w w' : World} {a s m r : Int} {f1 f2 : Bool} {a2 s2 m2 r2 : Int} {g1 g2 : Bool} (h : Both w0 w a s m r f1 f2 a2 s2 m2 r2 g1 g2) (hb : Below w.heap.size w w') : Both w0 w' a s m r f1 f2 a2 s2 m2 r2 g1 g2 := by
  obtain ⟨h0, hz, h1, h2⟩ := h
  exact ⟨h0.trans (hb.mono h0.size), Nat.lt_of_lt_of_le hz hb.size, h1.below (by omega) hb, h2.below hz hb⟩

theorem Both.start (w : World) (a s m r : Int) (f1 f2 : Bool) (a2 s2 m2 r2 : Int) (g1 g2 : Bool) :
    Both w ((w.alloc (.cells #[.int .i64 a, .int .i64 s, .int .i64 m, .int .i64 r, .bool f1, .bool f2] 23)).alloc (.cells #[.int .i64 a2, .int .i64 s2, .int .i64 m2, .int .i64 r2, .bool g1, .bool g2] 23)) a s m r f1 f2 a2 s2 m2 r2 g1 g2 := by
  refine ⟨((Below.refl _ _).alloc (Nat.le_refl _) _).alloc (by simp) _, by simp, ?_, ?_⟩
  · unfold Six
    go_simp
  · unfold Six
    go_simp

theorem hidB {p : Prop} (h : p) : Hid p := h

end Go.Proofs.Qxb6613007a
