/-
  THE WALKS of statement 1: the callees by their contracts. For every F that answers the stop with the two texts.
-/
import Derived.Test.Qxb6612961aFmtProg
import Derived.Test.Qxb6612961aFmtPlain
import Derived.Stop.CallBack
import Derived.Stop.IfaceNil
import GoSem.ClaimData
import Derived.WalkKit
import Derived.WalkSpells
import Derived.WalkSmall
import Derived.Deep.QuietTactic
import Derived.BigQuiet
import Derived.KernelRfl
namespace Go.Proofs.Qxb6612961aFmt
open Go.RowKit Go.Extern.Stop Go.Stop Go.Extern

theorem call16 (args : Array Value) (w : World) : (callFunc 16 args).run Tryf.prog w = (FmtCalls.sprintf #[9, 28] #[9] args).run Tryf.prog w :=
  run_callFunc_next Tryf.func16 (by kernel_rfl) (by kernel_rfl) (by kernel_rfl) args w
theorem guardF (name : String) (w : World) : (FmtStop.guard name).run Tryf.prog w = .ok () w := by kernel_rfl
theorem nextTurns : Extern.next FmtCalls.turnsRow = some (FmtCalls.begun #[] #[]) := by kernel_rfl
theorem fmtS : FmtStop.printed? ⟨#[37, 115]⟩ 1 = some [(0, 115, false)] := by kernel_rfl
theorem act9 (name : String) (x : Value) (w : World) : (FmtCalls.act name false 115 false (.iface 9 x)).run Tryf.prog w = .ok (.closed false) w := by kernel_rfl
theorem op9 (name : String) (x : ByteArray) (w : World) : (FmtStop.operand name false 115 false (.iface 9 (.string x))).run Tryf.prog w = .ok (shapeS, FmtStop.pack x.data.toList) w := by kernel_rfl

theorem assert33 (x : Value) (w : World) : (Instr.typeAssert (.iface 33 x) 31 33 true).run Tryf.prog w = .ok (.tuple #[x, .bool true]) w := by kernel_rfl

attribute [local go_sem] call16 guardF fmtS act9 op9 assert33

/-- The message: the reason, then the detail. -/
def msg (r d : ByteArray) : ByteArray := ByteArray.mk #[116, 111, 107, 101, 110, 32, 114, 101, 102, 117, 115, 101, 100, 58, 32] ++ r ++ ByteArray.mk #[58, 32] ++ d

set_option maxHeartbeats 400000 in
theorem error_any (b : Nat) (r d : ByteArray) (w : World) (h0 : w.cell? ⟨b, 0, none⟩ = some (.string r)) (h1 : w.cell? ⟨b, 1, none⟩ = some (.string d)) (hr : r.size ≤ 524288) (hd : d.size ≤ 524288) :
    Calls Tryf.prog 13 #[.pointer (some ⟨b, 0, none⟩)] w fun e w' => e = .returned (.string (msg r d)) ∧ ∃ n, w' = w.drewN n := by
  go_enter Tryf.func13, Tryf.ntmps13
  go_wp2
  go_quiet (fail)
  go_wp2
  go_ret
  exact ⟨rfl, _, rfl⟩

set_option maxHeartbeats 400000 in
theorem refuse_none (F : Interp) (r f : ByteArray) (w : World) (hF : F.answers w.tape) (hp : FmtStop.printed? f 0 = some []) (ht : FmtStop.textOf (F "fmt.Sprintf" [f.data.toList] 0) = f) :
    Calls Tryf.prog 12 #[.string r, .string f, .slice none 0 0] w fun e w' => e = .returned (.iface 33 (.pointer (some ⟨w.heap.size, 0, none⟩))) ∧ w' = (w.alloc (.cells #[.string r, .string f] 36)).drew := by
  have hF' := answers_open hF
  go_enter Tryf.func12, Tryf.ntmps12
  go_wp2
  apply rows_value nextTurns
  case hr =>
    go_simp
    exact ⟨rfl, rfl⟩
  case h =>
    go_wp2
    go_ret
    exact ⟨rfl, rfl⟩

set_option maxHeartbeats 400000 in
theorem refuse_s (F : Interp) (b : Nat) (r f : ByteArray) (w : World) (hF : F.answers w.tape) (hc : w.cell? ⟨b, 0, none⟩ = some (.iface 9 (.string f))) (ht : FmtStop.textOf (F "fmt.Sprintf" [[37, 115], shapeS, FmtStop.pack f.data.toList] 0) = f) :
    Calls Tryf.prog 12 #[.string r, .string ⟨#[37, 115]⟩, .slice (some ⟨b, 0, none⟩) 1 1] w fun e w' => e = .returned (.iface 33 (.pointer (some ⟨w.heap.size, 0, none⟩))) ∧ w' = (w.alloc (.cells #[.string r, .string f] 36)).drew := by
  have hF' := answers_open hF
  go_enter Tryf.func12, Tryf.ntmps12
  go_wp2
  apply rows_value nextTurns
  case hr =>
    go_simp
    exact ⟨rfl, rfl⟩
  case h =>
    go_wp2
    go_ret
    exact ⟨rfl, rfl⟩

/-- A callee's contract, met behind one draw and n more: the draws add up. -/
theorem quiet_of1 {P : Program} {f : FuncId} {args : Array Value} {w : World} {n : Nat} {v : Value}
    (h : Calls P f args (w.drewN (1 + n)) fun e w' => e = .returned v ∧ ∃ m, w' = (w.drewN (1 + n)).drewN m) : Calls P f args (w.drewN (1 + n)) fun e w'' => e = .returned v ∧ ∃ m, w'' = w.drewN (1 + m) :=
  h.mono fun _ _ ⟨he, m, hm⟩ => ⟨he, n + m, by rw [hm, World.drewN_drewN, Nat.add_assoc]⟩

set_option maxHeartbeats 400000 in
theorem zznone (F : Interp) (r f : ByteArray) (w : World) (hF : F.answers w.tape) (hr : r.size ≤ 524288) (hd : f.size ≤ 524288) (hp : FmtStop.printed? f 0 = some []) (ht : FmtStop.textOf (F "fmt.Sprintf" [f.data.toList] 0) = f) :
    Calls Tryf.prog 9 #[.string r, .string f] w fun e w' => e = .returned (.tuple #[.bool true, .string r, .string f, .string (msg r f)]) ∧ Below w.heap.size w w' := by
  go_enter Tryf.func9, Tryf.ntmps9
  go_wp2_with (go_at_call 12; refine (refuse_none F r f _ (by exact hF) hp ht).mono ?_; rintro e w' ⟨rfl, rfl⟩)
  go_quiet ((go_at_call 13; exact quiet_of1 (error_any w.heap.size r f _ (by simp) (by simp) hr hd)))
  go_wp2
  (try simp only [Exit.inBlock, Exit.then])
  refine bodyPost_ret (v := .tuple #[.bool true, .string r, .string f, .string (msg r f)]) (by simp [results, Tryf.results9, go_sem]) rfl ⟨rfl, ?_⟩
  exact below_drewN ((Below.refl _ _).alloc (Nat.le_refl _) _).drew _

set_option maxHeartbeats 400000 in
theorem zztext (F : Interp) (r f : ByteArray) (w : World) (hF : F.answers w.tape) (hr : r.size ≤ 524288) (hd : f.size ≤ 524288) (ht : FmtStop.textOf (F "fmt.Sprintf" [[37, 115], shapeS, FmtStop.pack f.data.toList] 0) = f) :
    Calls Tryf.prog 10 #[.string r, .string f] w fun e w' => e = .returned (.tuple #[.bool true, .string r, .string f, .string (msg r f)]) ∧ Below w.heap.size w w' := by
  go_enter Tryf.func10, Tryf.ntmps10
  go_wp2_with (go_at_call 12; refine (refuse_s F w.heap.size r f _ (by exact hF) (by simp) ht).mono ?_; rintro e w' ⟨rfl, rfl⟩)
  go_quiet ((go_at_call 13; exact quiet_of1 (error_any (w.heap.size + 1) r f _ (by simp) (by simp) hr hd)))
  go_wp2
  (try simp only [Exit.inBlock, Exit.then])
  refine bodyPost_ret (v := .tuple #[.bool true, .string r, .string f, .string (msg r f)]) (by simp [results, Tryf.results10, go_sem]) rfl ⟨rfl, ?_⟩
  exact below_drewN (((Below.refl _ _).alloc (Nat.le_refl _) _).alloc (by simp) _).drew _

/-- Do the two lengths sum to at most 1<<20? -/
def fitsB (r f : ByteArray) : Bool := decide (r.size + f.size ≤ 1048576)

set_option maxHeartbeats 400000 in
theorem bytes_any (r f : ByteArray) (w : World) (hr : r.size ≤ maxLen) (hf : f.size ≤ maxLen) :
    Calls Tryf.prog 8 #[.string r, .string f] w fun e w' => e = .returned (.bool (fitsB r f)) ∧ w' = w := by
  unfold maxLen at hr hf
  by_cases h1 : r.size ≤ 1048576
  · by_cases h2 : f.size ≤ 1048576
    · by_cases h3 : r.size + f.size ≤ 1048576
      · have e : fitsB r f = true := by simp [fitsB, h3]
        rw [e]
        go_enter Tryf.func8, Tryf.ntmps8
        go_wp2
        go_ret
        exact ⟨rfl, rfl⟩
      · have e : fitsB r f = false := by simp [fitsB, h3]
        rw [e]
        go_enter Tryf.func8, Tryf.ntmps8
        go_wp2
        go_ret
        exact ⟨rfl, rfl⟩
    · have e : fitsB r f = false := by simp [fitsB]; omega
      rw [e]
      go_enter Tryf.func8, Tryf.ntmps8
      go_wp2
      go_ret
      exact ⟨rfl, rfl⟩
  · have e : fitsB r f = false := by simp [fitsB]; omega
    rw [e]
    go_enter Tryf.func8, Tryf.ntmps8
    go_wp2
    go_ret
    exact ⟨rfl, rfl⟩

end Go.Proofs.Qxb6612961aFmt
