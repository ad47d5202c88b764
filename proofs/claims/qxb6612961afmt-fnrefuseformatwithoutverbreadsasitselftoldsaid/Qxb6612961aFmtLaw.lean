/-
  THE LAW's WALK of statement 1: the Go text returns true, out of the callees' contracts.
-/
import Derived.Test.Qxb6612961aFmtOwnWalks
namespace Go.Proofs.Qxb6612961aFmt
open Go.RowKit Go.Extern.Stop Go.Stop Go.Extern

theorem take_snoc (s : ByteArray) (k : Nat) (h : k < s.size) : s.data.toList.take (k + 1) = s.data.toList.take k ++ [s[k]] := by
  rw [List.take_succ_eq_append_getElem (by simpa using h)]; rfl

theorem nopct_snoc {l : List UInt8} {c : UInt8} (h : NoPct l) (hc : c ≠ 37) : NoPct (l ++ [c]) := by
  intro x hx
  rcases List.mem_append.1 hx with hx | hx
  · exact h x hx
  · rw [List.mem_singleton.1 hx]; exact hc

theorem nopct_next {s : ByteArray} {k : Nat} (h : k < s.size) (hn : NoPct (s.data.toList.take k)) (hc : ¬ (s[k].toNat : Int) = 37) : NoPct (s.data.toList.take (k + 1)) := by
  rw [take_snoc s k h]
  refine nopct_snoc hn fun e => hc ?_
  rw [e]; rfl

theorem nopct_all {s : ByteArray} {k : Nat} (h : ¬ k < s.size) (hn : NoPct (s.data.toList.take k)) : NoPct s.data.toList := by
  rwa [List.take_of_length_le (by rw [Array.length_toList]; exact Nat.le_of_not_lt h)] at hn

set_option maxHeartbeats 1000000 in
theorem law_tail (F : Interp) (r f : ByteArray) (w : World) (hF : F.answers w.tape) (hr : r.size ≤ maxLen) (hf : f.size ≤ maxLen)
    (ht1 : NoPct f.data.toList → f.size ≤ 524288 → FmtStop.textOf (F "fmt.Sprintf" [f.data.toList] 0) = f)
    (ht2 : f.size ≤ 524288 → FmtStop.textOf (F "fmt.Sprintf" [[37, 115], shapeS, FmtStop.pack f.data.toList] 0) = f) :
    Calls Tryf.prog 4 #[.string r, .string f] w fun e w' => e = .returned (.bool true) ∧ Below w.heap.size w w' := by
  have HT1 : Hid (NoPct f.data.toList → f.size ≤ 524288 → FmtStop.textOf (F "fmt.Sprintf" [f.data.toList] 0) = f) := ht1
  have HT2 : Hid (f.size ≤ 524288 → FmtStop.textOf (F "fmt.Sprintf" [[37, 115], shapeS, FmtStop.pack f.data.toList] 0) = f) := ht2
  clear ht1 ht2
  by_cases h3 : fitsB r f = true
  case neg =>
    have h3' : fitsB r f = false := by simpa using h3
    have C := bytes_any r f w hr hf
    rw [h3'] at C
    unfold maxLen at hr hf
    clear h3 h3'
    go_enter Tryf.func4, Tryf.ntmps4
    go_wp2_with (go_at_call 8; refine C.mono ?_; rintro e w' ⟨rfl, rfl⟩)
    go_ret
    exact ⟨rfl, Below.refl _ _⟩
  case pos =>
    have C := bytes_any r f w hr hf
    rw [h3] at C
    unfold maxLen at hr hf
    clear h3
    by_cases h1 : r.size ≤ 524288
    case neg =>
      go_enter Tryf.func4, Tryf.ntmps4
      go_wp2_with (go_at_call 8; refine C.mono ?_; rintro e w' ⟨rfl, rfl⟩)
      go_ret
      exact ⟨rfl, Below.refl _ _⟩
    case pos =>
      by_cases h2 : f.size ≤ 524288
      case neg =>
        go_enter Tryf.func4, Tryf.ntmps4
        go_wp2_with (go_at_call 8; refine C.mono ?_; rintro e w' ⟨rfl, rfl⟩)
        go_ret
        exact ⟨rfl, Below.refl _ _⟩
      case pos =>
        go_enter Tryf.func4, Tryf.ntmps4
        go_wp2_with (go_at_call 8; refine C.mono ?_; rintro e w' ⟨rfl, rfl⟩)
        go_loop [5] (fun i => ∃ k : Nat, k ≤ f.size ∧ i = .int .i64 k ∧ NoPct (f.data.toList.take k)) (fun i => f.size - (intOf i).toNat)
        case atStart => exact ⟨0, Nat.zero_le _, rfl, fun c hc => by simp at hc⟩
        case round =>
          clear C
          obtain ⟨k, hk, rfl, hn⟩ := hrel
          by_cases hlt : k < f.size
          · by_cases hc : (f[k].toNat : Int) = 37
            · have hcb : ((f[k].toNat : Int) == 37) = true := by simpa using hc
              clear hc
              go_wp2
              go_ret
              exact ⟨rfl, Below.refl _ _⟩
            · have hcb : ((f[k].toNat : Int) == 37) = false := by simpa using hc
              have HN : Hid (NoPct (f.data.toList.take (k + 1))) := nopct_next hlt hn hc
              clear hc hn
              go_wp2
              go_round
              case rel => exact ⟨k + 1, by omega, by go_num, HN.out⟩
              case measure => simp [intOf]; omega
          · have HN : Hid (NoPct f.data.toList) := nopct_all hlt hn
            clear hn
            go_wp2_with fail
            refine (zznone F r f _ (by exact hF) h1 h2 (printed_nopct f HN.out) (HT1.out HN.out h2)).mono ?_
            rintro e w1 ⟨rfl, hb1⟩
            go_wp2_with fail
            refine (zztext F r f _ (by rw [hb1.tape]; exact hF) h1 h2 (HT2.out h2)).mono ?_
            rintro e w2 ⟨rfl, hb2⟩
            go_wp2
            go_ret
            exact ⟨rfl, hb1.trans (hb2.mono hb1.size)⟩

end Go.Proofs.Qxb6612961aFmt
