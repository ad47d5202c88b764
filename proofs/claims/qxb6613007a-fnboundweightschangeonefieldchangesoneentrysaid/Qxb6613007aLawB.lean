/-
  STATEMENT 3: the law's walk at two of the four places k.
-/
import Derived.Test.Qxb6613007aBoth
namespace Go.Proofs.Qxb6613007a
open Go.RowKit

set_option maxHeartbeats 2000000 in
theorem law_2 (a s m r : Int) (f1 f2 : Bool) (v : Int) (w : World) :
    Calls Try.prog 3 #[.int .i64 a, .int .i64 s, .int .i64 m, .int .i64 r, .bool f1, .bool f2, .int .u8 2, .int .i64 v] w fun e w' => e = .returned (.bool true) ∧ Below w.heap.size w w' := by
  have T0 := hidB (Both.start w a s m r f1 f2 a s v r (!f1) (!f2))
  go_enter Try.func3, Try.ntmps3
  go_wp2_with fail
  refine (len_any a s m r f1 f2 _).mono ?_
  rintro e w1 ⟨rfl, hb⟩
  have T1 := hidB (T0.out.step hb)
  clear hb
  obtain ⟨⟨c0, c1, c2, c3, c4, c5⟩, ⟨d0, d1, d2, d3, d4, d5⟩⟩ := T1.out.2.2
  go_wp2_with fail
  clear c0 c1 c2 c3 c4 c5 d0 d1 d2 d3 d4 d5 T0
  refine (len_any a s v r (!f1) (!f2) _).mono ?_
  rintro e w2 ⟨rfl, hb⟩
  have T2 := hidB (T1.out.step hb)
  clear hb
  obtain ⟨⟨c0, c1, c2, c3, c4, c5⟩, ⟨d0, d1, d2, d3, d4, d5⟩⟩ := T2.out.2.2
  go_wp2_with fail
  refine wp_loop_rounds 5 ?_
  rw [rounds_succ]
  go_wp2_with fail
  clear c0 c1 c2 c3 c4 c5 d0 d1 d2 d3 d4 d5 T1
  refine (at_0 a s m r f1 f2 _).mono ?_
  rintro e w3 ⟨rfl, hb⟩
  have T3 := hidB (T2.out.step hb)
  clear hb
  obtain ⟨⟨c0, c1, c2, c3, c4, c5⟩, ⟨d0, d1, d2, d3, d4, d5⟩⟩ := T3.out.2.2
  go_wp2_with fail
  clear c0 c1 c2 c3 c4 c5 d0 d1 d2 d3 d4 d5 T2
  refine (at_0 a s v r (!f1) (!f2) _).mono ?_
  rintro e w4 ⟨rfl, hb⟩
  have T4 := hidB (T3.out.step hb)
  clear hb
  obtain ⟨⟨c0, c1, c2, c3, c4, c5⟩, ⟨d0, d1, d2, d3, d4, d5⟩⟩ := T4.out.2.2
  go_wp2_with fail
  rw [rounds_succ]
  go_wp2_with fail
  clear c0 c1 c2 c3 c4 c5 d0 d1 d2 d3 d4 d5 T3
  refine (at_1 a s m r f1 f2 _).mono ?_
  rintro e w5 ⟨rfl, hb⟩
  have T5 := hidB (T4.out.step hb)
  clear hb
  obtain ⟨⟨c0, c1, c2, c3, c4, c5⟩, ⟨d0, d1, d2, d3, d4, d5⟩⟩ := T5.out.2.2
  go_wp2_with fail
  clear c0 c1 c2 c3 c4 c5 d0 d1 d2 d3 d4 d5 T4
  refine (at_1 a s v r (!f1) (!f2) _).mono ?_
  rintro e w6 ⟨rfl, hb⟩
  have T6 := hidB (T5.out.step hb)
  clear hb
  obtain ⟨⟨c0, c1, c2, c3, c4, c5⟩, ⟨d0, d1, d2, d3, d4, d5⟩⟩ := T6.out.2.2
  go_wp2_with fail
  rw [rounds_succ]
  go_wp2_with fail
  clear c0 c1 c2 c3 c4 c5 d0 d1 d2 d3 d4 d5 T5
  refine (at_2 a s m r f1 f2 _).mono ?_
  rintro e w7 ⟨rfl, hb⟩
  have T7 := hidB (T6.out.step hb)
  clear hb
  obtain ⟨⟨c0, c1, c2, c3, c4, c5⟩, ⟨d0, d1, d2, d3, d4, d5⟩⟩ := T7.out.2.2
  go_wp2_with fail
  clear c0 c1 c2 c3 c4 c5 d0 d1 d2 d3 d4 d5 T6
  refine (at_2 a s v r (!f1) (!f2) _).mono ?_
  rintro e w8 ⟨rfl, hb⟩
  have T8 := hidB (T7.out.step hb)
  clear hb
  obtain ⟨⟨c0, c1, c2, c3, c4, c5⟩, ⟨d0, d1, d2, d3, d4, d5⟩⟩ := T8.out.2.2
  go_wp2_with fail
  clear c0 c1 c2 c3 c4 c5 d0 d1 d2 d3 d4 d5 T7
  refine (field_2 a s m r f1 f2 _).mono ?_
  rintro e w9 ⟨rfl, hb⟩
  have T9 := hidB (T8.out.step hb)
  clear hb
  obtain ⟨⟨c0, c1, c2, c3, c4, c5⟩, ⟨d0, d1, d2, d3, d4, d5⟩⟩ := T9.out.2.2
  go_wp2_with fail
  rw [rounds_succ]
  go_wp2_with fail
  clear c0 c1 c2 c3 c4 c5 d0 d1 d2 d3 d4 d5 T8
  refine (at_3 a s m r f1 f2 _).mono ?_
  rintro e w10 ⟨rfl, hb⟩
  have T10 := hidB (T9.out.step hb)
  clear hb
  obtain ⟨⟨c0, c1, c2, c3, c4, c5⟩, ⟨d0, d1, d2, d3, d4, d5⟩⟩ := T10.out.2.2
  go_wp2_with fail
  clear c0 c1 c2 c3 c4 c5 d0 d1 d2 d3 d4 d5 T9
  refine (at_3 a s v r (!f1) (!f2) _).mono ?_
  rintro e w11 ⟨rfl, hb⟩
  have T11 := hidB (T10.out.step hb)
  clear hb
  obtain ⟨⟨c0, c1, c2, c3, c4, c5⟩, ⟨d0, d1, d2, d3, d4, d5⟩⟩ := T11.out.2.2
  go_wp2_with fail
  rw [rounds_succ]
  go_wp2_with fail
  go_ret
  exact ⟨rfl, T11.out.1⟩

set_option maxHeartbeats 2000000 in
theorem law_3 (a s m r : Int) (f1 f2 : Bool) (v : Int) (w : World) :
    Calls Try.prog 3 #[.int .i64 a, .int .i64 s, .int .i64 m, .int .i64 r, .bool f1, .bool f2, .int .u8 3, .int .i64 v] w fun e w' => e = .returned (.bool true) ∧ Below w.heap.size w w' := by
  have T0 := hidB (Both.start w a s m r f1 f2 a s m v (!f1) (!f2))
  go_enter Try.func3, Try.ntmps3
  go_wp2_with fail
  refine (len_any a s m r f1 f2 _).mono ?_
  rintro e w1 ⟨rfl, hb⟩
  have T1 := hidB (T0.out.step hb)
  clear hb
  obtain ⟨⟨c0, c1, c2, c3, c4, c5⟩, ⟨d0, d1, d2, d3, d4, d5⟩⟩ := T1.out.2.2
  go_wp2_with fail
  clear c0 c1 c2 c3 c4 c5 d0 d1 d2 d3 d4 d5 T0
  refine (len_any a s m v (!f1) (!f2) _).mono ?_
  rintro e w2 ⟨rfl, hb⟩
  have T2 := hidB (T1.out.step hb)
  clear hb
  obtain ⟨⟨c0, c1, c2, c3, c4, c5⟩, ⟨d0, d1, d2, d3, d4, d5⟩⟩ := T2.out.2.2
  go_wp2_with fail
  refine wp_loop_rounds 5 ?_
  rw [rounds_succ]
  go_wp2_with fail
  clear c0 c1 c2 c3 c4 c5 d0 d1 d2 d3 d4 d5 T1
  refine (at_0 a s m r f1 f2 _).mono ?_
  rintro e w3 ⟨rfl, hb⟩
  have T3 := hidB (T2.out.step hb)
  clear hb
  obtain ⟨⟨c0, c1, c2, c3, c4, c5⟩, ⟨d0, d1, d2, d3, d4, d5⟩⟩ := T3.out.2.2
  go_wp2_with fail
  clear c0 c1 c2 c3 c4 c5 d0 d1 d2 d3 d4 d5 T2
  refine (at_0 a s m v (!f1) (!f2) _).mono ?_
  rintro e w4 ⟨rfl, hb⟩
  have T4 := hidB (T3.out.step hb)
  clear hb
  obtain ⟨⟨c0, c1, c2, c3, c4, c5⟩, ⟨d0, d1, d2, d3, d4, d5⟩⟩ := T4.out.2.2
  go_wp2_with fail
  rw [rounds_succ]
  go_wp2_with fail
  clear c0 c1 c2 c3 c4 c5 d0 d1 d2 d3 d4 d5 T3
  refine (at_1 a s m r f1 f2 _).mono ?_
  rintro e w5 ⟨rfl, hb⟩
  have T5 := hidB (T4.out.step hb)
  clear hb
  obtain ⟨⟨c0, c1, c2, c3, c4, c5⟩, ⟨d0, d1, d2, d3, d4, d5⟩⟩ := T5.out.2.2
  go_wp2_with fail
  clear c0 c1 c2 c3 c4 c5 d0 d1 d2 d3 d4 d5 T4
  refine (at_1 a s m v (!f1) (!f2) _).mono ?_
  rintro e w6 ⟨rfl, hb⟩
  have T6 := hidB (T5.out.step hb)
  clear hb
  obtain ⟨⟨c0, c1, c2, c3, c4, c5⟩, ⟨d0, d1, d2, d3, d4, d5⟩⟩ := T6.out.2.2
  go_wp2_with fail
  rw [rounds_succ]
  go_wp2_with fail
  clear c0 c1 c2 c3 c4 c5 d0 d1 d2 d3 d4 d5 T5
  refine (at_2 a s m r f1 f2 _).mono ?_
  rintro e w7 ⟨rfl, hb⟩
  have T7 := hidB (T6.out.step hb)
  clear hb
  obtain ⟨⟨c0, c1, c2, c3, c4, c5⟩, ⟨d0, d1, d2, d3, d4, d5⟩⟩ := T7.out.2.2
  go_wp2_with fail
  clear c0 c1 c2 c3 c4 c5 d0 d1 d2 d3 d4 d5 T6
  refine (at_2 a s m v (!f1) (!f2) _).mono ?_
  rintro e w8 ⟨rfl, hb⟩
  have T8 := hidB (T7.out.step hb)
  clear hb
  obtain ⟨⟨c0, c1, c2, c3, c4, c5⟩, ⟨d0, d1, d2, d3, d4, d5⟩⟩ := T8.out.2.2
  go_wp2_with fail
  rw [rounds_succ]
  go_wp2_with fail
  clear c0 c1 c2 c3 c4 c5 d0 d1 d2 d3 d4 d5 T7
  refine (at_3 a s m r f1 f2 _).mono ?_
  rintro e w9 ⟨rfl, hb⟩
  have T9 := hidB (T8.out.step hb)
  clear hb
  obtain ⟨⟨c0, c1, c2, c3, c4, c5⟩, ⟨d0, d1, d2, d3, d4, d5⟩⟩ := T9.out.2.2
  go_wp2_with fail
  clear c0 c1 c2 c3 c4 c5 d0 d1 d2 d3 d4 d5 T8
  refine (at_3 a s m v (!f1) (!f2) _).mono ?_
  rintro e w10 ⟨rfl, hb⟩
  have T10 := hidB (T9.out.step hb)
  clear hb
  obtain ⟨⟨c0, c1, c2, c3, c4, c5⟩, ⟨d0, d1, d2, d3, d4, d5⟩⟩ := T10.out.2.2
  go_wp2_with fail
  clear c0 c1 c2 c3 c4 c5 d0 d1 d2 d3 d4 d5 T9
  refine (field_3 a s m r f1 f2 _).mono ?_
  rintro e w11 ⟨rfl, hb⟩
  have T11 := hidB (T10.out.step hb)
  clear hb
  obtain ⟨⟨c0, c1, c2, c3, c4, c5⟩, ⟨d0, d1, d2, d3, d4, d5⟩⟩ := T11.out.2.2
  go_wp2_with fail
  rw [rounds_succ]
  go_wp2_with fail
  go_ret
  exact ⟨rfl, T11.out.1⟩

end Go.Proofs.Qxb6613007a
