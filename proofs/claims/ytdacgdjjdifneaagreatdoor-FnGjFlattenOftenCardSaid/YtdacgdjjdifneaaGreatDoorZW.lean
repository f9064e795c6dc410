/- Part of the proof of the card in text ZF. -/
import Derived.Test.YtdacgdjjdifneaaGreatDoorZT
import Derived.Outline
set_option linter.all false
set_option maxHeartbeats 16000000
set_option maxRecDepth 100000
namespace Go.Proofs.YtdacgdjjdifneaaGreatDoor.PFnGjFlattenOften
open Go.RowKit Go.Proofs.YtdacgdjjdifneaaGreatDoorW.PrintWords Go.Proofs.YtdacgdjjdifneaaGreatDoorW.PrintLast Go.Proofs.YtdacgdjjdifneaaGreatDoorW.PrintMore
attribute [local go_sem] max2_int min2_int max_two min_two max_three min_three max_four min_four store_float
theorem tzZW0 {P : Prop} (h : P := by
  have HR2 := sd (RB.new (w.alloc (.cells #[.int .i64 0, .string ⟨#[]⟩, .string ⟨#[]⟩, .float .f64 0, .int .i64 0, .slice none 0 0] 64)) (.int .i64 0) (.string ⟨#[]⟩) (.string ⟨#[]⟩) (.float .f64 0) (.int .i64 0) (.slice none 0 0)); rw [World.size_alloc] at HR2; have HB := sd (below_alloc (below_alloc (Below.refl w.heap.size w) (.cells #[.int .i64 0, .string ⟨#[]⟩, .string ⟨#[]⟩, .float .f64 0, .int .i64 0, .slice none 0 0] 64)) (.cells #[.int .i64 0, .string ⟨#[]⟩, .string ⟨#[]⟩, .float .f64 0, .int .i64 0, .slice none 0 0] 64)); go_enter Tryz.func35, Tryz.ntmps35; go_wp2; generalize hn : w.heap.size = n at *; generalize (w.alloc (.cells #[.int .i64 0, .string ⟨#[]⟩, .string ⟨#[]⟩, .float .f64 0, .int .i64 0, .slice none 0 0] 64)).alloc (.cells #[.int .i64 0, .string ⟨#[]⟩, .string ⟨#[]⟩, .float .f64 0, .int .i64 0, .slice none 0 0] 64) = w2 at *
  obtain ⟨p0, p1, p2, p3, p4, p5⟩ := HR2.out.cells; have f0 := HR2.out.free 0; have f1 := HR2.out.free 1; have f2 := HR2.out.free 2; have f3 := HR2.out.free 3; have f4 := HR2.out.free 4; have f5 := HR2.out.free 5; refine wp_loop_rounds 1 ?_; rw [rounds_succ]; go_upto_region 43 with (fail)
  try rw [hx]
  have HS2 := sd ((HR2.out.set0 (.int .i64 5)).set1 (.string s)); have HS1 := sd ((HR.out.far (far1 n 0) (.int .i64 5)).far (far1 n 1) (.string s)); have HSB := sd (bset (bset HB.out (n + 1) 0 (Nat.le_succ n) (.int .i64 5)) (n + 1) 1 (Nat.le_succ n) (.string s)); clear HR HR2 HB; clear p0 p1 p2 p3 p4 p5 f0 f1 f2 f3 f4 f5; generalize ((w2.setCell ⟨n + 1, 0, none⟩ (.int .i64 5)).setCell ⟨n + 1, 1, none⟩ (.string s)) = w3 at *; obtain ⟨p0, p1, p2, p3, p4, p5⟩ := HS2.out.cells; have f0 := HS2.out.free 0; have f1 := HS2.out.free 1; have f2 := HS2.out.free 2; have f3 := HS2.out.free 3; have f4 := HS2.out.free 4; have f5 := HS2.out.free 5
  go_upto_region 45 with (first | (go_at_call 51; (with_reducible refine (exists_c s ⟨#[]⟩ 0 0 _).mono ?_); rintro e9001 w9001 ⟨rfl, hb⟩; have HR := sd (HS1.out.below hb); have HR2 := sd (HS2.out.below hb); have HB := sd (bstep hn HSB.out hb); clear HS1 HS2 HSB hb; have g4 := HR2.out.free 4; have k4 := HR2.out.cells.2.2.2.2.1))
  clear g4 k4; have HS2 := sd (HR2.out.set4 (.int .i64 0)); have HS1 := sd (HR.out.far (far1 n 4) (.int .i64 0)); have HSB := sd (bset HB.out (n + 1) 4 (Nat.le_succ n) (.int .i64 0)); clear HR HR2 HB; clear p0 p1 p2 p3 p4 p5 f0 f1 f2 f3 f4 f5; generalize (w9001.setCell ⟨n + 1, 4, none⟩ (.int .i64 0)) = w5 at *; obtain ⟨p0, p1, p2, p3, p4, p5⟩ := HS2.out.cells; have f0 := HS2.out.free 0; have f1 := HS2.out.free 1; have f2 := HS2.out.free 2; have f3 := HS2.out.free 3; have f4 := HS2.out.free 4; have f5 := HS2.out.free 5; obtain ⟨q0, q1, q2, q3, q4, q5⟩ := HS1.out.cells; have g0 := HS1.out.free 0; have g1 := HS1.out.free 1; have g2 := HS1.out.free 2; have g3 := HS1.out.free 3; have g4 := HS1.out.free 4; have g5 := HS1.out.free 5; go_upto_region 999 with (fail)
  change bodyPost _ _ _ _ _ (pu6 w5 n (.int .i64 5) (.string s) (.string ⟨#[]⟩) (.float .f64 0) (.int .i64 0) (.slice none 0 0))
  refine bodyPost_ret (res_c rfl _ _ n (pu6_rb HS1.out (.int .i64 5) (.string s) (.string ⟨#[]⟩) (.float .f64 0) (.int .i64 0) (.slice none 0 0)) rfl) rfl ?_; exact ⟨rfl, by rw [hn]; exact pu6_below HSB.out (Nat.le_refl n) _ _ _ _ _ _⟩) : P := h
theorem parse_c (s : ByteArray) (hs : s.size ≤ 65536) (h0 : 0 < s.size) (c : Int) (hc : bt s 0 = c) (hbr : c = 91 ∨ c = 123) (w : World) :
  Calls Tryz.prog 35 #[.string s] w fun e w' => e = .returned (RV 5 s ⟨#[]⟩ 0 0) ∧ Below w.heap.size w w' := by
 have HS := sd hs; obtain ⟨x1, x2, x3, x4, x5, x6, x7, x8, x9, x10⟩ := str_facts h0 hs; have hx : s.extract 0 s.size = s := ByteArray.extract_zero_size; rw [show ((0 : Nat) : Int) = 0 from rfl] at x1 x3 x4 x6 x7 x8 x10; rw [hc] at x10; clear x6 x8 x9 hs h0
 rcases hbr with rfl | rfl
 ·have HR := sd ((RB.new w (.int .i64 0) (.string ⟨#[]⟩) (.string ⟨#[]⟩) (.float .f64 0) (.int .i64 0) (.slice none 0 0)).alloc (.cells #[.int .i64 0, .string ⟨#[]⟩, .string ⟨#[]⟩, .float .f64 0, .int .i64 0, .slice none 0 0] 64)); exact tzZW0
 ·have HR := sd ((RB.new w (.int .i64 0) (.string ⟨#[]⟩) (.string ⟨#[]⟩) (.float .f64 0) (.int .i64 0) (.slice none 0 0)).alloc (.cells #[.int .i64 0, .string ⟨#[]⟩, .string ⟨#[]⟩, .float .f64 0, .int .i64 0, .slice none 0 0] 64)); exact tzZW0
end Go.Proofs.YtdacgdjjdifneaaGreatDoor.PFnGjFlattenOften
