/-
  figure.New (7), the parts of each figure, and the walk of FnDecimalOfNewIsCoefficientTimesPower (3).
-/
import Derived.Test.Qxb6612285aParts
namespace Go.Proofs.Qxb6612285a
open Go.RowKit

theorem figNew (c y : Int) (w : World) :
    Calls Try.prog 7 #[.int .i64 c, .int .i32 y] w fun e w' => e = .returned (.agg #[.int .i64 c, .int .i32 y, .bool true, .pointer none]) ∧ Below w.heap.size w w' := by
  go_enter Try.func7, Try.ntmps7
  go_wp2
  exact bodyPost_ret (v := .agg #[.int .i64 c, .int .i32 y, .bool true, .pointer none]) (by simp [results, Try.results7, go_sem]) rfl ⟨rfl, below_box _ _⟩

theorem parts_small (c : Int) (hc : (Lit.int .i64 c).wf = true) (y : Int) (g : Option Addr) (w : World) :
    Calls Try.prog 6 #[.agg #[.int .i64 c, .int .i32 y, .bool true, .pointer g]] w fun e w' => e = .returned (.tuple #[.int .i64 c, .bool true, .int .i32 y]) ∧ Below w.heap.size w w' := by
  refine parts_core c y true g c y ((decimal_small c hc y g _).mono ?_)
  rintro e w' ⟨b, neg, u, he, hr, hbi, hbl⟩
  exact ⟨_, he, .inr ⟨b, neg, u, rfl, hr, hbi⟩, hbl⟩

theorem parts_zero (w : World) :
    Calls Try.prog 6 #[.agg #[.int .i64 0, .int .i32 0, .bool false, .pointer none]] w fun e w' => e = .returned (.tuple #[.int .i64 0, .bool true, .int .i32 0]) ∧ Below w.heap.size w w' := by
  refine parts_core 0 0 false none 0 0 ((decimal_zero 0 0 _).mono ?_)
  rintro e w' ⟨he, hbl⟩
  exact ⟨_, he, .inl ⟨rfl, rfl⟩, hbl⟩

theorem parts_big {w : World} (c y : Int) (db : Nat) (p : Option Addr) (x z : Int) (h0 : w.cell? ⟨db, 0, none⟩ = some (.pointer p)) (h1 : w.cell? ⟨db, 1, none⟩ = some (.int .i32 z)) (hd : DecIs w p x) :
    Calls Try.prog 6 #[.agg #[.int .i64 c, .int .i32 y, .bool false, .pointer (some ⟨db, 0, none⟩)]] w fun e w' => e = .returned (.tuple #[.int .i64 x, .bool true, .int .i32 z]) ∧ Below w.heap.size w w' := by
  have hb := below_box w (.cells #[.int .i64 c, .int .i32 y, .bool false, .pointer (some ⟨db, 0, none⟩)] 26)
  refine parts_core c y false (some ⟨db, 0, none⟩) x z ((decimal_big c y db p z _ (cell_kept hb h0) (cell_kept hb h1)).mono ?_)
  rintro e w' ⟨he, hbl⟩
  exact ⟨_, he, (hd.kept hb).kept hbl, hbl⟩

set_option maxHeartbeats 400000 in
/-- FnDecimalOfNewIsCoefficientTimesPower. -/
theorem law3 (c y : Int) (hc : (Lit.int .i64 c).wf = true) (w : World) :
    Calls Try.prog 3 #[.int .i64 c, .int .i32 y] w fun e w' => e = .returned (.bool true) ∧ Below w.heap.size w w' := by
  go_enter Try.func3, Try.ntmps3
  go_wp2_with fail
  refine (figNew c y w).mono ?_
  rintro e w1 ⟨rfl, hb1⟩
  go_wp2_with fail
  refine (parts_small c hc y none w1).mono ?_
  rintro e w2 ⟨rfl, hb2⟩
  go_wp2_with fail
  refine (parts_zero w2).mono ?_
  rintro e w3 ⟨rfl, hb3⟩
  have hbx := hb1.trans ((hb2.mono hb1.size).trans (hb3.mono (Nat.le_trans hb1.size hb2.size)))
  clear hb1 hb2 hb3
  go_wp2
  go_ret
  exact ⟨rfl, hbx⟩

end Go.Proofs.Qxb6612285a
