import Derived.Test.Qxb6614227aFmtW2
import Derived.Test.Qxb6614227aFmtRg
namespace Go.Proofs.Qxb6614227aFmt
open Go.RowKit Go.Extern.Stop Go.Stop Go.Extern
set_option maxHeartbeats 800000 in
set_option maxRecDepth 100000 in
theorem vec_yes (C g off n x y z : Nat) (w : World) (h3 : 3 ≤ n) (hl : n ≤ 1048576) (hc : w.cell? ⟨C, 0, none⟩ = some (.slice (some ⟨g, off, none⟩) n n)) (hf : w.frozen? ⟨C, 0, none⟩ = false)
    (hx : w.cell? ⟨g, off, none⟩ = some (.int .u8 x)) (hy : w.cell? ⟨g, off + 1, none⟩ = some (.int .u8 y)) (hz : w.cell? ⟨g, off + 2, none⟩ = some (.int .u8 z)) (bx : x ≤ 255) (by_ : y ≤ 255) (bz : z ≤ 255) (hb : 3 + n24 x y z ≤ n) :
    Calls Tryf.prog 26 #[.pointer (some ⟨C, 0, none⟩)] w fun e w' => ∃ r1 r2, e = .returned (.tuple #[.slice (some r1) (n24 x y z) (n24 x y z), .bool true]) ∧
      w' = (w.setCell ⟨C, 0, none⟩ (.slice (some r2) (n - (3 + n24 x y z)) (n - (3 + n24 x y z)))).drew ∧ (n24 x y z ≠ 0 → r1 = ⟨g, off + 3, none⟩) := by
  have b1 : (1 : Int) < (n : Int) := by omega
  have b2 : (2 : Int) < (n : Int) := by omega
  have b0 : 0 < n := by omega
  have hlt := n24_lt bx by_ bz
  have HE : Hid _ := n24_eq bx by_ bz
  go_enter Tryf.func26, Tryf.ntmps26
  go_wp2
  refine wp_region_reads_call_tail 23 25 (by kernel_rfl) (by omega) (by kernel_rfl) (by kernel_rfl) (by kernel_rfl) (by kernel_rfl) (by kernel_rfl) (by kernel_rfl) ?_
  simp only [List.take_succ_cons, List.take_zero, List.drop_succ_cons, List.drop_zero]
  generalize (waiting _ _ _).toArray = opsW
  repeat still_step
  refine wpStill_nil ?_
  rw [HE.out]
  refine wpOp_step (o := _) rfl (fun K' hK => ?_)
  go_simp
  refine (con_yes C g off n (n24 x y z) _ hl hlt hb (by simpa [go_sem] using hc) (by simpa [go_sem] using hf)).mono ?_
  rintro e w' ⟨r1, r2, rfl, rfl, hr⟩
  refine hK _ _ ?_
  repeat still_step
  refine wpStill_nil ?_
  go_wp2
  go_ret2
  exact ⟨r1, r2, rfl, rfl, hr⟩
end Go.Proofs.Qxb6614227aFmt
