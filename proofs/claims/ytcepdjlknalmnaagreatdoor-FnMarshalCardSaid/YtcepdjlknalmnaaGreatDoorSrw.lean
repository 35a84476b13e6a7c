/- Storing a whole spec.Session, as one step. -/
import Derived.Test.YtcepdjlknalmnaaGreatDoorSrow
namespace Go.Proofs.YtcepdjlknalmnaaGreatDoor
open Go.RowKit
theorem wp_store43 (i j : Tmp) (ty : TypeId) (pos : String) (after : Array Edge) (a : Act) (w : World) (K : Act → World → Prop) (Q : Exit → Act → World → Prop)
 (h : storeOk w 19 43 (a.eval (.tmp i)) (a.eval (.tmp j)) = true) :
 Oper.wp Tryz.prog ⟨none, .store 43 (.tmp i) (.tmp j), ty, pos, after, none⟩ a w K Q = K a (w.setRow (blockOf (a.eval (.tmp i))) (cellsOf (a.eval (.tmp j)))) := by
 unfold storeOk at h
 split at h
 · rename_i g cs h1 h2
   simp only [Bool.and_eq_true, beq_iff_eq] at h
   obtain ⟨⟨hr, hs⟩, hc⟩ := h
   unfold rowIs at hr
   split at hr
   · rename_i c t' fr hg
     simp only [Bool.and_eq_true, beq_iff_eq] at hr
     obtain ⟨⟨h3, rfl⟩, rfl⟩ := hr
     have hi : (Tryz.prog.info? 43).map (·.size) = some cs.size := by rw [hs]; kernel_rfl
     unfold Oper.wp execOp
     simp only [h1, h2, Instr.storeAt, Instr.sureAddr, Sem.run_bind, Sem.run_pure, Result.andThen_ok, run_storeVar_row w g 43 43 c cs hg hi (by omega) hc, blockOf_ptr, cellsOf_agg]
     rfl
   · cases hr
 · cases h
end Go.Proofs.YtcepdjlknalmnaaGreatDoor
