/-
  What a row's list of package-level variables gives: the cells of zetas and of gammas are the numbers zet and gam. No condition.
-/
import Derived.Test.YtcglkelhklihgaaDoorRows
import Derived.Test.YtcglkelhklihgaaDoorTie
import Derived.Test.YtcglkelhklihgaaDoorNtf
import Derived.Test.YtcglkelhklihgaaDoorPrd
import Derived.Lib.LaidTab
namespace Go.Proofs.YtcglkelhklihgaaDoor
open Go.RowKit

theorem g_gam : Tryd.prog.globalNamed "loop.example/pub-g03234/pub/mlkem.gammas" = some 0 := by kernel_rfl
theorem ty_gam : (Tryd.prog.globals[0]?).map (·.type) = some 52 := by kernel_rfl
theorem data_gam : (Rows.laid_loop_example_pub_g03234_pub_mlkem_gammas : DataW Unit) = Lib.tabData .u16 ((List.range 128).map gam) := by kernel_rfl
theorem tab_gam {W : World} {l : List (String × DataW Unit)} (hl : (l.filter fun x => x.2.handleName?.isNone).filter (fun x => x.1 == "loop.example/pub-g03234/pub/mlkem.gammas") = [("loop.example/pub-g03234/pub/mlkem.gammas", Rows.laid_loop_example_pub_g03234_pub_mlkem_gammas)]) (h : laidMetH Tryd.prog l W) : Tab W 0 gam := by
  have h := (laidMetH_iff.1 h).1.filter (fun x => x.1 == "loop.example/pub-g03234/pub/mlkem.gammas")
  rw [hl, data_gam] at h
  have ht := Lib.tabIs_of_head (rest := []) g_gam ty_gam Tryd.underlying52 Tryd.underlying38 (by kernel_rfl) (by kernel_rfl) h
  refine ⟨fun i hi => ?_⟩
  have := ht.cell g_gam i (by simp; exact hi)
  rw [this]
  simp [List.getD, hi]

theorem g_zet : Tryd.prog.globalNamed "loop.example/pub-g03234/pub/mlkem.zetas" = some 1 := by kernel_rfl
theorem ty_zet : (Tryd.prog.globals[1]?).map (·.type) = some 52 := by kernel_rfl
theorem data_zet : (Rows.laid_loop_example_pub_g03234_pub_mlkem_zetas : DataW Unit) = Lib.tabData .u16 ((List.range 128).map zet) := by kernel_rfl
theorem tab_zet {W : World} {l : List (String × DataW Unit)} (hl : (l.filter fun x => x.2.handleName?.isNone).filter (fun x => x.1 == "loop.example/pub-g03234/pub/mlkem.zetas") = [("loop.example/pub-g03234/pub/mlkem.zetas", Rows.laid_loop_example_pub_g03234_pub_mlkem_zetas)]) (h : laidMetH Tryd.prog l W) : Tab W 1 zet := by
  have h := (laidMetH_iff.1 h).1.filter (fun x => x.1 == "loop.example/pub-g03234/pub/mlkem.zetas")
  rw [hl, data_zet] at h
  have ht := Lib.tabIs_of_head (rest := []) g_zet ty_zet Tryd.underlying52 Tryd.underlying38 (by kernel_rfl) (by kernel_rfl) h
  refine ⟨fun i hi => ?_⟩
  have := ht.cell g_zet i (by simp; exact hi)
  rw [this]
  simp [List.getD, hi]
end Go.Proofs.YtcglkelhklihgaaDoor
