/- Joined by wip/tools/pack.py: what the claim uses of Pay. No conditions beyond each theorem's own. -/
import Derived.Test.YtmjoebnphacadaaGreatDoorP1
import Derived.Test.YtmjoebnphacadaaGreatDoorP5
import Derived.Test.YtmjoebnphacadaaGreatDoorRows
import Derived.Stop.LaidTwo
import Derived.Stop.Texts
import Derived.KernelRfl
/- From what a row lists to what the parser's walks ask: ETx. -/
set_option linter.unusedVariables false
set_option linter.unusedSimpArgs false
namespace Go.Proofs.YtmjoebnphacadaaGreatDoor.Lex
open Go.RowKit Go.Lib
theorem star_es : "*" ++ "errors.errorString" = "*errors.errorString" := by decide
theorem row_es (u : TypeId) (h : Tryz.prog.typeName? 3 u = some "*errors.errorString") : u = 64 :=
  typeName_ptr_named (nm := "errors.errorString") (by rw [star_es]; kernel_rfl) (by kernel_rfl) (by decide) u (by rw [star_es]; exact h)
theorem cells_es : Tryz.prog.cellsOf 66 = 1 := by kernel_rfl
theorem cells_st : Tryz.prog.cellsOf 9 = 1 := by kernel_rfl
theorem gn_1 : Tryz.prog.globalNamed "strconv.ErrSyntax" = some 9 := by kernel_rfl
theorem gt_1 : (Tryz.prog.globals[9]?).map (·.type) = some 37 := by kernel_rfl
theorem gn_3 : Tryz.prog.globalNamed "pub-clamour/pub/alertmanager/matcher/parse.errEOF" = some 0 := by kernel_rfl
theorem gt_3 : (Tryz.prog.globals[0]?).map (·.type) = some 37 := by kernel_rfl
theorem gn_4 : Tryz.prog.globalNamed "pub-clamour/pub/alertmanager/matcher/parse.errExpectedEOF" = some 1 := by kernel_rfl
theorem gt_4 : (Tryz.prog.globals[1]?).map (·.type) = some 37 := by kernel_rfl
theorem gn_5 : Tryz.prog.globalNamed "pub-clamour/pub/alertmanager/matcher/parse.errNoOpenBrace" = some 3 := by kernel_rfl
theorem gt_5 : (Tryz.prog.globals[3]?).map (·.type) = some 37 := by kernel_rfl
theorem gn_6 : Tryz.prog.globalNamed "pub-clamour/pub/alertmanager/matcher/parse.errNoCloseBrace" = some 2 := by kernel_rfl
theorem gt_6 : (Tryz.prog.globals[2]?).map (·.type) = some 37 := by kernel_rfl
theorem gn_7 : Tryz.prog.globalNamed "pub-clamour/pub/alertmanager/matcher/parse.errNoLabelName" = some 4 := by kernel_rfl
theorem gt_7 : (Tryz.prog.globals[4]?).map (·.type) = some 37 := by kernel_rfl
theorem gn_8 : Tryz.prog.globalNamed "pub-clamour/pub/alertmanager/matcher/parse.errNoLabelValue" = some 6 := by kernel_rfl
theorem gt_8 : (Tryz.prog.globals[6]?).map (·.type) = some 37 := by kernel_rfl
theorem gn_9 : Tryz.prog.globalNamed "pub-clamour/pub/alertmanager/matcher/parse.errNoOperator" = some 5 := by kernel_rfl
theorem gt_9 : (Tryz.prog.globals[5]?).map (·.type) = some 37 := by kernel_rfl
theorem gn_10 : Tryz.prog.globalNamed "pub-clamour/pub/alertmanager/matcher/parse.errExpectedComma" = some 12 := by kernel_rfl
theorem gt_10 : (Tryz.prog.globals[12]?).map (·.type) = some 37 := by kernel_rfl
theorem gn_11 : Tryz.prog.globalNamed "pub-clamour/pub/alertmanager/matcher/parse.errExpectedCommaOrCloseBrace" = some 7 := by kernel_rfl
theorem gt_11 : (Tryz.prog.globals[7]?).map (·.type) = some 37 := by kernel_rfl
theorem gn_12 : Tryz.prog.globalNamed "pub-clamour/pub/alertmanager/matcher/parse.errExpectedMatcherOrCloseBrace" = some 13 := by kernel_rfl
theorem gt_12 : (Tryz.prog.globals[13]?).map (·.type) = some 37 := by kernel_rfl
theorem err_of_var {w : World} {n : String} {g : Nat} {a : Addr} (hg : Tryz.prog.globalNamed n = some g) (h : w.var? Tryz.prog n = some #[.iface 64 (.pointer (some a))]) : w.cell? ⟨g, 0, none⟩ = some (errV a) := by
  simpa [errV] using World.var?_cell hg h 0
theorem ETx_of_laid {W : World} (hL : laidMet Tryz.prog Rows.fnParseRow.laid W) : ETx W := by
  have t0 := hL
  have t1 := t0.tail
  have t2 := t1.tail
  have t3 := t2.tail
  have t4 := t3.tail
  have t5 := t4.tail
  have t6 := t5.tail
  have t7 := t6.tail
  have t8 := t7.tail
  have t9 := t8.tail
  have t10 := t9.tail
  have t11 := t10.tail
  have t12 := t11.tail
  have t13 := t12.tail
  obtain ⟨a3, a4, s3, s4, c3, c4, q3, q4, v3, v4, _, _, _, _, _, _, _, b3, b4⟩ := laid_sentinels2 t3 gn_3 gt_3 gn_4 gt_4 Tryz.underlying37 row_es Tryz.underlying64 Tryz.underlying66 rfl rfl Tryz.underlying9 cells_es cells_st
  obtain ⟨a1, s1, v1, _⟩ := laid_sentinel t1 gn_1 gt_1 Tryz.underlying37 row_es Tryz.underlying64 Tryz.underlying66 rfl rfl Tryz.underlying9 cells_es cells_st
  obtain ⟨a5, s5, v5, _⟩ := laid_sentinel t5 gn_5 gt_5 Tryz.underlying37 row_es Tryz.underlying64 Tryz.underlying66 rfl rfl Tryz.underlying9 cells_es cells_st
  obtain ⟨a6, s6, v6, _⟩ := laid_sentinel t6 gn_6 gt_6 Tryz.underlying37 row_es Tryz.underlying64 Tryz.underlying66 rfl rfl Tryz.underlying9 cells_es cells_st
  obtain ⟨a7, s7, v7, _⟩ := laid_sentinel t7 gn_7 gt_7 Tryz.underlying37 row_es Tryz.underlying64 Tryz.underlying66 rfl rfl Tryz.underlying9 cells_es cells_st
  obtain ⟨a8, s8, v8, _⟩ := laid_sentinel t8 gn_8 gt_8 Tryz.underlying37 row_es Tryz.underlying64 Tryz.underlying66 rfl rfl Tryz.underlying9 cells_es cells_st
  obtain ⟨a9, s9, v9, _⟩ := laid_sentinel t9 gn_9 gt_9 Tryz.underlying37 row_es Tryz.underlying64 Tryz.underlying66 rfl rfl Tryz.underlying9 cells_es cells_st
  obtain ⟨a10, s10, v10, _⟩ := laid_sentinel t10 gn_10 gt_10 Tryz.underlying37 row_es Tryz.underlying64 Tryz.underlying66 rfl rfl Tryz.underlying9 cells_es cells_st
  obtain ⟨a11, s11, v11, _⟩ := laid_sentinel t11 gn_11 gt_11 Tryz.underlying37 row_es Tryz.underlying64 Tryz.underlying66 rfl rfl Tryz.underlying9 cells_es cells_st
  obtain ⟨a12, s12, v12, _⟩ := laid_sentinel t12 gn_12 gt_12 Tryz.underlying37 row_es Tryz.underlying64 Tryz.underlying66 rfl rfl Tryz.underlying9 cells_es cells_st
  refine ⟨a3, LT_of_reads (Lib.laidMet.reads hL (.tail _ (.tail _ (.tail _ (.tail _ (.tail _ (.tail _ (.tail _ (.tail _ (.tail _ (.tail _ (.tail _ (.tail _ (.tail _ (.head _))))))))))))))) (Lib.laidMet.reads hL (.head _)) (Lib.laidMet.reads hL (.tail _ (.tail _ (.head _)))), err_of_var gn_3 v3, ⟨c3, q3, b3⟩, ?_⟩
  intro g hg
  simp only [errGs, List.mem_cons, List.not_mem_nil, or_false] at hg
  rcases hg with rfl | rfl | rfl | rfl | rfl | rfl | rfl | rfl | rfl | rfl | rfl
  · exact ⟨_, err_of_var gn_3 v3⟩
  · exact ⟨_, err_of_var gn_4 v4⟩
  · exact ⟨_, err_of_var gn_5 v5⟩
  · exact ⟨_, err_of_var gn_6 v6⟩
  · exact ⟨_, err_of_var gn_7 v7⟩
  · exact ⟨_, err_of_var gn_8 v8⟩
  · exact ⟨_, err_of_var gn_9 v9⟩
  · exact ⟨_, err_of_var gn_10 v10⟩
  · exact ⟨_, err_of_var gn_11 v11⟩
  · exact ⟨_, err_of_var gn_12 v12⟩
  · exact ⟨_, err_of_var gn_1 v1⟩
end Go.Proofs.YtmjoebnphacadaaGreatDoor.Lex
