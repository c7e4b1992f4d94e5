/- Law 5's closed facts. -/
import Derived.Test.YtoebgbojpkflnaaGreatDoorClosed
namespace Go.Proofs.YtoebgbojpkflnaaGreatDoor
open Go Go.RowKit
set_option maxRecDepth 100000 in
theorem cl5_inPlace : (Rows.fnDoubleFactorialRow.inPlace == Tryz.pinned.checked.prog.inPlace 5) = true := by kernel_rfl
set_option maxRecDepth 100000 in
theorem cl5_unf : (Rows.fnDoubleFactorialRow.unfollowed == Tryz.pinned.checked.prog.unfollowed 5) = true := by kernel_rfl
set_option maxRecDepth 100000 in
theorem cl5_rec : (Rows.fnDoubleFactorialRow.recurses == Tryz.pinned.checked.prog.recurses 5) = true := by kernel_rfl
set_option maxRecDepth 100000 in
theorem cl5_named : (Rows.fnDoubleFactorialRow.named == Tryz.pinned.checked.prog.varsNamed 5) = true := by kernel_rfl
set_option maxRecDepth 100000 in
theorem cl5_keys : (Rows.fnDoubleFactorialRow.plainKeys == Tryz.pinned.checked.prog.plainKeys) = true := by kernel_rfl
set_option maxRecDepth 100000 in
theorem cl5_lifted : (Rows.fnDoubleFactorialRow.lifted == Tryz.pinned.checked.prog.liftsFinal) = true := by kernel_rfl
set_option maxRecDepth 100000 in
theorem cl5_make : (Tryz.pinned.checked.prog.make == some Rows.fnDoubleFactorialRow.make) = true := by kernel_rfl
set_option maxRecDepth 100000 in
theorem cl5_loops : (Rows.fnDoubleFactorialRow.loops == (Tryz.f5.params.toList ++ Rows.fnDoubleFactorialSpec.plain.varTypes Tryz.pinned.checked.prog).any (Tryz.pinned.checked.prog.loopsFrom ·)) = true := by kernel_rfl
set_option maxRecDepth 100000 in
theorem closed5 : joinedFacts Tryz.pinned.checked.prog 5 Tryz.f5 Rows.fnDoubleFactorialSpec Rows.fnDoubleFactorialRow = true := by
  unfold joinedFacts
  exact (and_true2 (and_true2 (and_true2 (and_true2 (and_true2 (and_true2 (and_true2 (and_true2 (and_true2 (and_true2 (and_true2 (and_true2 (and_true2 (and_true2 (and_true2 (and_true2 (and_true2 (and_true2 (and_true2 (and_true2 (and_true2 (and_true2 (and_true2 (and_true2 (and_true2 (and_true2 (and_true2 (and_true2 (and_true2 (and_true2 (and_true2 (by as_aux_lemma => kernel_rfl) cl_laid) cl_maps) (by as_aux_lemma => kernel_rfl)) (by as_aux_lemma => kernel_rfl)) (by as_aux_lemma => kernel_rfl)) (by as_aux_lemma => kernel_rfl)) (by as_aux_lemma => kernel_rfl)) (by as_aux_lemma => kernel_rfl)) cl5_inPlace) cl5_unf) cl5_rec) cl5_named) (by as_aux_lemma => kernel_rfl)) (by as_aux_lemma => kernel_rfl)) (by as_aux_lemma => kernel_rfl)) cl5_loops) (by as_aux_lemma => kernel_rfl)) (by as_aux_lemma => kernel_rfl)) (by as_aux_lemma => kernel_rfl)) (by as_aux_lemma => kernel_rfl)) (by as_aux_lemma => kernel_rfl)) cl5_keys) (by as_aux_lemma => kernel_rfl)) cl_heard) cl_enter) cl5_lifted) cl5_make) (by as_aux_lemma => kernel_rfl)) (by as_aux_lemma => kernel_rfl)) (by as_aux_lemma => kernel_rfl)) (by as_aux_lemma => kernel_rfl))
set_option maxRecDepth 100000 in
theorem named5 : Tryz.pinned.checked.prog.funcNamed Rows.fnDoubleFactorialRow.func = some 5 := by kernel_rfl
end Go.Proofs.YtoebgbojpkflnaaGreatDoor
