/- Law 6's closed facts. -/
import Derived.Test.YtoebgbojpkflnaaGreatDoorClosed
namespace Go.Proofs.YtoebgbojpkflnaaGreatDoor
open Go Go.RowKit
set_option maxRecDepth 100000 in
theorem cl6_inPlace : (Rows.fnFindRow.inPlace == Tryz.pinned.checked.prog.inPlace 6) = true := by kernel_rfl
set_option maxRecDepth 100000 in
theorem cl6_unf : (Rows.fnFindRow.unfollowed == Tryz.pinned.checked.prog.unfollowed 6) = true := by kernel_rfl
set_option maxRecDepth 100000 in
theorem cl6_rec : (Rows.fnFindRow.recurses == Tryz.pinned.checked.prog.recurses 6) = true := by kernel_rfl
set_option maxRecDepth 100000 in
theorem cl6_named : (Rows.fnFindRow.named == Tryz.pinned.checked.prog.varsNamed 6) = true := by kernel_rfl
set_option maxRecDepth 100000 in
theorem cl6_keys : (Rows.fnFindRow.plainKeys == Tryz.pinned.checked.prog.plainKeys) = true := by kernel_rfl
set_option maxRecDepth 100000 in
theorem cl6_lifted : (Rows.fnFindRow.lifted == Tryz.pinned.checked.prog.liftsFinal) = true := by kernel_rfl
set_option maxRecDepth 100000 in
theorem cl6_make : (Tryz.pinned.checked.prog.make == some Rows.fnFindRow.make) = true := by kernel_rfl
set_option maxRecDepth 100000 in
theorem cl6_loops : (Rows.fnFindRow.loops == (Tryz.f6.params.toList ++ Rows.fnFindSpec.plain.varTypes Tryz.pinned.checked.prog).any (Tryz.pinned.checked.prog.loopsFrom ·)) = true := by kernel_rfl
set_option maxRecDepth 100000 in
theorem closed6 : joinedFacts Tryz.pinned.checked.prog 6 Tryz.f6 Rows.fnFindSpec Rows.fnFindRow = true := by
  unfold joinedFacts
  exact (and_true2 (and_true2 (and_true2 (and_true2 (and_true2 (and_true2 (and_true2 (and_true2 (and_true2 (and_true2 (and_true2 (and_true2 (and_true2 (and_true2 (and_true2 (and_true2 (and_true2 (and_true2 (and_true2 (and_true2 (and_true2 (and_true2 (and_true2 (and_true2 (and_true2 (and_true2 (and_true2 (and_true2 (and_true2 (and_true2 (and_true2 (by as_aux_lemma => kernel_rfl) cl_laid) cl_maps) (by as_aux_lemma => kernel_rfl)) (by as_aux_lemma => kernel_rfl)) (by as_aux_lemma => kernel_rfl)) (by as_aux_lemma => kernel_rfl)) (by as_aux_lemma => kernel_rfl)) (by as_aux_lemma => kernel_rfl)) cl6_inPlace) cl6_unf) cl6_rec) cl6_named) (by as_aux_lemma => kernel_rfl)) (by as_aux_lemma => kernel_rfl)) (by as_aux_lemma => kernel_rfl)) cl6_loops) (by as_aux_lemma => kernel_rfl)) (by as_aux_lemma => kernel_rfl)) (by as_aux_lemma => kernel_rfl)) (by as_aux_lemma => kernel_rfl)) (by as_aux_lemma => kernel_rfl)) cl6_keys) (by as_aux_lemma => kernel_rfl)) cl_heard) cl_enter) cl6_lifted) cl6_make) (by as_aux_lemma => kernel_rfl)) (by as_aux_lemma => kernel_rfl)) (by as_aux_lemma => kernel_rfl)) (by as_aux_lemma => kernel_rfl))
set_option maxRecDepth 100000 in
theorem named6 : Tryz.pinned.checked.prog.funcNamed Rows.fnFindRow.func = some 6 := by kernel_rfl
end Go.Proofs.YtoebgbojpkflnaaGreatDoor
