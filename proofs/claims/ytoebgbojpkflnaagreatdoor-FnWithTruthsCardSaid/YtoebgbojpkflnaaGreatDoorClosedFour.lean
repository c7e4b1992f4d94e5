/- Law 4's closed facts. -/
import Derived.Test.YtoebgbojpkflnaaGreatDoorClosed
namespace Go.Proofs.YtoebgbojpkflnaaGreatDoor
open Go Go.RowKit
set_option maxRecDepth 100000 in
theorem cl4_inPlace : (Rows.fnWithTruthsRow.inPlace == Tryz.pinned.checked.prog.inPlace 4) = true := by kernel_rfl
set_option maxRecDepth 100000 in
theorem cl4_unf : (Rows.fnWithTruthsRow.unfollowed == Tryz.pinned.checked.prog.unfollowed 4) = true := by kernel_rfl
set_option maxRecDepth 100000 in
theorem cl4_rec : (Rows.fnWithTruthsRow.recurses == Tryz.pinned.checked.prog.recurses 4) = true := by kernel_rfl
set_option maxRecDepth 100000 in
theorem cl4_named : (Rows.fnWithTruthsRow.named == Tryz.pinned.checked.prog.varsNamed 4) = true := by kernel_rfl
set_option maxRecDepth 100000 in
theorem cl4_keys : (Rows.fnWithTruthsRow.plainKeys == Tryz.pinned.checked.prog.plainKeys) = true := by kernel_rfl
set_option maxRecDepth 100000 in
theorem cl4_lifted : (Rows.fnWithTruthsRow.lifted == Tryz.pinned.checked.prog.liftsFinal) = true := by kernel_rfl
set_option maxRecDepth 100000 in
theorem cl4_make : (Tryz.pinned.checked.prog.make == some Rows.fnWithTruthsRow.make) = true := by kernel_rfl
set_option maxRecDepth 100000 in
theorem cl4_loops : (Rows.fnWithTruthsRow.loops == (Tryz.f4.params.toList ++ Rows.fnWithTruthsSpec.plain.varTypes Tryz.pinned.checked.prog).any (Tryz.pinned.checked.prog.loopsFrom ·)) = true := by kernel_rfl
set_option maxRecDepth 100000 in
theorem closed4 : joinedFacts Tryz.pinned.checked.prog 4 Tryz.f4 Rows.fnWithTruthsSpec Rows.fnWithTruthsRow = true := by
  unfold joinedFacts
  exact (and_true2 (and_true2 (and_true2 (and_true2 (and_true2 (and_true2 (and_true2 (and_true2 (and_true2 (and_true2 (and_true2 (and_true2 (and_true2 (and_true2 (and_true2 (and_true2 (and_true2 (and_true2 (and_true2 (and_true2 (and_true2 (and_true2 (and_true2 (and_true2 (and_true2 (and_true2 (and_true2 (and_true2 (and_true2 (and_true2 (and_true2 (by as_aux_lemma => kernel_rfl) cl_laid) cl_maps) (by as_aux_lemma => kernel_rfl)) (by as_aux_lemma => kernel_rfl)) (by as_aux_lemma => kernel_rfl)) (by as_aux_lemma => kernel_rfl)) (by as_aux_lemma => kernel_rfl)) (by as_aux_lemma => kernel_rfl)) cl4_inPlace) cl4_unf) cl4_rec) cl4_named) (by as_aux_lemma => kernel_rfl)) (by as_aux_lemma => kernel_rfl)) (by as_aux_lemma => kernel_rfl)) cl4_loops) (by as_aux_lemma => kernel_rfl)) (by as_aux_lemma => kernel_rfl)) (by as_aux_lemma => kernel_rfl)) (by as_aux_lemma => kernel_rfl)) (by as_aux_lemma => kernel_rfl)) cl4_keys) (by as_aux_lemma => kernel_rfl)) cl_heard) cl_enter) cl4_lifted) cl4_make) (by as_aux_lemma => kernel_rfl)) (by as_aux_lemma => kernel_rfl)) (by as_aux_lemma => kernel_rfl)) (by as_aux_lemma => kernel_rfl))
set_option maxRecDepth 100000 in
theorem named4 : Tryz.pinned.checked.prog.funcNamed Rows.fnWithTruthsRow.func = some 4 := by kernel_rfl
end Go.Proofs.YtoebgbojpkflnaaGreatDoor
