/- Law 7's closed facts. -/
import Derived.Test.YtoebgbojpkflnaaGreatDoorClosed
namespace Go.Proofs.YtoebgbojpkflnaaGreatDoor
open Go Go.RowKit
set_option maxRecDepth 100000 in
theorem cl7_inPlace : (Rows.fnBytesReplacedRow.inPlace == Tryz.pinned.checked.prog.inPlace 7) = true := by kernel_rfl
set_option maxRecDepth 100000 in
theorem cl7_unf : (Rows.fnBytesReplacedRow.unfollowed == Tryz.pinned.checked.prog.unfollowed 7) = true := by kernel_rfl
set_option maxRecDepth 100000 in
theorem cl7_rec : (Rows.fnBytesReplacedRow.recurses == Tryz.pinned.checked.prog.recurses 7) = true := by kernel_rfl
set_option maxRecDepth 100000 in
theorem cl7_named : (Rows.fnBytesReplacedRow.named == Tryz.pinned.checked.prog.varsNamed 7) = true := by kernel_rfl
set_option maxRecDepth 100000 in
theorem cl7_keys : (Rows.fnBytesReplacedRow.plainKeys == Tryz.pinned.checked.prog.plainKeys) = true := by kernel_rfl
set_option maxRecDepth 100000 in
theorem cl7_lifted : (Rows.fnBytesReplacedRow.lifted == Tryz.pinned.checked.prog.liftsFinal) = true := by kernel_rfl
set_option maxRecDepth 100000 in
theorem cl7_make : (Tryz.pinned.checked.prog.make == some Rows.fnBytesReplacedRow.make) = true := by kernel_rfl
set_option maxRecDepth 100000 in
theorem cl7_loops : (Rows.fnBytesReplacedRow.loops == (Tryz.f7.params.toList ++ Rows.fnBytesReplacedSpec.plain.varTypes Tryz.pinned.checked.prog).any (Tryz.pinned.checked.prog.loopsFrom ·)) = true := by kernel_rfl
set_option maxRecDepth 100000 in
theorem closed7 : joinedFacts Tryz.pinned.checked.prog 7 Tryz.f7 Rows.fnBytesReplacedSpec Rows.fnBytesReplacedRow = true := by
  unfold joinedFacts
  exact (and_true2 (and_true2 (and_true2 (and_true2 (and_true2 (and_true2 (and_true2 (and_true2 (and_true2 (and_true2 (and_true2 (and_true2 (and_true2 (and_true2 (and_true2 (and_true2 (and_true2 (and_true2 (and_true2 (and_true2 (and_true2 (and_true2 (and_true2 (and_true2 (and_true2 (and_true2 (and_true2 (and_true2 (and_true2 (and_true2 (and_true2 (by as_aux_lemma => kernel_rfl) cl_laid) cl_maps) (by as_aux_lemma => kernel_rfl)) (by as_aux_lemma => kernel_rfl)) (by as_aux_lemma => kernel_rfl)) (by as_aux_lemma => kernel_rfl)) (by as_aux_lemma => kernel_rfl)) (by as_aux_lemma => kernel_rfl)) cl7_inPlace) cl7_unf) cl7_rec) cl7_named) (by as_aux_lemma => kernel_rfl)) (by as_aux_lemma => kernel_rfl)) (by as_aux_lemma => kernel_rfl)) cl7_loops) (by as_aux_lemma => kernel_rfl)) (by as_aux_lemma => kernel_rfl)) (by as_aux_lemma => kernel_rfl)) (by as_aux_lemma => kernel_rfl)) (by as_aux_lemma => kernel_rfl)) cl7_keys) (by as_aux_lemma => kernel_rfl)) cl_heard) cl_enter) cl7_lifted) cl7_make) (by as_aux_lemma => kernel_rfl)) (by as_aux_lemma => kernel_rfl)) (by as_aux_lemma => kernel_rfl)) (by as_aux_lemma => kernel_rfl))
set_option maxRecDepth 100000 in
theorem named7 : Tryz.pinned.checked.prog.funcNamed Rows.fnBytesReplacedRow.func = some 7 := by kernel_rfl
end Go.Proofs.YtoebgbojpkflnaaGreatDoor
