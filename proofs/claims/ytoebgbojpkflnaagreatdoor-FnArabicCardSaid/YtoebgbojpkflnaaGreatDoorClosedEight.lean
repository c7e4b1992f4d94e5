/- Law 8's closed facts. -/
import Derived.Test.YtoebgbojpkflnaaGreatDoorClosed
namespace Go.Proofs.YtoebgbojpkflnaaGreatDoor
open Go Go.RowKit
set_option maxRecDepth 100000 in
theorem cl8_inPlace : (Rows.fnArabicRow.inPlace == Tryz.pinned.checked.prog.inPlace 8) = true := by kernel_rfl
set_option maxRecDepth 100000 in
theorem cl8_unf : (Rows.fnArabicRow.unfollowed == Tryz.pinned.checked.prog.unfollowed 8) = true := by kernel_rfl
set_option maxRecDepth 100000 in
theorem cl8_rec : (Rows.fnArabicRow.recurses == Tryz.pinned.checked.prog.recurses 8) = true := by kernel_rfl
set_option maxRecDepth 100000 in
theorem cl8_named : (Rows.fnArabicRow.named == Tryz.pinned.checked.prog.varsNamed 8) = true := by kernel_rfl
set_option maxRecDepth 100000 in
theorem cl8_keys : (Rows.fnArabicRow.plainKeys == Tryz.pinned.checked.prog.plainKeys) = true := by kernel_rfl
set_option maxRecDepth 100000 in
theorem cl8_lifted : (Rows.fnArabicRow.lifted == Tryz.pinned.checked.prog.liftsFinal) = true := by kernel_rfl
set_option maxRecDepth 100000 in
theorem cl8_make : (Tryz.pinned.checked.prog.make == some Rows.fnArabicRow.make) = true := by kernel_rfl
set_option maxRecDepth 100000 in
theorem cl8_loops : (Rows.fnArabicRow.loops == (Tryz.f8.params.toList ++ Rows.fnArabicSpec.plain.varTypes Tryz.pinned.checked.prog).any (Tryz.pinned.checked.prog.loopsFrom ·)) = true := by kernel_rfl
set_option maxRecDepth 100000 in
theorem closed8 : joinedFacts Tryz.pinned.checked.prog 8 Tryz.f8 Rows.fnArabicSpec Rows.fnArabicRow = true := by
  unfold joinedFacts
  exact (and_true2 (and_true2 (and_true2 (and_true2 (and_true2 (and_true2 (and_true2 (and_true2 (and_true2 (and_true2 (and_true2 (and_true2 (and_true2 (and_true2 (and_true2 (and_true2 (and_true2 (and_true2 (and_true2 (and_true2 (and_true2 (and_true2 (and_true2 (and_true2 (and_true2 (and_true2 (and_true2 (and_true2 (and_true2 (and_true2 (and_true2 (by as_aux_lemma => kernel_rfl) cl_laid) cl_maps) (by as_aux_lemma => kernel_rfl)) (by as_aux_lemma => kernel_rfl)) (by as_aux_lemma => kernel_rfl)) (by as_aux_lemma => kernel_rfl)) (by as_aux_lemma => kernel_rfl)) (by as_aux_lemma => kernel_rfl)) cl8_inPlace) cl8_unf) cl8_rec) cl8_named) (by as_aux_lemma => kernel_rfl)) (by as_aux_lemma => kernel_rfl)) (by as_aux_lemma => kernel_rfl)) cl8_loops) (by as_aux_lemma => kernel_rfl)) (by as_aux_lemma => kernel_rfl)) (by as_aux_lemma => kernel_rfl)) (by as_aux_lemma => kernel_rfl)) (by as_aux_lemma => kernel_rfl)) cl8_keys) (by as_aux_lemma => kernel_rfl)) cl_heard) cl_enter) cl8_lifted) cl8_make) (by as_aux_lemma => kernel_rfl)) (by as_aux_lemma => kernel_rfl)) (by as_aux_lemma => kernel_rfl)) (by as_aux_lemma => kernel_rfl))
set_option maxRecDepth 100000 in
theorem named8 : Tryz.pinned.checked.prog.funcNamed Rows.fnArabicRow.func = some 8 := by kernel_rfl
end Go.Proofs.YtoebgbojpkflnaaGreatDoor
