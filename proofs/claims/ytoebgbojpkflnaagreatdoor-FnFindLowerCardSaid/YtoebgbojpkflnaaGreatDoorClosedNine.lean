/- Law 9's closed facts. -/
import Derived.Test.YtoebgbojpkflnaaGreatDoorClosed
namespace Go.Proofs.YtoebgbojpkflnaaGreatDoor
open Go Go.RowKit
set_option maxRecDepth 100000 in
theorem cl9_inPlace : (Rows.fnFindLowerRow.inPlace == Tryz.pinned.checked.prog.inPlace 9) = true := by kernel_rfl
set_option maxRecDepth 100000 in
theorem cl9_unf : (Rows.fnFindLowerRow.unfollowed == Tryz.pinned.checked.prog.unfollowed 9) = true := by kernel_rfl
set_option maxRecDepth 100000 in
theorem cl9_rec : (Rows.fnFindLowerRow.recurses == Tryz.pinned.checked.prog.recurses 9) = true := by kernel_rfl
set_option maxRecDepth 100000 in
theorem cl9_named : (Rows.fnFindLowerRow.named == Tryz.pinned.checked.prog.varsNamed 9) = true := by kernel_rfl
set_option maxRecDepth 100000 in
theorem cl9_keys : (Rows.fnFindLowerRow.plainKeys == Tryz.pinned.checked.prog.plainKeys) = true := by kernel_rfl
set_option maxRecDepth 100000 in
theorem cl9_lifted : (Rows.fnFindLowerRow.lifted == Tryz.pinned.checked.prog.liftsFinal) = true := by kernel_rfl
set_option maxRecDepth 100000 in
theorem cl9_make : (Tryz.pinned.checked.prog.make == some Rows.fnFindLowerRow.make) = true := by kernel_rfl
set_option maxRecDepth 100000 in
theorem cl9_loops : (Rows.fnFindLowerRow.loops == (Tryz.f9.params.toList ++ Rows.fnFindLowerSpec.plain.varTypes Tryz.pinned.checked.prog).any (Tryz.pinned.checked.prog.loopsFrom ·)) = true := by kernel_rfl
set_option maxRecDepth 100000 in
theorem closed9 : joinedFacts Tryz.pinned.checked.prog 9 Tryz.f9 Rows.fnFindLowerSpec Rows.fnFindLowerRow = true := by
  unfold joinedFacts
  exact (and_true2 (and_true2 (and_true2 (and_true2 (and_true2 (and_true2 (and_true2 (and_true2 (and_true2 (and_true2 (and_true2 (and_true2 (and_true2 (and_true2 (and_true2 (and_true2 (and_true2 (and_true2 (and_true2 (and_true2 (and_true2 (and_true2 (and_true2 (and_true2 (and_true2 (and_true2 (and_true2 (and_true2 (and_true2 (and_true2 (and_true2 (by as_aux_lemma => kernel_rfl) cl_laid) cl_maps) (by as_aux_lemma => kernel_rfl)) (by as_aux_lemma => kernel_rfl)) (by as_aux_lemma => kernel_rfl)) (by as_aux_lemma => kernel_rfl)) (by as_aux_lemma => kernel_rfl)) (by as_aux_lemma => kernel_rfl)) cl9_inPlace) cl9_unf) cl9_rec) cl9_named) (by as_aux_lemma => kernel_rfl)) (by as_aux_lemma => kernel_rfl)) (by as_aux_lemma => kernel_rfl)) cl9_loops) (by as_aux_lemma => kernel_rfl)) (by as_aux_lemma => kernel_rfl)) (by as_aux_lemma => kernel_rfl)) (by as_aux_lemma => kernel_rfl)) (by as_aux_lemma => kernel_rfl)) cl9_keys) (by as_aux_lemma => kernel_rfl)) cl_heard) cl_enter) cl9_lifted) cl9_make) (by as_aux_lemma => kernel_rfl)) (by as_aux_lemma => kernel_rfl)) (by as_aux_lemma => kernel_rfl)) (by as_aux_lemma => kernel_rfl))
set_option maxRecDepth 100000 in
theorem named9 : Tryz.pinned.checked.prog.funcNamed Rows.fnFindLowerRow.func = some 9 := by kernel_rfl
end Go.Proofs.YtoebgbojpkflnaaGreatDoor
