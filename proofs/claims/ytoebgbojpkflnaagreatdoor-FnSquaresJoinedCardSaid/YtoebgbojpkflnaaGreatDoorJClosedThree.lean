/- Proof of FnSquaresJoined, a part: Law 3's closed facts. -/
import Derived.Test.YtoebgbojpkflnaaGreatDoorJLaid
namespace Go.Proofs.YtoebgbojpkflnaaGreatDoor
open Go Go.RowKit
set_option maxRecDepth 100000 in
theorem cl3_inPlace : (Rows.fnSquaresJoinedRow.inPlace == Tryz.pinned.checked.prog.inPlace 3) = true := by kernel_rfl
set_option maxRecDepth 100000 in
theorem cl3_unf : (Rows.fnSquaresJoinedRow.unfollowed == Tryz.pinned.checked.prog.unfollowed 3) = true := by kernel_rfl
set_option maxRecDepth 100000 in
theorem cl3_rec : (Rows.fnSquaresJoinedRow.recurses == Tryz.pinned.checked.prog.recurses 3) = true := by kernel_rfl
set_option maxRecDepth 100000 in
theorem cl3_named : (Rows.fnSquaresJoinedRow.named == Tryz.pinned.checked.prog.varsNamed 3) = true := by kernel_rfl
set_option maxRecDepth 100000 in
theorem cl3_keys : (Rows.fnSquaresJoinedRow.plainKeys == Tryz.pinned.checked.prog.plainKeys) = true := by kernel_rfl
set_option maxRecDepth 100000 in
theorem cl3_lifted : (Rows.fnSquaresJoinedRow.lifted == Tryz.pinned.checked.prog.liftsFinal) = true := by kernel_rfl
set_option maxRecDepth 100000 in
theorem cl3_make : (Tryz.pinned.checked.prog.make == some Rows.fnSquaresJoinedRow.make) = true := by kernel_rfl
set_option maxRecDepth 100000 in
theorem cl3_loops : (Rows.fnSquaresJoinedRow.loops == (Tryz.f3.params.toList ++ Rows.fnSquaresJoinedSpec.plain.varTypes Tryz.pinned.checked.prog).any (Tryz.pinned.checked.prog.loopsFrom ·)) = true := by kernel_rfl
set_option maxRecDepth 100000 in
theorem closed3 : joinedFacts Tryz.pinned.checked.prog 3 Tryz.f3 Rows.fnSquaresJoinedSpec Rows.fnSquaresJoinedRow = true := by
  unfold joinedFacts
  exact (and_true2 (and_true2 (and_true2 (and_true2 (and_true2 (and_true2 (and_true2 (and_true2 (and_true2 (and_true2 (and_true2 (and_true2 (and_true2 (and_true2 (and_true2 (and_true2 (and_true2 (and_true2 (and_true2 (and_true2 (and_true2 (and_true2 (and_true2 (and_true2 (and_true2 (and_true2 (and_true2 (and_true2 (and_true2 (and_true2 (and_true2 (by as_aux_lemma => kernel_rfl) cl_laid) cl_maps) (by as_aux_lemma => kernel_rfl)) (by as_aux_lemma => kernel_rfl)) (by as_aux_lemma => kernel_rfl)) (by as_aux_lemma => kernel_rfl)) (by as_aux_lemma => kernel_rfl)) (by as_aux_lemma => kernel_rfl)) cl3_inPlace) cl3_unf) cl3_rec) cl3_named) (by as_aux_lemma => kernel_rfl)) (by as_aux_lemma => kernel_rfl)) (by as_aux_lemma => kernel_rfl)) cl3_loops) (by as_aux_lemma => kernel_rfl)) (by as_aux_lemma => kernel_rfl)) (by as_aux_lemma => kernel_rfl)) (by as_aux_lemma => kernel_rfl)) (by as_aux_lemma => kernel_rfl)) cl3_keys) (by as_aux_lemma => kernel_rfl)) cl_heard) cl_enter) cl3_lifted) cl3_make) (by as_aux_lemma => kernel_rfl)) (by as_aux_lemma => kernel_rfl)) (by as_aux_lemma => kernel_rfl)) (by as_aux_lemma => kernel_rfl))
set_option maxRecDepth 100000 in
theorem named3 : Tryz.pinned.checked.prog.funcNamed Rows.fnSquaresJoinedRow.func = some 3 := by kernel_rfl
end Go.Proofs.YtoebgbojpkflnaaGreatDoor
