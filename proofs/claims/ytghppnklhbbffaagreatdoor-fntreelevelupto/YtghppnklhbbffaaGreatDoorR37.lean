/- Part 37 of the proof that laws.FnTreeLevel answers true, for arguments of small bulk. -/
import Derived.Test.YtghppnklhbbffaaGreatDoorCards
import Derived.Test.YtghppnklhbbffaaGreatDoorTie
import Derived.WalkKit
import Derived.ProofKit
import Derived.JoinedCond
set_option linter.all false
namespace Go.Proofs.YtghppnklhbbffaaGreatDoor.fnTreeLevel
theorem both {a b:Bool} (h:a=true) (k:b=true):(a&&b)=true:=by rw [h,k];rfl
theorem laidOut:laidOutB Tryz.prog=true:=by kernel_rfl
theorem fk2:(mapsRowed Tryz.prog)=true:=by kernel_rfl
theorem fk9:((Rows.fnTreeLevelUptoRow.inPlace==Tryz.prog.inPlace 3))=true:=by kernel_rfl
theorem fk10:((Rows.fnTreeLevelUptoRow.unfollowed==Tryz.prog.unfollowed 3))=true:=by kernel_rfl
theorem fk11:((Rows.fnTreeLevelUptoRow.recurses==Tryz.prog.recurses 3))=true:=by kernel_rfl
theorem fk12:((Rows.fnTreeLevelUptoRow.named==Tryz.prog.varsNamed 3))=true:=by kernel_rfl
theorem fk16:((Rows.fnTreeLevelUptoRow.loops==(Tryz.f3.params.toList++(Rows.OpenSpec.upto Rows.fnTreeLevelSpec).bare.plain.varTypes Tryz.prog).any (Tryz.prog.loopsFrom ·)))=true:=by kernel_rfl
theorem fk22:((Rows.fnTreeLevelUptoRow.plainKeys==Tryz.prog.plainKeys))=true:=by kernel_rfl
theorem fk24:(Tryz.prog.stopsHeard)=true:=by kernel_rfl
theorem fk25:(Tryz.prog.mayEnter)=true:=by kernel_rfl
theorem facts:joinedFacts Tryz.prog 3 Tryz.f3 (Rows.OpenSpec.upto Rows.fnTreeLevelSpec).bare Rows.fnTreeLevelUptoRow=true:=by
 unfold joinedFacts
 exact (both (both (both (both (both (both (both (both (both (both (both (both (both (both (both (both (both (both (both (both (both (both (both (both (both (both (both (both (both (both (both (by as_aux_lemma=>kernel_rfl) laidOut) fk2) (by as_aux_lemma=>kernel_rfl)) (by as_aux_lemma=>kernel_rfl)) (by as_aux_lemma=>kernel_rfl)) (by as_aux_lemma=>kernel_rfl)) (by as_aux_lemma=>kernel_rfl)) (by as_aux_lemma=>kernel_rfl)) fk9) fk10) fk11) fk12) (by as_aux_lemma=>kernel_rfl)) (by as_aux_lemma=>kernel_rfl)) (by as_aux_lemma=>kernel_rfl)) fk16) (by as_aux_lemma=>kernel_rfl)) (by as_aux_lemma=>kernel_rfl)) (by as_aux_lemma=>kernel_rfl)) (by as_aux_lemma=>kernel_rfl)) (by as_aux_lemma=>kernel_rfl)) fk22) (by as_aux_lemma=>kernel_rfl)) fk24) fk25) (by as_aux_lemma=>kernel_rfl)) (by as_aux_lemma=>kernel_rfl)) (by as_aux_lemma=>kernel_rfl)) (by as_aux_lemma=>kernel_rfl)) (by as_aux_lemma=>kernel_rfl)) (by as_aux_lemma=>kernel_rfl))
end Go.Proofs.YtghppnklhbbffaaGreatDoor.fnTreeLevel
