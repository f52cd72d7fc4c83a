/- Part 17 of the proof that laws.FnTreeLevel answers true, for arguments of small bulk. -/
import Derived.Test.YtghppnklhbbffaaGreatDoorR05
import Derived.Test.YtghppnklhbbffaaGreatDoorR16
set_option linter.all false
set_option maxHeartbeats 4000000
set_option maxRecDepth 100000
namespace Go.Proofs.YtghppnklhbbffaaGreatDoor.X
open Go Go.RowKit Go.Proofs.YtghppnklhbbffaaGreatDoor.TL
theorem c259 [Bd] (lv:V1) (d:V1) (m:FM) (fb:Nat) (w:World) (hs:Sat [fb] [⟨188,fmS m⟩] w):
  Calls Tryz.prog 259 #[lv.1,.pointer (some ⟨fb,0,none⟩),d.1] w fun e w'=>e=.returned (.tuple #[])∧Ext w w':=by
 refine gs (bs:=[fb]) [o1 lv,.p 0 0,o1 d] _ Tryz.func259 hs (fun hW=>?_)
 refine go_runA 200 ⟨[],1,[],[],0⟩ (by kernel_rfl) hW (Fr.refl _ _ _) rfl [] (by kernel_rfl) trivial ?_
 intro nw w1 hF1 hW1
 exact gt (.tup []) hW1.sat ⟨rfl,hF1.kept⟩
end Go.Proofs.YtghppnklhbbffaaGreatDoor.X
