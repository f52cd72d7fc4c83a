/- Part 18 of the proof that laws.FnTreeLevel answers true, for arguments of small bulk. -/
import Derived.Test.YtghppnklhbbffaaGreatDoorR05
import Derived.Test.YtghppnklhbbffaaGreatDoorR16
import Derived.Test.YtghppnklhbbffaaGreatDoorR17
set_option linter.all false
set_option maxHeartbeats 4000000
set_option maxRecDepth 100000
namespace Go.Proofs.YtghppnklhbbffaaGreatDoor.X
open Go Go.RowKit Go.Proofs.YtghppnklhbbffaaGreatDoor.TL
def tlB (lo:Option (List UInt8)) (sm:List UInt8):Option (List UInt8):=match lo with
 |none=>none
 |some l=>if Lib.compareBytes l sm≤0 then none else some l
def tuB (up:Option (List UInt8)) (lg:List UInt8):Option (List UInt8):=match up with
 |none=>none
 |some u=>if Lib.compareBytes u lg>0 then none else some u
def itbI (lo up:Option (List UInt8)) (sm lg:List UInt8):Int:=
 if (match lo with|none=>false|some l=>decide (Lib.compareBytes lg l < 0))=true then -1 else if (match up with|none=>false|some u=>decide (Lib.compareBytes sm u≥0))=true then 1 else 0
abbrev H3x (f:Nat→Value) (lo up:SV) (nf:Addr) (tl tu it fi:SV) (nv:V1) (pos:Int) (cv:V1) (n:Nat) (fl:Nat→Nat) (m:FM):List SB:=[⟨330,LC f lo up (.fn 89 [.ptr nf]) tl tu it fi (o1 nv) (.si .i16 pos) (o1 cv)⟩,⟨360,nodeS n fl⟩,⟨188,fmS m⟩]
def slV (A:Addr) (n c:Nat):V1:=⟨.slice (some A) n c,rfl⟩
abbrev H3 (s:LvS) (tl tu:V1) (it fi:SV) (nv:V1) (pos:Int) (m:FM):List SB:=HV s tl tu it fi (o1 nv) pos++[⟨188,fmS m⟩]
def Post260 [Bd] (s:LvS) (it fi:V1) (nv:V1) (pos:Int) (m:FM) (lo up:Option (List UInt8)) (sm lg:List UInt8) (lb nb fb:Nat) (w:World) (e:Ending) (w':World):Prop:=
 e=.returned (.int .i64 (itbI lo up sm lg))∧Kept [330] w w'∧ ∃ tl tu:V1,Sat [lb,nb,fb] (H3 s tl tu (o1 it) (o1 fi) nv pos m) w'∧(itbI lo up sm lg=0→RdO w' tl.1 (tlB lo sm)∧RdO w' tu.1 (tuB up lg))
theorem c260_n_n [Bd] (f:Nat→Value) (nf:Addr) (cv:V1) (n:Nat) (fl:Nat→Nat) (tl tu it fi nv:V1) (pos:Int) (m:FM) (sm lg:List UInt8) (lb nb fb:Nat) (w:World) (hs:Sat [lb,nb,fb] (H3 ⟨f,nilV,nilV,nf,cv,n,fl⟩ tl tu (o1 it) (o1 fi) nv pos m) w) (hsm:RdS w m.u1 sm) (hlg:RdS w m.u2 lg):
  Calls Tryz.prog 260 #[.pointer (some ⟨lb,0,none⟩),.pointer (some ⟨fb,0,none⟩)] w (Post260 ⟨f,nilV,nilV,nf,cv,n,fl⟩ it fi nv pos m none none sm lg lb nb fb w):=by
 refine gs (bs:=[lb,nb,fb]) [.p 0 0,.p 2 0] (H3x f .ns .ns nf (o1 tl) (o1 tu) (o1 it) (o1 fi) nv pos cv n fl m) Tryz.func260 (hs.vals (by kernel_rfl)) (fun hW=>?_)
 refine ga0 200 ⟨[330],3,[],[],0⟩ hW (Fr.refl _ _ _) fun w0 hF0 hW0=>?_
 have hI:itbI none none sm lg=0:=by
  unfold itbI
  simp only [decide_true,decide_false];simp
 exact gt (.it .i64 (0)) hW0.sat ⟨by rw [hI];rfl,hF0.kept,nilV,nilV,hW0.sq _,fun _=>⟨rfl,rfl⟩⟩
theorem c260_n_p1 [Bd] (f:Nat→Value) (Au:Addr) (nu cu:Nat) (nf:Addr) (cv:V1) (n:Nat) (fl:Nat→Nat) (tl tu it fi nv:V1) (pos:Int) (m:FM) (sm lg:List UInt8) (lb nb fb:Nat) (w:World) (hs:Sat [lb,nb,fb] (H3 ⟨f,nilV,(slV Au nu cu),nf,cv,n,fl⟩ tl tu (o1 it) (o1 fi) nv pos m) w) (hsm:RdS w m.u1 sm) (hlg:RdS w m.u2 lg) (u:List UInt8) (hu:RdS w (slV Au nu cu).1 u) (c3:Lib.compareBytes sm u≥0):
  Calls Tryz.prog 260 #[.pointer (some ⟨lb,0,none⟩),.pointer (some ⟨fb,0,none⟩)] w (Post260 ⟨f,nilV,(slV Au nu cu),nf,cv,n,fl⟩ it fi nv pos m none (some u) sm lg lb nb fb w):=by
 refine gs (bs:=[lb,nb,fb]) [.p 0 0,.p 2 0] (H3x f .ns (.sl Au nu cu) nf (o1 tl) (o1 tu) (o1 it) (o1 fi) nv pos cv n fl m) Tryz.func260 (hs.vals (by kernel_rfl)) (fun hW=>?_)
 refine ga0 200 ⟨[330],3,[],[],0⟩ hW (Fr.refl _ _ _) fun w0 hF0 hW0=>?_
 refine gd [] [] hW0 (fun hD=>?_)
 refine ga0 (bs:=[lb,nb,fb]) 200 ⟨[330],3,[],[],0⟩ hD hF0.drew fun v0 hG0 hV0=>?_
 have hs0:=hV0.sq (H3x f .ns (.sl Au nu cu) nf .ns (.sl Au nu cu) (o1 it) (o1 fi) nv pos cv n fl m)
 refine gcd 65 [.oc m.u1 m.h1,.sl Au nu cu] [] w0.drew hV0 (fun hC=>?_)
 refine (compare_any m.u1 (slV Au nu cu).1 sm u v0 (hsm.kept hG0.kept (by simp)) (hu.kept hG0.kept (by simp))).mono ?_
 rintro e w' ⟨rfl,rfl⟩
 refine ⟨.si .i64 (Lib.compareBytes sm u),[],(H3x f .ns (.sl Au nu cu) nf .ns (.sl Au nu cu) (o1 it) (o1 fi) nv pos cv n fl m),rfl,hs0,hC,fun hU=>?_⟩
 refine ga0 (bs:=[lb,nb,fb]) 200 ⟨[330],3,[],[(84,true)],0⟩ hU hG0 (fun w1 hF1 hW1=>?_) [(decide (Lib.compareBytes sm u≥0),true)] ⟨by simpa using c3,trivial⟩
 clear hU
 have hI:itbI none (some u) sm lg=1:=by
  unfold itbI
  simp only [c3,decide_true,decide_false];simp
 exact gt (.it .i64 (1)) hW1.sat ⟨by rw [hI];rfl,hF1.kept,nilV,(slV Au nu cu),hW1.sq _,fun h=>absurd (hI.symm.trans h) (by decide)⟩
theorem c260_n_gt [Bd] (f:Nat→Value) (Au:Addr) (nu cu:Nat) (nf:Addr) (cv:V1) (n:Nat) (fl:Nat→Nat) (tl tu it fi nv:V1) (pos:Int) (m:FM) (sm lg:List UInt8) (lb nb fb:Nat) (w:World) (hs:Sat [lb,nb,fb] (H3 ⟨f,nilV,(slV Au nu cu),nf,cv,n,fl⟩ tl tu (o1 it) (o1 fi) nv pos m) w) (hsm:RdS w m.u1 sm) (hlg:RdS w m.u2 lg) (u:List UInt8) (hu:RdS w (slV Au nu cu).1 u) (c3: ¬ Lib.compareBytes sm u≥0) (c4:Lib.compareBytes u lg>0):
  Calls Tryz.prog 260 #[.pointer (some ⟨lb,0,none⟩),.pointer (some ⟨fb,0,none⟩)] w (Post260 ⟨f,nilV,(slV Au nu cu),nf,cv,n,fl⟩ it fi nv pos m none (some u) sm lg lb nb fb w):=by
 refine gs (bs:=[lb,nb,fb]) [.p 0 0,.p 2 0] (H3x f .ns (.sl Au nu cu) nf (o1 tl) (o1 tu) (o1 it) (o1 fi) nv pos cv n fl m) Tryz.func260 (hs.vals (by kernel_rfl)) (fun hW=>?_)
 refine ga0 200 ⟨[330],3,[],[],0⟩ hW (Fr.refl _ _ _) fun w0 hF0 hW0=>?_
 refine gd [] [] hW0 (fun hD=>?_)
 refine ga0 (bs:=[lb,nb,fb]) 200 ⟨[330],3,[],[],0⟩ hD hF0.drew fun v0 hG0 hV0=>?_
 have hs0:=hV0.sq (H3x f .ns (.sl Au nu cu) nf .ns (.sl Au nu cu) (o1 it) (o1 fi) nv pos cv n fl m)
 refine gcd 65 [.oc m.u1 m.h1,.sl Au nu cu] [] w0.drew hV0 (fun hC=>?_)
 refine (compare_any m.u1 (slV Au nu cu).1 sm u v0 (hsm.kept hG0.kept (by simp)) (hu.kept hG0.kept (by simp))).mono ?_
 rintro e w' ⟨rfl,rfl⟩
 refine ⟨.si .i64 (Lib.compareBytes sm u),[],(H3x f .ns (.sl Au nu cu) nf .ns (.sl Au nu cu) (o1 it) (o1 fi) nv pos cv n fl m),rfl,hs0,hC,fun hU=>?_⟩
 refine ga0 (bs:=[lb,nb,fb]) 200 ⟨[330],3,[],[(84,false)],0⟩ hU hG0 (fun w1 hF1 hW1=>?_) [(decide (Lib.compareBytes sm u≥0),false)] ⟨by simpa using c3,trivial⟩
 clear hU
 refine gd [] [] hW1 (fun hD=>?_)
 refine ga0 (bs:=[lb,nb,fb]) 200 ⟨[330],3,[],[],0⟩ hD hF1.drew fun v1 hG1 hV1=>?_
 have hs1:=hV1.sq (H3x f .ns (.sl Au nu cu) nf .ns (.sl Au nu cu) (o1 it) (o1 fi) nv pos cv n fl m)
 refine gcd 65 [.sl Au nu cu,.oc m.u2 m.h2] [] w1.drew hV1 (fun hC=>?_)
 refine (compare_any (slV Au nu cu).1 m.u2 u lg v1 (hu.kept hG1.kept (by simp)) (hlg.kept hG1.kept (by simp))).mono ?_
 rintro e w' ⟨rfl,rfl⟩
 refine ⟨.si .i64 (Lib.compareBytes u lg),[],(H3x f .ns (.sl Au nu cu) nf .ns (.sl Au nu cu) (o1 it) (o1 fi) nv pos cv n fl m),rfl,hs1,hC,fun hU=>?_⟩
 refine ga0 (bs:=[lb,nb,fb]) 200 ⟨[330],3,[],[(100,true)],0⟩ hU hG1 (fun w2 hF2 hW2=>?_) [(decide (Lib.compareBytes u lg>0),true)] ⟨by simpa using c4,trivial⟩
 clear hU
 have hI:itbI none (some u) sm lg=0:=by
  unfold itbI
  simp only [c3,decide_true,decide_false];simp
 exact gt (.it .i64 (0)) hW2.sat ⟨by rw [hI];rfl,hF2.kept,nilV,nilV,hW2.sq _,fun _=>⟨rfl,by simp [tuB,c4];rfl⟩⟩
theorem c260_n_ng [Bd] (f:Nat→Value) (Au:Addr) (nu cu:Nat) (nf:Addr) (cv:V1) (n:Nat) (fl:Nat→Nat) (tl tu it fi nv:V1) (pos:Int) (m:FM) (sm lg:List UInt8) (lb nb fb:Nat) (w:World) (hs:Sat [lb,nb,fb] (H3 ⟨f,nilV,(slV Au nu cu),nf,cv,n,fl⟩ tl tu (o1 it) (o1 fi) nv pos m) w) (hsm:RdS w m.u1 sm) (hlg:RdS w m.u2 lg) (u:List UInt8) (hu:RdS w (slV Au nu cu).1 u) (c3: ¬ Lib.compareBytes sm u≥0) (c4: ¬ Lib.compareBytes u lg>0):
  Calls Tryz.prog 260 #[.pointer (some ⟨lb,0,none⟩),.pointer (some ⟨fb,0,none⟩)] w (Post260 ⟨f,nilV,(slV Au nu cu),nf,cv,n,fl⟩ it fi nv pos m none (some u) sm lg lb nb fb w):=by
 refine gs (bs:=[lb,nb,fb]) [.p 0 0,.p 2 0] (H3x f .ns (.sl Au nu cu) nf (o1 tl) (o1 tu) (o1 it) (o1 fi) nv pos cv n fl m) Tryz.func260 (hs.vals (by kernel_rfl)) (fun hW=>?_)
 refine ga0 200 ⟨[330],3,[],[],0⟩ hW (Fr.refl _ _ _) fun w0 hF0 hW0=>?_
 refine gd [] [] hW0 (fun hD=>?_)
 refine ga0 (bs:=[lb,nb,fb]) 200 ⟨[330],3,[],[],0⟩ hD hF0.drew fun v0 hG0 hV0=>?_
 have hs0:=hV0.sq (H3x f .ns (.sl Au nu cu) nf .ns (.sl Au nu cu) (o1 it) (o1 fi) nv pos cv n fl m)
 refine gcd 65 [.oc m.u1 m.h1,.sl Au nu cu] [] w0.drew hV0 (fun hC=>?_)
 refine (compare_any m.u1 (slV Au nu cu).1 sm u v0 (hsm.kept hG0.kept (by simp)) (hu.kept hG0.kept (by simp))).mono ?_
 rintro e w' ⟨rfl,rfl⟩
 refine ⟨.si .i64 (Lib.compareBytes sm u),[],(H3x f .ns (.sl Au nu cu) nf .ns (.sl Au nu cu) (o1 it) (o1 fi) nv pos cv n fl m),rfl,hs0,hC,fun hU=>?_⟩
 refine ga0 (bs:=[lb,nb,fb]) 200 ⟨[330],3,[],[(84,false)],0⟩ hU hG0 (fun w1 hF1 hW1=>?_) [(decide (Lib.compareBytes sm u≥0),false)] ⟨by simpa using c3,trivial⟩
 clear hU
 refine gd [] [] hW1 (fun hD=>?_)
 refine ga0 (bs:=[lb,nb,fb]) 200 ⟨[330],3,[],[],0⟩ hD hF1.drew fun v1 hG1 hV1=>?_
 have hs1:=hV1.sq (H3x f .ns (.sl Au nu cu) nf .ns (.sl Au nu cu) (o1 it) (o1 fi) nv pos cv n fl m)
 refine gcd 65 [.sl Au nu cu,.oc m.u2 m.h2] [] w1.drew hV1 (fun hC=>?_)
 refine (compare_any (slV Au nu cu).1 m.u2 u lg v1 (hu.kept hG1.kept (by simp)) (hlg.kept hG1.kept (by simp))).mono ?_
 rintro e w' ⟨rfl,rfl⟩
 refine ⟨.si .i64 (Lib.compareBytes u lg),[],(H3x f .ns (.sl Au nu cu) nf .ns (.sl Au nu cu) (o1 it) (o1 fi) nv pos cv n fl m),rfl,hs1,hC,fun hU=>?_⟩
 refine ga0 (bs:=[lb,nb,fb]) 200 ⟨[330],3,[],[(100,false)],0⟩ hU hG1 (fun w2 hF2 hW2=>?_) [(decide (Lib.compareBytes u lg>0),false)] ⟨by simpa using c4,trivial⟩
 clear hU
 have hI:itbI none (some u) sm lg=0:=by
  unfold itbI
  simp only [c3,decide_true,decide_false];simp
 exact gt (.it .i64 (0)) hW2.sat ⟨by rw [hI];rfl,hF2.kept,nilV,(slV Au nu cu),hW2.sq _,fun _=>⟨rfl,by simp only [tuB,c4,if_false];exact hu.kept hF2.kept (by simp)⟩⟩
theorem c260_m1_x [Bd] (f:Nat→Value) (us:V1) (Al:Addr) (nl cl:Nat) (nf:Addr) (cv:V1) (n:Nat) (fl:Nat→Nat) (tl tu it fi nv:V1) (pos:Int) (m:FM) (sm lg:List UInt8) (lb nb fb:Nat) (w:World) (hs:Sat [lb,nb,fb] (H3 ⟨f,(slV Al nl cl),us,nf,cv,n,fl⟩ tl tu (o1 it) (o1 fi) nv pos m) w) (hsm:RdS w m.u1 sm) (hlg:RdS w m.u2 lg) (l:List UInt8) (hl:RdS w (slV Al nl cl).1 l) (c1:Lib.compareBytes lg l < 0) (upO:Option (List UInt8)):
  Calls Tryz.prog 260 #[.pointer (some ⟨lb,0,none⟩),.pointer (some ⟨fb,0,none⟩)] w (Post260 ⟨f,(slV Al nl cl),us,nf,cv,n,fl⟩ it fi nv pos m (some l) upO sm lg lb nb fb w):=by
 refine gs (bs:=[lb,nb,fb]) [.p 0 0,.p 2 0] (H3x f (.sl Al nl cl) (o1 us) nf (o1 tl) (o1 tu) (o1 it) (o1 fi) nv pos cv n fl m) Tryz.func260 (hs.vals (by kernel_rfl)) (fun hW=>?_)
 refine ga0 200 ⟨[330],3,[],[],0⟩ hW (Fr.refl _ _ _) fun w0 hF0 hW0=>?_
 refine gd [] [] hW0 (fun hD=>?_)
 refine ga0 (bs:=[lb,nb,fb]) 200 ⟨[330],3,[],[],0⟩ hD hF0.drew fun v0 hG0 hV0=>?_
 have hs0:=hV0.sq (H3x f (.sl Al nl cl) (o1 us) nf (.sl Al nl cl) (o1 tu) (o1 it) (o1 fi) nv pos cv n fl m)
 refine gcd 65 [.oc m.u2 m.h2,.sl Al nl cl] [] w0.drew hV0 (fun hC=>?_)
 refine (compare_any m.u2 (slV Al nl cl).1 lg l v0 (hlg.kept hG0.kept (by simp)) (hl.kept hG0.kept (by simp))).mono ?_
 rintro e w' ⟨rfl,rfl⟩
 refine ⟨.si .i64 (Lib.compareBytes lg l),[],(H3x f (.sl Al nl cl) (o1 us) nf (.sl Al nl cl) (o1 tu) (o1 it) (o1 fi) nv pos cv n fl m),rfl,hs0,hC,fun hU=>?_⟩
 refine ga0 (bs:=[lb,nb,fb]) 200 ⟨[330],3,[],[(34,true)],0⟩ hU hG0 (fun w1 hF1 hW1=>?_) [(decide (Lib.compareBytes lg l < 0),true)] ⟨by simpa using c1,trivial⟩
 clear hU
 have hI:itbI (some l) upO sm lg= -1:=by
  unfold itbI
  simp only [c1,decide_true,if_true]
 exact gt (.it .i64 (-1)) hW1.sat ⟨by rw [hI];rfl,hF1.kept,(slV Al nl cl),tu,hW1.sq _,fun h=>absurd (hI.symm.trans h) (by decide)⟩
theorem c260_le_n [Bd] (f:Nat→Value) (Al:Addr) (nl cl:Nat) (nf:Addr) (cv:V1) (n:Nat) (fl:Nat→Nat) (tl tu it fi nv:V1) (pos:Int) (m:FM) (sm lg:List UInt8) (lb nb fb:Nat) (w:World) (hs:Sat [lb,nb,fb] (H3 ⟨f,(slV Al nl cl),nilV,nf,cv,n,fl⟩ tl tu (o1 it) (o1 fi) nv pos m) w) (hsm:RdS w m.u1 sm) (hlg:RdS w m.u2 lg) (l:List UInt8) (hl:RdS w (slV Al nl cl).1 l) (c1: ¬ Lib.compareBytes lg l < 0) (c2:Lib.compareBytes l sm≤0):
  Calls Tryz.prog 260 #[.pointer (some ⟨lb,0,none⟩),.pointer (some ⟨fb,0,none⟩)] w (Post260 ⟨f,(slV Al nl cl),nilV,nf,cv,n,fl⟩ it fi nv pos m (some l) none sm lg lb nb fb w):=by
 refine gs (bs:=[lb,nb,fb]) [.p 0 0,.p 2 0] (H3x f (.sl Al nl cl) .ns nf (o1 tl) (o1 tu) (o1 it) (o1 fi) nv pos cv n fl m) Tryz.func260 (hs.vals (by kernel_rfl)) (fun hW=>?_)
 refine ga0 200 ⟨[330],3,[],[],0⟩ hW (Fr.refl _ _ _) fun w0 hF0 hW0=>?_
 refine gd [] [] hW0 (fun hD=>?_)
 refine ga0 (bs:=[lb,nb,fb]) 200 ⟨[330],3,[],[],0⟩ hD hF0.drew fun v0 hG0 hV0=>?_
 have hs0:=hV0.sq (H3x f (.sl Al nl cl) .ns nf (.sl Al nl cl) (o1 tu) (o1 it) (o1 fi) nv pos cv n fl m)
 refine gcd 65 [.oc m.u2 m.h2,.sl Al nl cl] [] w0.drew hV0 (fun hC=>?_)
 refine (compare_any m.u2 (slV Al nl cl).1 lg l v0 (hlg.kept hG0.kept (by simp)) (hl.kept hG0.kept (by simp))).mono ?_
 rintro e w' ⟨rfl,rfl⟩
 refine ⟨.si .i64 (Lib.compareBytes lg l),[],(H3x f (.sl Al nl cl) .ns nf (.sl Al nl cl) (o1 tu) (o1 it) (o1 fi) nv pos cv n fl m),rfl,hs0,hC,fun hU=>?_⟩
 refine ga0 (bs:=[lb,nb,fb]) 200 ⟨[330],3,[],[(34,false)],0⟩ hU hG0 (fun w1 hF1 hW1=>?_) [(decide (Lib.compareBytes lg l < 0),false)] ⟨by simpa using c1,trivial⟩
 clear hU
 refine gd [] [] hW1 (fun hD=>?_)
 refine ga0 (bs:=[lb,nb,fb]) 200 ⟨[330],3,[],[],0⟩ hD hF1.drew fun v1 hG1 hV1=>?_
 have hs1:=hV1.sq (H3x f (.sl Al nl cl) .ns nf (.sl Al nl cl) (o1 tu) (o1 it) (o1 fi) nv pos cv n fl m)
 refine gcd 65 [.sl Al nl cl,.oc m.u1 m.h1] [] w1.drew hV1 (fun hC=>?_)
 refine (compare_any (slV Al nl cl).1 m.u1 l sm v1 (hl.kept hG1.kept (by simp)) (hsm.kept hG1.kept (by simp))).mono ?_
 rintro e w' ⟨rfl,rfl⟩
 refine ⟨.si .i64 (Lib.compareBytes l sm),[],(H3x f (.sl Al nl cl) .ns nf (.sl Al nl cl) (o1 tu) (o1 it) (o1 fi) nv pos cv n fl m),rfl,hs1,hC,fun hU=>?_⟩
 refine ga0 (bs:=[lb,nb,fb]) 200 ⟨[330],3,[],[(50,true)],0⟩ hU hG1 (fun w2 hF2 hW2=>?_) [(decide (Lib.compareBytes l sm≤0),true)] ⟨by simpa using c2,trivial⟩
 clear hU
 have hI:itbI (some l) none sm lg=0:=by
  unfold itbI
  simp only [c1,decide_true,decide_false];simp
 exact gt (.it .i64 (0)) hW2.sat ⟨by rw [hI];rfl,hF2.kept,nilV,nilV,hW2.sq _,fun _=>⟨by simp [tlB,c2];rfl,rfl⟩⟩
theorem c260_le_p1 [Bd] (f:Nat→Value) (Al:Addr) (nl cl:Nat) (Au:Addr) (nu cu:Nat) (nf:Addr) (cv:V1) (n:Nat) (fl:Nat→Nat) (tl tu it fi nv:V1) (pos:Int) (m:FM) (sm lg:List UInt8) (lb nb fb:Nat) (w:World) (hs:Sat [lb,nb,fb] (H3 ⟨f,(slV Al nl cl),(slV Au nu cu),nf,cv,n,fl⟩ tl tu (o1 it) (o1 fi) nv pos m) w) (hsm:RdS w m.u1 sm) (hlg:RdS w m.u2 lg) (l:List UInt8) (hl:RdS w (slV Al nl cl).1 l) (c1: ¬ Lib.compareBytes lg l < 0) (c2:Lib.compareBytes l sm≤0) (u:List UInt8) (hu:RdS w (slV Au nu cu).1 u) (c3:Lib.compareBytes sm u≥0):
  Calls Tryz.prog 260 #[.pointer (some ⟨lb,0,none⟩),.pointer (some ⟨fb,0,none⟩)] w (Post260 ⟨f,(slV Al nl cl),(slV Au nu cu),nf,cv,n,fl⟩ it fi nv pos m (some l) (some u) sm lg lb nb fb w):=by
 refine gs (bs:=[lb,nb,fb]) [.p 0 0,.p 2 0] (H3x f (.sl Al nl cl) (.sl Au nu cu) nf (o1 tl) (o1 tu) (o1 it) (o1 fi) nv pos cv n fl m) Tryz.func260 (hs.vals (by kernel_rfl)) (fun hW=>?_)
 refine ga0 200 ⟨[330],3,[],[],0⟩ hW (Fr.refl _ _ _) fun w0 hF0 hW0=>?_
 refine gd [] [] hW0 (fun hD=>?_)
 refine ga0 (bs:=[lb,nb,fb]) 200 ⟨[330],3,[],[],0⟩ hD hF0.drew fun v0 hG0 hV0=>?_
 have hs0:=hV0.sq (H3x f (.sl Al nl cl) (.sl Au nu cu) nf (.sl Al nl cl) (o1 tu) (o1 it) (o1 fi) nv pos cv n fl m)
 refine gcd 65 [.oc m.u2 m.h2,.sl Al nl cl] [] w0.drew hV0 (fun hC=>?_)
 refine (compare_any m.u2 (slV Al nl cl).1 lg l v0 (hlg.kept hG0.kept (by simp)) (hl.kept hG0.kept (by simp))).mono ?_
 rintro e w' ⟨rfl,rfl⟩
 refine ⟨.si .i64 (Lib.compareBytes lg l),[],(H3x f (.sl Al nl cl) (.sl Au nu cu) nf (.sl Al nl cl) (o1 tu) (o1 it) (o1 fi) nv pos cv n fl m),rfl,hs0,hC,fun hU=>?_⟩
 refine ga0 (bs:=[lb,nb,fb]) 200 ⟨[330],3,[],[(34,false)],0⟩ hU hG0 (fun w1 hF1 hW1=>?_) [(decide (Lib.compareBytes lg l < 0),false)] ⟨by simpa using c1,trivial⟩
 clear hU
 refine gd [] [] hW1 (fun hD=>?_)
 refine ga0 (bs:=[lb,nb,fb]) 200 ⟨[330],3,[],[],0⟩ hD hF1.drew fun v1 hG1 hV1=>?_
 have hs1:=hV1.sq (H3x f (.sl Al nl cl) (.sl Au nu cu) nf (.sl Al nl cl) (o1 tu) (o1 it) (o1 fi) nv pos cv n fl m)
 refine gcd 65 [.sl Al nl cl,.oc m.u1 m.h1] [] w1.drew hV1 (fun hC=>?_)
 refine (compare_any (slV Al nl cl).1 m.u1 l sm v1 (hl.kept hG1.kept (by simp)) (hsm.kept hG1.kept (by simp))).mono ?_
 rintro e w' ⟨rfl,rfl⟩
 refine ⟨.si .i64 (Lib.compareBytes l sm),[],(H3x f (.sl Al nl cl) (.sl Au nu cu) nf (.sl Al nl cl) (o1 tu) (o1 it) (o1 fi) nv pos cv n fl m),rfl,hs1,hC,fun hU=>?_⟩
 refine ga0 (bs:=[lb,nb,fb]) 200 ⟨[330],3,[],[(50,true)],0⟩ hU hG1 (fun w2 hF2 hW2=>?_) [(decide (Lib.compareBytes l sm≤0),true)] ⟨by simpa using c2,trivial⟩
 clear hU
 refine gd [] [] hW2 (fun hD=>?_)
 refine ga0 (bs:=[lb,nb,fb]) 200 ⟨[330],3,[],[],0⟩ hD hF2.drew fun v2 hG2 hV2=>?_
 have hs2:=hV2.sq (H3x f (.sl Al nl cl) (.sl Au nu cu) nf .ns (.sl Au nu cu) (o1 it) (o1 fi) nv pos cv n fl m)
 refine gcd 65 [.oc m.u1 m.h1,.sl Au nu cu] [] w2.drew hV2 (fun hC=>?_)
 refine (compare_any m.u1 (slV Au nu cu).1 sm u v2 (hsm.kept hG2.kept (by simp)) (hu.kept hG2.kept (by simp))).mono ?_
 rintro e w' ⟨rfl,rfl⟩
 refine ⟨.si .i64 (Lib.compareBytes sm u),[],(H3x f (.sl Al nl cl) (.sl Au nu cu) nf .ns (.sl Au nu cu) (o1 it) (o1 fi) nv pos cv n fl m),rfl,hs2,hC,fun hU=>?_⟩
 refine ga0 (bs:=[lb,nb,fb]) 200 ⟨[330],3,[],[(84,true)],0⟩ hU hG2 (fun w3 hF3 hW3=>?_) [(decide (Lib.compareBytes sm u≥0),true)] ⟨by simpa using c3,trivial⟩
 clear hU
 have hI:itbI (some l) (some u) sm lg=1:=by
  unfold itbI
  simp only [c1,c3,decide_true,decide_false];simp
 exact gt (.it .i64 (1)) hW3.sat ⟨by rw [hI];rfl,hF3.kept,nilV,(slV Au nu cu),hW3.sq _,fun h=>absurd (hI.symm.trans h) (by decide)⟩
theorem c260_le_gt [Bd] (f:Nat→Value) (Al:Addr) (nl cl:Nat) (Au:Addr) (nu cu:Nat) (nf:Addr) (cv:V1) (n:Nat) (fl:Nat→Nat) (tl tu it fi nv:V1) (pos:Int) (m:FM) (sm lg:List UInt8) (lb nb fb:Nat) (w:World) (hs:Sat [lb,nb,fb] (H3 ⟨f,(slV Al nl cl),(slV Au nu cu),nf,cv,n,fl⟩ tl tu (o1 it) (o1 fi) nv pos m) w) (hsm:RdS w m.u1 sm) (hlg:RdS w m.u2 lg) (l:List UInt8) (hl:RdS w (slV Al nl cl).1 l) (c1: ¬ Lib.compareBytes lg l < 0) (c2:Lib.compareBytes l sm≤0) (u:List UInt8) (hu:RdS w (slV Au nu cu).1 u) (c3: ¬ Lib.compareBytes sm u≥0) (c4:Lib.compareBytes u lg>0):
  Calls Tryz.prog 260 #[.pointer (some ⟨lb,0,none⟩),.pointer (some ⟨fb,0,none⟩)] w (Post260 ⟨f,(slV Al nl cl),(slV Au nu cu),nf,cv,n,fl⟩ it fi nv pos m (some l) (some u) sm lg lb nb fb w):=by
 refine gs (bs:=[lb,nb,fb]) [.p 0 0,.p 2 0] (H3x f (.sl Al nl cl) (.sl Au nu cu) nf (o1 tl) (o1 tu) (o1 it) (o1 fi) nv pos cv n fl m) Tryz.func260 (hs.vals (by kernel_rfl)) (fun hW=>?_)
 refine ga0 200 ⟨[330],3,[],[],0⟩ hW (Fr.refl _ _ _) fun w0 hF0 hW0=>?_
 refine gd [] [] hW0 (fun hD=>?_)
 refine ga0 (bs:=[lb,nb,fb]) 200 ⟨[330],3,[],[],0⟩ hD hF0.drew fun v0 hG0 hV0=>?_
 have hs0:=hV0.sq (H3x f (.sl Al nl cl) (.sl Au nu cu) nf (.sl Al nl cl) (o1 tu) (o1 it) (o1 fi) nv pos cv n fl m)
 refine gcd 65 [.oc m.u2 m.h2,.sl Al nl cl] [] w0.drew hV0 (fun hC=>?_)
 refine (compare_any m.u2 (slV Al nl cl).1 lg l v0 (hlg.kept hG0.kept (by simp)) (hl.kept hG0.kept (by simp))).mono ?_
 rintro e w' ⟨rfl,rfl⟩
 refine ⟨.si .i64 (Lib.compareBytes lg l),[],(H3x f (.sl Al nl cl) (.sl Au nu cu) nf (.sl Al nl cl) (o1 tu) (o1 it) (o1 fi) nv pos cv n fl m),rfl,hs0,hC,fun hU=>?_⟩
 refine ga0 (bs:=[lb,nb,fb]) 200 ⟨[330],3,[],[(34,false)],0⟩ hU hG0 (fun w1 hF1 hW1=>?_) [(decide (Lib.compareBytes lg l < 0),false)] ⟨by simpa using c1,trivial⟩
 clear hU
 refine gd [] [] hW1 (fun hD=>?_)
 refine ga0 (bs:=[lb,nb,fb]) 200 ⟨[330],3,[],[],0⟩ hD hF1.drew fun v1 hG1 hV1=>?_
 have hs1:=hV1.sq (H3x f (.sl Al nl cl) (.sl Au nu cu) nf (.sl Al nl cl) (o1 tu) (o1 it) (o1 fi) nv pos cv n fl m)
 refine gcd 65 [.sl Al nl cl,.oc m.u1 m.h1] [] w1.drew hV1 (fun hC=>?_)
 refine (compare_any (slV Al nl cl).1 m.u1 l sm v1 (hl.kept hG1.kept (by simp)) (hsm.kept hG1.kept (by simp))).mono ?_
 rintro e w' ⟨rfl,rfl⟩
 refine ⟨.si .i64 (Lib.compareBytes l sm),[],(H3x f (.sl Al nl cl) (.sl Au nu cu) nf (.sl Al nl cl) (o1 tu) (o1 it) (o1 fi) nv pos cv n fl m),rfl,hs1,hC,fun hU=>?_⟩
 refine ga0 (bs:=[lb,nb,fb]) 200 ⟨[330],3,[],[(50,true)],0⟩ hU hG1 (fun w2 hF2 hW2=>?_) [(decide (Lib.compareBytes l sm≤0),true)] ⟨by simpa using c2,trivial⟩
 clear hU
 refine gd [] [] hW2 (fun hD=>?_)
 refine ga0 (bs:=[lb,nb,fb]) 200 ⟨[330],3,[],[],0⟩ hD hF2.drew fun v2 hG2 hV2=>?_
 have hs2:=hV2.sq (H3x f (.sl Al nl cl) (.sl Au nu cu) nf .ns (.sl Au nu cu) (o1 it) (o1 fi) nv pos cv n fl m)
 refine gcd 65 [.oc m.u1 m.h1,.sl Au nu cu] [] w2.drew hV2 (fun hC=>?_)
 refine (compare_any m.u1 (slV Au nu cu).1 sm u v2 (hsm.kept hG2.kept (by simp)) (hu.kept hG2.kept (by simp))).mono ?_
 rintro e w' ⟨rfl,rfl⟩
 refine ⟨.si .i64 (Lib.compareBytes sm u),[],(H3x f (.sl Al nl cl) (.sl Au nu cu) nf .ns (.sl Au nu cu) (o1 it) (o1 fi) nv pos cv n fl m),rfl,hs2,hC,fun hU=>?_⟩
 refine ga0 (bs:=[lb,nb,fb]) 200 ⟨[330],3,[],[(84,false)],0⟩ hU hG2 (fun w3 hF3 hW3=>?_) [(decide (Lib.compareBytes sm u≥0),false)] ⟨by simpa using c3,trivial⟩
 clear hU
 refine gd [] [] hW3 (fun hD=>?_)
 refine ga0 (bs:=[lb,nb,fb]) 200 ⟨[330],3,[],[],0⟩ hD hF3.drew fun v3 hG3 hV3=>?_
 have hs3:=hV3.sq (H3x f (.sl Al nl cl) (.sl Au nu cu) nf .ns (.sl Au nu cu) (o1 it) (o1 fi) nv pos cv n fl m)
 refine gcd 65 [.sl Au nu cu,.oc m.u2 m.h2] [] w3.drew hV3 (fun hC=>?_)
 refine (compare_any (slV Au nu cu).1 m.u2 u lg v3 (hu.kept hG3.kept (by simp)) (hlg.kept hG3.kept (by simp))).mono ?_
 rintro e w' ⟨rfl,rfl⟩
 refine ⟨.si .i64 (Lib.compareBytes u lg),[],(H3x f (.sl Al nl cl) (.sl Au nu cu) nf .ns (.sl Au nu cu) (o1 it) (o1 fi) nv pos cv n fl m),rfl,hs3,hC,fun hU=>?_⟩
 refine ga0 (bs:=[lb,nb,fb]) 200 ⟨[330],3,[],[(100,true)],0⟩ hU hG3 (fun w4 hF4 hW4=>?_) [(decide (Lib.compareBytes u lg>0),true)] ⟨by simpa using c4,trivial⟩
 clear hU
 have hI:itbI (some l) (some u) sm lg=0:=by
  unfold itbI
  simp only [c1,c3,decide_true,decide_false];simp
 exact gt (.it .i64 (0)) hW4.sat ⟨by rw [hI];rfl,hF4.kept,nilV,nilV,hW4.sq _,fun _=>⟨by simp [tlB,c2];rfl,by simp [tuB,c4];rfl⟩⟩
theorem c260_le_ng [Bd] (f:Nat→Value) (Al:Addr) (nl cl:Nat) (Au:Addr) (nu cu:Nat) (nf:Addr) (cv:V1) (n:Nat) (fl:Nat→Nat) (tl tu it fi nv:V1) (pos:Int) (m:FM) (sm lg:List UInt8) (lb nb fb:Nat) (w:World) (hs:Sat [lb,nb,fb] (H3 ⟨f,(slV Al nl cl),(slV Au nu cu),nf,cv,n,fl⟩ tl tu (o1 it) (o1 fi) nv pos m) w) (hsm:RdS w m.u1 sm) (hlg:RdS w m.u2 lg) (l:List UInt8) (hl:RdS w (slV Al nl cl).1 l) (c1: ¬ Lib.compareBytes lg l < 0) (c2:Lib.compareBytes l sm≤0) (u:List UInt8) (hu:RdS w (slV Au nu cu).1 u) (c3: ¬ Lib.compareBytes sm u≥0) (c4: ¬ Lib.compareBytes u lg>0):
  Calls Tryz.prog 260 #[.pointer (some ⟨lb,0,none⟩),.pointer (some ⟨fb,0,none⟩)] w (Post260 ⟨f,(slV Al nl cl),(slV Au nu cu),nf,cv,n,fl⟩ it fi nv pos m (some l) (some u) sm lg lb nb fb w):=by
 refine gs (bs:=[lb,nb,fb]) [.p 0 0,.p 2 0] (H3x f (.sl Al nl cl) (.sl Au nu cu) nf (o1 tl) (o1 tu) (o1 it) (o1 fi) nv pos cv n fl m) Tryz.func260 (hs.vals (by kernel_rfl)) (fun hW=>?_)
 refine ga0 200 ⟨[330],3,[],[],0⟩ hW (Fr.refl _ _ _) fun w0 hF0 hW0=>?_
 refine gd [] [] hW0 (fun hD=>?_)
 refine ga0 (bs:=[lb,nb,fb]) 200 ⟨[330],3,[],[],0⟩ hD hF0.drew fun v0 hG0 hV0=>?_
 have hs0:=hV0.sq (H3x f (.sl Al nl cl) (.sl Au nu cu) nf (.sl Al nl cl) (o1 tu) (o1 it) (o1 fi) nv pos cv n fl m)
 refine gcd 65 [.oc m.u2 m.h2,.sl Al nl cl] [] w0.drew hV0 (fun hC=>?_)
 refine (compare_any m.u2 (slV Al nl cl).1 lg l v0 (hlg.kept hG0.kept (by simp)) (hl.kept hG0.kept (by simp))).mono ?_
 rintro e w' ⟨rfl,rfl⟩
 refine ⟨.si .i64 (Lib.compareBytes lg l),[],(H3x f (.sl Al nl cl) (.sl Au nu cu) nf (.sl Al nl cl) (o1 tu) (o1 it) (o1 fi) nv pos cv n fl m),rfl,hs0,hC,fun hU=>?_⟩
 refine ga0 (bs:=[lb,nb,fb]) 200 ⟨[330],3,[],[(34,false)],0⟩ hU hG0 (fun w1 hF1 hW1=>?_) [(decide (Lib.compareBytes lg l < 0),false)] ⟨by simpa using c1,trivial⟩
 clear hU
 refine gd [] [] hW1 (fun hD=>?_)
 refine ga0 (bs:=[lb,nb,fb]) 200 ⟨[330],3,[],[],0⟩ hD hF1.drew fun v1 hG1 hV1=>?_
 have hs1:=hV1.sq (H3x f (.sl Al nl cl) (.sl Au nu cu) nf (.sl Al nl cl) (o1 tu) (o1 it) (o1 fi) nv pos cv n fl m)
 refine gcd 65 [.sl Al nl cl,.oc m.u1 m.h1] [] w1.drew hV1 (fun hC=>?_)
 refine (compare_any (slV Al nl cl).1 m.u1 l sm v1 (hl.kept hG1.kept (by simp)) (hsm.kept hG1.kept (by simp))).mono ?_
 rintro e w' ⟨rfl,rfl⟩
 refine ⟨.si .i64 (Lib.compareBytes l sm),[],(H3x f (.sl Al nl cl) (.sl Au nu cu) nf (.sl Al nl cl) (o1 tu) (o1 it) (o1 fi) nv pos cv n fl m),rfl,hs1,hC,fun hU=>?_⟩
 refine ga0 (bs:=[lb,nb,fb]) 200 ⟨[330],3,[],[(50,true)],0⟩ hU hG1 (fun w2 hF2 hW2=>?_) [(decide (Lib.compareBytes l sm≤0),true)] ⟨by simpa using c2,trivial⟩
 clear hU
 refine gd [] [] hW2 (fun hD=>?_)
 refine ga0 (bs:=[lb,nb,fb]) 200 ⟨[330],3,[],[],0⟩ hD hF2.drew fun v2 hG2 hV2=>?_
 have hs2:=hV2.sq (H3x f (.sl Al nl cl) (.sl Au nu cu) nf .ns (.sl Au nu cu) (o1 it) (o1 fi) nv pos cv n fl m)
 refine gcd 65 [.oc m.u1 m.h1,.sl Au nu cu] [] w2.drew hV2 (fun hC=>?_)
 refine (compare_any m.u1 (slV Au nu cu).1 sm u v2 (hsm.kept hG2.kept (by simp)) (hu.kept hG2.kept (by simp))).mono ?_
 rintro e w' ⟨rfl,rfl⟩
 refine ⟨.si .i64 (Lib.compareBytes sm u),[],(H3x f (.sl Al nl cl) (.sl Au nu cu) nf .ns (.sl Au nu cu) (o1 it) (o1 fi) nv pos cv n fl m),rfl,hs2,hC,fun hU=>?_⟩
 refine ga0 (bs:=[lb,nb,fb]) 200 ⟨[330],3,[],[(84,false)],0⟩ hU hG2 (fun w3 hF3 hW3=>?_) [(decide (Lib.compareBytes sm u≥0),false)] ⟨by simpa using c3,trivial⟩
 clear hU
 refine gd [] [] hW3 (fun hD=>?_)
 refine ga0 (bs:=[lb,nb,fb]) 200 ⟨[330],3,[],[],0⟩ hD hF3.drew fun v3 hG3 hV3=>?_
 have hs3:=hV3.sq (H3x f (.sl Al nl cl) (.sl Au nu cu) nf .ns (.sl Au nu cu) (o1 it) (o1 fi) nv pos cv n fl m)
 refine gcd 65 [.sl Au nu cu,.oc m.u2 m.h2] [] w3.drew hV3 (fun hC=>?_)
 refine (compare_any (slV Au nu cu).1 m.u2 u lg v3 (hu.kept hG3.kept (by simp)) (hlg.kept hG3.kept (by simp))).mono ?_
 rintro e w' ⟨rfl,rfl⟩
 refine ⟨.si .i64 (Lib.compareBytes u lg),[],(H3x f (.sl Al nl cl) (.sl Au nu cu) nf .ns (.sl Au nu cu) (o1 it) (o1 fi) nv pos cv n fl m),rfl,hs3,hC,fun hU=>?_⟩
 refine ga0 (bs:=[lb,nb,fb]) 200 ⟨[330],3,[],[(100,false)],0⟩ hU hG3 (fun w4 hF4 hW4=>?_) [(decide (Lib.compareBytes u lg>0),false)] ⟨by simpa using c4,trivial⟩
 clear hU
 have hI:itbI (some l) (some u) sm lg=0:=by
  unfold itbI
  simp only [c1,c3,decide_true,decide_false];simp
 exact gt (.it .i64 (0)) hW4.sat ⟨by rw [hI];rfl,hF4.kept,nilV,(slV Au nu cu),hW4.sq _,fun _=>⟨by simp [tlB,c2];rfl,by simp only [tuB,c4,if_false];exact hu.kept hF4.kept (by simp)⟩⟩
theorem c260_gt_n [Bd] (f:Nat→Value) (Al:Addr) (nl cl:Nat) (nf:Addr) (cv:V1) (n:Nat) (fl:Nat→Nat) (tl tu it fi nv:V1) (pos:Int) (m:FM) (sm lg:List UInt8) (lb nb fb:Nat) (w:World) (hs:Sat [lb,nb,fb] (H3 ⟨f,(slV Al nl cl),nilV,nf,cv,n,fl⟩ tl tu (o1 it) (o1 fi) nv pos m) w) (hsm:RdS w m.u1 sm) (hlg:RdS w m.u2 lg) (l:List UInt8) (hl:RdS w (slV Al nl cl).1 l) (c1: ¬ Lib.compareBytes lg l < 0) (c2: ¬ Lib.compareBytes l sm≤0):
  Calls Tryz.prog 260 #[.pointer (some ⟨lb,0,none⟩),.pointer (some ⟨fb,0,none⟩)] w (Post260 ⟨f,(slV Al nl cl),nilV,nf,cv,n,fl⟩ it fi nv pos m (some l) none sm lg lb nb fb w):=by
 refine gs (bs:=[lb,nb,fb]) [.p 0 0,.p 2 0] (H3x f (.sl Al nl cl) .ns nf (o1 tl) (o1 tu) (o1 it) (o1 fi) nv pos cv n fl m) Tryz.func260 (hs.vals (by kernel_rfl)) (fun hW=>?_)
 refine ga0 200 ⟨[330],3,[],[],0⟩ hW (Fr.refl _ _ _) fun w0 hF0 hW0=>?_
 refine gd [] [] hW0 (fun hD=>?_)
 refine ga0 (bs:=[lb,nb,fb]) 200 ⟨[330],3,[],[],0⟩ hD hF0.drew fun v0 hG0 hV0=>?_
 have hs0:=hV0.sq (H3x f (.sl Al nl cl) .ns nf (.sl Al nl cl) (o1 tu) (o1 it) (o1 fi) nv pos cv n fl m)
 refine gcd 65 [.oc m.u2 m.h2,.sl Al nl cl] [] w0.drew hV0 (fun hC=>?_)
 refine (compare_any m.u2 (slV Al nl cl).1 lg l v0 (hlg.kept hG0.kept (by simp)) (hl.kept hG0.kept (by simp))).mono ?_
 rintro e w' ⟨rfl,rfl⟩
 refine ⟨.si .i64 (Lib.compareBytes lg l),[],(H3x f (.sl Al nl cl) .ns nf (.sl Al nl cl) (o1 tu) (o1 it) (o1 fi) nv pos cv n fl m),rfl,hs0,hC,fun hU=>?_⟩
 refine ga0 (bs:=[lb,nb,fb]) 200 ⟨[330],3,[],[(34,false)],0⟩ hU hG0 (fun w1 hF1 hW1=>?_) [(decide (Lib.compareBytes lg l < 0),false)] ⟨by simpa using c1,trivial⟩
 clear hU
 refine gd [] [] hW1 (fun hD=>?_)
 refine ga0 (bs:=[lb,nb,fb]) 200 ⟨[330],3,[],[],0⟩ hD hF1.drew fun v1 hG1 hV1=>?_
 have hs1:=hV1.sq (H3x f (.sl Al nl cl) .ns nf (.sl Al nl cl) (o1 tu) (o1 it) (o1 fi) nv pos cv n fl m)
 refine gcd 65 [.sl Al nl cl,.oc m.u1 m.h1] [] w1.drew hV1 (fun hC=>?_)
 refine (compare_any (slV Al nl cl).1 m.u1 l sm v1 (hl.kept hG1.kept (by simp)) (hsm.kept hG1.kept (by simp))).mono ?_
 rintro e w' ⟨rfl,rfl⟩
 refine ⟨.si .i64 (Lib.compareBytes l sm),[],(H3x f (.sl Al nl cl) .ns nf (.sl Al nl cl) (o1 tu) (o1 it) (o1 fi) nv pos cv n fl m),rfl,hs1,hC,fun hU=>?_⟩
 refine ga0 (bs:=[lb,nb,fb]) 200 ⟨[330],3,[],[(50,false)],0⟩ hU hG1 (fun w2 hF2 hW2=>?_) [(decide (Lib.compareBytes l sm≤0),false)] ⟨by simpa using c2,trivial⟩
 clear hU
 have hI:itbI (some l) none sm lg=0:=by
  unfold itbI
  simp only [c1,decide_true,decide_false];simp
 exact gt (.it .i64 (0)) hW2.sat ⟨by rw [hI];rfl,hF2.kept,(slV Al nl cl),nilV,hW2.sq _,fun _=>⟨by simp only [tlB,c2,if_false];exact hl.kept hF2.kept (by simp),rfl⟩⟩
theorem c260_gt_p1 [Bd] (f:Nat→Value) (Al:Addr) (nl cl:Nat) (Au:Addr) (nu cu:Nat) (nf:Addr) (cv:V1) (n:Nat) (fl:Nat→Nat) (tl tu it fi nv:V1) (pos:Int) (m:FM) (sm lg:List UInt8) (lb nb fb:Nat) (w:World) (hs:Sat [lb,nb,fb] (H3 ⟨f,(slV Al nl cl),(slV Au nu cu),nf,cv,n,fl⟩ tl tu (o1 it) (o1 fi) nv pos m) w) (hsm:RdS w m.u1 sm) (hlg:RdS w m.u2 lg) (l:List UInt8) (hl:RdS w (slV Al nl cl).1 l) (c1: ¬ Lib.compareBytes lg l < 0) (c2: ¬ Lib.compareBytes l sm≤0) (u:List UInt8) (hu:RdS w (slV Au nu cu).1 u) (c3:Lib.compareBytes sm u≥0):
  Calls Tryz.prog 260 #[.pointer (some ⟨lb,0,none⟩),.pointer (some ⟨fb,0,none⟩)] w (Post260 ⟨f,(slV Al nl cl),(slV Au nu cu),nf,cv,n,fl⟩ it fi nv pos m (some l) (some u) sm lg lb nb fb w):=by
 refine gs (bs:=[lb,nb,fb]) [.p 0 0,.p 2 0] (H3x f (.sl Al nl cl) (.sl Au nu cu) nf (o1 tl) (o1 tu) (o1 it) (o1 fi) nv pos cv n fl m) Tryz.func260 (hs.vals (by kernel_rfl)) (fun hW=>?_)
 refine ga0 200 ⟨[330],3,[],[],0⟩ hW (Fr.refl _ _ _) fun w0 hF0 hW0=>?_
 refine gd [] [] hW0 (fun hD=>?_)
 refine ga0 (bs:=[lb,nb,fb]) 200 ⟨[330],3,[],[],0⟩ hD hF0.drew fun v0 hG0 hV0=>?_
 have hs0:=hV0.sq (H3x f (.sl Al nl cl) (.sl Au nu cu) nf (.sl Al nl cl) (o1 tu) (o1 it) (o1 fi) nv pos cv n fl m)
 refine gcd 65 [.oc m.u2 m.h2,.sl Al nl cl] [] w0.drew hV0 (fun hC=>?_)
 refine (compare_any m.u2 (slV Al nl cl).1 lg l v0 (hlg.kept hG0.kept (by simp)) (hl.kept hG0.kept (by simp))).mono ?_
 rintro e w' ⟨rfl,rfl⟩
 refine ⟨.si .i64 (Lib.compareBytes lg l),[],(H3x f (.sl Al nl cl) (.sl Au nu cu) nf (.sl Al nl cl) (o1 tu) (o1 it) (o1 fi) nv pos cv n fl m),rfl,hs0,hC,fun hU=>?_⟩
 refine ga0 (bs:=[lb,nb,fb]) 200 ⟨[330],3,[],[(34,false)],0⟩ hU hG0 (fun w1 hF1 hW1=>?_) [(decide (Lib.compareBytes lg l < 0),false)] ⟨by simpa using c1,trivial⟩
 clear hU
 refine gd [] [] hW1 (fun hD=>?_)
 refine ga0 (bs:=[lb,nb,fb]) 200 ⟨[330],3,[],[],0⟩ hD hF1.drew fun v1 hG1 hV1=>?_
 have hs1:=hV1.sq (H3x f (.sl Al nl cl) (.sl Au nu cu) nf (.sl Al nl cl) (o1 tu) (o1 it) (o1 fi) nv pos cv n fl m)
 refine gcd 65 [.sl Al nl cl,.oc m.u1 m.h1] [] w1.drew hV1 (fun hC=>?_)
 refine (compare_any (slV Al nl cl).1 m.u1 l sm v1 (hl.kept hG1.kept (by simp)) (hsm.kept hG1.kept (by simp))).mono ?_
 rintro e w' ⟨rfl,rfl⟩
 refine ⟨.si .i64 (Lib.compareBytes l sm),[],(H3x f (.sl Al nl cl) (.sl Au nu cu) nf (.sl Al nl cl) (o1 tu) (o1 it) (o1 fi) nv pos cv n fl m),rfl,hs1,hC,fun hU=>?_⟩
 refine ga0 (bs:=[lb,nb,fb]) 200 ⟨[330],3,[],[(50,false)],0⟩ hU hG1 (fun w2 hF2 hW2=>?_) [(decide (Lib.compareBytes l sm≤0),false)] ⟨by simpa using c2,trivial⟩
 clear hU
 refine gd [] [] hW2 (fun hD=>?_)
 refine ga0 (bs:=[lb,nb,fb]) 200 ⟨[330],3,[],[],0⟩ hD hF2.drew fun v2 hG2 hV2=>?_
 have hs2:=hV2.sq (H3x f (.sl Al nl cl) (.sl Au nu cu) nf (.sl Al nl cl) (.sl Au nu cu) (o1 it) (o1 fi) nv pos cv n fl m)
 refine gcd 65 [.oc m.u1 m.h1,.sl Au nu cu] [] w2.drew hV2 (fun hC=>?_)
 refine (compare_any m.u1 (slV Au nu cu).1 sm u v2 (hsm.kept hG2.kept (by simp)) (hu.kept hG2.kept (by simp))).mono ?_
 rintro e w' ⟨rfl,rfl⟩
 refine ⟨.si .i64 (Lib.compareBytes sm u),[],(H3x f (.sl Al nl cl) (.sl Au nu cu) nf (.sl Al nl cl) (.sl Au nu cu) (o1 it) (o1 fi) nv pos cv n fl m),rfl,hs2,hC,fun hU=>?_⟩
 refine ga0 (bs:=[lb,nb,fb]) 200 ⟨[330],3,[],[(84,true)],0⟩ hU hG2 (fun w3 hF3 hW3=>?_) [(decide (Lib.compareBytes sm u≥0),true)] ⟨by simpa using c3,trivial⟩
 clear hU
 have hI:itbI (some l) (some u) sm lg=1:=by
  unfold itbI
  simp only [c1,c3,decide_true,decide_false];simp
 exact gt (.it .i64 (1)) hW3.sat ⟨by rw [hI];rfl,hF3.kept,(slV Al nl cl),(slV Au nu cu),hW3.sq _,fun h=>absurd (hI.symm.trans h) (by decide)⟩
theorem c260_gt_gt [Bd] (f:Nat→Value) (Al:Addr) (nl cl:Nat) (Au:Addr) (nu cu:Nat) (nf:Addr) (cv:V1) (n:Nat) (fl:Nat→Nat) (tl tu it fi nv:V1) (pos:Int) (m:FM) (sm lg:List UInt8) (lb nb fb:Nat) (w:World) (hs:Sat [lb,nb,fb] (H3 ⟨f,(slV Al nl cl),(slV Au nu cu),nf,cv,n,fl⟩ tl tu (o1 it) (o1 fi) nv pos m) w) (hsm:RdS w m.u1 sm) (hlg:RdS w m.u2 lg) (l:List UInt8) (hl:RdS w (slV Al nl cl).1 l) (c1: ¬ Lib.compareBytes lg l < 0) (c2: ¬ Lib.compareBytes l sm≤0) (u:List UInt8) (hu:RdS w (slV Au nu cu).1 u) (c3: ¬ Lib.compareBytes sm u≥0) (c4:Lib.compareBytes u lg>0):
  Calls Tryz.prog 260 #[.pointer (some ⟨lb,0,none⟩),.pointer (some ⟨fb,0,none⟩)] w (Post260 ⟨f,(slV Al nl cl),(slV Au nu cu),nf,cv,n,fl⟩ it fi nv pos m (some l) (some u) sm lg lb nb fb w):=by
 refine gs (bs:=[lb,nb,fb]) [.p 0 0,.p 2 0] (H3x f (.sl Al nl cl) (.sl Au nu cu) nf (o1 tl) (o1 tu) (o1 it) (o1 fi) nv pos cv n fl m) Tryz.func260 (hs.vals (by kernel_rfl)) (fun hW=>?_)
 refine ga0 200 ⟨[330],3,[],[],0⟩ hW (Fr.refl _ _ _) fun w0 hF0 hW0=>?_
 refine gd [] [] hW0 (fun hD=>?_)
 refine ga0 (bs:=[lb,nb,fb]) 200 ⟨[330],3,[],[],0⟩ hD hF0.drew fun v0 hG0 hV0=>?_
 have hs0:=hV0.sq (H3x f (.sl Al nl cl) (.sl Au nu cu) nf (.sl Al nl cl) (o1 tu) (o1 it) (o1 fi) nv pos cv n fl m)
 refine gcd 65 [.oc m.u2 m.h2,.sl Al nl cl] [] w0.drew hV0 (fun hC=>?_)
 refine (compare_any m.u2 (slV Al nl cl).1 lg l v0 (hlg.kept hG0.kept (by simp)) (hl.kept hG0.kept (by simp))).mono ?_
 rintro e w' ⟨rfl,rfl⟩
 refine ⟨.si .i64 (Lib.compareBytes lg l),[],(H3x f (.sl Al nl cl) (.sl Au nu cu) nf (.sl Al nl cl) (o1 tu) (o1 it) (o1 fi) nv pos cv n fl m),rfl,hs0,hC,fun hU=>?_⟩
 refine ga0 (bs:=[lb,nb,fb]) 200 ⟨[330],3,[],[(34,false)],0⟩ hU hG0 (fun w1 hF1 hW1=>?_) [(decide (Lib.compareBytes lg l < 0),false)] ⟨by simpa using c1,trivial⟩
 clear hU
 refine gd [] [] hW1 (fun hD=>?_)
 refine ga0 (bs:=[lb,nb,fb]) 200 ⟨[330],3,[],[],0⟩ hD hF1.drew fun v1 hG1 hV1=>?_
 have hs1:=hV1.sq (H3x f (.sl Al nl cl) (.sl Au nu cu) nf (.sl Al nl cl) (o1 tu) (o1 it) (o1 fi) nv pos cv n fl m)
 refine gcd 65 [.sl Al nl cl,.oc m.u1 m.h1] [] w1.drew hV1 (fun hC=>?_)
 refine (compare_any (slV Al nl cl).1 m.u1 l sm v1 (hl.kept hG1.kept (by simp)) (hsm.kept hG1.kept (by simp))).mono ?_
 rintro e w' ⟨rfl,rfl⟩
 refine ⟨.si .i64 (Lib.compareBytes l sm),[],(H3x f (.sl Al nl cl) (.sl Au nu cu) nf (.sl Al nl cl) (o1 tu) (o1 it) (o1 fi) nv pos cv n fl m),rfl,hs1,hC,fun hU=>?_⟩
 refine ga0 (bs:=[lb,nb,fb]) 200 ⟨[330],3,[],[(50,false)],0⟩ hU hG1 (fun w2 hF2 hW2=>?_) [(decide (Lib.compareBytes l sm≤0),false)] ⟨by simpa using c2,trivial⟩
 clear hU
 refine gd [] [] hW2 (fun hD=>?_)
 refine ga0 (bs:=[lb,nb,fb]) 200 ⟨[330],3,[],[],0⟩ hD hF2.drew fun v2 hG2 hV2=>?_
 have hs2:=hV2.sq (H3x f (.sl Al nl cl) (.sl Au nu cu) nf (.sl Al nl cl) (.sl Au nu cu) (o1 it) (o1 fi) nv pos cv n fl m)
 refine gcd 65 [.oc m.u1 m.h1,.sl Au nu cu] [] w2.drew hV2 (fun hC=>?_)
 refine (compare_any m.u1 (slV Au nu cu).1 sm u v2 (hsm.kept hG2.kept (by simp)) (hu.kept hG2.kept (by simp))).mono ?_
 rintro e w' ⟨rfl,rfl⟩
 refine ⟨.si .i64 (Lib.compareBytes sm u),[],(H3x f (.sl Al nl cl) (.sl Au nu cu) nf (.sl Al nl cl) (.sl Au nu cu) (o1 it) (o1 fi) nv pos cv n fl m),rfl,hs2,hC,fun hU=>?_⟩
 refine ga0 (bs:=[lb,nb,fb]) 200 ⟨[330],3,[],[(84,false)],0⟩ hU hG2 (fun w3 hF3 hW3=>?_) [(decide (Lib.compareBytes sm u≥0),false)] ⟨by simpa using c3,trivial⟩
 clear hU
 refine gd [] [] hW3 (fun hD=>?_)
 refine ga0 (bs:=[lb,nb,fb]) 200 ⟨[330],3,[],[],0⟩ hD hF3.drew fun v3 hG3 hV3=>?_
 have hs3:=hV3.sq (H3x f (.sl Al nl cl) (.sl Au nu cu) nf (.sl Al nl cl) (.sl Au nu cu) (o1 it) (o1 fi) nv pos cv n fl m)
 refine gcd 65 [.sl Au nu cu,.oc m.u2 m.h2] [] w3.drew hV3 (fun hC=>?_)
 refine (compare_any (slV Au nu cu).1 m.u2 u lg v3 (hu.kept hG3.kept (by simp)) (hlg.kept hG3.kept (by simp))).mono ?_
 rintro e w' ⟨rfl,rfl⟩
 refine ⟨.si .i64 (Lib.compareBytes u lg),[],(H3x f (.sl Al nl cl) (.sl Au nu cu) nf (.sl Al nl cl) (.sl Au nu cu) (o1 it) (o1 fi) nv pos cv n fl m),rfl,hs3,hC,fun hU=>?_⟩
 refine ga0 (bs:=[lb,nb,fb]) 200 ⟨[330],3,[],[(100,true)],0⟩ hU hG3 (fun w4 hF4 hW4=>?_) [(decide (Lib.compareBytes u lg>0),true)] ⟨by simpa using c4,trivial⟩
 clear hU
 have hI:itbI (some l) (some u) sm lg=0:=by
  unfold itbI
  simp only [c1,c3,decide_true,decide_false];simp
 exact gt (.it .i64 (0)) hW4.sat ⟨by rw [hI];rfl,hF4.kept,(slV Al nl cl),nilV,hW4.sq _,fun _=>⟨by simp only [tlB,c2,if_false];exact hl.kept hF4.kept (by simp),by simp [tuB,c4];rfl⟩⟩
theorem c260_gt_ng [Bd] (f:Nat→Value) (Al:Addr) (nl cl:Nat) (Au:Addr) (nu cu:Nat) (nf:Addr) (cv:V1) (n:Nat) (fl:Nat→Nat) (tl tu it fi nv:V1) (pos:Int) (m:FM) (sm lg:List UInt8) (lb nb fb:Nat) (w:World) (hs:Sat [lb,nb,fb] (H3 ⟨f,(slV Al nl cl),(slV Au nu cu),nf,cv,n,fl⟩ tl tu (o1 it) (o1 fi) nv pos m) w) (hsm:RdS w m.u1 sm) (hlg:RdS w m.u2 lg) (l:List UInt8) (hl:RdS w (slV Al nl cl).1 l) (c1: ¬ Lib.compareBytes lg l < 0) (c2: ¬ Lib.compareBytes l sm≤0) (u:List UInt8) (hu:RdS w (slV Au nu cu).1 u) (c3: ¬ Lib.compareBytes sm u≥0) (c4: ¬ Lib.compareBytes u lg>0):
  Calls Tryz.prog 260 #[.pointer (some ⟨lb,0,none⟩),.pointer (some ⟨fb,0,none⟩)] w (Post260 ⟨f,(slV Al nl cl),(slV Au nu cu),nf,cv,n,fl⟩ it fi nv pos m (some l) (some u) sm lg lb nb fb w):=by
 refine gs (bs:=[lb,nb,fb]) [.p 0 0,.p 2 0] (H3x f (.sl Al nl cl) (.sl Au nu cu) nf (o1 tl) (o1 tu) (o1 it) (o1 fi) nv pos cv n fl m) Tryz.func260 (hs.vals (by kernel_rfl)) (fun hW=>?_)
 refine ga0 200 ⟨[330],3,[],[],0⟩ hW (Fr.refl _ _ _) fun w0 hF0 hW0=>?_
 refine gd [] [] hW0 (fun hD=>?_)
 refine ga0 (bs:=[lb,nb,fb]) 200 ⟨[330],3,[],[],0⟩ hD hF0.drew fun v0 hG0 hV0=>?_
 have hs0:=hV0.sq (H3x f (.sl Al nl cl) (.sl Au nu cu) nf (.sl Al nl cl) (o1 tu) (o1 it) (o1 fi) nv pos cv n fl m)
 refine gcd 65 [.oc m.u2 m.h2,.sl Al nl cl] [] w0.drew hV0 (fun hC=>?_)
 refine (compare_any m.u2 (slV Al nl cl).1 lg l v0 (hlg.kept hG0.kept (by simp)) (hl.kept hG0.kept (by simp))).mono ?_
 rintro e w' ⟨rfl,rfl⟩
 refine ⟨.si .i64 (Lib.compareBytes lg l),[],(H3x f (.sl Al nl cl) (.sl Au nu cu) nf (.sl Al nl cl) (o1 tu) (o1 it) (o1 fi) nv pos cv n fl m),rfl,hs0,hC,fun hU=>?_⟩
 refine ga0 (bs:=[lb,nb,fb]) 200 ⟨[330],3,[],[(34,false)],0⟩ hU hG0 (fun w1 hF1 hW1=>?_) [(decide (Lib.compareBytes lg l < 0),false)] ⟨by simpa using c1,trivial⟩
 clear hU
 refine gd [] [] hW1 (fun hD=>?_)
 refine ga0 (bs:=[lb,nb,fb]) 200 ⟨[330],3,[],[],0⟩ hD hF1.drew fun v1 hG1 hV1=>?_
 have hs1:=hV1.sq (H3x f (.sl Al nl cl) (.sl Au nu cu) nf (.sl Al nl cl) (o1 tu) (o1 it) (o1 fi) nv pos cv n fl m)
 refine gcd 65 [.sl Al nl cl,.oc m.u1 m.h1] [] w1.drew hV1 (fun hC=>?_)
 refine (compare_any (slV Al nl cl).1 m.u1 l sm v1 (hl.kept hG1.kept (by simp)) (hsm.kept hG1.kept (by simp))).mono ?_
 rintro e w' ⟨rfl,rfl⟩
 refine ⟨.si .i64 (Lib.compareBytes l sm),[],(H3x f (.sl Al nl cl) (.sl Au nu cu) nf (.sl Al nl cl) (o1 tu) (o1 it) (o1 fi) nv pos cv n fl m),rfl,hs1,hC,fun hU=>?_⟩
 refine ga0 (bs:=[lb,nb,fb]) 200 ⟨[330],3,[],[(50,false)],0⟩ hU hG1 (fun w2 hF2 hW2=>?_) [(decide (Lib.compareBytes l sm≤0),false)] ⟨by simpa using c2,trivial⟩
 clear hU
 refine gd [] [] hW2 (fun hD=>?_)
 refine ga0 (bs:=[lb,nb,fb]) 200 ⟨[330],3,[],[],0⟩ hD hF2.drew fun v2 hG2 hV2=>?_
 have hs2:=hV2.sq (H3x f (.sl Al nl cl) (.sl Au nu cu) nf (.sl Al nl cl) (.sl Au nu cu) (o1 it) (o1 fi) nv pos cv n fl m)
 refine gcd 65 [.oc m.u1 m.h1,.sl Au nu cu] [] w2.drew hV2 (fun hC=>?_)
 refine (compare_any m.u1 (slV Au nu cu).1 sm u v2 (hsm.kept hG2.kept (by simp)) (hu.kept hG2.kept (by simp))).mono ?_
 rintro e w' ⟨rfl,rfl⟩
 refine ⟨.si .i64 (Lib.compareBytes sm u),[],(H3x f (.sl Al nl cl) (.sl Au nu cu) nf (.sl Al nl cl) (.sl Au nu cu) (o1 it) (o1 fi) nv pos cv n fl m),rfl,hs2,hC,fun hU=>?_⟩
 refine ga0 (bs:=[lb,nb,fb]) 200 ⟨[330],3,[],[(84,false)],0⟩ hU hG2 (fun w3 hF3 hW3=>?_) [(decide (Lib.compareBytes sm u≥0),false)] ⟨by simpa using c3,trivial⟩
 clear hU
 refine gd [] [] hW3 (fun hD=>?_)
 refine ga0 (bs:=[lb,nb,fb]) 200 ⟨[330],3,[],[],0⟩ hD hF3.drew fun v3 hG3 hV3=>?_
 have hs3:=hV3.sq (H3x f (.sl Al nl cl) (.sl Au nu cu) nf (.sl Al nl cl) (.sl Au nu cu) (o1 it) (o1 fi) nv pos cv n fl m)
 refine gcd 65 [.sl Au nu cu,.oc m.u2 m.h2] [] w3.drew hV3 (fun hC=>?_)
 refine (compare_any (slV Au nu cu).1 m.u2 u lg v3 (hu.kept hG3.kept (by simp)) (hlg.kept hG3.kept (by simp))).mono ?_
 rintro e w' ⟨rfl,rfl⟩
 refine ⟨.si .i64 (Lib.compareBytes u lg),[],(H3x f (.sl Al nl cl) (.sl Au nu cu) nf (.sl Al nl cl) (.sl Au nu cu) (o1 it) (o1 fi) nv pos cv n fl m),rfl,hs3,hC,fun hU=>?_⟩
 refine ga0 (bs:=[lb,nb,fb]) 200 ⟨[330],3,[],[(100,false)],0⟩ hU hG3 (fun w4 hF4 hW4=>?_) [(decide (Lib.compareBytes u lg>0),false)] ⟨by simpa using c4,trivial⟩
 clear hU
 have hI:itbI (some l) (some u) sm lg=0:=by
  unfold itbI
  simp only [c1,c3,decide_true,decide_false];simp
 exact gt (.it .i64 (0)) hW4.sat ⟨by rw [hI];rfl,hF4.kept,(slV Al nl cl),(slV Au nu cu),hW4.sq _,fun _=>⟨by simp only [tlB,c2,if_false];exact hl.kept hF4.kept (by simp),by simp only [tuB,c4,if_false];exact hu.kept hF4.kept (by simp)⟩⟩
theorem RdO.cases [Bd] {w:World} {v:V1} {o:Option (List UInt8)} (h:RdO w v.1 o):(v=nilV∧o=none)∨ ∃ A n c s,v=slV A n c∧o=some s∧RdS w (slV A n c).1 s:=by
 obtain ⟨v,hv⟩:=v
 cases o with
 |none=>left;simp only [RdO] at h;subst h;exact ⟨rfl,rfl⟩
 |some s=>
  right
  have h':=h
  obtain ⟨b,o,c,cs,f,rfl,_⟩:=h'
  exact ⟨⟨b,o,none⟩,s.length,c,s,rfl,rfl,h⟩
theorem c260 [Bd] (s:LvS) (tl tu it fi nv:V1) (pos:Int) (m:FM) (lo up:Option (List UInt8)) (sm lg:List UInt8) (lb nb fb:Nat) (w:World) (hs:Sat [lb,nb,fb] (H3 s tl tu (o1 it) (o1 fi) nv pos m) w) (hsm:RdS w m.u1 sm) (hlg:RdS w m.u2 lg) (hlo:RdO w s.lo.1 lo) (hup:RdO w s.up.1 up):
  Calls Tryz.prog 260 #[.pointer (some ⟨lb,0,none⟩),.pointer (some ⟨fb,0,none⟩)] w (Post260 s it fi nv pos m lo up sm lg lb nb fb w):=by
 obtain ⟨f,sl,su,nf,cv,n,fl⟩:=s
 simp only at hlo hup
 rcases RdO.cases hlo with ⟨rfl,rfl⟩|⟨Al,nl,cl,l,rfl,rfl,hl⟩
 ·rcases RdO.cases hup with ⟨rfl,rfl⟩|⟨Au,nu,cu,u,rfl,rfl,hu⟩
  ·exact c260_n_n f  nf cv n fl tl tu it fi nv pos m sm lg lb nb fb w hs hsm hlg 
  ·by_cases c3:Lib.compareBytes sm u≥0
   ·exact c260_n_p1 f  Au nu cu nf cv n fl tl tu it fi nv pos m sm lg lb nb fb w hs hsm hlg  u hu c3
   ·by_cases c4:Lib.compareBytes u lg>0
    ·exact c260_n_gt f  Au nu cu nf cv n fl tl tu it fi nv pos m sm lg lb nb fb w hs hsm hlg  u hu c3 c4
    ·exact c260_n_ng f  Au nu cu nf cv n fl tl tu it fi nv pos m sm lg lb nb fb w hs hsm hlg  u hu c3 c4
 ·by_cases c1:Lib.compareBytes lg l < 0
  ·exact c260_m1_x f su Al nl cl nf cv n fl tl tu it fi nv pos m sm lg lb nb fb w hs hsm hlg l hl c1 up
  ·by_cases c2:Lib.compareBytes l sm≤0
   ·rcases RdO.cases hup with ⟨rfl,rfl⟩|⟨Au,nu,cu,u,rfl,rfl,hu⟩
    ·exact c260_le_n f Al nl cl nf cv n fl tl tu it fi nv pos m sm lg lb nb fb w hs hsm hlg l hl c1 c2
    ·by_cases c3:Lib.compareBytes sm u≥0
     ·exact c260_le_p1 f Al nl cl Au nu cu nf cv n fl tl tu it fi nv pos m sm lg lb nb fb w hs hsm hlg l hl c1 c2 u hu c3
     ·by_cases c4:Lib.compareBytes u lg>0
      ·exact c260_le_gt f Al nl cl Au nu cu nf cv n fl tl tu it fi nv pos m sm lg lb nb fb w hs hsm hlg l hl c1 c2 u hu c3 c4
      ·exact c260_le_ng f Al nl cl Au nu cu nf cv n fl tl tu it fi nv pos m sm lg lb nb fb w hs hsm hlg l hl c1 c2 u hu c3 c4
   ·rcases RdO.cases hup with ⟨rfl,rfl⟩|⟨Au,nu,cu,u,rfl,rfl,hu⟩
    ·exact c260_gt_n f Al nl cl nf cv n fl tl tu it fi nv pos m sm lg lb nb fb w hs hsm hlg l hl c1 c2
    ·by_cases c3:Lib.compareBytes sm u≥0
     ·exact c260_gt_p1 f Al nl cl Au nu cu nf cv n fl tl tu it fi nv pos m sm lg lb nb fb w hs hsm hlg l hl c1 c2 u hu c3
     ·by_cases c4:Lib.compareBytes u lg>0
      ·exact c260_gt_gt f Al nl cl Au nu cu nf cv n fl tl tu it fi nv pos m sm lg lb nb fb w hs hsm hlg l hl c1 c2 u hu c3 c4
      ·exact c260_gt_ng f Al nl cl Au nu cu nf cv n fl tl tu it fi nv pos m sm lg lb nb fb w hs hsm hlg l hl c1 c2 u hu c3 c4
end Go.Proofs.YtghppnklhbbffaaGreatDoor.X
