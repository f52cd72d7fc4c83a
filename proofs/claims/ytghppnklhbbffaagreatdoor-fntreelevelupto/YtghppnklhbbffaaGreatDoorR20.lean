/- Part 20 of the proof that laws.FnTreeLevel answers true, for arguments of small bulk. -/
import Derived.Test.YtghppnklhbbffaaGreatDoorR05
import Derived.Test.YtghppnklhbbffaaGreatDoorR19
set_option linter.all false
set_option maxHeartbeats 4000000
set_option maxRecDepth 100000
namespace Go.Proofs.YtghppnklhbbffaaGreatDoor.X
open Go Go.RowKit Go.Proofs.YtghppnklhbbffaaGreatDoor.TL Go.Proofs.YtghppnklhbbffaaGreatDoor.PFnTreeLevel
theorem c250_s [Bd] (s:LvS) (tl tu nv:V1) (pos:Int) (i:Nat) (m:FM) (b:Nat) (d:V1) (lb nb:Nat) (w:World) (hs:Sat [lb,nb,s.fl i] (HV s tl tu (.ifc 155 (.ptr ⟨b,0,none⟩)) (.p 2 0) (o1 nv) pos++F1 m) w):
  Calls Tryz.prog 250 #[.pointer (some ⟨lb,0,none⟩),.pointer (some ⟨s.fl i,0,none⟩),d.1] w fun e w'=>e=.returned (.int .i8 1)∧Kept [330] w w'∧Sat [lb,nb] (HV s tl tu (.ifc 155 (.ptr ⟨b,0,none⟩)) (.ptr ⟨s.fl i,0,none⟩) (o1 nv) pos) w':=by
 refine gs (bs:=[lb,nb,s.fl i]) [.p 0 0,.p 2 0,o1 d] _ Tryz.func250 hs (fun hW=>?_)
 refine ga0 200 ⟨[330],3,[],[],0⟩ hW (Fr.refl _ _ _) fun w1 hF1 hW1=>?_
 have hs1:=hW1.satD (HV s tl tu (.ifc 155 (.ptr ⟨b,0,none⟩)) (.p 2 0) (o1 nv) pos++F1 m) (by kernel_rfl)
 refine gc 259 [.p 0 0,.p 2 0,o1 d] hW1 ?_
 refine (c259 (nbV lb) d m (s.fl i) w1 (hs1.sub [2] (by decide) (by simp) rfl ⟨hs1.memC 2 rfl (by kernel_rfl),trivial⟩)).mono ?_
 rintro e w2 ⟨rfl,hE2⟩
 refine ⟨.tup [],[],HV s tl tu (.ifc 155 (.ptr ⟨b,0,none⟩)) (.p 2 0) (o1 nv) pos++F1 m,rfl,hs1.kq hE2,fun hW2=>?_⟩
 refine ga0 (bs:=[lb,nb,s.fl i]) 200 ⟨[330],3,[],[],0⟩ hW2 (hF1.call (nw:=[]) hE2) fun w3 hF3 hW3=>?_
 have hs3:=hW3.satD (HV s tl tu (.ifc 155 (.ptr ⟨b,0,none⟩)) (.p 2 0) (o1 nv) pos++F1 m) (by kernel_rfl)
 exact gt (.it .i8 1) hW3.sat ⟨rfl,hF3.kept,(hs3.sub [0,1] (by decide) (by simp) rfl ⟨hs3.memC 0 rfl (by kernel_rfl),hs3.memC 1 rfl (by kernel_rfl),trivial⟩)⟩
theorem c250_na [Bd] (s:LvS) (tl tu nv:V1) (pos:Int) (d:V1) (lb nb:Nat) (w:World) (hs:Sat [lb,nb] (HV s tl tu .ni .np (o1 nv) pos) w):
  Calls Tryz.prog 250 #[.pointer (some ⟨lb,0,none⟩),.pointer none,d.1] w fun e w'=>e=.returned (.int .i8 0)∧Kept [330] w w'∧LShut s lb nb npV nv pos w':=by
 refine gs (bs:=[lb,nb]) [.p 0 0,.np,o1 d] _ Tryz.func250 hs (fun hW=>?_)
 refine ga0 200 ⟨[330],2,[],[],0⟩ hW (Fr.refl _ _ _) fun w1 hF1 hW1=>?_
 have hs1:=hW1.sq (HV s tl tu .ni (o1 npV) (o1 nv) pos)
 refine gc 238 [.p 0 0] hW1 ?_
 refine (c238_n s tl tu npV nv pos lb nb w1 hs1).mono ?_
 rintro e w2 ⟨rfl,hK2,hs2⟩
 refine ⟨.ni,[],HV s tl tu .ni .np (o1 nv) pos,rfl,hs2.vals (by kernel_rfl),fun hW2=>?_⟩
 refine ga0 (bs:=[lb,nb]) 200 ⟨[330],2,[],[],1⟩ hW2 (hF1.call (nw:=[]) hK2) fun w3 hF3 hW3=>?_
 exact gt (.it .i8 0) hW3.sat ⟨rfl,hF3.kept,tl,tu,hW3.sq _⟩
theorem c250_nb [Bd] (s:LvS) (tl tu nv:V1) (pos:Int) (x:Nat) (d:V1) (lb nb:Nat) (w:World) (hs:Sat [lb,nb] (HV s tl tu .ni (.ptr ⟨x,0,none⟩) (o1 nv) pos) w):
  Calls Tryz.prog 250 #[.pointer (some ⟨lb,0,none⟩),.pointer none,d.1] w fun e w'=>e=.returned (.int .i8 0)∧Kept [330] w w'∧LShut s lb nb npV nv pos w':=by
 refine gs (bs:=[lb,nb]) [.p 0 0,.np,o1 d] _ Tryz.func250 hs (fun hW=>?_)
 refine ga0 200 ⟨[330],2,[],[],0⟩ hW (Fr.refl _ _ _) fun w1 hF1 hW1=>?_
 have hs1:=hW1.satD (HV s tl tu .ni (o1 (nbV x)) (o1 nv) pos) (by kernel_rfl)
 refine gc 238 [.p 0 0] hW1 ?_
 refine (c238_n s tl tu (nbV x) nv pos lb nb w1 hs1).mono ?_
 rintro e w2 ⟨rfl,hK2,hs2⟩
 refine ⟨.ni,[],HV s tl tu .ni (.ptr ⟨x,0,none⟩) (o1 nv) pos,rfl,hs2.vals (by kernel_rfl),fun hW2=>?_⟩
 refine ga0 (bs:=[lb,nb]) 200 ⟨[330],2,[],[],1⟩ hW2 (hF1.call (nw:=[]) hK2) fun w3 hF3 hW3=>?_
 exact gt (.it .i8 0) hW3.sat ⟨rfl,hF3.kept,tl,tu,hW3.sq _⟩
theorem c250_nc [Bd] (s:LvS) (tl tu nv:V1) (pos:Int) (x b0:Nat) (d:V1) (lb nb:Nat) (w:World) (hs:Sat [lb,nb] (HV s tl tu (.ifc 155 (.ptr ⟨b0,0,none⟩)) (.ptr ⟨x,0,none⟩) (o1 nv) pos) w):
  Calls Tryz.prog 250 #[.pointer (some ⟨lb,0,none⟩),.pointer none,d.1] w fun e w'=>e=.returned (.int .i8 0)∧Kept [330] w w'∧LShut s lb nb npV nv pos w':=by
 refine gs (bs:=[lb,nb]) [.p 0 0,.np,o1 d] _ Tryz.func250 hs (fun hW=>?_)
 refine ga0 200 ⟨[330],2,[],[],0⟩ hW (Fr.refl _ _ _) fun w1 hF1 hW1=>?_
 have hs1:=hW1.satD (HV s tl tu (.ifc 155 (.ptr ⟨b0,0,none⟩)) (o1 (nbV x)) (o1 nv) pos) (by kernel_rfl)
 refine gc 238 [.p 0 0] hW1 ?_
 refine (c238_t s tl tu b0 (nbV x) nv pos lb nb w1 hs1).mono ?_
 rintro e w2 ⟨rfl,hK2,hs2⟩
 refine ⟨.ni,[],HV s tl tu .ni (.ptr ⟨x,0,none⟩) (o1 nv) pos,rfl,hs2.vals (by kernel_rfl),fun hW2=>?_⟩
 refine ga0 (bs:=[lb,nb]) 200 ⟨[330],2,[],[],1⟩ hW2 (hF1.call (nw:=[]) hK2) fun w3 hF3 hW3=>?_
 exact gt (.it .i8 0) hW3.sat ⟨rfl,hF3.kept,tl,tu,hW3.sq _⟩
def LPre [Bd] (s:LvS) (lb nb:Nat) (P:Nat→List S36) (lo up:Option (List UInt8)) (sm lg:Nat→List UInt8) (nv:V1) (pos:Int) (w:World):Prop:=
 LShut s lb nb npV nv pos w∨(∃ j,j < s.n∧LShut s lb nb (nbV (s.fl j)) nv pos w)∨(∃ j at_,j < s.n∧itbI lo up (sm j) (lg j)=0∧LOpen s lb nb P lo up sm lg j at_ nv pos w)
structure LEnv [Bd] (s:LvS) (lb nb:Nat) (P:Nat→List S36) (fm:Nat→FM) (lo up:Option (List UInt8)) (sm lg:Nat→List UInt8) (w:World):Prop where
 files:FilesAt w s.n s.fl fm sm lg
 inj: ∀ i j,i < s.n→j < s.n→s.fl i=s.fl j→i=j
 hlo:RdO w s.lo.1 lo
 hup:RdO w s.up.1 up
 hop:OpenH s lb nb P w
 kinds: ∀ i,i < s.n→ ∃ t:Nat,(fm i).t2=t∧t < 18446744073709551616∧(t % 256≠15∧t % 256≠19∧t % 256≠20∧t % 256≠21)
theorem LEnv.kept [Bd] {s:LvS} {lb nb:Nat} {P:Nat→List S36} {fm:Nat→FM} {lo up:Option (List UInt8)} {sm lg:Nat→List UInt8} {w w':World} {ts:List TypeId} (h:LEnv s lb nb P fm lo up sm lg w) (hk:Kept ts w w') (ht: ∀ t∈ts,t∈[330,266,224,50]:=by simp):LEnv s lb nb P fm lo up sm lg w':=
 have hk':=hk.mono ht
 ⟨h.files.kept hk',h.inj,h.hlo.kept hk' (by simp),h.hup.kept hk' (by simp),h.hop.kept hk',h.kinds⟩
theorem Sat.file [Bd] {bs:List Nat} {H:List SB} {w:World} (h:Sat bs H w) (hw:wfH H.length H=true) (ho:outH [188] H=true) {g:Nat} {m:FM} (hg:w.heap[g]? =some (.cells (SV.denL [] (fmS m)).toArray 188 (0,0))) (hB:autoParam (Bd.B≤g) bd0._auto_1):Sat (bs++[g]) (H++F1 m) w:=
 h.add hw (h.ne_ty ho hg) 188 (fmS m) (blk_any (bs:=[]) hg (by kernel_rfl)) hB
theorem Sat.file2 [Bd] {bs:List Nat} {H:List SB} {w:World} (h:Sat bs H w) (hw:wfH H.length H=true) (ho:outH [188] H=true) {g g2:Nat} {m m2:FM} (hg:w.heap[g]? =some (.cells (SV.denL [] (fmS m)).toArray 188 (0,0))) (hg2:w.heap[g2]? =some (.cells (SV.denL [] (fmS m2)).toArray 188 (0,0))) (hne:g≠g2) (hw2:wfH (H++F1 m).length (H++F1 m)=true) (hB:autoParam (Bd.B≤g) bd0._auto_1) (hB2:autoParam (Bd.B≤g2) bd0._auto_1):Sat (bs++[g]++[g2]) (H++F1 m++F1 m2) w:=
 (h.file hw ho hg hB).add hw2 (fun x hx=>by
  rcases List.mem_append.1 hx with hx|hx
  ·exact h.ne_ty ho hg2 x hx
  ·simp only [List.mem_singleton] at hx;subst hx;exact hne) 188 (fmS m2) (blk_any (bs:=[]) hg2 (by kernel_rfl)) hB2
theorem c250_in [Bd] (s:LvS) (lb nb:Nat) (P:Nat→List S36) (fm:Nat→FM) (lo up:Option (List UInt8)) (sm lg:Nat→List UInt8) (nv:V1) (pos:Int) (i:Nat) (hi:i < s.n) (d:V1) (w:World) (he:LEnv s lb nb P fm lo up sm lg w) (hp:LPre s lb nb P lo up sm lg nv pos w) (hI:itbI lo up (sm i) (lg i)=0):
  Calls Tryz.prog 250 #[.pointer (some ⟨lb,0,none⟩),.pointer (some ⟨s.fl i,0,none⟩),d.1] w fun e w'=>(∃ k at_,(k=1∨k=2)∧e=.returned (.int .i8 k)∧(k=2→at_= -1)∧LOpen s lb nb P lo up sm lg i at_ nv pos w')∧Kept [330] w w':=by
 obtain ⟨q1,q2,q3,q4⟩:=he.files i hi
 rcases hp with ⟨tl,tu,hs⟩|⟨j,hj,tl,tu,hs⟩|⟨j,at_,hj,hJ,tl,tu,b,vk,vv,hs,hb,hL,hzb⟩
 ·have h1:=(hs.file (by kernel_rfl) (by kernel_rfl) q1).vals (H':=HV s tl tu .ni .np (o1 nv) pos++F1 (fm i)) (by kernel_rfl)
  exact (c250_a_0 s P tl tu nv pos lo up sm lg i hi (fm i) d lb nb w h1 q2 q3 he.hlo he.hup hI he.hop).mono (fun e w1 ⟨h1,h2,h3⟩=>⟨⟨2, -1,.inr rfl,h1,fun _=>rfl,h3⟩,h2⟩)
 ·by_cases hji:j=i
  ·subst hji
   have h1:=(hs.file (by kernel_rfl) (by kernel_rfl) q1).vals (H':=HV s tl tu .ni (.p 2 0) (o1 nv) pos++F1 (fm j)) (by kernel_rfl)
   exact (c250_b_0 s P tl tu nv pos lo up sm lg j hi (fm j) d lb nb w h1 q2 q3 he.hlo he.hup hI he.hop).mono (fun e w1 ⟨h1,h2,h3⟩=>⟨⟨2, -1,.inr rfl,h1,fun _=>rfl,h3⟩,h2⟩)
  ·obtain ⟨r1,_,_,r4⟩:=he.files j hj
   have h1:=(hs.file2 (by kernel_rfl) (by kernel_rfl) q1 r1 (fun e=>hji (he.inj i j hi hj e).symm) (by kernel_rfl)).vals (H':=HV s tl tu .ni (.p 3 0) (o1 nv) pos++F2 (fm i) (fm j)) (by kernel_rfl)
   exact (c250_c_0 s P tl tu nv pos lo up sm lg i hi (fm i) (s.fl j) (fm j) d lb nb w h1 q2 q3 he.hlo he.hup hI he.hop).mono (fun e w1 ⟨h1,h2,h3⟩=>⟨⟨2, -1,.inr rfl,h1,fun _=>rfl,h3⟩,h2⟩)
 ·by_cases hji:j=i
  ·subst hji
   have h1:=(hs.file (by kernel_rfl) (by kernel_rfl) q1).vals (H':=HV s tl tu (.ifc 155 (.ptr ⟨b,0,none⟩)) (.p 2 0) (o1 nv) pos++F1 (fm j)) (by kernel_rfl)
   refine (c250_s s tl tu nv pos j (fm j) b d lb nb w h1).mono (fun e w1 ⟨h1,h2,h3⟩=>⟨⟨1,at_,.inl rfl,h1,fun h=>absurd h (by decide),tl,tu,b,vk,vv,h3,?_,hL.kept h2 (by simp) (by simp) (by simp),hzb⟩,h2⟩)
   exact (h2.block b (solid_of hb (by simp))).trans hb
  ·obtain ⟨r1,_,_,r4⟩:=he.files j hj
   have h1:=(hs.file2 (by kernel_rfl) (by kernel_rfl) q1 r1 (fun e=>hji (he.inj i j hi hj e).symm) (by kernel_rfl)).vals (H':=HV s tl tu (.ifc 155 (.ptr ⟨b,0,none⟩)) (.p 3 0) (o1 nv) pos++F2 (fm i) (fm j)) (by kernel_rfl)
   exact (c250_d_0 s P tl tu nv pos lo up sm lg i hi (fm i) (s.fl j) (fm j) b d lb nb w h1 q2 q3 he.hlo he.hup hI he.hop).mono (fun e w1 ⟨h1,h2,h3⟩=>⟨⟨2, -1,.inr rfl,h1,fun _=>rfl,h3⟩,h2⟩)
theorem c250_up [Bd] (s:LvS) (lb nb:Nat) (P:Nat→List S36) (fm:Nat→FM) (lo up:Option (List UInt8)) (sm lg:Nat→List UInt8) (nv:V1) (pos:Int) (i:Nat) (hi:i < s.n) (w:World) (he:LEnv s lb nb P fm lo up sm lg w) (hp:LPre s lb nb P lo up sm lg nv pos w) (hI:itbI lo up (sm i) (lg i)=1):
  Calls Tryz.prog 250 #[.pointer (some ⟨lb,0,none⟩),.pointer (some ⟨s.fl i,0,none⟩),.int .i64 1] w fun e w'=>e=.returned (.int .i8 0)∧Kept [330] w w'∧LShut s lb nb (nbV (s.fl i)) nv pos w':=by
 obtain ⟨q1,q2,q3,q4⟩:=he.files i hi
 rcases hp with ⟨tl,tu,hs⟩|⟨j,hj,tl,tu,hs⟩|⟨j,at_,hj,hJ,tl,tu,b,vk,vv,hs,hb,hL,hzb⟩
 ·have h1:=(hs.file (by kernel_rfl) (by kernel_rfl) q1).vals (H':=HV s tl tu .ni .np (o1 nv) pos++F1 (fm i)) (by kernel_rfl)
  exact c250_a_1 s P tl tu nv pos lo up sm lg i hi (fm i) lb nb w h1 q2 q3 he.hlo he.hup hI 
 ·by_cases hji:j=i
  ·subst hji
   have h1:=(hs.file (by kernel_rfl) (by kernel_rfl) q1).vals (H':=HV s tl tu .ni (.p 2 0) (o1 nv) pos++F1 (fm j)) (by kernel_rfl)
   exact c250_b_1 s P tl tu nv pos lo up sm lg j hi (fm j) lb nb w h1 q2 q3 he.hlo he.hup hI 
  ·obtain ⟨r1,_,_,r4⟩:=he.files j hj
   have h1:=(hs.file2 (by kernel_rfl) (by kernel_rfl) q1 r1 (fun e=>hji (he.inj i j hi hj e).symm) (by kernel_rfl)).vals (H':=HV s tl tu .ni (.p 3 0) (o1 nv) pos++F2 (fm i) (fm j)) (by kernel_rfl)
   exact c250_c_1 s P tl tu nv pos lo up sm lg i hi (fm i) (s.fl j) (fm j) lb nb w h1 q2 q3 he.hlo he.hup hI 
 ·by_cases hji:j=i
  ·subst hji
   rw [hI] at hJ;exact absurd hJ (by decide)
  ·obtain ⟨r1,_,_,r4⟩:=he.files j hj
   have h1:=(hs.file2 (by kernel_rfl) (by kernel_rfl) q1 r1 (fun e=>hji (he.inj i j hi hj e).symm) (by kernel_rfl)).vals (H':=HV s tl tu (.ifc 155 (.ptr ⟨b,0,none⟩)) (.p 3 0) (o1 nv) pos++F2 (fm i) (fm j)) (by kernel_rfl)
   exact c250_d_1 s P tl tu nv pos lo up sm lg i hi (fm i) (s.fl j) (fm j) b lb nb w h1 q2 q3 he.hlo he.hup hI 
theorem c250_lo [Bd] (s:LvS) (lb nb:Nat) (P:Nat→List S36) (fm:Nat→FM) (lo up:Option (List UInt8)) (sm lg:Nat→List UInt8) (nv:V1) (pos:Int) (i:Nat) (hi:i < s.n) (w:World) (he:LEnv s lb nb P fm lo up sm lg w) (hp:LPre s lb nb P lo up sm lg nv pos w) (hI:itbI lo up (sm i) (lg i)= -1):
  Calls Tryz.prog 250 #[.pointer (some ⟨lb,0,none⟩),.pointer (some ⟨s.fl i,0,none⟩),.int .i64 (-1)] w fun e w'=>e=.returned (.int .i8 0)∧Kept [330] w w'∧LShut s lb nb (nbV (s.fl i)) nv pos w':=by
 obtain ⟨q1,q2,q3,q4⟩:=he.files i hi
 rcases hp with ⟨tl,tu,hs⟩|⟨j,hj,tl,tu,hs⟩|⟨j,at_,hj,hJ,tl,tu,b,vk,vv,hs,hb,hL,hzb⟩
 ·have h1:=(hs.file (by kernel_rfl) (by kernel_rfl) q1).vals (H':=HV s tl tu .ni .np (o1 nv) pos++F1 (fm i)) (by kernel_rfl)
  exact c250_a_m1 s P tl tu nv pos lo up sm lg i hi (fm i) lb nb w h1 q2 q3 he.hlo he.hup hI 
 ·by_cases hji:j=i
  ·subst hji
   have h1:=(hs.file (by kernel_rfl) (by kernel_rfl) q1).vals (H':=HV s tl tu .ni (.p 2 0) (o1 nv) pos++F1 (fm j)) (by kernel_rfl)
   exact c250_b_m1 s P tl tu nv pos lo up sm lg j hi (fm j) lb nb w h1 q2 q3 he.hlo he.hup hI 
  ·obtain ⟨r1,_,_,r4⟩:=he.files j hj
   have h1:=(hs.file2 (by kernel_rfl) (by kernel_rfl) q1 r1 (fun e=>hji (he.inj i j hi hj e).symm) (by kernel_rfl)).vals (H':=HV s tl tu .ni (.p 3 0) (o1 nv) pos++F2 (fm i) (fm j)) (by kernel_rfl)
   exact c250_c_m1 s P tl tu nv pos lo up sm lg i hi (fm i) (s.fl j) (fm j) lb nb w h1 q2 q3 he.hlo he.hup hI 
 ·by_cases hji:j=i
  ·subst hji
   rw [hI] at hJ;exact absurd hJ (by decide)
  ·obtain ⟨r1,_,_,r4⟩:=he.files j hj
   have h1:=(hs.file2 (by kernel_rfl) (by kernel_rfl) q1 r1 (fun e=>hji (he.inj i j hi hj e).symm) (by kernel_rfl)).vals (H':=HV s tl tu (.ifc 155 (.ptr ⟨b,0,none⟩)) (.p 3 0) (o1 nv) pos++F2 (fm i) (fm j)) (by kernel_rfl)
   exact c250_d_m1 s P tl tu nv pos lo up sm lg i hi (fm i) (s.fl j) (fm j) b lb nb w h1 q2 q3 he.hlo he.hup hI 
theorem c250_nil [Bd] (s:LvS) (lb nb:Nat) (P:Nat→List S36) (lo up:Option (List UInt8)) (sm lg:Nat→List UInt8) (nv:V1) (pos:Int) (d:V1) (w:World) (hp:LPre s lb nb P lo up sm lg nv pos w):
  Calls Tryz.prog 250 #[.pointer (some ⟨lb,0,none⟩),.pointer none,d.1] w fun e w'=>e=.returned (.int .i8 0)∧Kept [330] w w'∧LShut s lb nb npV nv pos w':=by
 rcases hp with ⟨tl,tu,hs⟩|⟨j,hj,tl,tu,hs⟩|⟨j,at_,hj,hJ,tl,tu,b,vk,vv,hs,hb,hL,hzb⟩
 ·exact c250_na s tl tu nv pos d lb nb w (hs.vals (by kernel_rfl))
 ·exact c250_nb s tl tu nv pos (s.fl j) d lb nb w (hs.vals (by kernel_rfl))
 ·exact c250_nc s tl tu nv pos (s.fl j) b d lb nb w hs
def KRes (w:World) (o:Option S36) (v:Value):Prop:=match o with
 |none=>v=.tuple #[.pointer none,.agg #[.slice none 0 0,.pointer none]]
 |some x=> ∃ g off ku vu cs f,v=.tuple #[.pointer (some ⟨g,off,none⟩),.agg #[vu,.pointer none]]∧w.heap[g]? =some (.cells cs 182 f)∧w.cell? ⟨g,off,none⟩=some ku∧w.cell? ⟨g,off+1,none⟩=some (.int .u64 x.f1)∧RdS w ku (bs x.f0)∧RdS w vu (bs x.f2)
theorem KRes.kept [Bd] {w w':World} {o:Option S36} {v:Value} {ts:List TypeId} (h:KRes w o v) (hk:Kept ts w w') (h5:5∉ts:=by simp) (h182:182∉ts:=by simp):KRes w' o v:=by
 cases o with
 |none=>exact h
 |some x=>
  obtain ⟨g,off,ku,vu,cs,f,e,hb,c1,c2,r1,r2⟩:=h
  have hs:=solid_of hb h182
  exact ⟨g,off,ku,vu,cs,f,e,(hk.block g hs).trans hb,hk.cell (p:=⟨g,off,none⟩) hs c1,hk.cell (p:=⟨g,off+1,none⟩) hs c2,r1.kept hk h5,r2.kept hk h5⟩
theorem kres_of [Bd] {w:World} {vk vv vlo vup:Value} {xs:List S36} {lo up:Option (List UInt8)} (hL:LstC w vk vv vlo vup xs lo up) {i:Nat} (hi:i < xs.length) {g n c:Nat} {vu:Value} (hvk:vk=.slice (some ⟨g,0,none⟩) n c) (hvu:RdS w vu (bs xs[i].f2)):
  KRes w (some xs[i]) (.tuple #[.pointer (some ⟨g,i*2,none⟩),.agg #[vu,.pointer none]]):=by
 obtain ⟨⟨A,c',e1,h1,h2,h3⟩,_,_,_⟩:=hL
 obtain ⟨g',cs,f,hA,hb,hc⟩:=h3 (by omega)
 obtain ⟨ku,q1,q2,q3⟩:=hc i hi
 subst hvk
 subst hA
 simp only [Value.slice.injEq,Option.some.injEq,Addr.mk.injEq,and_true] at e1
 obtain ⟨rfl,_,_⟩:=e1
 exact ⟨g,i*2,ku,vu,cs,f,rfl,hb,q1,q2,q3,hvu⟩
theorem HV_HL [Bd] {s:LvS} {tl tu:V1} {it fi:SV} {nv:V1} {pos:Int} {lb nb:Nat} {w:World} (h:Sat [lb,nb] (HV s tl tu it fi (o1 nv) pos) w):Sat [lb,nb] (HL (LF lb nb s tl tu it fi) (o1 nv) pos s.cv s.n s.fl) w:=h.vals (by kernel_rfl)
theorem HV_HLp [Bd] {s:LvS} {tl tu:V1} {it fi:SV} {pos:Int} {lb nb:Nat} {w:World} (h:Sat [lb,nb] (HV s tl tu it fi (o1 (nbV nb)) pos) w):Sat [lb,nb] (HL (LF lb nb s tl tu it fi) (.p 1 0) pos s.cv s.n s.fl) w:=h.vals (by kernel_rfl)
theorem HL_HV [Bd] {s:LvS} {tl tu:V1} {it fi:SV} {pos:Int} {lb nb:Nat} {w:World} (h:Sat [lb,nb] (HL (LF lb nb s tl tu it fi) (.p 1 0) pos s.cv s.n s.fl) w):Sat [lb,nb] (HV s tl tu it fi (o1 (nbV nb)) pos) w:=h.vals (by kernel_rfl)
theorem _root_.Go.Proofs.YtghppnklhbbffaaGreatDoor.TL.Kept.tr [Bd] {ts us vs:List TypeId} {a b c:World} (h:Kept us a b) (k:Kept vs b c) (hu: ∀ t∈us,t∈ts:=by simp) (hv: ∀ t∈vs,t∈ts:=by simp):Kept ts a c:=(h.mono hu).trans (k.mono hv)
abbrev KT:List TypeId:=[330,266]
theorem _root_.Go.Proofs.YtghppnklhbbffaaGreatDoor.TL.Kept.fin [Bd] {us:List TypeId} {w a b:World} {bs:List Nat} (h:Kept us w a) (k:Kept [224,4000000] a b) (f:Far bs a b) (hb: ∀ x∈bs,w.heap.size≤x∨ ∃ c t g,a.heap[x]? =some (.cells c t g)∧t∉[224,4000000]):Kept us w b:=by
 refine ⟨k.os.trans h.os,k.tape.trans h.tape,k.output.trans h.output,Nat.le_trans h.size k.size,fun i hi=>?_,fun i c t g hc=>?_⟩
 ·have hlt:=hi.lt
  refine Eq.trans ?_ (h.block i hi)
  by_cases hm:i∈bs
  ·rcases hb i hm with h1|⟨c,t,g,h1,h2⟩
   ·omega
   ·exact k.block i (solid_of h1 h2)
  ·exact f i (Nat.lt_of_lt_of_le hlt h.size) hm
 ·obtain ⟨c',h1⟩:=h.ty i c t g hc
  exact k.ty i c' t g h1
theorem fin4 [Bd] {w a:World} {lb nb b3 b5:Nat} {H:List SB} {c1 c2:List SV} (hs:Sat [lb,nb,b3,b5] H a) (h1: ∀ b∈[b3,b5],w.heap.size≤b) (e1:H[0]? =some ⟨330,c1⟩) (e2:H[1]? =some ⟨360,c2⟩):
  ∀ x∈[lb,nb,b3,b5],w.heap.size≤x∨ ∃ c t g,a.heap[x]? =some (.cells c t g)∧t∉[224,4000000]:=by
 intro x hx
 simp only [List.mem_cons,List.not_mem_nil,or_false] at hx
 rcases hx with rfl|rfl|rfl|rfl
 ·exact .inr ⟨_,_,_,hs.mem 0 _ e1,by simp⟩
 ·exact .inr ⟨_,_,_,hs.mem 1 _ e2,by simp⟩
 ·exact .inl (h1 _ (by simp))
 ·exact .inl (h1 _ (by simp))
abbrev Z2:List SB:=[⟨224,[.ns,.np]⟩,⟨224,[.ns,.np]⟩]
theorem c252_n [Bd] (s:LvS) (hn1:1≤s.n) (hn:s.n≤10) (lb nb:Nat) (P:Nat→List S36) (fm:Nat→FM) (lo up:Option (List UInt8)) (sm lg:Nat→List UInt8) (i:Nat) (hi:i < s.n) (at_:Int) (hi1:i+1=s.n) (w:World) (he:LEnv s lb nb P fm lo up sm lg w) (hIi:itbI lo up (sm i) (lg i)=0) (hp:LOpen s lb nb P lo up sm lg i at_ (nbV nb) i w):
  Calls Tryz.prog 252 #[.pointer (some ⟨lb,0,none⟩)] w fun e w'=>e=.returned (.tuple #[.pointer none,.agg #[.slice none 0 0,.pointer none]])∧Kept KT w w'∧LShut s lb nb npV (nbV nb) (s.n:Int) w':=by
 obtain ⟨tl,tu,b,vk,vv,hs,hb,hL,hzb⟩:=hp
 refine gs (bs:=[lb,nb]) [.p 0 0] _ Tryz.func252 hs (fun hW=>?_)
 refine gr2 200 ⟨[],2,[],[],2⟩ hW fun b3 b5 w1 hfr hE1 hW1=>?_
 have hs1:=hW1.satD ((HV s tl tu (.ifc 155 (.ptr ⟨b,0,none⟩)) (.ptr ⟨s.fl i,0,none⟩) (o1 (nbV nb)) i)++Z2) (by kernel_rfl)
 have hb1:=(hE1.block b (solid_of hb (by simp))).trans hb
 have hL1:=hL.kept hE1 (by simp) (by simp) (by simp)
 refine gc 107 [.p 0 31] hW1 ?_
 have hs1':Sat [lb,nb] ((HV s tl tu (.ifc 155 (.ptr ⟨b,0,none⟩)) (.ptr ⟨s.fl i,0,none⟩) (o1 (nbV nb)) i)) w1:=(hs1.sub [0,1] (by decide) (by simp) rfl ⟨hs1.memC 0 rfl (by kernel_rfl),hs1.memC 1 rfl (by kernel_rfl),trivial⟩)
 have hs3:=HV_HLp hs1'
 generalize hF:LF lb nb s tl tu (.ifc 155 (.ptr ⟨b,0,none⟩)) (.ptr ⟨s.fl i,0,none⟩)=F at hs3
 refine (c107_f F i s.cv s.n hn1 hn (by omega) (by omega) s.fl lb nb w1 hs3).mono ?_
 subst hF
 rintro e w2 ⟨rfl,hK2,hs2⟩
 have hs2:=HL_HV hs2
 have hs2':Sat [lb,nb,b3,b5] ((HV s tl tu (.ifc 155 (.ptr ⟨b,0,none⟩)) (.ptr ⟨s.fl i,0,none⟩) (o1 (nbV nb)) (s.n:Int))++Z2) w2:=hs1.re rfl ⟨hs2.memC 0 rfl (by kernel_rfl),hs2.memC 1 rfl (by kernel_rfl),hs1.kp hK2 2 _ rfl rfl,hs1.kp hK2 3 _ rfl rfl,trivial⟩
 refine ⟨.np,[],((HV s tl tu (.ifc 155 (.ptr ⟨b,0,none⟩)) (.ptr ⟨s.fl i,0,none⟩) (o1 (nbV nb)) (s.n:Int))++Z2),rfl,hs2',fun hW2=>?_⟩
 refine gr0 (bs:=[lb,nb,b3,b5]) 200 ⟨[],4,[],[],2⟩ hW2 fun w4 hE4 hW4=>?_
 have hs4:=hW4.satD ((HV s tl tu (.ifc 155 (.ptr ⟨b,0,none⟩)) (.ptr ⟨s.fl i,0,none⟩) (o1 (nbV nb)) (s.n:Int))++Z2) (by kernel_rfl)
 have hK24:Kept [330] w1 w4:=hK2.trans (hE4.mono (by simp))
 have hK04:Kept [330] w w4:=(hE1.mono (by simp)).trans hK24
 have hp4:LPre s lb nb P lo up sm lg (nbV nb) (s.n:Int) w4:=.inr (.inr ⟨i,at_,hi,hIi,tl,tu,b,vk,vv,(hs4.sub [0,1] (by decide) (by simp) rfl ⟨hs4.memC 0 rfl (by kernel_rfl),hs4.memC 1 rfl (by kernel_rfl),trivial⟩),(hK24.block b (solid_of hb1 (by simp))).trans hb1,hL1.kept hK24 (by simp) (by simp) (by simp),hzb⟩)
 have he4:=he.kept hK04
 refine gc 250 [.p 0 0,.np,.it .i64 1] hW4 ?_
 refine (c250_nil s lb nb P lo up sm lg (nbV nb) (s.n:Int) ⟨.int .i64 1,rfl⟩ w4 hp4).mono ?_
 rintro e w5 ⟨rfl,hK5,tl2,tu2,hs5⟩
 have hs5':Sat [lb,nb,b3,b5] (HV s tl2 tu2 .ni (o1 npV) (o1 (nbV nb)) (s.n:Int)++Z2) w5:=hs4.re rfl ⟨hs5.memC 0 rfl (by kernel_rfl),hs5.memC 1 rfl (by kernel_rfl),hs4.kp hK5 2 _ rfl rfl,hs4.kp hK5 3 _ rfl rfl,trivial⟩
 refine ⟨.it .i8 0,[],HV s tl2 tu2 .ni (o1 npV) (o1 (nbV nb)) (s.n:Int)++Z2,rfl,hs5',fun hW5=>?_⟩
 refine gg0 (bs:=[lb,nb,b3,b5]) 200 ⟨[224,4000000],4,[],[],2⟩ hW5 fun w6 hK6 hN6 hW6=>?_
 have hs6:=hW6.satD (HV s tl2 tu2 .ni (o1 npV) (o1 (nbV nb)) (s.n:Int)++Z2) (by kernel_rfl)
 exact gt (.tup [.np,.agg [.ns,.np]]) hW6.sat ⟨rfl,((hK04.tr hK5 (ts:=KT)).fin hK6 hN6 (fin4 hs5' hfr rfl rfl)),tl2,tu2,(hs6.sub [0,1] (by decide) (by simp) rfl ⟨hs6.memC 0 rfl (by kernel_rfl),hs6.memC 1 rfl (by kernel_rfl),trivial⟩)⟩
theorem c252_o [Bd] (s:LvS) (hn1:1≤s.n) (hn:s.n≤10) (lb nb:Nat) (P:Nat→List S36) (fm:Nat→FM) (lo up:Option (List UInt8)) (sm lg:Nat→List UInt8) (i:Nat) (hi:i < s.n) (at_:Int) (j:Nat) (hj:j=i+1) (hjn:j < s.n) (hI:itbI lo up (sm j) (lg j)=1) (w:World) (he:LEnv s lb nb P fm lo up sm lg w) (hIi:itbI lo up (sm i) (lg i)=0) (hp:LOpen s lb nb P lo up sm lg i at_ (nbV nb) i w):
  Calls Tryz.prog 252 #[.pointer (some ⟨lb,0,none⟩)] w fun e w'=>e=.returned (.tuple #[.pointer none,.agg #[.slice none 0 0,.pointer none]])∧Kept KT w w'∧LShut s lb nb (nbV (s.fl j)) (nbV nb) (j:Int) w':=by
 obtain ⟨tl,tu,b,vk,vv,hs,hb,hL,hzb⟩:=hp
 refine gs (bs:=[lb,nb]) [.p 0 0] _ Tryz.func252 hs (fun hW=>?_)
 refine gr2 200 ⟨[],2,[],[],2⟩ hW fun b3 b5 w1 hfr hE1 hW1=>?_
 have hs1:=hW1.satD ((HV s tl tu (.ifc 155 (.ptr ⟨b,0,none⟩)) (.ptr ⟨s.fl i,0,none⟩) (o1 (nbV nb)) i)++Z2) (by kernel_rfl)
 have hb1:=(hE1.block b (solid_of hb (by simp))).trans hb
 have hL1:=hL.kept hE1 (by simp) (by simp) (by simp)
 refine gc 107 [.p 0 31] hW1 ?_
 have hs1':Sat [lb,nb] ((HV s tl tu (.ifc 155 (.ptr ⟨b,0,none⟩)) (.ptr ⟨s.fl i,0,none⟩) (o1 (nbV nb)) i)) w1:=(hs1.sub [0,1] (by decide) (by simp) rfl ⟨hs1.memC 0 rfl (by kernel_rfl),hs1.memC 1 rfl (by kernel_rfl),trivial⟩)
 have hs3:=HV_HLp hs1'
 generalize hF:LF lb nb s tl tu (.ifc 155 (.ptr ⟨b,0,none⟩)) (.ptr ⟨s.fl i,0,none⟩)=F at hs3
 refine (c107_t F i j s.cv s.n hn1 hn (by omega) hjn s.fl lb nb w1 hs3).mono ?_
 subst hF
 rintro e w2 ⟨rfl,hK2,hs2⟩
 have hs2:=HL_HV hs2
 have hs2':Sat [lb,nb,b3,b5] ((HV s tl tu (.ifc 155 (.ptr ⟨b,0,none⟩)) (.ptr ⟨s.fl i,0,none⟩) (o1 (nbV nb)) (j:Int))++Z2) w2:=hs1.re rfl ⟨hs2.memC 0 rfl (by kernel_rfl),hs2.memC 1 rfl (by kernel_rfl),hs1.kp hK2 2 _ rfl rfl,hs1.kp hK2 3 _ rfl rfl,trivial⟩
 refine ⟨.ptr ⟨s.fl j,0,none⟩,[],((HV s tl tu (.ifc 155 (.ptr ⟨b,0,none⟩)) (.ptr ⟨s.fl i,0,none⟩) (o1 (nbV nb)) (j:Int))++Z2),rfl,hs2',fun hW2=>?_⟩
 refine gr0 (bs:=[lb,nb,b3,b5]) 200 ⟨[],4,[],[],2⟩ hW2 fun w4 hE4 hW4=>?_
 have hs4:=hW4.satD ((HV s tl tu (.ifc 155 (.ptr ⟨b,0,none⟩)) (.ptr ⟨s.fl i,0,none⟩) (o1 (nbV nb)) (j:Int))++Z2) (by kernel_rfl)
 have hK24:Kept [330] w1 w4:=hK2.trans (hE4.mono (by simp))
 have hK04:Kept [330] w w4:=(hE1.mono (by simp)).trans hK24
 have hp4:LPre s lb nb P lo up sm lg (nbV nb) (j:Int) w4:=.inr (.inr ⟨i,at_,hi,hIi,tl,tu,b,vk,vv,(hs4.sub [0,1] (by decide) (by simp) rfl ⟨hs4.memC 0 rfl (by kernel_rfl),hs4.memC 1 rfl (by kernel_rfl),trivial⟩),(hK24.block b (solid_of hb1 (by simp))).trans hb1,hL1.kept hK24 (by simp) (by simp) (by simp),hzb⟩)
 have he4:=he.kept hK04
 refine gc 250 [.p 0 0,.ptr ⟨s.fl j,0,none⟩,.it .i64 1] hW4 ?_
 refine (c250_up s lb nb P fm lo up sm lg (nbV nb) j j hjn w4 he4 hp4 hI).mono ?_
 rintro e w5 ⟨rfl,hK5,tl2,tu2,hs5⟩
 have hs5':Sat [lb,nb,b3,b5] (HV s tl2 tu2 .ni (o1 (nbV (s.fl j))) (o1 (nbV nb)) (j:Int)++Z2) w5:=hs4.re rfl ⟨hs5.memC 0 rfl (by kernel_rfl),hs5.memC 1 rfl (by kernel_rfl),hs4.kp hK5 2 _ rfl rfl,hs4.kp hK5 3 _ rfl rfl,trivial⟩
 refine ⟨.it .i8 0,[],HV s tl2 tu2 .ni (o1 (nbV (s.fl j))) (o1 (nbV nb)) (j:Int)++Z2,rfl,hs5',fun hW5=>?_⟩
 refine gg0 (bs:=[lb,nb,b3,b5]) 200 ⟨[224,4000000],4,[],[],2⟩ hW5 fun w6 hK6 hN6 hW6=>?_
 have hs6:=hW6.satD (HV s tl2 tu2 .ni (o1 (nbV (s.fl j))) (o1 (nbV nb)) (j:Int)++Z2) (by kernel_rfl)
 exact gt (.tup [.np,.agg [.ns,.np]]) hW6.sat ⟨rfl,((hK04.tr hK5 (ts:=KT)).fin hK6 hN6 (fin4 hs5' hfr rfl rfl)),tl2,tu2,(hs6.sub [0,1] (by decide) (by simp) rfl ⟨hs6.memC 0 rfl (by kernel_rfl),hs6.memC 1 rfl (by kernel_rfl),trivial⟩)⟩
theorem c252_f [Bd] (s:LvS) (hn1:1≤s.n) (hn:s.n≤10) (lb nb:Nat) (P:Nat→List S36) (fm:Nat→FM) (lo up:Option (List UInt8)) (sm lg:Nat→List UInt8) (i:Nat) (hi:i < s.n) (at_:Int) (j:Nat) (hj:j=i+1) (hjn:j < s.n) (hI:itbI lo up (sm j) (lg j)=0) (hx:0 < (P j).length) (hB:lBehind (P j) (tuB up (lg j)) 0=false) (w:World) (he:LEnv s lb nb P fm lo up sm lg w) (hIi:itbI lo up (sm i) (lg i)=0) (hp:LOpen s lb nb P lo up sm lg i at_ (nbV nb) i w):
  Calls Tryz.prog 252 #[.pointer (some ⟨lb,0,none⟩)] w fun e w'=>(∃ v,e=.returned v∧KRes w' (some ((P j)[0]'(by omega))) v)∧Kept KT w w'∧LOpen s lb nb P lo up sm lg j 0 (nbV nb) j w':=by
 obtain ⟨tl,tu,b,vk,vv,hs,hb,hL,hzb⟩:=hp
 refine gs (bs:=[lb,nb]) [.p 0 0] _ Tryz.func252 hs (fun hW=>?_)
 refine gr2 200 ⟨[],2,[],[],2⟩ hW fun b3 b5 w1 hfr hE1 hW1=>?_
 have hs1:=hW1.satD ((HV s tl tu (.ifc 155 (.ptr ⟨b,0,none⟩)) (.ptr ⟨s.fl i,0,none⟩) (o1 (nbV nb)) i)++Z2) (by kernel_rfl)
 have hb1:=(hE1.block b (solid_of hb (by simp))).trans hb
 have hL1:=hL.kept hE1 (by simp) (by simp) (by simp)
 refine gc 107 [.p 0 31] hW1 ?_
 have hs1':Sat [lb,nb] ((HV s tl tu (.ifc 155 (.ptr ⟨b,0,none⟩)) (.ptr ⟨s.fl i,0,none⟩) (o1 (nbV nb)) i)) w1:=(hs1.sub [0,1] (by decide) (by simp) rfl ⟨hs1.memC 0 rfl (by kernel_rfl),hs1.memC 1 rfl (by kernel_rfl),trivial⟩)
 have hs3:=HV_HLp hs1'
 generalize hF:LF lb nb s tl tu (.ifc 155 (.ptr ⟨b,0,none⟩)) (.ptr ⟨s.fl i,0,none⟩)=F at hs3
 refine (c107_t F i j s.cv s.n hn1 hn (by omega) hjn s.fl lb nb w1 hs3).mono ?_
 subst hF
 rintro e w2 ⟨rfl,hK2,hs2⟩
 have hs2:=HL_HV hs2
 have hs2':Sat [lb,nb,b3,b5] ((HV s tl tu (.ifc 155 (.ptr ⟨b,0,none⟩)) (.ptr ⟨s.fl i,0,none⟩) (o1 (nbV nb)) (j:Int))++Z2) w2:=hs1.re rfl ⟨hs2.memC 0 rfl (by kernel_rfl),hs2.memC 1 rfl (by kernel_rfl),hs1.kp hK2 2 _ rfl rfl,hs1.kp hK2 3 _ rfl rfl,trivial⟩
 refine ⟨.ptr ⟨s.fl j,0,none⟩,[],((HV s tl tu (.ifc 155 (.ptr ⟨b,0,none⟩)) (.ptr ⟨s.fl i,0,none⟩) (o1 (nbV nb)) (j:Int))++Z2),rfl,hs2',fun hW2=>?_⟩
 refine gr0 (bs:=[lb,nb,b3,b5]) 200 ⟨[],4,[],[],2⟩ hW2 fun w4 hE4 hW4=>?_
 have hs4:=hW4.satD ((HV s tl tu (.ifc 155 (.ptr ⟨b,0,none⟩)) (.ptr ⟨s.fl i,0,none⟩) (o1 (nbV nb)) (j:Int))++Z2) (by kernel_rfl)
 have hK24:Kept [330] w1 w4:=hK2.trans (hE4.mono (by simp))
 have hK04:Kept [330] w w4:=(hE1.mono (by simp)).trans hK24
 have hp4:LPre s lb nb P lo up sm lg (nbV nb) (j:Int) w4:=.inr (.inr ⟨i,at_,hi,hIi,tl,tu,b,vk,vv,(hs4.sub [0,1] (by decide) (by simp) rfl ⟨hs4.memC 0 rfl (by kernel_rfl),hs4.memC 1 rfl (by kernel_rfl),trivial⟩),(hK24.block b (solid_of hb1 (by simp))).trans hb1,hL1.kept hK24 (by simp) (by simp) (by simp),hzb⟩)
 have he4:=he.kept hK04
 refine gc 250 [.p 0 0,.ptr ⟨s.fl j,0,none⟩,.it .i64 1] hW4 ?_
 refine (c250_in s lb nb P fm lo up sm lg (nbV nb) j j hjn ⟨.int .i64 1,rfl⟩ w4 he4 hp4 hI).mono ?_
 rintro e w5 ⟨⟨k,at2,hk,rfl,_,tl2,tu2,b2,vk2,vv2,hs5,hb5,hL5,hzb⟩,hK5⟩
 have hs5':Sat [lb,nb,b3,b5] (HV s tl2 tu2 (.ifc 155 (.ptr ⟨b2,0,none⟩)) (.ptr ⟨s.fl j,0,none⟩) (o1 (nbV nb)) j++Z2) w5:=hs4.re rfl ⟨hs5.memC 0 rfl (by kernel_rfl),hs5.memC 1 rfl (by kernel_rfl),hs4.kp hK5 2 _ rfl rfl,hs4.kp hK5 3 _ rfl rfl,trivial⟩
 refine ⟨.si .i8 k,[],HV s tl2 tu2 (.ifc 155 (.ptr ⟨b2,0,none⟩)) (.ptr ⟨s.fl j,0,none⟩) (o1 (nbV nb)) j++Z2,rfl,hs5',fun hW5=>?_⟩
 refine gr0 (bs:=[lb,nb,b3,b5]) 200 ⟨[],4,[],[(156,false)],2⟩ hW5 (fun w6 hE6 hW6=>?_) [(k==0,false)] ⟨by rcases hk with rfl|rfl<;>rfl,trivial⟩
 have hs6:=hW6.satD (HV s tl2 tu2 (.ifc 155 (.ptr ⟨b2,0,none⟩)) (.ptr ⟨s.fl j,0,none⟩) (o1 (nbV nb)) j++Z2) (by kernel_rfl)
 refine gc 208 [.ptr ⟨b2,0,none⟩] hW6 ?_
 have hL6:=hL5.kept hE6 (by simp) (by simp) (by simp)
 refine (c208 b2 vk2 vv2 tl2.1 tu2.1 at2 (P j) (tlB lo (sm j)) (tuB up (lg j)) w6 ((hE6.block b2 (solid_of hb5 (by simp))).trans hb5) hL6).mono ?_
 rintro e w7 ⟨⟨v,rfl,hres⟩,hrow,hK7⟩
 rw [if_neg (by rw [hB];decide)] at hres
 obtain ⟨hx',g,gn,gc,vu,hvk,rfl,hvu⟩:=hres
 have hL7:=hL6.kept hK7 (by simp) (by simp) (by simp)
 have hs7:Sat [lb,nb,b3,b5] (HV s tl2 tu2 (.ifc 155 (.ptr ⟨b2,0,none⟩)) (.ptr ⟨s.fl j,0,none⟩) (o1 (nbV nb)) j++Z2) w7:=hs6.kq hK7
 refine ⟨.tup [.ptr ⟨g,0*2,none⟩,.agg [.oc vu (RdS.one hvu),.np]],[],HV s tl2 tu2 (.ifc 155 (.ptr ⟨b2,0,none⟩)) (.ptr ⟨s.fl j,0,none⟩) (o1 (nbV nb)) j++Z2,rfl,hs7,fun hW7=>?_⟩
 refine gg0 (bs:=[lb,nb,b3,b5]) 200 ⟨[224,4000000],4,[],[],2⟩ hW7 fun w8 hK8 hN8 hW8=>?_
 have hs8:=hW8.satD (HV s tl2 tu2 (.ifc 155 (.ptr ⟨b2,0,none⟩)) (.ptr ⟨s.fl j,0,none⟩) (o1 (nbV nb)) j++[⟨224,[.oc vu (RdS.one hvu),.np]⟩,⟨224,[.oc vu (RdS.one hvu),.np]⟩]) (by kernel_rfl)
 have hs8':Sat [lb,nb] (HV s tl2 tu2 (.ifc 155 (.ptr ⟨b2,0,none⟩)) (.ptr ⟨s.fl j,0,none⟩) (o1 (nbV nb)) j) w8:=(hs8.sub [0,1] (by decide) (by simp) rfl ⟨hs8.memC 0 rfl (by kernel_rfl),hs8.memC 1 rfl (by kernel_rfl),trivial⟩)
 refine gt (.tup [.ptr ⟨g,0*2,none⟩,.agg [.oc vu (RdS.one hvu),.np]]) hW8.sat ⟨⟨_,rfl,(kres_of hL7 hx' hvk hvu).kept hK8⟩,(hK04.tr (hK5.tr (hE6.tr hK7 (ts:=KT)) (ts:=KT)) (ts:=KT)).fin hK8 hN8 (fin4 hs7 hfr rfl rfl),tl2,tu2,b2,vk2,vv2,hs8',(hK8.block b2 (solid_of hrow (by simp))).trans hrow,hL7.kept hK8 (by simp) (by simp) (by simp),hzb⟩
theorem c254_n [Bd] (s:LvS) (hn1:1≤s.n) (hn:s.n≤10) (lb nb:Nat) (P:Nat→List S36) (fm:Nat→FM) (lo up:Option (List UInt8)) (sm lg:Nat→List UInt8) (i:Nat) (hi:i < s.n) (at_:Int) (hi1:i=0) (w:World) (he:LEnv s lb nb P fm lo up sm lg w) (hIi:itbI lo up (sm i) (lg i)=0) (hp:LOpen s lb nb P lo up sm lg i at_ (nbV nb) i w):
  Calls Tryz.prog 254 #[.pointer (some ⟨lb,0,none⟩)] w fun e w'=>e=.returned (.tuple #[.pointer none,.agg #[.slice none 0 0,.pointer none]])∧Kept KT w w'∧LShut s lb nb npV (nbV nb) (-1) w':=by
 obtain ⟨tl,tu,b,vk,vv,hs,hb,hL,hzb⟩:=hp
 refine gs (bs:=[lb,nb]) [.p 0 0] _ Tryz.func254 hs (fun hW=>?_)
 refine gr2 200 ⟨[],2,[],[],2⟩ hW fun b3 b5 w1 hfr hE1 hW1=>?_
 have hs1:=hW1.satD ((HV s tl tu (.ifc 155 (.ptr ⟨b,0,none⟩)) (.ptr ⟨s.fl i,0,none⟩) (o1 (nbV nb)) i)++Z2) (by kernel_rfl)
 have hb1:=(hE1.block b (solid_of hb (by simp))).trans hb
 have hL1:=hL.kept hE1 (by simp) (by simp) (by simp)
 refine gc 255 [.p 0 31] hW1 ?_
 have hs1':Sat [lb,nb] ((HV s tl tu (.ifc 155 (.ptr ⟨b,0,none⟩)) (.ptr ⟨s.fl i,0,none⟩) (o1 (nbV nb)) i)) w1:=(hs1.sub [0,1] (by decide) (by simp) rfl ⟨hs1.memC 0 rfl (by kernel_rfl),hs1.memC 1 rfl (by kernel_rfl),trivial⟩)
 have hs3:=HV_HLp hs1'
 generalize hF:LF lb nb s tl tu (.ifc 155 (.ptr ⟨b,0,none⟩)) (.ptr ⟨s.fl i,0,none⟩)=F at hs3
 refine (c255_f F s.cv s.n hn1 hn s.fl lb nb w1 (by rw [hi1] at hs3;exact hs3)).mono ?_
 subst hF
 rintro e w2 ⟨rfl,hK2,hs2⟩
 have hs2:=HL_HV hs2
 have hs2':Sat [lb,nb,b3,b5] ((HV s tl tu (.ifc 155 (.ptr ⟨b,0,none⟩)) (.ptr ⟨s.fl i,0,none⟩) (o1 (nbV nb)) (-1))++Z2) w2:=hs1.re rfl ⟨hs2.memC 0 rfl (by kernel_rfl),hs2.memC 1 rfl (by kernel_rfl),hs1.kp hK2 2 _ rfl rfl,hs1.kp hK2 3 _ rfl rfl,trivial⟩
 refine ⟨.np,[],((HV s tl tu (.ifc 155 (.ptr ⟨b,0,none⟩)) (.ptr ⟨s.fl i,0,none⟩) (o1 (nbV nb)) (-1))++Z2),rfl,hs2',fun hW2=>?_⟩
 refine gr0 (bs:=[lb,nb,b3,b5]) 200 ⟨[],4,[],[],2⟩ hW2 fun w4 hE4 hW4=>?_
 have hs4:=hW4.satD ((HV s tl tu (.ifc 155 (.ptr ⟨b,0,none⟩)) (.ptr ⟨s.fl i,0,none⟩) (o1 (nbV nb)) (-1))++Z2) (by kernel_rfl)
 have hK24:Kept [330] w1 w4:=hK2.trans (hE4.mono (by simp))
 have hK04:Kept [330] w w4:=(hE1.mono (by simp)).trans hK24
 have hp4:LPre s lb nb P lo up sm lg (nbV nb) (-1) w4:=.inr (.inr ⟨i,at_,hi,hIi,tl,tu,b,vk,vv,(hs4.sub [0,1] (by decide) (by simp) rfl ⟨hs4.memC 0 rfl (by kernel_rfl),hs4.memC 1 rfl (by kernel_rfl),trivial⟩),(hK24.block b (solid_of hb1 (by simp))).trans hb1,hL1.kept hK24 (by simp) (by simp) (by simp),hzb⟩)
 have he4:=he.kept hK04
 refine gc 250 [.p 0 0,.np,.it .i64 (-1)] hW4 ?_
 refine (c250_nil s lb nb P lo up sm lg (nbV nb) (-1) ⟨.int .i64 (-1),rfl⟩ w4 hp4).mono ?_
 rintro e w5 ⟨rfl,hK5,tl2,tu2,hs5⟩
 have hs5':Sat [lb,nb,b3,b5] (HV s tl2 tu2 .ni (o1 npV) (o1 (nbV nb)) (-1)++Z2) w5:=hs4.re rfl ⟨hs5.memC 0 rfl (by kernel_rfl),hs5.memC 1 rfl (by kernel_rfl),hs4.kp hK5 2 _ rfl rfl,hs4.kp hK5 3 _ rfl rfl,trivial⟩
 refine ⟨.it .i8 0,[],HV s tl2 tu2 .ni (o1 npV) (o1 (nbV nb)) (-1)++Z2,rfl,hs5',fun hW5=>?_⟩
 refine gg0 (bs:=[lb,nb,b3,b5]) 200 ⟨[224,4000000],4,[],[],2⟩ hW5 fun w6 hK6 hN6 hW6=>?_
 have hs6:=hW6.satD (HV s tl2 tu2 .ni (o1 npV) (o1 (nbV nb)) (-1)++Z2) (by kernel_rfl)
 exact gt (.tup [.np,.agg [.ns,.np]]) hW6.sat ⟨rfl,((hK04.tr hK5 (ts:=KT)).fin hK6 hN6 (fin4 hs5' hfr rfl rfl)),tl2,tu2,(hs6.sub [0,1] (by decide) (by simp) rfl ⟨hs6.memC 0 rfl (by kernel_rfl),hs6.memC 1 rfl (by kernel_rfl),trivial⟩)⟩
theorem c254_o [Bd] (s:LvS) (hn1:1≤s.n) (hn:s.n≤10) (lb nb:Nat) (P:Nat→List S36) (fm:Nat→FM) (lo up:Option (List UInt8)) (sm lg:Nat→List UInt8) (i:Nat) (hi:i < s.n) (at_:Int) (j:Nat) (hj:i=j+1) (hjn:j < s.n) (hI:itbI lo up (sm j) (lg j)= -1) (w:World) (he:LEnv s lb nb P fm lo up sm lg w) (hIi:itbI lo up (sm i) (lg i)=0) (hp:LOpen s lb nb P lo up sm lg i at_ (nbV nb) i w):
  Calls Tryz.prog 254 #[.pointer (some ⟨lb,0,none⟩)] w fun e w'=>e=.returned (.tuple #[.pointer none,.agg #[.slice none 0 0,.pointer none]])∧Kept KT w w'∧LShut s lb nb (nbV (s.fl j)) (nbV nb) (j:Int) w':=by
 obtain ⟨tl,tu,b,vk,vv,hs,hb,hL,hzb⟩:=hp
 refine gs (bs:=[lb,nb]) [.p 0 0] _ Tryz.func254 hs (fun hW=>?_)
 refine gr2 200 ⟨[],2,[],[],2⟩ hW fun b3 b5 w1 hfr hE1 hW1=>?_
 have hs1:=hW1.satD ((HV s tl tu (.ifc 155 (.ptr ⟨b,0,none⟩)) (.ptr ⟨s.fl i,0,none⟩) (o1 (nbV nb)) i)++Z2) (by kernel_rfl)
 have hb1:=(hE1.block b (solid_of hb (by simp))).trans hb
 have hL1:=hL.kept hE1 (by simp) (by simp) (by simp)
 refine gc 255 [.p 0 31] hW1 ?_
 have hs1':Sat [lb,nb] ((HV s tl tu (.ifc 155 (.ptr ⟨b,0,none⟩)) (.ptr ⟨s.fl i,0,none⟩) (o1 (nbV nb)) i)) w1:=(hs1.sub [0,1] (by decide) (by simp) rfl ⟨hs1.memC 0 rfl (by kernel_rfl),hs1.memC 1 rfl (by kernel_rfl),trivial⟩)
 have hs3:=HV_HLp hs1'
 generalize hF:LF lb nb s tl tu (.ifc 155 (.ptr ⟨b,0,none⟩)) (.ptr ⟨s.fl i,0,none⟩)=F at hs3
 refine (c255_t F i j s.cv s.n hn1 hn (by omega) hjn s.fl lb nb w1 hs3).mono ?_
 subst hF
 rintro e w2 ⟨rfl,hK2,hs2⟩
 have hs2:=HL_HV hs2
 have hs2':Sat [lb,nb,b3,b5] ((HV s tl tu (.ifc 155 (.ptr ⟨b,0,none⟩)) (.ptr ⟨s.fl i,0,none⟩) (o1 (nbV nb)) (j:Int))++Z2) w2:=hs1.re rfl ⟨hs2.memC 0 rfl (by kernel_rfl),hs2.memC 1 rfl (by kernel_rfl),hs1.kp hK2 2 _ rfl rfl,hs1.kp hK2 3 _ rfl rfl,trivial⟩
 refine ⟨.ptr ⟨s.fl j,0,none⟩,[],((HV s tl tu (.ifc 155 (.ptr ⟨b,0,none⟩)) (.ptr ⟨s.fl i,0,none⟩) (o1 (nbV nb)) (j:Int))++Z2),rfl,hs2',fun hW2=>?_⟩
 refine gr0 (bs:=[lb,nb,b3,b5]) 200 ⟨[],4,[],[],2⟩ hW2 fun w4 hE4 hW4=>?_
 have hs4:=hW4.satD ((HV s tl tu (.ifc 155 (.ptr ⟨b,0,none⟩)) (.ptr ⟨s.fl i,0,none⟩) (o1 (nbV nb)) (j:Int))++Z2) (by kernel_rfl)
 have hK24:Kept [330] w1 w4:=hK2.trans (hE4.mono (by simp))
 have hK04:Kept [330] w w4:=(hE1.mono (by simp)).trans hK24
 have hp4:LPre s lb nb P lo up sm lg (nbV nb) (j:Int) w4:=.inr (.inr ⟨i,at_,hi,hIi,tl,tu,b,vk,vv,(hs4.sub [0,1] (by decide) (by simp) rfl ⟨hs4.memC 0 rfl (by kernel_rfl),hs4.memC 1 rfl (by kernel_rfl),trivial⟩),(hK24.block b (solid_of hb1 (by simp))).trans hb1,hL1.kept hK24 (by simp) (by simp) (by simp),hzb⟩)
 have he4:=he.kept hK04
 refine gc 250 [.p 0 0,.ptr ⟨s.fl j,0,none⟩,.it .i64 (-1)] hW4 ?_
 refine (c250_lo s lb nb P fm lo up sm lg (nbV nb) j j hjn w4 he4 hp4 hI).mono ?_
 rintro e w5 ⟨rfl,hK5,tl2,tu2,hs5⟩
 have hs5':Sat [lb,nb,b3,b5] (HV s tl2 tu2 .ni (o1 (nbV (s.fl j))) (o1 (nbV nb)) (j:Int)++Z2) w5:=hs4.re rfl ⟨hs5.memC 0 rfl (by kernel_rfl),hs5.memC 1 rfl (by kernel_rfl),hs4.kp hK5 2 _ rfl rfl,hs4.kp hK5 3 _ rfl rfl,trivial⟩
 refine ⟨.it .i8 0,[],HV s tl2 tu2 .ni (o1 (nbV (s.fl j))) (o1 (nbV nb)) (j:Int)++Z2,rfl,hs5',fun hW5=>?_⟩
 refine gg0 (bs:=[lb,nb,b3,b5]) 200 ⟨[224,4000000],4,[],[],2⟩ hW5 fun w6 hK6 hN6 hW6=>?_
 have hs6:=hW6.satD (HV s tl2 tu2 .ni (o1 (nbV (s.fl j))) (o1 (nbV nb)) (j:Int)++Z2) (by kernel_rfl)
 exact gt (.tup [.np,.agg [.ns,.np]]) hW6.sat ⟨rfl,((hK04.tr hK5 (ts:=KT)).fin hK6 hN6 (fin4 hs5' hfr rfl rfl)),tl2,tu2,(hs6.sub [0,1] (by decide) (by simp) rfl ⟨hs6.memC 0 rfl (by kernel_rfl),hs6.memC 1 rfl (by kernel_rfl),trivial⟩)⟩
theorem c254_f [Bd] (s:LvS) (hn1:1≤s.n) (hn:s.n≤10) (lb nb:Nat) (P:Nat→List S36) (fm:Nat→FM) (lo up:Option (List UInt8)) (sm lg:Nat→List UInt8) (i:Nat) (hi:i < s.n) (at_:Int) (j:Nat) (hj:i=j+1) (hjn:j < s.n) (hI:itbI lo up (sm j) (lg j)=0) (hx:0 < (P j).length) (hB:lAhead (P j) (tlB lo (sm j)) (((P j).length:Int) - 1)=false) (w:World) (he:LEnv s lb nb P fm lo up sm lg w) (hIi:itbI lo up (sm i) (lg i)=0) (hp:LOpen s lb nb P lo up sm lg i at_ (nbV nb) i w):
  Calls Tryz.prog 254 #[.pointer (some ⟨lb,0,none⟩)] w fun e w'=>(∃ v,e=.returned v∧KRes w' (some ((P j)[((P j).length - 1)]'(by omega))) v)∧Kept KT w w'∧LOpen s lb nb P lo up sm lg j (((P j).length:Int) - 1) (nbV nb) j w':=by
 obtain ⟨tl,tu,b,vk,vv,hs,hb,hL,hzb⟩:=hp
 refine gs (bs:=[lb,nb]) [.p 0 0] _ Tryz.func254 hs (fun hW=>?_)
 refine gr2 200 ⟨[],2,[],[],2⟩ hW fun b3 b5 w1 hfr hE1 hW1=>?_
 have hs1:=hW1.satD ((HV s tl tu (.ifc 155 (.ptr ⟨b,0,none⟩)) (.ptr ⟨s.fl i,0,none⟩) (o1 (nbV nb)) i)++Z2) (by kernel_rfl)
 have hb1:=(hE1.block b (solid_of hb (by simp))).trans hb
 have hL1:=hL.kept hE1 (by simp) (by simp) (by simp)
 refine gc 255 [.p 0 31] hW1 ?_
 have hs1':Sat [lb,nb] ((HV s tl tu (.ifc 155 (.ptr ⟨b,0,none⟩)) (.ptr ⟨s.fl i,0,none⟩) (o1 (nbV nb)) i)) w1:=(hs1.sub [0,1] (by decide) (by simp) rfl ⟨hs1.memC 0 rfl (by kernel_rfl),hs1.memC 1 rfl (by kernel_rfl),trivial⟩)
 have hs3:=HV_HLp hs1'
 generalize hF:LF lb nb s tl tu (.ifc 155 (.ptr ⟨b,0,none⟩)) (.ptr ⟨s.fl i,0,none⟩)=F at hs3
 refine (c255_t F i j s.cv s.n hn1 hn (by omega) hjn s.fl lb nb w1 hs3).mono ?_
 subst hF
 rintro e w2 ⟨rfl,hK2,hs2⟩
 have hs2:=HL_HV hs2
 have hs2':Sat [lb,nb,b3,b5] ((HV s tl tu (.ifc 155 (.ptr ⟨b,0,none⟩)) (.ptr ⟨s.fl i,0,none⟩) (o1 (nbV nb)) (j:Int))++Z2) w2:=hs1.re rfl ⟨hs2.memC 0 rfl (by kernel_rfl),hs2.memC 1 rfl (by kernel_rfl),hs1.kp hK2 2 _ rfl rfl,hs1.kp hK2 3 _ rfl rfl,trivial⟩
 refine ⟨.ptr ⟨s.fl j,0,none⟩,[],((HV s tl tu (.ifc 155 (.ptr ⟨b,0,none⟩)) (.ptr ⟨s.fl i,0,none⟩) (o1 (nbV nb)) (j:Int))++Z2),rfl,hs2',fun hW2=>?_⟩
 refine gr0 (bs:=[lb,nb,b3,b5]) 200 ⟨[],4,[],[],2⟩ hW2 fun w4 hE4 hW4=>?_
 have hs4:=hW4.satD ((HV s tl tu (.ifc 155 (.ptr ⟨b,0,none⟩)) (.ptr ⟨s.fl i,0,none⟩) (o1 (nbV nb)) (j:Int))++Z2) (by kernel_rfl)
 have hK24:Kept [330] w1 w4:=hK2.trans (hE4.mono (by simp))
 have hK04:Kept [330] w w4:=(hE1.mono (by simp)).trans hK24
 have hp4:LPre s lb nb P lo up sm lg (nbV nb) (j:Int) w4:=.inr (.inr ⟨i,at_,hi,hIi,tl,tu,b,vk,vv,(hs4.sub [0,1] (by decide) (by simp) rfl ⟨hs4.memC 0 rfl (by kernel_rfl),hs4.memC 1 rfl (by kernel_rfl),trivial⟩),(hK24.block b (solid_of hb1 (by simp))).trans hb1,hL1.kept hK24 (by simp) (by simp) (by simp),hzb⟩)
 have he4:=he.kept hK04
 refine gc 250 [.p 0 0,.ptr ⟨s.fl j,0,none⟩,.it .i64 (-1)] hW4 ?_
 refine (c250_in s lb nb P fm lo up sm lg (nbV nb) j j hjn ⟨.int .i64 (-1),rfl⟩ w4 he4 hp4 hI).mono ?_
 rintro e w5 ⟨⟨k,at2,hk,rfl,_,tl2,tu2,b2,vk2,vv2,hs5,hb5,hL5,hzb⟩,hK5⟩
 have hs5':Sat [lb,nb,b3,b5] (HV s tl2 tu2 (.ifc 155 (.ptr ⟨b2,0,none⟩)) (.ptr ⟨s.fl j,0,none⟩) (o1 (nbV nb)) j++Z2) w5:=hs4.re rfl ⟨hs5.memC 0 rfl (by kernel_rfl),hs5.memC 1 rfl (by kernel_rfl),hs4.kp hK5 2 _ rfl rfl,hs4.kp hK5 3 _ rfl rfl,trivial⟩
 refine ⟨.si .i8 k,[],HV s tl2 tu2 (.ifc 155 (.ptr ⟨b2,0,none⟩)) (.ptr ⟨s.fl j,0,none⟩) (o1 (nbV nb)) j++Z2,rfl,hs5',fun hW5=>?_⟩
 refine gr0 (bs:=[lb,nb,b3,b5]) 200 ⟨[],4,[],[(156,false)],2⟩ hW5 (fun w6 hE6 hW6=>?_) [(k==0,false)] ⟨by rcases hk with rfl|rfl<;>rfl,trivial⟩
 have hs6:=hW6.satD (HV s tl2 tu2 (.ifc 155 (.ptr ⟨b2,0,none⟩)) (.ptr ⟨s.fl j,0,none⟩) (o1 (nbV nb)) j++Z2) (by kernel_rfl)
 refine gc 209 [.ptr ⟨b2,0,none⟩] hW6 ?_
 have hL6:=hL5.kept hE6 (by simp) (by simp) (by simp)
 refine (c209 b2 vk2 vv2 tl2.1 tu2.1 at2 (P j) (tlB lo (sm j)) (tuB up (lg j)) w6 ((hE6.block b2 (solid_of hb5 (by simp))).trans hb5) hL6).mono ?_
 rintro e w7 ⟨⟨v,rfl,hres⟩,hrow,hK7⟩
 rw [if_neg (by rw [hB];decide)] at hres
 obtain ⟨hx',g,gn,gc,vu,hvk,rfl,hvu⟩:=hres
 have hL7:=hL6.kept hK7 (by simp) (by simp) (by simp)
 have hs7:Sat [lb,nb,b3,b5] (HV s tl2 tu2 (.ifc 155 (.ptr ⟨b2,0,none⟩)) (.ptr ⟨s.fl j,0,none⟩) (o1 (nbV nb)) j++Z2) w7:=hs6.kq hK7
 refine ⟨.tup [.ptr ⟨g,((P j).length - 1)*2,none⟩,.agg [.oc vu (RdS.one hvu),.np]],[],HV s tl2 tu2 (.ifc 155 (.ptr ⟨b2,0,none⟩)) (.ptr ⟨s.fl j,0,none⟩) (o1 (nbV nb)) j++Z2,rfl,hs7,fun hW7=>?_⟩
 refine gg0 (bs:=[lb,nb,b3,b5]) 200 ⟨[224,4000000],4,[],[],2⟩ hW7 fun w8 hK8 hN8 hW8=>?_
 have hs8:=hW8.satD (HV s tl2 tu2 (.ifc 155 (.ptr ⟨b2,0,none⟩)) (.ptr ⟨s.fl j,0,none⟩) (o1 (nbV nb)) j++[⟨224,[.oc vu (RdS.one hvu),.np]⟩,⟨224,[.oc vu (RdS.one hvu),.np]⟩]) (by kernel_rfl)
 have hs8':Sat [lb,nb] (HV s tl2 tu2 (.ifc 155 (.ptr ⟨b2,0,none⟩)) (.ptr ⟨s.fl j,0,none⟩) (o1 (nbV nb)) j) w8:=(hs8.sub [0,1] (by decide) (by simp) rfl ⟨hs8.memC 0 rfl (by kernel_rfl),hs8.memC 1 rfl (by kernel_rfl),trivial⟩)
 refine gt (.tup [.ptr ⟨g,((P j).length - 1)*2,none⟩,.agg [.oc vu (RdS.one hvu),.np]]) hW8.sat ⟨⟨_,rfl,(kres_of hL7 hx' hvk hvu).kept hK8⟩,(hK04.tr (hK5.tr (hE6.tr hK7 (ts:=KT)) (ts:=KT)) (ts:=KT)).fin hK8 hN8 (fin4 hs7 hfr rfl rfl),tl2,tu2,b2,vk2,vv2,hs8',(hK8.block b2 (solid_of hrow (by simp))).trans hrow,hL7.kept hK8 (by simp) (by simp) (by simp),hzb⟩
end Go.Proofs.YtghppnklhbbffaaGreatDoor.X
