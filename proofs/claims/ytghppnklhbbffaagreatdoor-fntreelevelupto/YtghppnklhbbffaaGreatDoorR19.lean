/- Part 19 of the proof that laws.FnTreeLevel answers true, for arguments of small bulk. -/
import Derived.Test.YtghppnklhbbffaaGreatDoorR05
import Derived.Test.YtghppnklhbbffaaGreatDoorR18
set_option linter.all false
set_option maxHeartbeats 4000000
set_option maxRecDepth 100000
namespace Go.Proofs.YtghppnklhbbffaaGreatDoor.X
open Go Go.RowKit Go.Proofs.YtghppnklhbbffaaGreatDoor.TL Go.Proofs.YtghppnklhbbffaaGreatDoor.PFnTreeLevel
theorem Sat.memC [Bd] {bs:List Nat} {H:List SB} {w:World} (h:Sat bs H w) (i:Nat) {b:Nat} {ty:TypeId} {bs':List Nat} {l':List SV} (hb:nmB bs i=b) (e:(H[i]?).map (fun o=>(o.ty,SV.denL bs o.cs))=some (ty,SV.denL bs' l')):w.heap[b]? =some (.cells (SV.denL bs' l').toArray ty (0,0)):=by
 cases ho:H[i]? with
 |none=>rw [ho] at e;cases e
 |some o=>
  rw [ho] at e
  simp only [Option.map_some,Option.some.injEq,Prod.mk.injEq] at e
  have:=h.mem i o ho
  rw [e.1,e.2,hb] at this
  exact this
abbrev niV:V1:=⟨.nilIface,rfl⟩
abbrev npV:V1:=⟨.pointer none,rfl⟩
abbrev lsV (b:Nat):V1:=⟨.iface 155 (.pointer (some ⟨b,0,none⟩)),rfl⟩
def OpenH [Bd] (s:LvS) (lb nb:Nat) (P:Nat→List S36) (w:World):Prop:=
 ∀ i,i < s.n→ ∀ (tl tu it fi nv:V1) (pos:Int) (lo' up':Option (List UInt8)) (w':World),Kept [330,266,224,50] w w'→Sat [lb,nb] (HV s tl tu (o1 it) (o1 fi) (o1 nv) pos) w'→RdO w' tl.1 lo'→RdO w' tu.1 up'→
  Calls Tryz.prog 89 #[.pointer (some ⟨s.fl i,0,none⟩),.pointer (some ⟨lb,5,none⟩),.agg #[s.f 48,s.f 49],.pointer (some s.nf)] w' fun e w''=> ∃ b vk vv,e=.returned (.tuple #[.iface 155 (.pointer (some ⟨b,0,none⟩)),.nilIface,.nilIface])∧w'.heap.size≤b∧w''.heap[b]? =some (.cells #[vk,vv,.int .i64 (-1),tl.1,tu.1] 266 (0,0))∧LstC w'' vk vv tl.1 tu.1 (P i) lo' up'∧Ext w' w''
theorem OpenH.kept [Bd] {s:LvS} {lb nb:Nat} {P:Nat→List S36} {w w1:World} {ts:List TypeId} (h:OpenH s lb nb P w) (hk:Kept ts w w1) (ht: ∀ t∈ts,t∈[330,266,224,50]:=by simp):OpenH s lb nb P w1:=
 fun i hi tl tu it fi nv pos lo' up' w' hk'=>h i hi tl tu it fi nv pos lo' up' w' ((hk.mono ht).trans hk')
def LOpen [Bd] (s:LvS) (lb nb:Nat) (P:Nat→List S36) (lo up:Option (List UInt8)) (sm lg:Nat→List UInt8) (i:Nat) (at_:Int) (nv:V1) (pos:Int) (w:World):Prop:=
 ∃ (tl tu:V1) (b:Nat) (vk vv:Value),Sat [lb,nb] (HV s tl tu (.ifc 155 (.ptr ⟨b,0,none⟩)) (.ptr ⟨s.fl i,0,none⟩) (o1 nv) pos) w∧w.heap[b]? =some (.cells #[vk,vv,.int .i64 at_,tl.1,tu.1] 266 (0,0))∧LstC w vk vv tl.1 tu.1 (P i) (tlB lo (sm i)) (tuB up (lg i))∧Bd.B≤b
def LShut [Bd] (s:LvS) (lb nb:Nat) (fi:V1) (nv:V1) (pos:Int) (w:World):Prop:=
 ∃ (tl tu:V1),Sat [lb,nb] (HV s tl tu .ni (o1 fi) (o1 nv) pos) w
abbrev F1 (m:FM):List SB:=[⟨188,fmS m⟩]
abbrev F2 (m m2:FM):List SB:=[⟨188,fmS m⟩,⟨188,fmS m2⟩]
abbrev k27_0 (s:LvS):List SV:=[.p 2 0,.p 0 5,.agg [.va (s.f 48),.va (s.f 49)],.ptr s.nf]
theorem c250_a_0 [Bd] (s:LvS) (P:Nat→List S36) (tl tu nv:V1) (pos:Int) (lo up:Option (List UInt8)) (sm lg:Nat→List UInt8) (i:Nat) (hi:i < s.n) (m:FM) (d:V1) (lb nb:Nat) (w:World)
  (hs:Sat [lb,nb,s.fl i] (HV s tl tu .ni .np (o1 nv) pos++F1 m) w) (hsm:RdS w m.u1 (sm i)) (hlg:RdS w m.u2 (lg i)) (hlo:RdO w s.lo.1 lo) (hup:RdO w s.up.1 up) (hI:itbI lo up (sm i) (lg i)=0) (hop:OpenH s lb nb P w):
  Calls Tryz.prog 250 #[.pointer (some ⟨lb,0,none⟩),.pointer (some ⟨s.fl i,0,none⟩),d.1] w fun e w'=>e=.returned (.int .i8 2)∧Kept [330] w w'∧LOpen s lb nb P lo up sm lg i (-1) nv pos w':=by
 refine gs (bs:=[lb,nb,s.fl i]) [.p 0 0,.p 2 0,(o1 d)] _ Tryz.func250 hs (fun hW=>?_)
 refine ga0 200 ⟨[330],3,[],[],0⟩ hW (Fr.refl _ _ _) fun w1 hF1 hW1=>?_
 have hs1:=hW1.sq (HV s tl tu .ni .np (o1 nv) pos++F1 m)
 refine gc 238 [.p 0 0] hW1 ?_
 refine (c238_n s tl tu npV nv pos lb nb w1 (hs1.sub [0,1] (by decide) (by simp) rfl ⟨hs1.memC 0 rfl (by kernel_rfl),hs1.memC 1 rfl (by kernel_rfl),trivial⟩)).mono ?_
 rintro e w2 ⟨rfl,hK2,hs2⟩
 have hs2':Sat [lb,nb,s.fl i] (HV s tl tu .ni .np (o1 nv) pos++F1 m) w2:=hs1.re rfl ⟨hs2.memC 0 rfl (by kernel_rfl),hs2.memC 1 rfl (by kernel_rfl),hs1.kp hK2 2 _ rfl rfl,trivial⟩
 refine ⟨.ni,[],(HV s tl tu .ni .np (o1 nv) pos++F1 m),rfl,hs2',fun hW2=>?_⟩
 refine ga0 (bs:=[lb,nb,s.fl i]) 200 ⟨[330],3,[],[],1⟩ hW2 (hF1.call (nw:=[]) hK2) fun w3 hF3 hW3=>?_
 have hs3:=hW3.sq (HV s tl tu .ni (.p 2 0) (o1 nv) pos++F1 m)
 refine gc 259 [.p 0 0,.p 2 0,(o1 d)] hW3 ?_
 refine (c259 (nbV lb) d m (s.fl i) w3 (hs3.sub [2] (by decide) (by simp) rfl ⟨hs3.memC 2 rfl (by kernel_rfl),trivial⟩)).mono ?_
 rintro e w4 ⟨rfl,hE4⟩
 have hs4:Sat [lb,nb,s.fl i] (HV s tl tu .ni (.p 2 0) (o1 nv) pos++F1 m) w4:=hs3.kq hE4
 refine ⟨.tup [],[],(HV s tl tu .ni (.p 2 0) (o1 nv) pos++F1 m),rfl,hs4,fun hW4=>?_⟩
 refine ga0 (bs:=[lb,nb,s.fl i]) 200 ⟨[330],3,[],[],1⟩ hW4 (hF3.call (nw:=[]) hE4) fun w5 hF5 hW5=>?_
 have hs5:=hW5.sq (HV s tl tu .ni (.p 2 0) (o1 nv) pos++F1 m)
 refine gc 260 [.p 0 0,.p 2 0] hW5 ?_
 refine (c260 s tl tu niV (nbV (s.fl i)) nv pos m lo up (sm i) (lg i) lb nb (s.fl i) w5 (hs5.sub [0,1,2] (by decide) (by simp) rfl ⟨hs5.memC 0 rfl (by kernel_rfl),hs5.memC 1 rfl (by kernel_rfl),hs5.memC 2 rfl (by kernel_rfl),trivial⟩) (hsm.kept hF5.kept (by simp)) (hlg.kept hF5.kept (by simp)) (hlo.kept hF5.kept (by simp)) (hup.kept hF5.kept (by simp))).mono ?_
 rintro e w6 ⟨rfl,hK6,tl2,tu2,hs6,hb6⟩
 rw [hI]
 have hs6':Sat [lb,nb,s.fl i] (HV s tl2 tu2 .ni (.p 2 0) (o1 nv) pos++F1 m) w6:=hs5.re rfl ⟨hs6.memC 0 rfl (by kernel_rfl),hs6.memC 1 rfl (by kernel_rfl),hs6.memC 2 rfl (by kernel_rfl),trivial⟩
 refine ⟨.it .i64 (0),[],(HV s tl2 tu2 .ni (.p 2 0) (o1 nv) pos++F1 m),rfl,hs6',fun hW6=>?_⟩
 refine gf0 (bs:=[lb,nb,s.fl i]) 200 ⟨[330],3,[],[],1⟩ hW6 (hF5.call (nw:=[]) hK6) fun w7 hK7 hF7 hW7=>?_
 have hs7:=hW7.sq (HV s tl2 tu2 .ni (.p 2 0) (o1 nv) pos++F1 m)
 obtain ⟨hb1,hb2⟩:=hb6 hI
 refine gd [] [] hW7 (fun hW8=>?_)
 have hF8:=hF7.drew
 refine gf0 (bs:=[lb,nb,s.fl i]) 200 ⟨[330],3,[],[],1⟩ hW8 hF8 fun w9 hK9 hF9 hW9=>?_
 have hs9:=hW9.sq (HV s tl2 tu2 .ni (.p 2 0) (o1 nv) pos++F1 m)
 refine gcd 89 (k27_0 s) [] w7.drew hW9 (fun hC=>?_)
 have hk79:Kept [330] w6 w9:=hK7.drew.trans hK9
 refine (hop i hi tl2 tu2 niV (nbV (s.fl i)) nv pos (tlB lo (sm i)) (tuB up (lg i)) w9 (hF9.kept.mono (by simp)) (hs9.sub [0,1] (by decide) (by simp) rfl ⟨hs9.memC 0 rfl (by kernel_rfl),hs9.memC 1 rfl (by kernel_rfl),trivial⟩) (hb1.kept hk79 (by simp)) (hb2.kept hk79 (by simp))).mono ?_
 rintro e w10 ⟨b,vk,vv,rfl,hbn,hbb,hbl,hE10⟩
 have hzb:Bd.B≤b:=by first|assumption|(refine Sat.lo (by assumption) _ ?_;simp;done)|(refine Wk.lo (by assumption) _ ?_;simp;done)|exact Nat.le_trans (Wk.sz (by assumption)) (by assumption)|exact Nat.le_trans (Sat.sz (by assumption)) (by assumption)|exact Nat.le_trans ‹Bd.B≤_› (by assumption)
 have hs10:Sat [lb,nb,s.fl i] (HV s tl2 tu2 .ni (.p 2 0) (o1 nv) pos++F1 m) w10:=hs9.kq hE10
 refine ⟨.tup [.ifc 155 (.ptr ⟨b,0,none⟩),.ni,.ni],[],(HV s tl2 tu2 .ni (.p 2 0) (o1 nv) pos++F1 m),rfl,hs10,hC.trans hE10,fun hW10=>?_⟩
 refine gf0 (bs:=[lb,nb,s.fl i]) 200 ⟨[330],3,[],[],1⟩ hW10 (hF9.call (nw:=[]) hE10) fun w11 hK11 hF11 hW11=>?_
 have hs11:=hW11.satD (HV s tl2 tu2 (.ifc 155 (.ptr ⟨b,0,none⟩)) (.p 2 0) (o1 nv) pos++F1 m) (by kernel_rfl)
 exact gt (.it .i8 2) hW11.sat ⟨rfl,hF11.kept,tl2,tu2,b,vk,vv,(hs11.sub [0,1] (by decide) (by simp) rfl ⟨hs11.memC 0 rfl (by kernel_rfl),hs11.memC 1 rfl (by kernel_rfl),trivial⟩),(hK11.block b (solid_of hbb (by simp))).trans hbb,hbl.kept hK11 (by simp) (by simp) (by simp),hzb⟩
theorem c250_a_1 [Bd] (s:LvS) (P:Nat→List S36) (tl tu nv:V1) (pos:Int) (lo up:Option (List UInt8)) (sm lg:Nat→List UInt8) (i:Nat) (hi:i < s.n) (m:FM) (lb nb:Nat) (w:World)
  (hs:Sat [lb,nb,s.fl i] (HV s tl tu .ni .np (o1 nv) pos++F1 m) w) (hsm:RdS w m.u1 (sm i)) (hlg:RdS w m.u2 (lg i)) (hlo:RdO w s.lo.1 lo) (hup:RdO w s.up.1 up) (hI:itbI lo up (sm i) (lg i)=1):
  Calls Tryz.prog 250 #[.pointer (some ⟨lb,0,none⟩),.pointer (some ⟨s.fl i,0,none⟩),.int .i64 1] w fun e w'=>e=.returned (.int .i8 0)∧Kept [330] w w'∧LShut s lb nb (nbV (s.fl i)) nv pos w':=by
 refine gs (bs:=[lb,nb,s.fl i]) [.p 0 0,.p 2 0,(.it .i64 1)] _ Tryz.func250 hs (fun hW=>?_)
 refine ga0 200 ⟨[330],3,[],[],0⟩ hW (Fr.refl _ _ _) fun w1 hF1 hW1=>?_
 have hs1:=hW1.sq (HV s tl tu .ni .np (o1 nv) pos++F1 m)
 refine gc 238 [.p 0 0] hW1 ?_
 refine (c238_n s tl tu npV nv pos lb nb w1 (hs1.sub [0,1] (by decide) (by simp) rfl ⟨hs1.memC 0 rfl (by kernel_rfl),hs1.memC 1 rfl (by kernel_rfl),trivial⟩)).mono ?_
 rintro e w2 ⟨rfl,hK2,hs2⟩
 have hs2':Sat [lb,nb,s.fl i] (HV s tl tu .ni .np (o1 nv) pos++F1 m) w2:=hs1.re rfl ⟨hs2.memC 0 rfl (by kernel_rfl),hs2.memC 1 rfl (by kernel_rfl),hs1.kp hK2 2 _ rfl rfl,trivial⟩
 refine ⟨.ni,[],(HV s tl tu .ni .np (o1 nv) pos++F1 m),rfl,hs2',fun hW2=>?_⟩
 refine ga0 (bs:=[lb,nb,s.fl i]) 200 ⟨[330],3,[],[],1⟩ hW2 (hF1.call (nw:=[]) hK2) fun w3 hF3 hW3=>?_
 have hs3:=hW3.sq (HV s tl tu .ni (.p 2 0) (o1 nv) pos++F1 m)
 refine gc 259 [.p 0 0,.p 2 0,(.it .i64 1)] hW3 ?_
 refine (c259 (nbV lb) ⟨.int .i64 1,rfl⟩ m (s.fl i) w3 (hs3.sub [2] (by decide) (by simp) rfl ⟨hs3.memC 2 rfl (by kernel_rfl),trivial⟩)).mono ?_
 rintro e w4 ⟨rfl,hE4⟩
 have hs4:Sat [lb,nb,s.fl i] (HV s tl tu .ni (.p 2 0) (o1 nv) pos++F1 m) w4:=hs3.kq hE4
 refine ⟨.tup [],[],(HV s tl tu .ni (.p 2 0) (o1 nv) pos++F1 m),rfl,hs4,fun hW4=>?_⟩
 refine ga0 (bs:=[lb,nb,s.fl i]) 200 ⟨[330],3,[],[],1⟩ hW4 (hF3.call (nw:=[]) hE4) fun w5 hF5 hW5=>?_
 have hs5:=hW5.sq (HV s tl tu .ni (.p 2 0) (o1 nv) pos++F1 m)
 refine gc 260 [.p 0 0,.p 2 0] hW5 ?_
 refine (c260 s tl tu niV (nbV (s.fl i)) nv pos m lo up (sm i) (lg i) lb nb (s.fl i) w5 (hs5.sub [0,1,2] (by decide) (by simp) rfl ⟨hs5.memC 0 rfl (by kernel_rfl),hs5.memC 1 rfl (by kernel_rfl),hs5.memC 2 rfl (by kernel_rfl),trivial⟩) (hsm.kept hF5.kept (by simp)) (hlg.kept hF5.kept (by simp)) (hlo.kept hF5.kept (by simp)) (hup.kept hF5.kept (by simp))).mono ?_
 rintro e w6 ⟨rfl,hK6,tl2,tu2,hs6,hb6⟩
 rw [hI]
 have hs6':Sat [lb,nb,s.fl i] (HV s tl2 tu2 .ni (.p 2 0) (o1 nv) pos++F1 m) w6:=hs5.re rfl ⟨hs6.memC 0 rfl (by kernel_rfl),hs6.memC 1 rfl (by kernel_rfl),hs6.memC 2 rfl (by kernel_rfl),trivial⟩
 refine ⟨.it .i64 (1),[],(HV s tl2 tu2 .ni (.p 2 0) (o1 nv) pos++F1 m),rfl,hs6',fun hW6=>?_⟩
 refine gf0 (bs:=[lb,nb,s.fl i]) 200 ⟨[330],3,[],[],1⟩ hW6 (hF5.call (nw:=[]) hK6) fun w7 hK7 hF7 hW7=>?_
 have hs7:=hW7.sq (HV s tl2 tu2 .ni (.p 2 0) (o1 nv) pos++F1 m)
 exact gt (.it .i8 0) hW7.sat ⟨rfl,hF7.kept,tl2,tu2,(hs7.sub [0,1] (by decide) (by simp) rfl ⟨hs7.memC 0 rfl (by kernel_rfl),hs7.memC 1 rfl (by kernel_rfl),trivial⟩)⟩
theorem c250_a_m1 [Bd] (s:LvS) (P:Nat→List S36) (tl tu nv:V1) (pos:Int) (lo up:Option (List UInt8)) (sm lg:Nat→List UInt8) (i:Nat) (hi:i < s.n) (m:FM) (lb nb:Nat) (w:World)
  (hs:Sat [lb,nb,s.fl i] (HV s tl tu .ni .np (o1 nv) pos++F1 m) w) (hsm:RdS w m.u1 (sm i)) (hlg:RdS w m.u2 (lg i)) (hlo:RdO w s.lo.1 lo) (hup:RdO w s.up.1 up) (hI:itbI lo up (sm i) (lg i)= -1):
  Calls Tryz.prog 250 #[.pointer (some ⟨lb,0,none⟩),.pointer (some ⟨s.fl i,0,none⟩),.int .i64 (-1)] w fun e w'=>e=.returned (.int .i8 0)∧Kept [330] w w'∧LShut s lb nb (nbV (s.fl i)) nv pos w':=by
 refine gs (bs:=[lb,nb,s.fl i]) [.p 0 0,.p 2 0,(.it .i64 (-1))] _ Tryz.func250 hs (fun hW=>?_)
 refine ga0 200 ⟨[330],3,[],[],0⟩ hW (Fr.refl _ _ _) fun w1 hF1 hW1=>?_
 have hs1:=hW1.sq (HV s tl tu .ni .np (o1 nv) pos++F1 m)
 refine gc 238 [.p 0 0] hW1 ?_
 refine (c238_n s tl tu npV nv pos lb nb w1 (hs1.sub [0,1] (by decide) (by simp) rfl ⟨hs1.memC 0 rfl (by kernel_rfl),hs1.memC 1 rfl (by kernel_rfl),trivial⟩)).mono ?_
 rintro e w2 ⟨rfl,hK2,hs2⟩
 have hs2':Sat [lb,nb,s.fl i] (HV s tl tu .ni .np (o1 nv) pos++F1 m) w2:=hs1.re rfl ⟨hs2.memC 0 rfl (by kernel_rfl),hs2.memC 1 rfl (by kernel_rfl),hs1.kp hK2 2 _ rfl rfl,trivial⟩
 refine ⟨.ni,[],(HV s tl tu .ni .np (o1 nv) pos++F1 m),rfl,hs2',fun hW2=>?_⟩
 refine ga0 (bs:=[lb,nb,s.fl i]) 200 ⟨[330],3,[],[],1⟩ hW2 (hF1.call (nw:=[]) hK2) fun w3 hF3 hW3=>?_
 have hs3:=hW3.sq (HV s tl tu .ni (.p 2 0) (o1 nv) pos++F1 m)
 refine gc 259 [.p 0 0,.p 2 0,(.it .i64 (-1))] hW3 ?_
 refine (c259 (nbV lb) ⟨.int .i64 (-1),rfl⟩ m (s.fl i) w3 (hs3.sub [2] (by decide) (by simp) rfl ⟨hs3.memC 2 rfl (by kernel_rfl),trivial⟩)).mono ?_
 rintro e w4 ⟨rfl,hE4⟩
 have hs4:Sat [lb,nb,s.fl i] (HV s tl tu .ni (.p 2 0) (o1 nv) pos++F1 m) w4:=hs3.kq hE4
 refine ⟨.tup [],[],(HV s tl tu .ni (.p 2 0) (o1 nv) pos++F1 m),rfl,hs4,fun hW4=>?_⟩
 refine ga0 (bs:=[lb,nb,s.fl i]) 200 ⟨[330],3,[],[],1⟩ hW4 (hF3.call (nw:=[]) hE4) fun w5 hF5 hW5=>?_
 have hs5:=hW5.sq (HV s tl tu .ni (.p 2 0) (o1 nv) pos++F1 m)
 refine gc 260 [.p 0 0,.p 2 0] hW5 ?_
 refine (c260 s tl tu niV (nbV (s.fl i)) nv pos m lo up (sm i) (lg i) lb nb (s.fl i) w5 (hs5.sub [0,1,2] (by decide) (by simp) rfl ⟨hs5.memC 0 rfl (by kernel_rfl),hs5.memC 1 rfl (by kernel_rfl),hs5.memC 2 rfl (by kernel_rfl),trivial⟩) (hsm.kept hF5.kept (by simp)) (hlg.kept hF5.kept (by simp)) (hlo.kept hF5.kept (by simp)) (hup.kept hF5.kept (by simp))).mono ?_
 rintro e w6 ⟨rfl,hK6,tl2,tu2,hs6,hb6⟩
 rw [hI]
 have hs6':Sat [lb,nb,s.fl i] (HV s tl2 tu2 .ni (.p 2 0) (o1 nv) pos++F1 m) w6:=hs5.re rfl ⟨hs6.memC 0 rfl (by kernel_rfl),hs6.memC 1 rfl (by kernel_rfl),hs6.memC 2 rfl (by kernel_rfl),trivial⟩
 refine ⟨.it .i64 (-1),[],(HV s tl2 tu2 .ni (.p 2 0) (o1 nv) pos++F1 m),rfl,hs6',fun hW6=>?_⟩
 refine gf0 (bs:=[lb,nb,s.fl i]) 200 ⟨[330],3,[],[],1⟩ hW6 (hF5.call (nw:=[]) hK6) fun w7 hK7 hF7 hW7=>?_
 have hs7:=hW7.sq (HV s tl2 tu2 .ni (.p 2 0) (o1 nv) pos++F1 m)
 exact gt (.it .i8 0) hW7.sat ⟨rfl,hF7.kept,tl2,tu2,(hs7.sub [0,1] (by decide) (by simp) rfl ⟨hs7.memC 0 rfl (by kernel_rfl),hs7.memC 1 rfl (by kernel_rfl),trivial⟩)⟩
theorem c250_b_0 [Bd] (s:LvS) (P:Nat→List S36) (tl tu nv:V1) (pos:Int) (lo up:Option (List UInt8)) (sm lg:Nat→List UInt8) (i:Nat) (hi:i < s.n) (m:FM) (d:V1) (lb nb:Nat) (w:World)
  (hs:Sat [lb,nb,s.fl i] (HV s tl tu .ni (.p 2 0) (o1 nv) pos++F1 m) w) (hsm:RdS w m.u1 (sm i)) (hlg:RdS w m.u2 (lg i)) (hlo:RdO w s.lo.1 lo) (hup:RdO w s.up.1 up) (hI:itbI lo up (sm i) (lg i)=0) (hop:OpenH s lb nb P w):
  Calls Tryz.prog 250 #[.pointer (some ⟨lb,0,none⟩),.pointer (some ⟨s.fl i,0,none⟩),d.1] w fun e w'=>e=.returned (.int .i8 2)∧Kept [330] w w'∧LOpen s lb nb P lo up sm lg i (-1) nv pos w':=by
 refine gs (bs:=[lb,nb,s.fl i]) [.p 0 0,.p 2 0,(o1 d)] _ Tryz.func250 hs (fun hW=>?_)
 refine ga0 200 ⟨[330],3,[],[],0⟩ hW (Fr.refl _ _ _) fun w1 hF1 hW1=>?_
 have hs1:=hW1.sq (HV s tl tu .ni (.p 2 0) (o1 nv) pos++F1 m)
 refine gc 238 [.p 0 0] hW1 ?_
 refine (c238_n s tl tu (nbV (s.fl i)) nv pos lb nb w1 (hs1.sub [0,1] (by decide) (by simp) rfl ⟨hs1.memC 0 rfl (by kernel_rfl),hs1.memC 1 rfl (by kernel_rfl),trivial⟩)).mono ?_
 rintro e w2 ⟨rfl,hK2,hs2⟩
 have hs2':Sat [lb,nb,s.fl i] (HV s tl tu .ni (.p 2 0) (o1 nv) pos++F1 m) w2:=hs1.re rfl ⟨hs2.memC 0 rfl (by kernel_rfl),hs2.memC 1 rfl (by kernel_rfl),hs1.kp hK2 2 _ rfl rfl,trivial⟩
 refine ⟨.ni,[],(HV s tl tu .ni (.p 2 0) (o1 nv) pos++F1 m),rfl,hs2',fun hW2=>?_⟩
 refine ga0 (bs:=[lb,nb,s.fl i]) 200 ⟨[330],3,[],[],1⟩ hW2 (hF1.call (nw:=[]) hK2) fun w3 hF3 hW3=>?_
 have hs3:=hW3.sq (HV s tl tu .ni (.p 2 0) (o1 nv) pos++F1 m)
 refine gc 259 [.p 0 0,.p 2 0,(o1 d)] hW3 ?_
 refine (c259 (nbV lb) d m (s.fl i) w3 (hs3.sub [2] (by decide) (by simp) rfl ⟨hs3.memC 2 rfl (by kernel_rfl),trivial⟩)).mono ?_
 rintro e w4 ⟨rfl,hE4⟩
 have hs4:Sat [lb,nb,s.fl i] (HV s tl tu .ni (.p 2 0) (o1 nv) pos++F1 m) w4:=hs3.kq hE4
 refine ⟨.tup [],[],(HV s tl tu .ni (.p 2 0) (o1 nv) pos++F1 m),rfl,hs4,fun hW4=>?_⟩
 refine ga0 (bs:=[lb,nb,s.fl i]) 200 ⟨[330],3,[],[],1⟩ hW4 (hF3.call (nw:=[]) hE4) fun w5 hF5 hW5=>?_
 have hs5:=hW5.sq (HV s tl tu .ni (.p 2 0) (o1 nv) pos++F1 m)
 refine gc 260 [.p 0 0,.p 2 0] hW5 ?_
 refine (c260 s tl tu niV (nbV (s.fl i)) nv pos m lo up (sm i) (lg i) lb nb (s.fl i) w5 (hs5.sub [0,1,2] (by decide) (by simp) rfl ⟨hs5.memC 0 rfl (by kernel_rfl),hs5.memC 1 rfl (by kernel_rfl),hs5.memC 2 rfl (by kernel_rfl),trivial⟩) (hsm.kept hF5.kept (by simp)) (hlg.kept hF5.kept (by simp)) (hlo.kept hF5.kept (by simp)) (hup.kept hF5.kept (by simp))).mono ?_
 rintro e w6 ⟨rfl,hK6,tl2,tu2,hs6,hb6⟩
 rw [hI]
 have hs6':Sat [lb,nb,s.fl i] (HV s tl2 tu2 .ni (.p 2 0) (o1 nv) pos++F1 m) w6:=hs5.re rfl ⟨hs6.memC 0 rfl (by kernel_rfl),hs6.memC 1 rfl (by kernel_rfl),hs6.memC 2 rfl (by kernel_rfl),trivial⟩
 refine ⟨.it .i64 (0),[],(HV s tl2 tu2 .ni (.p 2 0) (o1 nv) pos++F1 m),rfl,hs6',fun hW6=>?_⟩
 refine gf0 (bs:=[lb,nb,s.fl i]) 200 ⟨[330],3,[],[],1⟩ hW6 (hF5.call (nw:=[]) hK6) fun w7 hK7 hF7 hW7=>?_
 have hs7:=hW7.sq (HV s tl2 tu2 .ni (.p 2 0) (o1 nv) pos++F1 m)
 obtain ⟨hb1,hb2⟩:=hb6 hI
 refine gd [] [] hW7 (fun hW8=>?_)
 have hF8:=hF7.drew
 refine gf0 (bs:=[lb,nb,s.fl i]) 200 ⟨[330],3,[],[],1⟩ hW8 hF8 fun w9 hK9 hF9 hW9=>?_
 have hs9:=hW9.sq (HV s tl2 tu2 .ni (.p 2 0) (o1 nv) pos++F1 m)
 refine gcd 89 (k27_0 s) [] w7.drew hW9 (fun hC=>?_)
 have hk79:Kept [330] w6 w9:=hK7.drew.trans hK9
 refine (hop i hi tl2 tu2 niV (nbV (s.fl i)) nv pos (tlB lo (sm i)) (tuB up (lg i)) w9 (hF9.kept.mono (by simp)) (hs9.sub [0,1] (by decide) (by simp) rfl ⟨hs9.memC 0 rfl (by kernel_rfl),hs9.memC 1 rfl (by kernel_rfl),trivial⟩) (hb1.kept hk79 (by simp)) (hb2.kept hk79 (by simp))).mono ?_
 rintro e w10 ⟨b,vk,vv,rfl,hbn,hbb,hbl,hE10⟩
 have hzb:Bd.B≤b:=by first|assumption|(refine Sat.lo (by assumption) _ ?_;simp;done)|(refine Wk.lo (by assumption) _ ?_;simp;done)|exact Nat.le_trans (Wk.sz (by assumption)) (by assumption)|exact Nat.le_trans (Sat.sz (by assumption)) (by assumption)|exact Nat.le_trans ‹Bd.B≤_› (by assumption)
 have hs10:Sat [lb,nb,s.fl i] (HV s tl2 tu2 .ni (.p 2 0) (o1 nv) pos++F1 m) w10:=hs9.kq hE10
 refine ⟨.tup [.ifc 155 (.ptr ⟨b,0,none⟩),.ni,.ni],[],(HV s tl2 tu2 .ni (.p 2 0) (o1 nv) pos++F1 m),rfl,hs10,hC.trans hE10,fun hW10=>?_⟩
 refine gf0 (bs:=[lb,nb,s.fl i]) 200 ⟨[330],3,[],[],1⟩ hW10 (hF9.call (nw:=[]) hE10) fun w11 hK11 hF11 hW11=>?_
 have hs11:=hW11.satD (HV s tl2 tu2 (.ifc 155 (.ptr ⟨b,0,none⟩)) (.p 2 0) (o1 nv) pos++F1 m) (by kernel_rfl)
 exact gt (.it .i8 2) hW11.sat ⟨rfl,hF11.kept,tl2,tu2,b,vk,vv,(hs11.sub [0,1] (by decide) (by simp) rfl ⟨hs11.memC 0 rfl (by kernel_rfl),hs11.memC 1 rfl (by kernel_rfl),trivial⟩),(hK11.block b (solid_of hbb (by simp))).trans hbb,hbl.kept hK11 (by simp) (by simp) (by simp),hzb⟩
theorem c250_b_1 [Bd] (s:LvS) (P:Nat→List S36) (tl tu nv:V1) (pos:Int) (lo up:Option (List UInt8)) (sm lg:Nat→List UInt8) (i:Nat) (hi:i < s.n) (m:FM) (lb nb:Nat) (w:World)
  (hs:Sat [lb,nb,s.fl i] (HV s tl tu .ni (.p 2 0) (o1 nv) pos++F1 m) w) (hsm:RdS w m.u1 (sm i)) (hlg:RdS w m.u2 (lg i)) (hlo:RdO w s.lo.1 lo) (hup:RdO w s.up.1 up) (hI:itbI lo up (sm i) (lg i)=1):
  Calls Tryz.prog 250 #[.pointer (some ⟨lb,0,none⟩),.pointer (some ⟨s.fl i,0,none⟩),.int .i64 1] w fun e w'=>e=.returned (.int .i8 0)∧Kept [330] w w'∧LShut s lb nb (nbV (s.fl i)) nv pos w':=by
 refine gs (bs:=[lb,nb,s.fl i]) [.p 0 0,.p 2 0,(.it .i64 1)] _ Tryz.func250 hs (fun hW=>?_)
 refine ga0 200 ⟨[330],3,[],[],0⟩ hW (Fr.refl _ _ _) fun w1 hF1 hW1=>?_
 have hs1:=hW1.sq (HV s tl tu .ni (.p 2 0) (o1 nv) pos++F1 m)
 refine gc 238 [.p 0 0] hW1 ?_
 refine (c238_n s tl tu (nbV (s.fl i)) nv pos lb nb w1 (hs1.sub [0,1] (by decide) (by simp) rfl ⟨hs1.memC 0 rfl (by kernel_rfl),hs1.memC 1 rfl (by kernel_rfl),trivial⟩)).mono ?_
 rintro e w2 ⟨rfl,hK2,hs2⟩
 have hs2':Sat [lb,nb,s.fl i] (HV s tl tu .ni (.p 2 0) (o1 nv) pos++F1 m) w2:=hs1.re rfl ⟨hs2.memC 0 rfl (by kernel_rfl),hs2.memC 1 rfl (by kernel_rfl),hs1.kp hK2 2 _ rfl rfl,trivial⟩
 refine ⟨.ni,[],(HV s tl tu .ni (.p 2 0) (o1 nv) pos++F1 m),rfl,hs2',fun hW2=>?_⟩
 refine ga0 (bs:=[lb,nb,s.fl i]) 200 ⟨[330],3,[],[],1⟩ hW2 (hF1.call (nw:=[]) hK2) fun w3 hF3 hW3=>?_
 have hs3:=hW3.sq (HV s tl tu .ni (.p 2 0) (o1 nv) pos++F1 m)
 refine gc 259 [.p 0 0,.p 2 0,(.it .i64 1)] hW3 ?_
 refine (c259 (nbV lb) ⟨.int .i64 1,rfl⟩ m (s.fl i) w3 (hs3.sub [2] (by decide) (by simp) rfl ⟨hs3.memC 2 rfl (by kernel_rfl),trivial⟩)).mono ?_
 rintro e w4 ⟨rfl,hE4⟩
 have hs4:Sat [lb,nb,s.fl i] (HV s tl tu .ni (.p 2 0) (o1 nv) pos++F1 m) w4:=hs3.kq hE4
 refine ⟨.tup [],[],(HV s tl tu .ni (.p 2 0) (o1 nv) pos++F1 m),rfl,hs4,fun hW4=>?_⟩
 refine ga0 (bs:=[lb,nb,s.fl i]) 200 ⟨[330],3,[],[],1⟩ hW4 (hF3.call (nw:=[]) hE4) fun w5 hF5 hW5=>?_
 have hs5:=hW5.sq (HV s tl tu .ni (.p 2 0) (o1 nv) pos++F1 m)
 refine gc 260 [.p 0 0,.p 2 0] hW5 ?_
 refine (c260 s tl tu niV (nbV (s.fl i)) nv pos m lo up (sm i) (lg i) lb nb (s.fl i) w5 (hs5.sub [0,1,2] (by decide) (by simp) rfl ⟨hs5.memC 0 rfl (by kernel_rfl),hs5.memC 1 rfl (by kernel_rfl),hs5.memC 2 rfl (by kernel_rfl),trivial⟩) (hsm.kept hF5.kept (by simp)) (hlg.kept hF5.kept (by simp)) (hlo.kept hF5.kept (by simp)) (hup.kept hF5.kept (by simp))).mono ?_
 rintro e w6 ⟨rfl,hK6,tl2,tu2,hs6,hb6⟩
 rw [hI]
 have hs6':Sat [lb,nb,s.fl i] (HV s tl2 tu2 .ni (.p 2 0) (o1 nv) pos++F1 m) w6:=hs5.re rfl ⟨hs6.memC 0 rfl (by kernel_rfl),hs6.memC 1 rfl (by kernel_rfl),hs6.memC 2 rfl (by kernel_rfl),trivial⟩
 refine ⟨.it .i64 (1),[],(HV s tl2 tu2 .ni (.p 2 0) (o1 nv) pos++F1 m),rfl,hs6',fun hW6=>?_⟩
 refine gf0 (bs:=[lb,nb,s.fl i]) 200 ⟨[330],3,[],[],1⟩ hW6 (hF5.call (nw:=[]) hK6) fun w7 hK7 hF7 hW7=>?_
 have hs7:=hW7.sq (HV s tl2 tu2 .ni (.p 2 0) (o1 nv) pos++F1 m)
 exact gt (.it .i8 0) hW7.sat ⟨rfl,hF7.kept,tl2,tu2,(hs7.sub [0,1] (by decide) (by simp) rfl ⟨hs7.memC 0 rfl (by kernel_rfl),hs7.memC 1 rfl (by kernel_rfl),trivial⟩)⟩
theorem c250_b_m1 [Bd] (s:LvS) (P:Nat→List S36) (tl tu nv:V1) (pos:Int) (lo up:Option (List UInt8)) (sm lg:Nat→List UInt8) (i:Nat) (hi:i < s.n) (m:FM) (lb nb:Nat) (w:World)
  (hs:Sat [lb,nb,s.fl i] (HV s tl tu .ni (.p 2 0) (o1 nv) pos++F1 m) w) (hsm:RdS w m.u1 (sm i)) (hlg:RdS w m.u2 (lg i)) (hlo:RdO w s.lo.1 lo) (hup:RdO w s.up.1 up) (hI:itbI lo up (sm i) (lg i)= -1):
  Calls Tryz.prog 250 #[.pointer (some ⟨lb,0,none⟩),.pointer (some ⟨s.fl i,0,none⟩),.int .i64 (-1)] w fun e w'=>e=.returned (.int .i8 0)∧Kept [330] w w'∧LShut s lb nb (nbV (s.fl i)) nv pos w':=by
 refine gs (bs:=[lb,nb,s.fl i]) [.p 0 0,.p 2 0,(.it .i64 (-1))] _ Tryz.func250 hs (fun hW=>?_)
 refine ga0 200 ⟨[330],3,[],[],0⟩ hW (Fr.refl _ _ _) fun w1 hF1 hW1=>?_
 have hs1:=hW1.sq (HV s tl tu .ni (.p 2 0) (o1 nv) pos++F1 m)
 refine gc 238 [.p 0 0] hW1 ?_
 refine (c238_n s tl tu (nbV (s.fl i)) nv pos lb nb w1 (hs1.sub [0,1] (by decide) (by simp) rfl ⟨hs1.memC 0 rfl (by kernel_rfl),hs1.memC 1 rfl (by kernel_rfl),trivial⟩)).mono ?_
 rintro e w2 ⟨rfl,hK2,hs2⟩
 have hs2':Sat [lb,nb,s.fl i] (HV s tl tu .ni (.p 2 0) (o1 nv) pos++F1 m) w2:=hs1.re rfl ⟨hs2.memC 0 rfl (by kernel_rfl),hs2.memC 1 rfl (by kernel_rfl),hs1.kp hK2 2 _ rfl rfl,trivial⟩
 refine ⟨.ni,[],(HV s tl tu .ni (.p 2 0) (o1 nv) pos++F1 m),rfl,hs2',fun hW2=>?_⟩
 refine ga0 (bs:=[lb,nb,s.fl i]) 200 ⟨[330],3,[],[],1⟩ hW2 (hF1.call (nw:=[]) hK2) fun w3 hF3 hW3=>?_
 have hs3:=hW3.sq (HV s tl tu .ni (.p 2 0) (o1 nv) pos++F1 m)
 refine gc 259 [.p 0 0,.p 2 0,(.it .i64 (-1))] hW3 ?_
 refine (c259 (nbV lb) ⟨.int .i64 (-1),rfl⟩ m (s.fl i) w3 (hs3.sub [2] (by decide) (by simp) rfl ⟨hs3.memC 2 rfl (by kernel_rfl),trivial⟩)).mono ?_
 rintro e w4 ⟨rfl,hE4⟩
 have hs4:Sat [lb,nb,s.fl i] (HV s tl tu .ni (.p 2 0) (o1 nv) pos++F1 m) w4:=hs3.kq hE4
 refine ⟨.tup [],[],(HV s tl tu .ni (.p 2 0) (o1 nv) pos++F1 m),rfl,hs4,fun hW4=>?_⟩
 refine ga0 (bs:=[lb,nb,s.fl i]) 200 ⟨[330],3,[],[],1⟩ hW4 (hF3.call (nw:=[]) hE4) fun w5 hF5 hW5=>?_
 have hs5:=hW5.sq (HV s tl tu .ni (.p 2 0) (o1 nv) pos++F1 m)
 refine gc 260 [.p 0 0,.p 2 0] hW5 ?_
 refine (c260 s tl tu niV (nbV (s.fl i)) nv pos m lo up (sm i) (lg i) lb nb (s.fl i) w5 (hs5.sub [0,1,2] (by decide) (by simp) rfl ⟨hs5.memC 0 rfl (by kernel_rfl),hs5.memC 1 rfl (by kernel_rfl),hs5.memC 2 rfl (by kernel_rfl),trivial⟩) (hsm.kept hF5.kept (by simp)) (hlg.kept hF5.kept (by simp)) (hlo.kept hF5.kept (by simp)) (hup.kept hF5.kept (by simp))).mono ?_
 rintro e w6 ⟨rfl,hK6,tl2,tu2,hs6,hb6⟩
 rw [hI]
 have hs6':Sat [lb,nb,s.fl i] (HV s tl2 tu2 .ni (.p 2 0) (o1 nv) pos++F1 m) w6:=hs5.re rfl ⟨hs6.memC 0 rfl (by kernel_rfl),hs6.memC 1 rfl (by kernel_rfl),hs6.memC 2 rfl (by kernel_rfl),trivial⟩
 refine ⟨.it .i64 (-1),[],(HV s tl2 tu2 .ni (.p 2 0) (o1 nv) pos++F1 m),rfl,hs6',fun hW6=>?_⟩
 refine gf0 (bs:=[lb,nb,s.fl i]) 200 ⟨[330],3,[],[],1⟩ hW6 (hF5.call (nw:=[]) hK6) fun w7 hK7 hF7 hW7=>?_
 have hs7:=hW7.sq (HV s tl2 tu2 .ni (.p 2 0) (o1 nv) pos++F1 m)
 exact gt (.it .i8 0) hW7.sat ⟨rfl,hF7.kept,tl2,tu2,(hs7.sub [0,1] (by decide) (by simp) rfl ⟨hs7.memC 0 rfl (by kernel_rfl),hs7.memC 1 rfl (by kernel_rfl),trivial⟩)⟩
theorem c250_c_0 [Bd] (s:LvS) (P:Nat→List S36) (tl tu nv:V1) (pos:Int) (lo up:Option (List UInt8)) (sm lg:Nat→List UInt8) (i:Nat) (hi:i < s.n) (m:FM) (gb:Nat) (m2:FM) (d:V1) (lb nb:Nat) (w:World)
  (hs:Sat [lb,nb,s.fl i,gb] (HV s tl tu .ni (.p 3 0) (o1 nv) pos++F2 m m2) w) (hsm:RdS w m.u1 (sm i)) (hlg:RdS w m.u2 (lg i)) (hlo:RdO w s.lo.1 lo) (hup:RdO w s.up.1 up) (hI:itbI lo up (sm i) (lg i)=0) (hop:OpenH s lb nb P w):
  Calls Tryz.prog 250 #[.pointer (some ⟨lb,0,none⟩),.pointer (some ⟨s.fl i,0,none⟩),d.1] w fun e w'=>e=.returned (.int .i8 2)∧Kept [330] w w'∧LOpen s lb nb P lo up sm lg i (-1) nv pos w':=by
 refine gs (bs:=[lb,nb,s.fl i,gb]) [.p 0 0,.p 2 0,(o1 d)] _ Tryz.func250 hs (fun hW=>?_)
 refine ga0 200 ⟨[330],4,[],[],0⟩ hW (Fr.refl _ _ _) fun w1 hF1 hW1=>?_
 have hs1:=hW1.sq (HV s tl tu .ni (.p 3 0) (o1 nv) pos++F2 m m2)
 refine gc 238 [.p 0 0] hW1 ?_
 refine (c238_n s tl tu (nbV gb) nv pos lb nb w1 (hs1.sub [0,1] (by decide) (by simp) rfl ⟨hs1.memC 0 rfl (by kernel_rfl),hs1.memC 1 rfl (by kernel_rfl),trivial⟩)).mono ?_
 rintro e w2 ⟨rfl,hK2,hs2⟩
 have hs2':Sat [lb,nb,s.fl i,gb] (HV s tl tu .ni (.p 3 0) (o1 nv) pos++F2 m m2) w2:=hs1.re rfl ⟨hs2.memC 0 rfl (by kernel_rfl),hs2.memC 1 rfl (by kernel_rfl),hs1.kp hK2 2 _ rfl rfl,hs1.kp hK2 3 _ rfl rfl,trivial⟩
 refine ⟨.ni,[],(HV s tl tu .ni (.p 3 0) (o1 nv) pos++F2 m m2),rfl,hs2',fun hW2=>?_⟩
 refine ga0 (bs:=[lb,nb,s.fl i,gb]) 200 ⟨[330],4,[],[],1⟩ hW2 (hF1.call (nw:=[]) hK2) fun w3 hF3 hW3=>?_
 have hs3:=hW3.sq (HV s tl tu .ni (.p 2 0) (o1 nv) pos++F2 m m2)
 refine gc 259 [.p 0 0,.p 2 0,(o1 d)] hW3 ?_
 refine (c259 (nbV lb) d m (s.fl i) w3 (hs3.sub [2] (by decide) (by simp) rfl ⟨hs3.memC 2 rfl (by kernel_rfl),trivial⟩)).mono ?_
 rintro e w4 ⟨rfl,hE4⟩
 have hs4:Sat [lb,nb,s.fl i,gb] (HV s tl tu .ni (.p 2 0) (o1 nv) pos++F2 m m2) w4:=hs3.kq hE4
 refine ⟨.tup [],[],(HV s tl tu .ni (.p 2 0) (o1 nv) pos++F2 m m2),rfl,hs4,fun hW4=>?_⟩
 refine ga0 (bs:=[lb,nb,s.fl i,gb]) 200 ⟨[330],4,[],[],1⟩ hW4 (hF3.call (nw:=[]) hE4) fun w5 hF5 hW5=>?_
 have hs5:=hW5.sq (HV s tl tu .ni (.p 2 0) (o1 nv) pos++F2 m m2)
 refine gc 260 [.p 0 0,.p 2 0] hW5 ?_
 refine (c260 s tl tu niV (nbV (s.fl i)) nv pos m lo up (sm i) (lg i) lb nb (s.fl i) w5 (hs5.sub [0,1,2] (by decide) (by simp) rfl ⟨hs5.memC 0 rfl (by kernel_rfl),hs5.memC 1 rfl (by kernel_rfl),hs5.memC 2 rfl (by kernel_rfl),trivial⟩) (hsm.kept hF5.kept (by simp)) (hlg.kept hF5.kept (by simp)) (hlo.kept hF5.kept (by simp)) (hup.kept hF5.kept (by simp))).mono ?_
 rintro e w6 ⟨rfl,hK6,tl2,tu2,hs6,hb6⟩
 rw [hI]
 have hs6':Sat [lb,nb,s.fl i,gb] (HV s tl2 tu2 .ni (.p 2 0) (o1 nv) pos++F2 m m2) w6:=hs5.re rfl ⟨hs6.memC 0 rfl (by kernel_rfl),hs6.memC 1 rfl (by kernel_rfl),hs6.memC 2 rfl (by kernel_rfl),hs5.kp hK6 3 _ rfl rfl,trivial⟩
 refine ⟨.it .i64 (0),[],(HV s tl2 tu2 .ni (.p 2 0) (o1 nv) pos++F2 m m2),rfl,hs6',fun hW6=>?_⟩
 refine gf0 (bs:=[lb,nb,s.fl i,gb]) 200 ⟨[330],4,[],[],1⟩ hW6 (hF5.call (nw:=[]) hK6) fun w7 hK7 hF7 hW7=>?_
 have hs7:=hW7.sq (HV s tl2 tu2 .ni (.p 2 0) (o1 nv) pos++F2 m m2)
 obtain ⟨hb1,hb2⟩:=hb6 hI
 refine gd [] [] hW7 (fun hW8=>?_)
 have hF8:=hF7.drew
 refine gf0 (bs:=[lb,nb,s.fl i,gb]) 200 ⟨[330],4,[],[],1⟩ hW8 hF8 fun w9 hK9 hF9 hW9=>?_
 have hs9:=hW9.sq (HV s tl2 tu2 .ni (.p 2 0) (o1 nv) pos++F2 m m2)
 refine gcd 89 (k27_0 s) [] w7.drew hW9 (fun hC=>?_)
 have hk79:Kept [330] w6 w9:=hK7.drew.trans hK9
 refine (hop i hi tl2 tu2 niV (nbV (s.fl i)) nv pos (tlB lo (sm i)) (tuB up (lg i)) w9 (hF9.kept.mono (by simp)) (hs9.sub [0,1] (by decide) (by simp) rfl ⟨hs9.memC 0 rfl (by kernel_rfl),hs9.memC 1 rfl (by kernel_rfl),trivial⟩) (hb1.kept hk79 (by simp)) (hb2.kept hk79 (by simp))).mono ?_
 rintro e w10 ⟨b,vk,vv,rfl,hbn,hbb,hbl,hE10⟩
 have hzb:Bd.B≤b:=by first|assumption|(refine Sat.lo (by assumption) _ ?_;simp;done)|(refine Wk.lo (by assumption) _ ?_;simp;done)|exact Nat.le_trans (Wk.sz (by assumption)) (by assumption)|exact Nat.le_trans (Sat.sz (by assumption)) (by assumption)|exact Nat.le_trans ‹Bd.B≤_› (by assumption)
 have hs10:Sat [lb,nb,s.fl i,gb] (HV s tl2 tu2 .ni (.p 2 0) (o1 nv) pos++F2 m m2) w10:=hs9.kq hE10
 refine ⟨.tup [.ifc 155 (.ptr ⟨b,0,none⟩),.ni,.ni],[],(HV s tl2 tu2 .ni (.p 2 0) (o1 nv) pos++F2 m m2),rfl,hs10,hC.trans hE10,fun hW10=>?_⟩
 refine gf0 (bs:=[lb,nb,s.fl i,gb]) 200 ⟨[330],4,[],[],1⟩ hW10 (hF9.call (nw:=[]) hE10) fun w11 hK11 hF11 hW11=>?_
 have hs11:=hW11.satD (HV s tl2 tu2 (.ifc 155 (.ptr ⟨b,0,none⟩)) (.p 2 0) (o1 nv) pos++F2 m m2) (by kernel_rfl)
 exact gt (.it .i8 2) hW11.sat ⟨rfl,hF11.kept,tl2,tu2,b,vk,vv,(hs11.sub [0,1] (by decide) (by simp) rfl ⟨hs11.memC 0 rfl (by kernel_rfl),hs11.memC 1 rfl (by kernel_rfl),trivial⟩),(hK11.block b (solid_of hbb (by simp))).trans hbb,hbl.kept hK11 (by simp) (by simp) (by simp),hzb⟩
theorem c250_c_1 [Bd] (s:LvS) (P:Nat→List S36) (tl tu nv:V1) (pos:Int) (lo up:Option (List UInt8)) (sm lg:Nat→List UInt8) (i:Nat) (hi:i < s.n) (m:FM) (gb:Nat) (m2:FM) (lb nb:Nat) (w:World)
  (hs:Sat [lb,nb,s.fl i,gb] (HV s tl tu .ni (.p 3 0) (o1 nv) pos++F2 m m2) w) (hsm:RdS w m.u1 (sm i)) (hlg:RdS w m.u2 (lg i)) (hlo:RdO w s.lo.1 lo) (hup:RdO w s.up.1 up) (hI:itbI lo up (sm i) (lg i)=1):
  Calls Tryz.prog 250 #[.pointer (some ⟨lb,0,none⟩),.pointer (some ⟨s.fl i,0,none⟩),.int .i64 1] w fun e w'=>e=.returned (.int .i8 0)∧Kept [330] w w'∧LShut s lb nb (nbV (s.fl i)) nv pos w':=by
 refine gs (bs:=[lb,nb,s.fl i,gb]) [.p 0 0,.p 2 0,(.it .i64 1)] _ Tryz.func250 hs (fun hW=>?_)
 refine ga0 200 ⟨[330],4,[],[],0⟩ hW (Fr.refl _ _ _) fun w1 hF1 hW1=>?_
 have hs1:=hW1.sq (HV s tl tu .ni (.p 3 0) (o1 nv) pos++F2 m m2)
 refine gc 238 [.p 0 0] hW1 ?_
 refine (c238_n s tl tu (nbV gb) nv pos lb nb w1 (hs1.sub [0,1] (by decide) (by simp) rfl ⟨hs1.memC 0 rfl (by kernel_rfl),hs1.memC 1 rfl (by kernel_rfl),trivial⟩)).mono ?_
 rintro e w2 ⟨rfl,hK2,hs2⟩
 have hs2':Sat [lb,nb,s.fl i,gb] (HV s tl tu .ni (.p 3 0) (o1 nv) pos++F2 m m2) w2:=hs1.re rfl ⟨hs2.memC 0 rfl (by kernel_rfl),hs2.memC 1 rfl (by kernel_rfl),hs1.kp hK2 2 _ rfl rfl,hs1.kp hK2 3 _ rfl rfl,trivial⟩
 refine ⟨.ni,[],(HV s tl tu .ni (.p 3 0) (o1 nv) pos++F2 m m2),rfl,hs2',fun hW2=>?_⟩
 refine ga0 (bs:=[lb,nb,s.fl i,gb]) 200 ⟨[330],4,[],[],1⟩ hW2 (hF1.call (nw:=[]) hK2) fun w3 hF3 hW3=>?_
 have hs3:=hW3.sq (HV s tl tu .ni (.p 2 0) (o1 nv) pos++F2 m m2)
 refine gc 259 [.p 0 0,.p 2 0,(.it .i64 1)] hW3 ?_
 refine (c259 (nbV lb) ⟨.int .i64 1,rfl⟩ m (s.fl i) w3 (hs3.sub [2] (by decide) (by simp) rfl ⟨hs3.memC 2 rfl (by kernel_rfl),trivial⟩)).mono ?_
 rintro e w4 ⟨rfl,hE4⟩
 have hs4:Sat [lb,nb,s.fl i,gb] (HV s tl tu .ni (.p 2 0) (o1 nv) pos++F2 m m2) w4:=hs3.kq hE4
 refine ⟨.tup [],[],(HV s tl tu .ni (.p 2 0) (o1 nv) pos++F2 m m2),rfl,hs4,fun hW4=>?_⟩
 refine ga0 (bs:=[lb,nb,s.fl i,gb]) 200 ⟨[330],4,[],[],1⟩ hW4 (hF3.call (nw:=[]) hE4) fun w5 hF5 hW5=>?_
 have hs5:=hW5.sq (HV s tl tu .ni (.p 2 0) (o1 nv) pos++F2 m m2)
 refine gc 260 [.p 0 0,.p 2 0] hW5 ?_
 refine (c260 s tl tu niV (nbV (s.fl i)) nv pos m lo up (sm i) (lg i) lb nb (s.fl i) w5 (hs5.sub [0,1,2] (by decide) (by simp) rfl ⟨hs5.memC 0 rfl (by kernel_rfl),hs5.memC 1 rfl (by kernel_rfl),hs5.memC 2 rfl (by kernel_rfl),trivial⟩) (hsm.kept hF5.kept (by simp)) (hlg.kept hF5.kept (by simp)) (hlo.kept hF5.kept (by simp)) (hup.kept hF5.kept (by simp))).mono ?_
 rintro e w6 ⟨rfl,hK6,tl2,tu2,hs6,hb6⟩
 rw [hI]
 have hs6':Sat [lb,nb,s.fl i,gb] (HV s tl2 tu2 .ni (.p 2 0) (o1 nv) pos++F2 m m2) w6:=hs5.re rfl ⟨hs6.memC 0 rfl (by kernel_rfl),hs6.memC 1 rfl (by kernel_rfl),hs6.memC 2 rfl (by kernel_rfl),hs5.kp hK6 3 _ rfl rfl,trivial⟩
 refine ⟨.it .i64 (1),[],(HV s tl2 tu2 .ni (.p 2 0) (o1 nv) pos++F2 m m2),rfl,hs6',fun hW6=>?_⟩
 refine gf0 (bs:=[lb,nb,s.fl i,gb]) 200 ⟨[330],4,[],[],1⟩ hW6 (hF5.call (nw:=[]) hK6) fun w7 hK7 hF7 hW7=>?_
 have hs7:=hW7.sq (HV s tl2 tu2 .ni (.p 2 0) (o1 nv) pos++F2 m m2)
 exact gt (.it .i8 0) hW7.sat ⟨rfl,hF7.kept,tl2,tu2,(hs7.sub [0,1] (by decide) (by simp) rfl ⟨hs7.memC 0 rfl (by kernel_rfl),hs7.memC 1 rfl (by kernel_rfl),trivial⟩)⟩
theorem c250_c_m1 [Bd] (s:LvS) (P:Nat→List S36) (tl tu nv:V1) (pos:Int) (lo up:Option (List UInt8)) (sm lg:Nat→List UInt8) (i:Nat) (hi:i < s.n) (m:FM) (gb:Nat) (m2:FM) (lb nb:Nat) (w:World)
  (hs:Sat [lb,nb,s.fl i,gb] (HV s tl tu .ni (.p 3 0) (o1 nv) pos++F2 m m2) w) (hsm:RdS w m.u1 (sm i)) (hlg:RdS w m.u2 (lg i)) (hlo:RdO w s.lo.1 lo) (hup:RdO w s.up.1 up) (hI:itbI lo up (sm i) (lg i)= -1):
  Calls Tryz.prog 250 #[.pointer (some ⟨lb,0,none⟩),.pointer (some ⟨s.fl i,0,none⟩),.int .i64 (-1)] w fun e w'=>e=.returned (.int .i8 0)∧Kept [330] w w'∧LShut s lb nb (nbV (s.fl i)) nv pos w':=by
 refine gs (bs:=[lb,nb,s.fl i,gb]) [.p 0 0,.p 2 0,(.it .i64 (-1))] _ Tryz.func250 hs (fun hW=>?_)
 refine ga0 200 ⟨[330],4,[],[],0⟩ hW (Fr.refl _ _ _) fun w1 hF1 hW1=>?_
 have hs1:=hW1.sq (HV s tl tu .ni (.p 3 0) (o1 nv) pos++F2 m m2)
 refine gc 238 [.p 0 0] hW1 ?_
 refine (c238_n s tl tu (nbV gb) nv pos lb nb w1 (hs1.sub [0,1] (by decide) (by simp) rfl ⟨hs1.memC 0 rfl (by kernel_rfl),hs1.memC 1 rfl (by kernel_rfl),trivial⟩)).mono ?_
 rintro e w2 ⟨rfl,hK2,hs2⟩
 have hs2':Sat [lb,nb,s.fl i,gb] (HV s tl tu .ni (.p 3 0) (o1 nv) pos++F2 m m2) w2:=hs1.re rfl ⟨hs2.memC 0 rfl (by kernel_rfl),hs2.memC 1 rfl (by kernel_rfl),hs1.kp hK2 2 _ rfl rfl,hs1.kp hK2 3 _ rfl rfl,trivial⟩
 refine ⟨.ni,[],(HV s tl tu .ni (.p 3 0) (o1 nv) pos++F2 m m2),rfl,hs2',fun hW2=>?_⟩
 refine ga0 (bs:=[lb,nb,s.fl i,gb]) 200 ⟨[330],4,[],[],1⟩ hW2 (hF1.call (nw:=[]) hK2) fun w3 hF3 hW3=>?_
 have hs3:=hW3.sq (HV s tl tu .ni (.p 2 0) (o1 nv) pos++F2 m m2)
 refine gc 259 [.p 0 0,.p 2 0,(.it .i64 (-1))] hW3 ?_
 refine (c259 (nbV lb) ⟨.int .i64 (-1),rfl⟩ m (s.fl i) w3 (hs3.sub [2] (by decide) (by simp) rfl ⟨hs3.memC 2 rfl (by kernel_rfl),trivial⟩)).mono ?_
 rintro e w4 ⟨rfl,hE4⟩
 have hs4:Sat [lb,nb,s.fl i,gb] (HV s tl tu .ni (.p 2 0) (o1 nv) pos++F2 m m2) w4:=hs3.kq hE4
 refine ⟨.tup [],[],(HV s tl tu .ni (.p 2 0) (o1 nv) pos++F2 m m2),rfl,hs4,fun hW4=>?_⟩
 refine ga0 (bs:=[lb,nb,s.fl i,gb]) 200 ⟨[330],4,[],[],1⟩ hW4 (hF3.call (nw:=[]) hE4) fun w5 hF5 hW5=>?_
 have hs5:=hW5.sq (HV s tl tu .ni (.p 2 0) (o1 nv) pos++F2 m m2)
 refine gc 260 [.p 0 0,.p 2 0] hW5 ?_
 refine (c260 s tl tu niV (nbV (s.fl i)) nv pos m lo up (sm i) (lg i) lb nb (s.fl i) w5 (hs5.sub [0,1,2] (by decide) (by simp) rfl ⟨hs5.memC 0 rfl (by kernel_rfl),hs5.memC 1 rfl (by kernel_rfl),hs5.memC 2 rfl (by kernel_rfl),trivial⟩) (hsm.kept hF5.kept (by simp)) (hlg.kept hF5.kept (by simp)) (hlo.kept hF5.kept (by simp)) (hup.kept hF5.kept (by simp))).mono ?_
 rintro e w6 ⟨rfl,hK6,tl2,tu2,hs6,hb6⟩
 rw [hI]
 have hs6':Sat [lb,nb,s.fl i,gb] (HV s tl2 tu2 .ni (.p 2 0) (o1 nv) pos++F2 m m2) w6:=hs5.re rfl ⟨hs6.memC 0 rfl (by kernel_rfl),hs6.memC 1 rfl (by kernel_rfl),hs6.memC 2 rfl (by kernel_rfl),hs5.kp hK6 3 _ rfl rfl,trivial⟩
 refine ⟨.it .i64 (-1),[],(HV s tl2 tu2 .ni (.p 2 0) (o1 nv) pos++F2 m m2),rfl,hs6',fun hW6=>?_⟩
 refine gf0 (bs:=[lb,nb,s.fl i,gb]) 200 ⟨[330],4,[],[],1⟩ hW6 (hF5.call (nw:=[]) hK6) fun w7 hK7 hF7 hW7=>?_
 have hs7:=hW7.sq (HV s tl2 tu2 .ni (.p 2 0) (o1 nv) pos++F2 m m2)
 exact gt (.it .i8 0) hW7.sat ⟨rfl,hF7.kept,tl2,tu2,(hs7.sub [0,1] (by decide) (by simp) rfl ⟨hs7.memC 0 rfl (by kernel_rfl),hs7.memC 1 rfl (by kernel_rfl),trivial⟩)⟩
theorem c250_d_0 [Bd] (s:LvS) (P:Nat→List S36) (tl tu nv:V1) (pos:Int) (lo up:Option (List UInt8)) (sm lg:Nat→List UInt8) (i:Nat) (hi:i < s.n) (m:FM) (gb:Nat) (m2:FM) (b0:Nat) (d:V1) (lb nb:Nat) (w:World)
  (hs:Sat [lb,nb,s.fl i,gb] (HV s tl tu (.ifc 155 (.ptr ⟨b0,0,none⟩)) (.p 3 0) (o1 nv) pos++F2 m m2) w) (hsm:RdS w m.u1 (sm i)) (hlg:RdS w m.u2 (lg i)) (hlo:RdO w s.lo.1 lo) (hup:RdO w s.up.1 up) (hI:itbI lo up (sm i) (lg i)=0) (hop:OpenH s lb nb P w):
  Calls Tryz.prog 250 #[.pointer (some ⟨lb,0,none⟩),.pointer (some ⟨s.fl i,0,none⟩),d.1] w fun e w'=>e=.returned (.int .i8 2)∧Kept [330] w w'∧LOpen s lb nb P lo up sm lg i (-1) nv pos w':=by
 refine gs (bs:=[lb,nb,s.fl i,gb]) [.p 0 0,.p 2 0,(o1 d)] _ Tryz.func250 hs (fun hW=>?_)
 refine ga0 200 ⟨[330],4,[],[],0⟩ hW (Fr.refl _ _ _) fun w1 hF1 hW1=>?_
 have hs1:=hW1.satD (HV s tl tu (.ifc 155 (.ptr ⟨b0,0,none⟩)) (.p 3 0) (o1 nv) pos++F2 m m2) (by kernel_rfl)
 refine gc 238 [.p 0 0] hW1 ?_
 refine (c238_t s tl tu b0 (nbV gb) nv pos lb nb w1 (hs1.sub [0,1] (by decide) (by simp) rfl ⟨hs1.memC 0 rfl (by kernel_rfl),hs1.memC 1 rfl (by kernel_rfl),trivial⟩)).mono ?_
 rintro e w2 ⟨rfl,hK2,hs2⟩
 have hs2':Sat [lb,nb,s.fl i,gb] (HV s tl tu .ni (.p 3 0) (o1 nv) pos++F2 m m2) w2:=hs1.re rfl ⟨hs2.memC 0 rfl (by kernel_rfl),hs2.memC 1 rfl (by kernel_rfl),hs1.kp hK2 2 _ rfl rfl,hs1.kp hK2 3 _ rfl rfl,trivial⟩
 refine ⟨.ni,[],(HV s tl tu .ni (.p 3 0) (o1 nv) pos++F2 m m2),rfl,hs2',fun hW2=>?_⟩
 refine ga0 (bs:=[lb,nb,s.fl i,gb]) 200 ⟨[330],4,[],[],1⟩ hW2 (hF1.call (nw:=[]) hK2) fun w3 hF3 hW3=>?_
 have hs3:=hW3.sq (HV s tl tu .ni (.p 2 0) (o1 nv) pos++F2 m m2)
 refine gc 259 [.p 0 0,.p 2 0,(o1 d)] hW3 ?_
 refine (c259 (nbV lb) d m (s.fl i) w3 (hs3.sub [2] (by decide) (by simp) rfl ⟨hs3.memC 2 rfl (by kernel_rfl),trivial⟩)).mono ?_
 rintro e w4 ⟨rfl,hE4⟩
 have hs4:Sat [lb,nb,s.fl i,gb] (HV s tl tu .ni (.p 2 0) (o1 nv) pos++F2 m m2) w4:=hs3.kq hE4
 refine ⟨.tup [],[],(HV s tl tu .ni (.p 2 0) (o1 nv) pos++F2 m m2),rfl,hs4,fun hW4=>?_⟩
 refine ga0 (bs:=[lb,nb,s.fl i,gb]) 200 ⟨[330],4,[],[],1⟩ hW4 (hF3.call (nw:=[]) hE4) fun w5 hF5 hW5=>?_
 have hs5:=hW5.sq (HV s tl tu .ni (.p 2 0) (o1 nv) pos++F2 m m2)
 refine gc 260 [.p 0 0,.p 2 0] hW5 ?_
 refine (c260 s tl tu niV (nbV (s.fl i)) nv pos m lo up (sm i) (lg i) lb nb (s.fl i) w5 (hs5.sub [0,1,2] (by decide) (by simp) rfl ⟨hs5.memC 0 rfl (by kernel_rfl),hs5.memC 1 rfl (by kernel_rfl),hs5.memC 2 rfl (by kernel_rfl),trivial⟩) (hsm.kept hF5.kept (by simp)) (hlg.kept hF5.kept (by simp)) (hlo.kept hF5.kept (by simp)) (hup.kept hF5.kept (by simp))).mono ?_
 rintro e w6 ⟨rfl,hK6,tl2,tu2,hs6,hb6⟩
 rw [hI]
 have hs6':Sat [lb,nb,s.fl i,gb] (HV s tl2 tu2 .ni (.p 2 0) (o1 nv) pos++F2 m m2) w6:=hs5.re rfl ⟨hs6.memC 0 rfl (by kernel_rfl),hs6.memC 1 rfl (by kernel_rfl),hs6.memC 2 rfl (by kernel_rfl),hs5.kp hK6 3 _ rfl rfl,trivial⟩
 refine ⟨.it .i64 (0),[],(HV s tl2 tu2 .ni (.p 2 0) (o1 nv) pos++F2 m m2),rfl,hs6',fun hW6=>?_⟩
 refine gf0 (bs:=[lb,nb,s.fl i,gb]) 200 ⟨[330],4,[],[],1⟩ hW6 (hF5.call (nw:=[]) hK6) fun w7 hK7 hF7 hW7=>?_
 have hs7:=hW7.sq (HV s tl2 tu2 .ni (.p 2 0) (o1 nv) pos++F2 m m2)
 obtain ⟨hb1,hb2⟩:=hb6 hI
 refine gd [] [] hW7 (fun hW8=>?_)
 have hF8:=hF7.drew
 refine gf0 (bs:=[lb,nb,s.fl i,gb]) 200 ⟨[330],4,[],[],1⟩ hW8 hF8 fun w9 hK9 hF9 hW9=>?_
 have hs9:=hW9.sq (HV s tl2 tu2 .ni (.p 2 0) (o1 nv) pos++F2 m m2)
 refine gcd 89 (k27_0 s) [] w7.drew hW9 (fun hC=>?_)
 have hk79:Kept [330] w6 w9:=hK7.drew.trans hK9
 refine (hop i hi tl2 tu2 niV (nbV (s.fl i)) nv pos (tlB lo (sm i)) (tuB up (lg i)) w9 (hF9.kept.mono (by simp)) (hs9.sub [0,1] (by decide) (by simp) rfl ⟨hs9.memC 0 rfl (by kernel_rfl),hs9.memC 1 rfl (by kernel_rfl),trivial⟩) (hb1.kept hk79 (by simp)) (hb2.kept hk79 (by simp))).mono ?_
 rintro e w10 ⟨b,vk,vv,rfl,hbn,hbb,hbl,hE10⟩
 have hzb:Bd.B≤b:=by first|assumption|(refine Sat.lo (by assumption) _ ?_;simp;done)|(refine Wk.lo (by assumption) _ ?_;simp;done)|exact Nat.le_trans (Wk.sz (by assumption)) (by assumption)|exact Nat.le_trans (Sat.sz (by assumption)) (by assumption)|exact Nat.le_trans ‹Bd.B≤_› (by assumption)
 have hs10:Sat [lb,nb,s.fl i,gb] (HV s tl2 tu2 .ni (.p 2 0) (o1 nv) pos++F2 m m2) w10:=hs9.kq hE10
 refine ⟨.tup [.ifc 155 (.ptr ⟨b,0,none⟩),.ni,.ni],[],(HV s tl2 tu2 .ni (.p 2 0) (o1 nv) pos++F2 m m2),rfl,hs10,hC.trans hE10,fun hW10=>?_⟩
 refine gf0 (bs:=[lb,nb,s.fl i,gb]) 200 ⟨[330],4,[],[],1⟩ hW10 (hF9.call (nw:=[]) hE10) fun w11 hK11 hF11 hW11=>?_
 have hs11:=hW11.satD (HV s tl2 tu2 (.ifc 155 (.ptr ⟨b,0,none⟩)) (.p 2 0) (o1 nv) pos++F2 m m2) (by kernel_rfl)
 exact gt (.it .i8 2) hW11.sat ⟨rfl,hF11.kept,tl2,tu2,b,vk,vv,(hs11.sub [0,1] (by decide) (by simp) rfl ⟨hs11.memC 0 rfl (by kernel_rfl),hs11.memC 1 rfl (by kernel_rfl),trivial⟩),(hK11.block b (solid_of hbb (by simp))).trans hbb,hbl.kept hK11 (by simp) (by simp) (by simp),hzb⟩
theorem c250_d_1 [Bd] (s:LvS) (P:Nat→List S36) (tl tu nv:V1) (pos:Int) (lo up:Option (List UInt8)) (sm lg:Nat→List UInt8) (i:Nat) (hi:i < s.n) (m:FM) (gb:Nat) (m2:FM) (b0:Nat) (lb nb:Nat) (w:World)
  (hs:Sat [lb,nb,s.fl i,gb] (HV s tl tu (.ifc 155 (.ptr ⟨b0,0,none⟩)) (.p 3 0) (o1 nv) pos++F2 m m2) w) (hsm:RdS w m.u1 (sm i)) (hlg:RdS w m.u2 (lg i)) (hlo:RdO w s.lo.1 lo) (hup:RdO w s.up.1 up) (hI:itbI lo up (sm i) (lg i)=1):
  Calls Tryz.prog 250 #[.pointer (some ⟨lb,0,none⟩),.pointer (some ⟨s.fl i,0,none⟩),.int .i64 1] w fun e w'=>e=.returned (.int .i8 0)∧Kept [330] w w'∧LShut s lb nb (nbV (s.fl i)) nv pos w':=by
 refine gs (bs:=[lb,nb,s.fl i,gb]) [.p 0 0,.p 2 0,(.it .i64 1)] _ Tryz.func250 hs (fun hW=>?_)
 refine ga0 200 ⟨[330],4,[],[],0⟩ hW (Fr.refl _ _ _) fun w1 hF1 hW1=>?_
 have hs1:=hW1.satD (HV s tl tu (.ifc 155 (.ptr ⟨b0,0,none⟩)) (.p 3 0) (o1 nv) pos++F2 m m2) (by kernel_rfl)
 refine gc 238 [.p 0 0] hW1 ?_
 refine (c238_t s tl tu b0 (nbV gb) nv pos lb nb w1 (hs1.sub [0,1] (by decide) (by simp) rfl ⟨hs1.memC 0 rfl (by kernel_rfl),hs1.memC 1 rfl (by kernel_rfl),trivial⟩)).mono ?_
 rintro e w2 ⟨rfl,hK2,hs2⟩
 have hs2':Sat [lb,nb,s.fl i,gb] (HV s tl tu .ni (.p 3 0) (o1 nv) pos++F2 m m2) w2:=hs1.re rfl ⟨hs2.memC 0 rfl (by kernel_rfl),hs2.memC 1 rfl (by kernel_rfl),hs1.kp hK2 2 _ rfl rfl,hs1.kp hK2 3 _ rfl rfl,trivial⟩
 refine ⟨.ni,[],(HV s tl tu .ni (.p 3 0) (o1 nv) pos++F2 m m2),rfl,hs2',fun hW2=>?_⟩
 refine ga0 (bs:=[lb,nb,s.fl i,gb]) 200 ⟨[330],4,[],[],1⟩ hW2 (hF1.call (nw:=[]) hK2) fun w3 hF3 hW3=>?_
 have hs3:=hW3.sq (HV s tl tu .ni (.p 2 0) (o1 nv) pos++F2 m m2)
 refine gc 259 [.p 0 0,.p 2 0,(.it .i64 1)] hW3 ?_
 refine (c259 (nbV lb) ⟨.int .i64 1,rfl⟩ m (s.fl i) w3 (hs3.sub [2] (by decide) (by simp) rfl ⟨hs3.memC 2 rfl (by kernel_rfl),trivial⟩)).mono ?_
 rintro e w4 ⟨rfl,hE4⟩
 have hs4:Sat [lb,nb,s.fl i,gb] (HV s tl tu .ni (.p 2 0) (o1 nv) pos++F2 m m2) w4:=hs3.kq hE4
 refine ⟨.tup [],[],(HV s tl tu .ni (.p 2 0) (o1 nv) pos++F2 m m2),rfl,hs4,fun hW4=>?_⟩
 refine ga0 (bs:=[lb,nb,s.fl i,gb]) 200 ⟨[330],4,[],[],1⟩ hW4 (hF3.call (nw:=[]) hE4) fun w5 hF5 hW5=>?_
 have hs5:=hW5.sq (HV s tl tu .ni (.p 2 0) (o1 nv) pos++F2 m m2)
 refine gc 260 [.p 0 0,.p 2 0] hW5 ?_
 refine (c260 s tl tu niV (nbV (s.fl i)) nv pos m lo up (sm i) (lg i) lb nb (s.fl i) w5 (hs5.sub [0,1,2] (by decide) (by simp) rfl ⟨hs5.memC 0 rfl (by kernel_rfl),hs5.memC 1 rfl (by kernel_rfl),hs5.memC 2 rfl (by kernel_rfl),trivial⟩) (hsm.kept hF5.kept (by simp)) (hlg.kept hF5.kept (by simp)) (hlo.kept hF5.kept (by simp)) (hup.kept hF5.kept (by simp))).mono ?_
 rintro e w6 ⟨rfl,hK6,tl2,tu2,hs6,hb6⟩
 rw [hI]
 have hs6':Sat [lb,nb,s.fl i,gb] (HV s tl2 tu2 .ni (.p 2 0) (o1 nv) pos++F2 m m2) w6:=hs5.re rfl ⟨hs6.memC 0 rfl (by kernel_rfl),hs6.memC 1 rfl (by kernel_rfl),hs6.memC 2 rfl (by kernel_rfl),hs5.kp hK6 3 _ rfl rfl,trivial⟩
 refine ⟨.it .i64 (1),[],(HV s tl2 tu2 .ni (.p 2 0) (o1 nv) pos++F2 m m2),rfl,hs6',fun hW6=>?_⟩
 refine gf0 (bs:=[lb,nb,s.fl i,gb]) 200 ⟨[330],4,[],[],1⟩ hW6 (hF5.call (nw:=[]) hK6) fun w7 hK7 hF7 hW7=>?_
 have hs7:=hW7.sq (HV s tl2 tu2 .ni (.p 2 0) (o1 nv) pos++F2 m m2)
 exact gt (.it .i8 0) hW7.sat ⟨rfl,hF7.kept,tl2,tu2,(hs7.sub [0,1] (by decide) (by simp) rfl ⟨hs7.memC 0 rfl (by kernel_rfl),hs7.memC 1 rfl (by kernel_rfl),trivial⟩)⟩
theorem c250_d_m1 [Bd] (s:LvS) (P:Nat→List S36) (tl tu nv:V1) (pos:Int) (lo up:Option (List UInt8)) (sm lg:Nat→List UInt8) (i:Nat) (hi:i < s.n) (m:FM) (gb:Nat) (m2:FM) (b0:Nat) (lb nb:Nat) (w:World)
  (hs:Sat [lb,nb,s.fl i,gb] (HV s tl tu (.ifc 155 (.ptr ⟨b0,0,none⟩)) (.p 3 0) (o1 nv) pos++F2 m m2) w) (hsm:RdS w m.u1 (sm i)) (hlg:RdS w m.u2 (lg i)) (hlo:RdO w s.lo.1 lo) (hup:RdO w s.up.1 up) (hI:itbI lo up (sm i) (lg i)= -1):
  Calls Tryz.prog 250 #[.pointer (some ⟨lb,0,none⟩),.pointer (some ⟨s.fl i,0,none⟩),.int .i64 (-1)] w fun e w'=>e=.returned (.int .i8 0)∧Kept [330] w w'∧LShut s lb nb (nbV (s.fl i)) nv pos w':=by
 refine gs (bs:=[lb,nb,s.fl i,gb]) [.p 0 0,.p 2 0,(.it .i64 (-1))] _ Tryz.func250 hs (fun hW=>?_)
 refine ga0 200 ⟨[330],4,[],[],0⟩ hW (Fr.refl _ _ _) fun w1 hF1 hW1=>?_
 have hs1:=hW1.satD (HV s tl tu (.ifc 155 (.ptr ⟨b0,0,none⟩)) (.p 3 0) (o1 nv) pos++F2 m m2) (by kernel_rfl)
 refine gc 238 [.p 0 0] hW1 ?_
 refine (c238_t s tl tu b0 (nbV gb) nv pos lb nb w1 (hs1.sub [0,1] (by decide) (by simp) rfl ⟨hs1.memC 0 rfl (by kernel_rfl),hs1.memC 1 rfl (by kernel_rfl),trivial⟩)).mono ?_
 rintro e w2 ⟨rfl,hK2,hs2⟩
 have hs2':Sat [lb,nb,s.fl i,gb] (HV s tl tu .ni (.p 3 0) (o1 nv) pos++F2 m m2) w2:=hs1.re rfl ⟨hs2.memC 0 rfl (by kernel_rfl),hs2.memC 1 rfl (by kernel_rfl),hs1.kp hK2 2 _ rfl rfl,hs1.kp hK2 3 _ rfl rfl,trivial⟩
 refine ⟨.ni,[],(HV s tl tu .ni (.p 3 0) (o1 nv) pos++F2 m m2),rfl,hs2',fun hW2=>?_⟩
 refine ga0 (bs:=[lb,nb,s.fl i,gb]) 200 ⟨[330],4,[],[],1⟩ hW2 (hF1.call (nw:=[]) hK2) fun w3 hF3 hW3=>?_
 have hs3:=hW3.sq (HV s tl tu .ni (.p 2 0) (o1 nv) pos++F2 m m2)
 refine gc 259 [.p 0 0,.p 2 0,(.it .i64 (-1))] hW3 ?_
 refine (c259 (nbV lb) ⟨.int .i64 (-1),rfl⟩ m (s.fl i) w3 (hs3.sub [2] (by decide) (by simp) rfl ⟨hs3.memC 2 rfl (by kernel_rfl),trivial⟩)).mono ?_
 rintro e w4 ⟨rfl,hE4⟩
 have hs4:Sat [lb,nb,s.fl i,gb] (HV s tl tu .ni (.p 2 0) (o1 nv) pos++F2 m m2) w4:=hs3.kq hE4
 refine ⟨.tup [],[],(HV s tl tu .ni (.p 2 0) (o1 nv) pos++F2 m m2),rfl,hs4,fun hW4=>?_⟩
 refine ga0 (bs:=[lb,nb,s.fl i,gb]) 200 ⟨[330],4,[],[],1⟩ hW4 (hF3.call (nw:=[]) hE4) fun w5 hF5 hW5=>?_
 have hs5:=hW5.sq (HV s tl tu .ni (.p 2 0) (o1 nv) pos++F2 m m2)
 refine gc 260 [.p 0 0,.p 2 0] hW5 ?_
 refine (c260 s tl tu niV (nbV (s.fl i)) nv pos m lo up (sm i) (lg i) lb nb (s.fl i) w5 (hs5.sub [0,1,2] (by decide) (by simp) rfl ⟨hs5.memC 0 rfl (by kernel_rfl),hs5.memC 1 rfl (by kernel_rfl),hs5.memC 2 rfl (by kernel_rfl),trivial⟩) (hsm.kept hF5.kept (by simp)) (hlg.kept hF5.kept (by simp)) (hlo.kept hF5.kept (by simp)) (hup.kept hF5.kept (by simp))).mono ?_
 rintro e w6 ⟨rfl,hK6,tl2,tu2,hs6,hb6⟩
 rw [hI]
 have hs6':Sat [lb,nb,s.fl i,gb] (HV s tl2 tu2 .ni (.p 2 0) (o1 nv) pos++F2 m m2) w6:=hs5.re rfl ⟨hs6.memC 0 rfl (by kernel_rfl),hs6.memC 1 rfl (by kernel_rfl),hs6.memC 2 rfl (by kernel_rfl),hs5.kp hK6 3 _ rfl rfl,trivial⟩
 refine ⟨.it .i64 (-1),[],(HV s tl2 tu2 .ni (.p 2 0) (o1 nv) pos++F2 m m2),rfl,hs6',fun hW6=>?_⟩
 refine gf0 (bs:=[lb,nb,s.fl i,gb]) 200 ⟨[330],4,[],[],1⟩ hW6 (hF5.call (nw:=[]) hK6) fun w7 hK7 hF7 hW7=>?_
 have hs7:=hW7.sq (HV s tl2 tu2 .ni (.p 2 0) (o1 nv) pos++F2 m m2)
 exact gt (.it .i8 0) hW7.sat ⟨rfl,hF7.kept,tl2,tu2,(hs7.sub [0,1] (by decide) (by simp) rfl ⟨hs7.memC 0 rfl (by kernel_rfl),hs7.memC 1 rfl (by kernel_rfl),trivial⟩)⟩
end Go.Proofs.YtghppnklhbbffaaGreatDoor.X
