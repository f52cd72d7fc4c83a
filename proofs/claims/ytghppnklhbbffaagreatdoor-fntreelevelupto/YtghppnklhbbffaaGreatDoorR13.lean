/- Part 13 of the proof that laws.FnTreeLevel answers true, for arguments of small bulk. -/
import Derived.Test.YtghppnklhbbffaaGreatDoorR12
import Derived.Test.YtghppnklhbbffaaGreatDoorR05
import Derived.Test.YtghppnklhbbffaaGreatDoorR11
import Derived.Test.YtghppnklhbbffaaGreatDoorR04
import Derived.Test.YtghppnklhbbffaaGreatDoorR01
import Derived.Laws.AppendOwn
import Derived.Maps.AppendAt
import Derived.Great.BuildSlice
set_option linter.all false
set_option maxHeartbeats 4000000
set_option maxRecDepth 100000
namespace Go.Proofs.YtghppnklhbbffaaGreatDoor.TL
open Go Go.RowKit Go.Proofs.YtghppnklhbbffaaGreatDoor.PFnTreeLevel Go.Proofs.YtghppnklhbbffaaGreatDoorW.PrintWords Go.Proofs.YtghppnklhbbffaaGreatDoorW.PrintLast
theorem c214 [Bd] (lb:Nat) (vk vv vlo vup kv:Value) (at_:Int) (xs:List S36) (lo up:Option (List UInt8)) (key:List UInt8) (w:World) (hb:w.heap[lb]? =some (.cells #[vk,vv,.int .i64 at_,vlo,vup] 266 (0,0))) (hL:LstC w vk vv vlo vup xs lo up) (hk:RdS w kv key) (hn:xs.length≤2^31) (hLB:autoParam (Bd.B≤lb) lb0._auto_1):
  Calls Tryz.prog 214 #[.pointer (some ⟨lb,0,none⟩),kv,.int .u8 0] w fun e w'=>LDone w w' lb vk vv vlo vup xs ((lSeek xs key:Nat) - 1:Int) (if lAhead xs lo ((lSeek xs key:Nat) - 1:Int)=true then none else some (lSeek xs key - 1)) e:=by
 have hu266:=Tryz.underlying266
 have hu224:=Tryz.underlying224
 have HB:=Aside0.mk hb
 have HL:=Aside0.mk hL
 have HK:=Aside0.mk hk
 have bl:=blk_lt hb
 have hle:=lSeek_le xs key
 clear hb hL hk
 generalize hR:(if lAhead xs lo ((lSeek xs key:Nat) - 1:Int)=true then none else some (lSeek xs key - 1):Option Nat)=R
 have HR:=Lib.hid hR
 clear hR
 have hw:wrap64 ((lSeek xs key:Int) - 1)=(lSeek xs key:Int) - 1:=by unfold wrap64;omega
 generalize hjj:lSeek xs key=j at *
 have HJ:=Lib.hid hjj
 clear hjj
 go_enter Tryz.func214,Tryz.ntmps214
 go_wp2_with (first
  |(go_at_call 222;go_loud (refine (c222 lb vk vv vlo vup kv at_ xs lo up key _ (blk_alloc HB.out _) (HL.out.kept ((Kept.refl [] w).alloc _) (by simp) (by simp) (by simp)) (HK.out.kept ((Kept.refl [] w).alloc _) (by simp))).mono ?_;rintro e w1 ⟨rfl,hb1,hk1⟩;have X1:=Aside0.mk (hk1.blkOf (heap_alloc_new w (.cells #[.slice none 0 0,.pointer none] 224)) (by decide));have K1:=Aside0.mk (((Kept.refl [266] w).alloc (.cells #[.slice none 0 0,.pointer none] 224)).trans hk1);rw [HJ.out] at hb1;have k2:=blk_cell hb1 2;have f2:=blk_frozen hb1 2;simp only [List.getElem?_toArray,List.getElem?_cons_zero,List.getElem?_cons_succ] at k2;have B1:=Aside0.mk hb1;clear hb1 hk1))
  |(go_at_call 218;go_loud (
    have hX:=blk_far X1.out (p:=⟨lb,2,none⟩) (Nat.ne_of_gt bl) (.int .i64 ((j:Int) - 1));
    have hb1:=blk_put (cs':= #[vk,vv,.int .i64 ((j:Int) - 1),vlo,vup]) B1.out 2 (.int .i64 ((j:Int) - 1)) rfl;
    have hK:=K1.out.setCell (p:=⟨lb,2,none⟩) B1.out (by decide) (.int .i64 ((j:Int) - 1)) hLB;
    clear k2 f2;refine (c218 lb vk vv vlo vup _ xs lo up _ hb1 (HL.out.kept hK (by decide) (by decide) (by decide)) (by omega) (by omega)).mono ?_;rintro e w2 ⟨v,rfl,hv,hk⟩;
    have hX2:=hk.blk hX;have HX:=Aside0.mk hX2;have HB2:=Aside0.mk (hk.blk hb1);have HK2:=Aside0.mk (hK.trans (Kept.of_ext hk _));have HV:Aside0 (lRes vk vv w2 xs R v):=⟨by rw [←HR.out];have e:((j:Int) - 1).toNat=j - 1:=(by omega);rw [e] at hv;exact hv⟩;
    obtain ⟨p,A,n,c,rfl⟩:=lRes_form hv;
    have x0:=blk_cell hX2 0;have x1:=blk_cell hX2 1;have f0:=blk_frozen hX2 0;have f1:=blk_frozen hX2 1;simp only [List.getElem?_toArray,List.getElem?_cons_zero,List.getElem?_cons_succ] at x0 x1;clear hX hb1 hK hX2 hk hv)))
 have hX2:=blk_put (cs':= #[.slice A n c,.pointer none]) HX.out 0 (.slice A n c) rfl
 have hK2:=HK2.out.setNew (p:=⟨w.heap.size,0,none⟩) (Nat.le_refl _) (.slice A n c)
 have hV2:=HV.out.setN (p:=⟨w.heap.size,0,none⟩) HX.out (by decide) (.slice A n c)
 have hB2:=blk_far HB2.out (p:=⟨w.heap.size,0,none⟩) (Nat.ne_of_lt bl) (.slice A n c)
 clear x0 x1 f0 f1
 generalize w2.setCell ⟨w.heap.size,0,none⟩ (.slice A n c)=w3 at *
 have y0:=blk_cell hX2 0
 have y1:=blk_cell hX2 1
 simp only [List.getElem?_toArray,List.getElem?_cons_zero,List.getElem?_cons_succ] at y0 y1
 refine bodyPost_ret (v:=.tuple #[.pointer p,.agg #[.slice A n c,.pointer none]]) ?_ rfl ?_
 ·rw [results,show Tryz.f214.results= #[.tmp 6,.cell 7 224] from rfl]
  clear hX2 hK2 hV2 hB2
  simp [go_sem,loadVar,asAddr,y0,y1]
 ·exact ⟨⟨_,rfl,hV2⟩,hB2,hK2⟩
end Go.Proofs.YtghppnklhbbffaaGreatDoor.TL
namespace Go.Proofs.YtghppnklhbbffaaGreatDoor.X
open Go Go.RowKit Go.Proofs.YtghppnklhbbffaaGreatDoor.TL Go.Proofs.YtghppnklhbbffaaGreatDoor.PFnTreeLevel Go.Proofs.YtghppnklhbbffaaGreatDoorW.PrintWords
def RK {α:Type} (d:Kd α) (e:Nat) (w:World) (v:Value) (xs:List α):Prop:= ∃ base,d.R e w base (fun _=>True) v xs
theorem RK.kept [Bd] {α:Type} {d:Kd α} {e:Nat} {w w':World} {v:Value} {xs:List α} {ts:List TypeId} (h:RK d e w v xs) (hk:Kept ts w w') (ht: ∀ q∈e::d.E,q∉ts):RK d e w' v xs:=by
 obtain ⟨base,h⟩:=h
 refine ⟨base,Kd.R_mono (Kd.R_move (Kd.R_bound h) fun k hk'=>?_) (fun _ _=>trivial)⟩
 obtain ⟨_,_,_,q,hq,cells,hc⟩:=hk'
 exact hk.block k (solid_of hc (ht q hq))
theorem RK.reads [Bd] {α:Type} {d:Kd α} {e:Nat} {w:World} {v:Value} {xs:List α} (h:RK d e w v xs): ∃ A c,v=.slice A xs.length c∧xs.length≤c∧d.C w A xs.length xs:=by
 obtain ⟨base,h⟩:=h;exact Kd.R_reads h
theorem RK.at36 [Bd] {w:World} {v:Value} {xs:List S36} (h:RK k36 36 w v xs): ∃ A c,v=.slice A xs.length c∧xs.length≤c∧ ∀ i (hi:i < xs.length), ∃ ad,A=some ad∧w.cell? (ad.add (i*3))=some (.string xs[i].f0)∧w.cell? ((ad.add (i*3)).add 1)=some (.int .u64 xs[i].f1)∧w.cell? ((ad.add (i*3)).add 2)=some (.string xs[i].f2):=by
 obtain ⟨A,c,h1,h2,h3⟩:=h.reads
 refine ⟨A,c,h1,h2,fun i hi=>?_⟩
 obtain ⟨ad,e1,g1,g2,g3⟩:=at_T36 h3 (i:Int) (by omega) (by omega)
 have e:rd_T36 xs (i:Int)=xs[i]:=by unfold rd_T36;simp [List.getD_eq_getElem?_getD,hi]
 rw [e] at g1 g2 g3
 exact ⟨ad,e1,g1,g2,g3⟩
def fm0 (id:Int) (lo hi:SV):List SV:=fmG (.si .u64 id) lo hi .np .ns z64 .ns z64 .ns z64 .ns z64 false false 0
abbrev k11_0 (id:Int) (lo:Int) (hi:Int):List SB:=[⟨4,[.bl false]⟩,⟨79,[.p 2 0]⟩,⟨188,fm0 id (.si .u64 lo) (.si .u64 hi)⟩]
theorem c53_t [Bd] (sb mb f:Nat) (id n:Int) (lo hi:V1) (w:World) (hs:Sat [sb,mb,f] [⟨4,[.bl true]⟩,⟨79,[.p 2 0]⟩,⟨188,fm0 id (o1 lo) (o1 hi)⟩] w):
  Calls Tryz.prog 53 #[.int .u64 n,.pointer (some ⟨sb,0,none⟩),.pointer (some ⟨mb,0,none⟩)] w fun e w'=>e=.returned (.tuple #[])∧(Kept [4,188] w w'∧Far [sb,mb,f] w w')∧ ∃ lo hi:Int,Sat [sb,mb,f] (k11_0 id lo hi) w':=by
 refine gs (bs:=[sb,mb,f]) [.si .u64 n,.p 0 0,.p 1 0] _ Tryz.func53 hs (fun hW=>?_)
 refine ga0 200 ⟨[4,188,4000000],3,[],[],0⟩ hW (Fr.refl _ _ _) fun w1 hF hW1=>?_
 exact gt (.tup []) hW1.sat ⟨rfl,hF.kf hs [4,188] (by kernel_rfl),n,n,hW1.satE _ (by kernel_rfl)⟩
theorem c53_f [Bd] (sb mb f:Nat) (id n lo hi:Int) (w:World) (hs:Sat [sb,mb,f] (k11_0 id lo hi) w):
  Calls Tryz.prog 53 #[.int .u64 n,.pointer (some ⟨sb,0,none⟩),.pointer (some ⟨mb,0,none⟩)] w fun e w'=>e=.returned (.tuple #[])∧(Kept [4,188] w w'∧Far [sb,mb,f] w w')∧ ∃ lo hi:Int,Sat [sb,mb,f] (k11_0 id lo hi) w':=by
 refine gs (bs:=[sb,mb,f]) [.si .u64 n,.p 0 0,.p 1 0] _ Tryz.func53 hs (fun hW=>?_)
 by_cases hl:n < lo
 ·by_cases hg:n>hi
  ·refine ga0 200 ⟨[4,188,4000000],3,[],[(12,true),(25,true)],0⟩ hW (Fr.refl _ _ _) (fun w1 hF hW1=>?_) [(decide (n < lo),true),(decide (n>hi),true)] ⟨by simp [hl],by simp [hg],trivial⟩
   exact gt (.tup []) hW1.sat ⟨rfl,hF.kf hs [4,188] (by kernel_rfl),n,n,hW1.satE _ (by kernel_rfl)⟩
  ·refine ga0 200 ⟨[4,188,4000000],3,[],[(12,true),(25,false)],0⟩ hW (Fr.refl _ _ _) (fun w1 hF hW1=>?_) [(decide (n < lo),true),(decide (n>hi),false)] ⟨by simp [hl],by simp [hg],trivial⟩
   exact gt (.tup []) hW1.sat ⟨rfl,hF.kf hs [4,188] (by kernel_rfl),n,hi,hW1.satE _ (by kernel_rfl)⟩
 ·by_cases hg:n>hi
  ·refine ga0 200 ⟨[4,188,4000000],3,[],[(12,false),(25,true)],0⟩ hW (Fr.refl _ _ _) (fun w1 hF hW1=>?_) [(decide (n < lo),false),(decide (n>hi),true)] ⟨by simp [hl],by simp [hg],trivial⟩
   exact gt (.tup []) hW1.sat ⟨rfl,hF.kf hs [4,188] (by kernel_rfl),lo,n,hW1.satE _ (by kernel_rfl)⟩
  ·refine ga0 200 ⟨[4,188,4000000],3,[],[(12,false),(25,false)],0⟩ hW (Fr.refl _ _ _) (fun w1 hF hW1=>?_) [(decide (n < lo),false),(decide (n>hi),false)] ⟨by simp [hl],by simp [hg],trivial⟩
   exact gt (.tup []) hW1.sat ⟨rfl,hF.kf hs [4,188] (by kernel_rfl),lo,hi,hW1.satE _ (by kernel_rfl)⟩
theorem Sat.kp [Bd] {bs:List Nat} {H:List SB} {w w':World} {us:List TypeId} (h:Sat bs H w) (hk:Kept us w w') (i:Nat) (ob:SB) (ho:H[i]? =some ob) (hn:us.contains ob.ty=false):w'.heap[nmB bs i]? =some (.cells (SV.denL bs ob.cs).toArray ob.ty (0,0)):=by
 have hm:=h.mem i ob ho
 rw [hk.block _ (solid_of hm (by simpa using hn))];exact hm
theorem actS_cut [Bd] (bs nw:List Nat) (T:List SV) (h:SV.ltL bs.length T=true):actS (bs++nw) T=actS bs T:=by
 unfold actS;rw [denL_app T h]
abbrev cmpS : List SV := [.fn 65 [], .fn 66 [], .fn 67 [], .nf, .fn 69 [], .nf, .fn 71 [], .fn 72 [], .str "leveldb.BytewiseComparator".toUTF8]
noncomputable def R21 (id:Int) (A:Addr) (n c:Nat):ST:=runS Tryz.prog ⟨[4,188,4000000],0,[],[],0⟩ 200 (startS Tryz.f21 [.agg [.si .u64 id,.sl A n c,.ns]] [])
noncomputable def S21 (id:Int) (A:Addr) (n c:Nat):ST:=runS Tryz.prog ⟨[4,188,4000000],0,[],[],0⟩ 200 (afterC (R21 id A n c) (.p 1 0) [⟨43,[.si .u64 id,.sl A n c,.ns]⟩,⟨113,cmpS⟩])
noncomputable def T21 (id:Int) (A:Addr) (n c:Nat) (j:Int) (xs:Nat→Value):List SV:=hav [8,30,31,32,33,34,35,36,37,38] xs ((S21 id A n c).T.set 29 (.si .i64 j))
def H21z (id:Int) (A:Addr) (n c:Nat):List SB:=[⟨43,[.si .u64 id,.sl A n c,.ns]⟩,⟨113,cmpS⟩,⟨188,fm0 id z64 z64⟩,⟨79,[.p 2 0]⟩,⟨4,[.bl true]⟩]
def H21f (id:Int) (A:Addr) (n c:Nat) (lo hi:Int):List SB:=[⟨43,[.si .u64 id,.sl A n c,.ns]⟩,⟨113,cmpS⟩,⟨188,fm0 id (.si .u64 lo) (.si .u64 hi)⟩,⟨79,[.p 2 0]⟩,⟨4,[.bl false]⟩]
def J21 [Bd] (id:Int) (A:Addr) (n c:Nat) (w0:World) (b1 b2 b3 b4 b5:Nat) (m:Nat) (bs:List Nat) (T:List SV) (H:List SB) (w:World):Prop:=
 ∃ (j:Nat) (xs:Nat→Value),j≤n∧m+j=n∧bs=[b1,b2,b3,b4,b5]∧T=T21 id A n c j xs∧Fr [4,188,4000000] w0 [] bs w∧((j=0∧H=H21z id A n c)∨(1≤j∧ ∃ lo hi,H=H21f id A n c lo hi))
abbrev k12_0 (id:Int):List SV:=[.it .i32 0,.it .i32 0,z64,.si .u64 id,.it .u64 1]
def Post21 [Bd] (id:Int) (xs:List S36) (w:World) (e:Ending) (w':World):Prop:=
 ∃ (f fb:Nat) (m:FM),w.heap.size≤f∧w.heap.size≤fb∧e=.returned (.pointer (some ⟨f,0,none⟩))∧m.id=id∧m.fb=fb∧Ext w w'∧
  Sat [f,fb] [⟨188,fmS m⟩,⟨311,(k12_0 id)⟩] w'∧
  ∀ h:0 < xs.length,RdS w' m.u1 (TL.bs xs[0].f0)∧m.t1=xs[0].f1∧RdS w' m.u2 (TL.bs xs[xs.length - 1].f0)∧m.t2=xs[xs.length - 1].f1
theorem c21 [Bd] (id:Int) (v:Value) (pts:List S36) (w:World) (hp:RK k36 36 w v pts) (hn1:1≤pts.length) (hn:pts.length < 2^30) (hB0:autoParam (Bd.B≤w.heap.size) sz0._auto_1):
  Calls Tryz.prog 21 #[.agg #[.int .u64 id,v,.slice none 0 0]] w (Post21 id pts w):=by
 obtain ⟨A0,c,rfl,_,hA⟩:=hp.at36
 obtain ⟨A,rfl,_⟩:=hA 0 hn1
 clear hA
 obtain ⟨n,hnn⟩: ∃ n,n=pts.length:=⟨_,rfl⟩
 rw [←hnn] at hn1 hn hp ⊢
 have hcell: ∀ {ts:List TypeId} {w':World},Kept ts w w'→36∉ts→ ∀ i (hi:i < pts.length),w'.cell? (A.add (i*3))=some (.string pts[i].f0)∧w'.cell? ((A.add (i*3)).add 1)=some (.int .u64 pts[i].f1)∧w'.cell? ((A.add (i*3)).add 2)=some (.string pts[i].f2):=by
  intro ts w' hk ht i hi
  obtain ⟨A',c',e,_,h⟩:=(hp.kept hk (by intro q hq;simp [k36,Kd.iso,Kd.pair,Kd.string,Kd.int,Kd.scalar] at hq;subst hq;exact ht)).at36
  simp only [Value.slice.injEq] at e
  obtain ⟨rfl, -, rfl⟩:=e
  obtain ⟨ad,e2,h2⟩:=h i hi
  simp only [Option.some.injEq] at e2
  subst e2
  exact h2
 refine gs (bs:=[]) [.agg [.si .u64 id,.sl A n c,.ns]] [] Tryz.func21 (sat0 w) (fun hW=>?_)
 refine go_runA 200 ⟨[4,188,4000000],0,[],[],0⟩ (by kernel_rfl) hW (Fr.refl _ _ _) rfl [] (by kernel_rfl) trivial ?_
 intro nw w1 hF hW1
 obtain ⟨b1,rfl⟩:=nw1 (hW1.num 1 (by kernel_rfl)) rfl
 have hs1:=hW1.satE [⟨43,[.si .u64 id,.sl A n c,.ns]⟩] (by kernel_rfl)
 refine gc 23 [] hW1 ?_
 refine (c23 w1).mono ?_
 rintro e w2 ⟨b2,rfl,hb2,hg2,hE2⟩
 refine ⟨.p 1 0,[b2],[⟨43,[.si .u64 id,.sl A n c,.ns]⟩,⟨113,cmpS⟩],rfl,hs1.ext hb2 rfl ⟨hs1.kp hE2 0 _ rfl rfl,hg2,trivial⟩,fun hW2=>?_⟩
 refine go_runA (bs:=[b1,b2]) 200 ⟨[4,188,4000000],0,[],[],0⟩ (by kernel_rfl) hW2 (hF.call (nw:=[b2]) hE2 (by simp) (by simpa using hb2)) rfl [] (by kernel_rfl) trivial ?_
 intro nw w3 hF3 hW3
 obtain ⟨b3,b4,b5,rfl⟩:=nw3 (hW3.num 5 (by kernel_rfl)) rfl
 refine go_loop (s:=S21 id A n c) (bs:=[b1,b2,b3,b4,b5]) (J21 id A n c w b1 b2 b3 b4 b5) n (by kernel_rfl) hW3 (fun xs=>T21 id A n c 0 xs) (H21z id A n c) (by kernel_rfl) (by kernel_rfl) (fun xs=>⟨0,xs,by omega,by omega,rfl,rfl,hF3,.inl ⟨rfl,rfl⟩⟩) ?_ ?_
 ·rintro m bs' T H w' ⟨j,xs,_,_,rfl,_⟩
  exact ⟨[],rfl⟩
 ·rintro m bs' T H w' ⟨j,xs,hj,hm,rfl,rfl,hF',hcase⟩ hW'
  by_cases hlt:j < n
  ·have hjl:j < pts.length:=by omega
   rcases hcase with ⟨rfl,rfl⟩|⟨hj1,lo,hi,rfl⟩
   ·
    refine go_runA (s:=bodyS (S21 id A n c) (Hand (J21 id A n c w b1 b2 b3 b4 b5) m) (T21 id A n c 0 xs) (H21z id A n c)) (bs:=[b1,b2,b3,b4,b5]) 200 ⟨[4,188,4000000],0,[],[(30,true)],0⟩ (by kernel_rfl) hW' hF' rfl [(decide (((0:Nat):Int) < n),true),(decide ((0:Int)≤((0:Nat):Int)),true),(decide (((0:Nat):Int) < n),true)] (by kernel_rfl) ⟨by simpa using hlt,by simp,by simpa using hlt,trivial⟩ ?_
    intro nw w2 hF2 hW2
    obtain rfl:=nw0 (hW2.num 5 (by kernel_rfl)) rfl
    obtain ⟨q0,q1,q2⟩:=hcell hF2.kept (by simp) 0 hjl
    refine go_loadA 36 (.tmp 31) (A.add (((0:Nat):Int).toNat*3)) [.str pts[0].f0,.si .u64 pts[0].f1,.str pts[0].f2] (H21z id A n c) (by kernel_rfl) (by kernel_rfl) (by kernel_rfl) (by kernel_rfl) hW2 (by kernel_rfl) (by intro k y hk;match k,hk with|0,hk=>cases hk;exact q0|1,hk=>cases hk;simpa [SV.den] using q1|2,hk=>cases hk;simpa [SV.den] using q2) (fun hW3=>?_)
    clear q0 q1 q2
    refine go_runA (bs:=[b1,b2,b3,b4,b5]) 200 ⟨[4,188,4000000],0,[],[],0⟩ (by kernel_rfl) hW3 hF2 rfl [] (by kernel_rfl) trivial ?_
    intro nw w4 hF4 hW4
    obtain ⟨b6,rfl⟩:=nw1 (hW4.num 6 (by kernel_rfl)) rfl
    have hs4:=hW4.satE ((H21z id A n c)++[⟨36,[.str pts[0].f0,.si .u64 pts[0].f1,.str pts[0].f2]⟩]) (by kernel_rfl)
    refine gc 54 [.si .u64 pts[0].f1] hW4 ?_
    refine (c54 pts[0].f1 w4).mono ?_
    rintro e w5 ⟨rfl,hE5⟩
    have hs5:=hs4.kq hE5
    refine ⟨.si .u64 (pts[0].f1 / 256),[],_,rfl,hs5,fun hW5=>?_⟩
    refine ga0 (bs:=[b1,b2,b3,b4,b5,b6]) 200 ⟨[4,188,4000000],0,[],[],0⟩ hW5 (hF4.call (nw:=[]) hE5) fun w5 hF5 hW5=>?_
    clear hs5
    have hs5:=hW5.satE ((H21z id A n c)++[⟨36,[.str pts[0].f0,.si .u64 pts[0].f1,.str pts[0].f2]⟩]) (by kernel_rfl)
    refine gc 53 [.si .u64 (pts[0].f1 / 256),.p 4 0,.p 3 0] hW5 ?_
    refine (c53_t b5 b4 b3 id (pts[0].f1 / 256) ⟨.int .u64 0,rfl⟩ ⟨.int .u64 0,rfl⟩ w5 (hs5.sub [4,3,2] (by decide) (by simp) rfl ⟨hs5.mem 4 _ rfl,hs5.mem 3 _ rfl,hs5.mem 2 _ rfl,trivial⟩)).mono ?_
    rintro e w6 ⟨rfl,⟨hK6,hN6⟩,lo',hi',hs6⟩
    have hs6':Sat [b1,b2,b3,b4,b5,b6] (H21f id A n c lo' hi'++[⟨36,[.str pts[0].f0,.si .u64 pts[0].f1,.str pts[0].f2]⟩]) w6:=
     hs5.re rfl ⟨hs5.kp hK6 0 _ rfl rfl,hs5.kp hK6 1 _ rfl rfl,hs6.mem 2 _ rfl,hs6.mem 1 _ rfl,hs6.mem 0 _ rfl,hs5.kp hK6 5 _ rfl rfl,trivial⟩
    refine ⟨.tup [],[],_,rfl,hs6',fun hW6=>?_⟩
    refine ga0 (bs:=[b1,b2,b3,b4,b5,b6]) 200 ⟨[4,188,4000000],0,[],[],0⟩ hW6 (hF5.callF (nw:=[]) hK6 hN6) fun w7 hF7 hW7=>?_
    have hs7:=hW7.satE (H21f id A n c lo' hi'++[⟨36,[.str pts[0].f0,.si .u64 pts[0].f1,.str pts[0].f2]⟩]) (by kernel_rfl)
    have hs8:Sat [b1,b2,b3,b4,b5] (H21f id A n c lo' hi') w7:=hs7.sub [0,1,2,3,4] (by decide) (by simp) rfl ⟨hs7.mem 0 _ rfl,hs7.mem 1 _ rfl,hs7.mem 2 _ rfl,hs7.mem 3 _ rfl,hs7.mem 4 _ rfl,trivial⟩
    refine go_fin (Hand (J21 id A n c w b1 b2 b3 b4 b5) m) (by kernel_rfl) (fun xs=>T21 id A n c ((0+1:Nat):Int) xs) (by kernel_rfl) (fun xs=>?_)
    exact ⟨m - 1,by omega,[b1,b2,b3,b4,b5],_,_,actS_cut [b1,b2,b3,b4,b5] [b6] _ (by kernel_rfl),hs8,0+1,xs,by omega,by omega,rfl,rfl,hF7.drop,.inr ⟨by omega,lo',hi',rfl⟩⟩
   ·
    refine go_runA (s:=bodyS (S21 id A n c) (Hand (J21 id A n c w b1 b2 b3 b4 b5) m) (T21 id A n c j xs) (H21f id A n c lo hi)) (bs:=[b1,b2,b3,b4,b5]) 200 ⟨[4,188,4000000],0,[],[(30,true)],0⟩ (by kernel_rfl) hW' hF' rfl [(decide (((j:Nat):Int) < n),true),(decide ((0:Int)≤((j:Nat):Int)),true),(decide (((j:Nat):Int) < n),true)] (by kernel_rfl) ⟨by simpa using hlt,by simp,by simpa using hlt,trivial⟩ ?_
    intro nw w2 hF2 hW2
    obtain rfl:=nw0 (hW2.num 5 (by kernel_rfl)) rfl
    obtain ⟨q0,q1,q2⟩:=hcell hF2.kept (by simp) j hjl
    refine go_loadA 36 (.tmp 31) (A.add (((j:Nat):Int).toNat*3)) [.str pts[j].f0,.si .u64 pts[j].f1,.str pts[j].f2] (H21f id A n c lo hi) (by kernel_rfl) (by kernel_rfl) (by kernel_rfl) (by kernel_rfl) hW2 (by kernel_rfl) (by intro k y hk;match k,hk with|0,hk=>cases hk;exact q0|1,hk=>cases hk;simpa [SV.den] using q1|2,hk=>cases hk;simpa [SV.den] using q2) (fun hW3=>?_)
    clear q0 q1 q2
    refine go_runA (bs:=[b1,b2,b3,b4,b5]) 200 ⟨[4,188,4000000],0,[],[],0⟩ (by kernel_rfl) hW3 hF2 rfl [] (by kernel_rfl) trivial ?_
    intro nw w4 hF4 hW4
    obtain ⟨b6,rfl⟩:=nw1 (hW4.num 6 (by kernel_rfl)) rfl
    have hs4:=hW4.satE ((H21f id A n c lo hi)++[⟨36,[.str pts[j].f0,.si .u64 pts[j].f1,.str pts[j].f2]⟩]) (by kernel_rfl)
    refine gc 54 [.si .u64 pts[j].f1] hW4 ?_
    refine (c54 pts[j].f1 w4).mono ?_
    rintro e w5 ⟨rfl,hE5⟩
    have hs5:=hs4.kq hE5
    refine ⟨.si .u64 (pts[j].f1 / 256),[],_,rfl,hs5,fun hW5=>?_⟩
    refine ga0 (bs:=[b1,b2,b3,b4,b5,b6]) 200 ⟨[4,188,4000000],0,[],[],0⟩ hW5 (hF4.call (nw:=[]) hE5) fun w5 hF5 hW5=>?_
    clear hs5
    have hs5:=hW5.satE ((H21f id A n c lo hi)++[⟨36,[.str pts[j].f0,.si .u64 pts[j].f1,.str pts[j].f2]⟩]) (by kernel_rfl)
    refine gc 53 [.si .u64 (pts[j].f1 / 256),.p 4 0,.p 3 0] hW5 ?_
    refine (c53_f b5 b4 b3 id (pts[j].f1 / 256) lo hi w5 (hs5.sub [4,3,2] (by decide) (by simp) rfl ⟨hs5.mem 4 _ rfl,hs5.mem 3 _ rfl,hs5.mem 2 _ rfl,trivial⟩)).mono ?_
    rintro e w6 ⟨rfl,⟨hK6,hN6⟩,lo',hi',hs6⟩
    have hs6':Sat [b1,b2,b3,b4,b5,b6] (H21f id A n c lo' hi'++[⟨36,[.str pts[j].f0,.si .u64 pts[j].f1,.str pts[j].f2]⟩]) w6:=
     hs5.re rfl ⟨hs5.kp hK6 0 _ rfl rfl,hs5.kp hK6 1 _ rfl rfl,hs6.mem 2 _ rfl,hs6.mem 1 _ rfl,hs6.mem 0 _ rfl,hs5.kp hK6 5 _ rfl rfl,trivial⟩
    refine ⟨.tup [],[],_,rfl,hs6',fun hW6=>?_⟩
    refine ga0 (bs:=[b1,b2,b3,b4,b5,b6]) 200 ⟨[4,188,4000000],0,[],[],0⟩ hW6 (hF5.callF (nw:=[]) hK6 hN6) fun w7 hF7 hW7=>?_
    have hs7:=hW7.satE (H21f id A n c lo' hi'++[⟨36,[.str pts[j].f0,.si .u64 pts[j].f1,.str pts[j].f2]⟩]) (by kernel_rfl)
    have hs8:Sat [b1,b2,b3,b4,b5] (H21f id A n c lo' hi') w7:=hs7.sub [0,1,2,3,4] (by decide) (by simp) rfl ⟨hs7.mem 0 _ rfl,hs7.mem 1 _ rfl,hs7.mem 2 _ rfl,hs7.mem 3 _ rfl,hs7.mem 4 _ rfl,trivial⟩
    refine go_fin (Hand (J21 id A n c w b1 b2 b3 b4 b5) m) (by kernel_rfl) (fun xs=>T21 id A n c (IntKind.i64.wrap ((j:Int)+1)) xs) (by kernel_rfl) (fun xs=>?_)
    rw [wrap_succ j (by omega)]
    exact ⟨m - 1,by omega,[b1,b2,b3,b4,b5],_,_,actS_cut [b1,b2,b3,b4,b5] [b6] _ (by kernel_rfl),hs8,j+1,xs,by omega,by omega,rfl,rfl,hF7.drop,.inr ⟨by omega,lo',hi',rfl⟩⟩
  ·obtain rfl:j=n:=by omega
   rcases hcase with ⟨h0,_⟩|⟨_,lo,hi,rfl⟩
   ·omega
   have hj0:0 < pts.length:=by omega
   have hjl:j - 1 < pts.length:=by omega
   have hwr:IntKind.i64.wrap ((j:Int) - 1)=((j - 1:Nat):Int):=(IntWalk.i64_in _ (by omega)).trans (by omega)
   refine go_runA (s:=bodyS (S21 id A j c) (Hand (J21 id A j c w b1 b2 b3 b4 b5) m) (T21 id A j c j xs) (H21f id A j c lo hi)) (bs:=[b1,b2,b3,b4,b5]) 200 ⟨[4,188,4000000],0,[],[(30,false),(43,true)],0⟩ (by kernel_rfl) hW' hF' rfl [(decide ((j:Int) < j),false),(decide ((j:Int)>0),true)] (by kernel_rfl) ⟨by simp,by simp;omega,trivial⟩ ?_
   intro nw w2 hF2 hW2
   obtain rfl:=nw0 (hW2.num 5 (by kernel_rfl)) rfl
   refine gd [] [] hW2 (fun hW3=>?_)
   refine ga0 (bs:=[b1,b2,b3,b4,b5]) 200 ⟨[4,188,4000000],0,[],[],0⟩ hW3 hF2.drew (fun w4 hF4 hW4=>?_) [(decide ((0:Int)≤0),true),(decide ((0:Int) < j),true),(decide ((0:Int)≤IntKind.i64.wrap ((j:Int) - 1)),true),(decide (IntKind.i64.wrap ((j:Int) - 1) < j),true)] ⟨by simp,by simp;omega,by rw [hwr];simp,by rw [hwr];simp;omega,trivial⟩
   have hw1:(IntKind.i64.wrap ((j:Int) - 1)).toNat=j - 1:=by rw [hwr];simp
   refine go_hloadA 5 36 (.tmp 48) [] w2.drew (A.add ((0:Int).toNat*3)) [.str pts[0].f0,.si .u64 pts[0].f1,.str pts[0].f2] (H21f id A j c lo hi) (by kernel_rfl) (by kernel_rfl) (by kernel_rfl) (by kernel_rfl) (by kernel_rfl) hW4 (by kernel_rfl) (fun w' hC=>by obtain ⟨q0,q1,q2⟩:=hcell (hF2.kept.drew.trans (hC.mono (by simp))) (by simp) 0 hj0;intro k y hk;match k,hk with|0,hk=>cases hk;exact q0|1,hk=>cases hk;exact q1|2,hk=>cases hk;exact q2) (fun hW5=>?_)
   refine go_hloadA 12 36 (.tmp 55) [] w2.drew (A.add ((IntKind.i64.wrap ((j:Int) - 1)).toNat*3)) [.str pts[j - 1].f0,.si .u64 pts[j - 1].f1,.str pts[j - 1].f2] (H21f id A j c lo hi) (by kernel_rfl) (by kernel_rfl) (by kernel_rfl) (by kernel_rfl) (by kernel_rfl) hW5 (by kernel_rfl) (by rw [hw1];exact (fun w' hC=>by obtain ⟨q0,q1,q2⟩:=hcell (hF2.kept.drew.trans (hC.mono (by simp))) (by simp) (j - 1) hjl;intro k y hk;match k,hk with|0,hk=>cases hk;exact q0|1,hk=>cases hk;exact q1|2,hk=>cases hk;exact q2)) (fun hW6=>?_)
   refine gcd 56 [.agg [.str pts[0].f0,.si .u64 pts[0].f1,.str pts[0].f2]] [] w2.drew hW6 (fun hC=>?_)
   refine (c56 pts[0] w4).mono ?_
   rintro e w5 ⟨ku,rfl,hr1,hE5⟩
   have hs4:=hW6.satE (H21f id A j c lo hi) (by kernel_rfl)
   have hs5:=hs4.kq hE5
   refine ⟨.agg [.oc ku (RdS.one hr1),.si .u64 pts[0].f1],[],_,rfl,hs5,hC.trans hE5,fun hW5=>?_⟩
   refine gcd 56 [.agg [.str pts[j - 1].f0,.si .u64 pts[j - 1].f1,.str pts[j - 1].f2]] [] w2.drew hW5 (fun hC5=>?_)
   refine (c56 pts[j - 1] w5).mono ?_
   rintro e w7 ⟨kv,rfl,hr2,hE7⟩
   have hs7:=hs5.kq hE7
   refine ⟨.agg [.oc kv (RdS.one hr2),.si .u64 pts[j - 1].f1],[],_,rfl,hs7,hC5.trans hE7,fun hW7=>?_⟩
   refine go_callE 55 [.p 2 0,.fn 65 [],.agg [.oc ku (RdS.one hr1),.si .u64 pts[0].f1],.agg [.oc kv (RdS.one hr2),.si .u64 pts[j - 1].f1]] (by kernel_rfl) hW7 ?_
   refine (c55 b3 ⟨.int .u64 id,rfl⟩ ⟨.int .u64 lo,rfl⟩ ⟨.int .u64 hi,rfl⟩ ⟨.pointer none,rfl⟩ ⟨ku,RdS.one hr1⟩ ⟨kv,RdS.one hr2⟩ pts[0].f1 pts[j - 1].f1 w7 (Sat.add0 188 _ (blk_any (hs7.mem 2 _ rfl) (by kernel_rfl)))).mono ?_
   rintro e w8 ⟨rfl,⟨hK8,hN8⟩,hs8⟩
   have hs8':=hs7.keep1 hK8 2 188 (fmG (.si .u64 id) (.si .u64 lo) (.si .u64 hi) .np (.oc ku (RdS.one hr1)) (.si .u64 pts[0].f1) (.oc kv (RdS.one hr2)) (.si .u64 pts[j - 1].f1) (.oc ku (RdS.one hr1)) (.si .u64 pts[0].f1) (.oc kv (RdS.one hr2)) (.si .u64 pts[j - 1].f1) true true 1) (.inl (by kernel_rfl)) rfl (blk_any (hs8.mem 0 _ rfl) (by kernel_rfl))
   refine ⟨.p 2 0,[],_,rfl,hs8',fun hW8=>?_⟩
   refine gf0 (bs:=[b1,b2,b3,b4,b5]) 200 ⟨[4000000],5,[],[],2⟩ hW8 (((hF4.call (nw:=[]) hE5).call (nw:=[]) hE7).callF (nw:=[]) hK8 hN8) fun w9 hK9 hF9 hW9=>?_
   have hs9:=hW9.satE ((H21f id A j c lo hi).set 2 ⟨188,fmG (.si .u64 id) (.si .u64 lo) (.si .u64 hi) .np (.oc ku (RdS.one hr1)) (.si .u64 pts[0].f1) (.oc kv (RdS.one hr2)) (.si .u64 pts[j - 1].f1) (.oc ku (RdS.one hr1)) (.si .u64 pts[0].f1) (.oc kv (RdS.one hr2)) (.si .u64 pts[j - 1].f1) true true 1⟩) (by kernel_rfl)
   refine gc 60 [.p 2 0] hW9 ?_
   refine (c60 b3 ⟨.int .u64 id,rfl⟩ ⟨.int .u64 lo,rfl⟩ ⟨.int .u64 hi,rfl⟩ ⟨ku,RdS.one hr1⟩ ⟨kv,RdS.one hr2⟩ pts[0].f1 pts[j - 1].f1 w9 (Sat.add0 188 _ (blk_any (hs9.mem 2 _ rfl) (by kernel_rfl)))).mono ?_
   rintro e w10 ⟨rfl,⟨hK10,hN10⟩,fb,hfb,hs10⟩
   let mm:FM:=⟨id,lo,hi,fb,ku,kv,RdS.one hr1,RdS.one hr2,pts[0].f1,pts[j - 1].f1⟩
   have hs10':Sat [b1,b2,b3,b4,b5,fb] ((H21f id A j c lo hi).set 2 ⟨188,fmS mm⟩++[⟨311,(k12_0 id)⟩]) w10:=
    hs9.ext hfb rfl ⟨hs9.kp hK10 0 _ rfl rfl,hs9.kp hK10 1 _ rfl rfl,hs10.mem 0 _ rfl,hs9.kp hK10 3 _ rfl rfl,hs9.kp hK10 4 _ rfl rfl,hs10.mem 1 _ rfl,trivial⟩
   refine ⟨.tup [],[fb],_,rfl,hs10',fun hW10=>?_⟩
   have hF10:=hF9.callF (nw:=[fb]) hK10 hN10 (by simp) (by simp) (by simpa using hfb)
   refine gf0 (bs:=[b1,b2,b3,b4,b5,fb]) 200 ⟨[4000000],6,[],[],0⟩ hW10 hF10 fun w11 hK11 hF11 hW11=>?_
   have hs11:=hW11.satE ((H21f id A j c lo hi).set 2 ⟨188,fmS mm⟩++[⟨311,(k12_0 id)⟩]) (by kernel_rfl)
   refine gt (.p 2 0) hW11.sat ?_
   have hr1':RdS w11 ku (TL.bs pts[0].f0):=((((hr1.kept hE7 (by simp)).kept hK8 (by simp)).kept hK9 (by simp)).kept hK10 (by simp)).kept hK11 (by simp)
   have hr2':RdS w11 kv (TL.bs pts[j - 1].f0):=(((hr2.kept hK8 (by simp)).kept hK9 (by simp)).kept hK10 (by simp)).kept hK11 (by simp)
   refine ⟨b3,fb,mm,hF11.lo (nw:=[b1,b2,b3,b4,b5,fb]) b3 (by simp),hF11.lo (nw:=[b1,b2,b3,b4,b5,fb]) fb (by simp),rfl,rfl,rfl,hF11.farE.ext hF11.kept,hs11.sub [2,5] (by decide) (by simp) rfl ⟨hs11.mem 2 _ rfl,hs11.mem 5 _ rfl,trivial⟩,fun _=>⟨hr1',rfl,by rw [show pts[pts.length - 1]=pts[j - 1] from getElem_congr_idx (by omega)];exact hr2',by rw [show pts[pts.length - 1]=pts[j - 1] from getElem_congr_idx (by omega)]⟩⟩
end Go.Proofs.YtghppnklhbbffaaGreatDoor.X
namespace Go.Proofs.YtghppnklhbbffaaGreatDoor.TL
open Go Go.RowKit
section
variable {P:Program} (w:World)
theorem run_append_ty [Bd] (base:Nat) (t ty e:TypeId) (i:TypeInfo) (z:Value) (size bytes:Nat) (ht:P.underlying t=some (.slice e)) (hi:P.info? e=some i) (hz:i.zero=some z)
  (hsize:i.size=size) (hby:i.bytes=bytes) (hzs:z.cells.size=size) (hsz:0 < size)
  (v:Value) (n:Nat) (xs:List Value) (hown:w.ownsRow base e size v n xs)
  (a:Addr) (m c:Nat) (news:List Value) (hl:news.length=m*size) (hnews: ∀ j u,news[j]? =some u→w.cell? (a.add j)=some u) (h1: ∀ u∈news,u.oneCell'=true)
  (h63:n+m≤maxLen) (hbytes:(n+m)*bytes≤140737488355328) (v':Value) (w':World)
  (hrun:(Builtin.append_ #[t,t] ty #[v,.slice (some a) m c]).run P w=.ok v' w') (g:Nat) (cs:Array Value) (tt:TypeId) (f:Nat×Nat) (hg0:v.ownBlock=some g) (hc:w.heap[g]? =some (.cells cs tt f)): ∃ cs',w'.heap[g]? =some (.cells cs' tt f):=by
 have hsmall:n+m≤9223372036854775807:=by simp only [maxLen] at h63;omega
 subst hsize
 subst hby
 rcases hown.2 with ⟨rfl,rfl⟩|⟨g',cap,cur,rfl,hbg,hg,hnc,hcm,hcs,htake⟩
 ·simp [Value.ownBlock] at hg0
 ·obtain rfl:g'=g:=by simpa [Value.ownBlock] using hg0
  rw [hg] at hc
  cases hc
  by_cases hroom:n+m≤cap
  ·have hfit:n*i.size+news.length≤cs.size:=by rw [hl,hcs, ←Nat.add_mul];exact Nat.mul_le_mul_right _ hroom
   have hr:=run_append_room (P:=P) w t ty e i ht hi g' n cap cs hg a m c news hl hnews h1 hroom hfit
   rw [hr] at hrun
   cases hrun
   exact ⟨_,setRow_heap w g' cs _ e _ hg⟩
  ·have holds: ∀ j u,xs[j]? =some u→w.cell? ((⟨g',0,none⟩:Addr).add j)=some u:=hown.cells (g:=g') rfl
   have hr:=run_append_grow (P:=P) w t ty e i z ht hi hz ⟨g',0,none⟩ n cap xs hown.1 holds a m c news hl hnews (by omega) (by omega) (growslice_fits (by omega) hbytes)
   rw [hr] at hrun
   cases hrun
   exact ⟨cs,by rw [heap_alloc_old _ _ (Array.getElem?_eq_some_iff.1 (show w.drew.heap[g']? =_ from hg)).1];exact hg⟩
end
theorem Kept.of_grown [Bd] {e:TypeId} {W w1:World} {row:Option Nat} (hg:W.grownBy w1 row) (h1: ∀ k,row=some k→Bd.B≤k∧ ∃ c f,W.heap[k]? =some (.cells c e f))
  (h2: ∀ k (c:Array Value) (t:TypeId) (f:Nat×Nat),row=some k→W.heap[k]? =some (.cells c t f)→ ∃ c':Array Value,w1.heap[k]? =some (.cells c' t f)):Kept [e] W w1:=by
 refine ⟨hg.os,hg.tape,hg.output,hg.size,fun k hk=>?_,fun k c t f hc=>?_⟩
 ·refine hg.block k hk.lt (fun he=>?_)
  obtain ⟨hB,c,f,hc⟩:=h1 k he.symm
  obtain ⟨o,ho,hn⟩:=hk
  rw [hc] at ho
  cases ho
  exact hn hB _ _ _ rfl (by simp)
 ·by_cases hr:row=some k
  ·exact h2 k c t f hr hc
  ·exact ⟨c,by rw [hg.block k (Array.getElem?_eq_some_iff.1 hc).1 (fun h=>hr h.symm)];exact hc⟩
section
variable {P:Program} (w:World)
theorem run_append_raw [Bd] (base:Nat) (t ty e:TypeId) (z:Value) (size bytes:Nat) (ht:P.underlying t=some (.slice e)) (hinfo:(P.info? e).map (fun i=>(i.zero,i.size,i.bytes))=some (some z,size,bytes)) (hzs:z.cells.size=size) (hsz:0 < size)
  (v:Value) (n:Nat) (xs:List Value) (hown:w.ownsRow base e size v n xs)
  (a:Addr) (m c:Nat) (news:List Value) (hl:news.length=m*size) (hnews: ∀ j u,news[j]? =some u→w.cell? (a.add j)=some u) (h1: ∀ u∈news,u.oneCell'=true)
  (h63:n+m≤maxLen) (hbytes:(n+m)*bytes≤140737488355328) (hbase:base≤w.heap.size) (hbB:Bd.B≤base):
  ∃ v' w',(Builtin.append_ #[t,t] ty #[v,.slice (some a) m c]).run P w=.ok v' w'∧w'.ownsRow base e size v' (n+m) (xs++news)∧Kept [e] w w'∧w.grownBy w' v.ownBlock∧(v'.ownBlock=v.ownBlock∨v'.ownBlock=some w.heap.size):=by
 obtain ⟨i,hi,hz⟩:=Option.map_eq_some_iff.1 hinfo
 simp only [Prod.mk.injEq] at hz
 obtain ⟨hz0,hz1,hz2⟩:=hz
 obtain ⟨v',w',hr,h2,h3,_,h5⟩:=run_append_own_at (P:=P) w base t ty e i z size bytes ht hi hz0 hz1 hz2 hzs hsz v n xs hown a m c news hl hnews h1 h63 hbytes hbase
 refine ⟨v',w',hr,h2,Kept.of_grown h3 (fun k hk=>?_) (fun k cs tt f hk hc=>run_append_ty w base t ty e i z size bytes ht hi hz0 hz1 hz2 hzs hsz v n xs hown a m c news hl hnews h1 h63 hbytes v' w' hr k cs tt f hk hc),h3,h5⟩
 rcases hown.2 with ⟨rfl,_⟩|⟨g',cap,cur,rfl,hbg,hg,_⟩
 ·simp [Value.ownBlock] at hk
 ·have:g'=k:=by simpa [Value.ownBlock] using hk
  subst this
  exact ⟨Nat.le_trans hbB hbg,cur,_,hg⟩
end
end Go.Proofs.YtghppnklhbbffaaGreatDoor.TL
namespace Go.Proofs.YtghppnklhbbffaaGreatDoor.X
open Go Go.RowKit Go.Proofs.YtghppnklhbbffaaGreatDoor.TL
section
variable {P:Program} {Q:Exit→Act→World→Prop} {bs:List Nat} {w:World}
theorem run_bslice1 [Bd] (w:World) (t e size:Nat) (x:Value) (hu:P.underlying t=some (.slice e)) (hinfo:(P.info? e).map (fun i=>(i.zero.map (·.cells.size),i.size))=some (some size,size)) (hx:x.cells.size=size) (h0:0 < size) (h24:size≤2 ^ 24):
  (Instr.buildSlice t 1 #[(0,x)]).run P w=.ok (.slice (some ⟨w.heap.size,0,none⟩) 1 1) (w.alloc (.cells x.cells e)):=by
 obtain ⟨i,hi,hz⟩:=Option.map_eq_some_iff.1 hinfo
 simp only [Prod.mk.injEq] at hz
 obtain ⟨hz0,hz1⟩:=hz
 obtain ⟨z,hz0,hzs⟩:=Option.map_eq_some_iff.1 hz0
 refine run_buildSlice w t e 1 #[(0,x)] x.cells i z hu hi hz0 (by rw [hz1];omega) (by rw [hz1];omega) ?_
 have:=Go.Great.fill_whole (s:=i.size) (by omega) [x] ((Array.range (1*i.size)).map (z.cells[· % z.cells.size]!)) (by simp [hx,hz1]) (by simp)
 simpa using this
theorem run_bsliceS [Bd] {T:List SV} (t e size:Nat) (x:Operand) (l:List SV) (hx:cellsV (evS T x)=some l) (hu:P.underlying t=some (.slice e)) (hinfo:(P.info? e).map (fun i=>(i.zero.map (·.cells.size),i.size))=some (some size,size)) (hl:l.length=size) (h0:0 < size) (h24:size≤2 ^ 24)
  (o:Oper) (ho:o.op=.buildSlice t 1 #[(0,x)]):(execOp (actS bs T).eval o).run P w=.ok (.value (.slice (some ⟨w.heap.size,0,none⟩) 1 1)) (w.alloc (.cells (SV.denL bs l).toArray e)):=by
 have hc:((evS T x).den bs).cells=(SV.denL bs l).toArray:=cellsV_den (bs:=bs) hx
 have hr:=run_bslice1 (P:=P) w t e size ((evS T x).den bs) hu hinfo (by rw [hc];simp [denL_length,hl]) h0 h24
 rw [hc] at hr
 simp only [execOp,ho,Sem.run_bind]
 rw [show (Array.map (fun x:Nat×Operand=>(x.1,(actS bs T).eval x.2)) #[(0,x)])= #[(0,(evS T x).den bs)] by simp [ev_den]]
 rw [hr]
 rfl
theorem go_bslice [Bd] {s:ST} (t e size:Nat) (x:Operand) (l:List SV) (H:List SB) (h:curOp s=some (.buildSlice t 1 #[(0,x)])) (hx:cellsV (evS s.T x)=some l) (hu:P.underlying t=some (.slice e)) (hinfo:(P.info? e).map (fun i=>(i.zero.map (·.cells.size),i.size))=some (some size,size)) (hl:l.length=size) (h0:0 < size) (h24:size≤2 ^ 24)
  (hs:Wk bs s w) (hH:s.H=H) (hw:wfH H.length H=true) (hlt:SV.ltL H.length l=true)
  (hk: ∀ nb w',nb=w.heap.size→Ext w w'→Wk (bs++[nb]) (afterC s (.sl ⟨nb,0,none⟩ 1 1) (H++[⟨e,l⟩])) w'→kx P Q (afterC s (.sl ⟨nb,0,none⟩ 1 1) (H++[⟨e,l⟩])).K .normal (actS (bs++[nb]) (afterC s (.sl ⟨nb,0,none⟩ 1 1) (H++[⟨e,l⟩])).T) w'):kx P Q s.K .normal (actS bs s.T) w:=
 go_op (.buildSlice t 1 #[(0,x)]) h hs (w.alloc (.cells (SV.denL bs l).toArray e)) (.sl ⟨w.heap.size,0,none⟩ 1 1) [w.heap.size] (H++[⟨e,l⟩]) _ (fun o ho=>run_bsliceS t e size x l hx hu hinfo hl h0 h24 o ho) (.inl (by simp [SV.den])) ((hs.satE H hH).new hw l hlt e) (fun hW=>hk w.heap.size _ rfl ((Kept.refl [] w).alloc _) hW)
theorem go_bsliceD [Bd] {s:ST} (t e size:Nat) (us:List TypeId) (wr:World) (x:Operand) (l:List SV) (H:List SB) (h:curD s=some (.buildSlice t 1 #[(0,x)],us)) (hwr:drW s=some wr) (hx:cellsV (evS s.T x)=some l) (hu:P.underlying t=some (.slice e)) (hinfo:(P.info? e).map (fun i=>(i.zero.map (·.cells.size),i.size))=some (some size,size)) (hl:l.length=size) (h0:0 < size) (h24:size≤2 ^ 24)
  (hs:Wk bs s w) (hH:s.H=H) (hw:wfH H.length H=true) (hlt:SV.ltL H.length l=true)
  (hk: ∀ nb w',nb=w.heap.size→Ext w w'→Wk (bs++[nb]) (afterC s (.sl ⟨nb,0,none⟩ 1 1) (H++[⟨e,l⟩])) w'→kx P Q (afterC s (.sl ⟨nb,0,none⟩ 1 1) (H++[⟨e,l⟩])).K .normal (actS (bs++[nb]) (afterC s (.sl ⟨nb,0,none⟩ 1 1) (H++[⟨e,l⟩])).T) w'):kx P Q s.K .normal (actS bs s.T) w:=
 go_opD (.buildSlice t 1 #[(0,x)]) us wr h hwr hs (w.alloc (.cells (SV.denL bs l).toArray e)) (.sl ⟨w.heap.size,0,none⟩ 1 1) [w.heap.size] (H++[⟨e,l⟩]) _ (fun o ho=>run_bsliceS t e size x l hx hu hinfo hl h0 h24 o ho) (.inl (by simp [SV.den])) ((hs.satE H hH).new hw l hlt e) (fun hC=>hC.alloc _) (fun hW=>hk w.heap.size _ rfl ((Kept.refl [] w).alloc _) hW)
end
def appC (t:TypeId) (x1 x2:Operand):Call:=⟨.builtin .append, #[x1,x2], #[t,t]⟩
theorem own_one [Bd] {w:World} {base e size n:Nat} {v:Value} {xs:List Value} (h:w.ownsRow base e size v n xs):v.oneCell'=true:=by
 rcases h.2 with ⟨rfl,_⟩|⟨g,cap,cur,rfl,_⟩<;>rfl
theorem Sat.grown [Bd] {bs:List Nat} {H:List SB} {w w':World} {row:Option Nat} (h:Sat bs H w) (hg:w.grownBy w' row) (hne: ∀ b∈bs,some b≠row):Sat bs H w':=
 ⟨h.len,h.inj,fun i ob hi=>by
  have hm:=h.mem i ob hi
  rw [hg.block _ (Array.getElem?_eq_some_iff.1 hm).1 (hne _ ?_)]
  ·exact hm
  ·have hlt:i < bs.length:=by rw [h.len];exact (List.getElem?_eq_some_iff.1 hi).1
   rw [nmB_get hlt];exact List.getElem_mem _,h.lo,Nat.le_trans h.sz hg.size⟩
theorem Far.grown [Bd] {w w':World} {row:Option Nat} (hg:w.grownBy w' row):Far row.toList w w':=fun k hk hn=>hg.block k hk (by rintro rfl;simp at hn)
section
variable {P:Program} {Q:Exit→Act→World→Prop} {bs:List Nat} {w:World}
theorem run_appS [Bd] {T:List SV} (t e size bytes:Nat) (z:Value) (x1 x2:Operand) (v:Value) (n:Nat) (xs:List Value) (a:Addr) (m c:Nat) (news:List Value) (hx1:(evS T x1).den bs=v) (hx2:evS T x2=.sl a m c)
  (ht:P.underlying t=some (.slice e)) (hinfo:(P.info? e).map (fun i=>(i.zero,i.size,i.bytes))=some (some z,size,bytes)) (hzs:z.cells.size=size) (hsz:0 < size) (hown:w.ownsRow Bd.B e size v n xs)
  (hl:news.length=m*size) (hnews: ∀ j u,news[j]? =some u→w.cell? (a.add j)=some u) (h1: ∀ u∈news,u.oneCell'=true) (h63:n+m≤maxLen) (hbytes:(n+m)*bytes≤140737488355328) (hB:Bd.B≤w.heap.size):
  ∃ v' w',(∀ o:Oper,o.op=.call (appC t x1 x2)→(execOp (actS bs T).eval o).run P w=.ok (.value v') w')∧w'.ownsRow Bd.B e size v' (n+m) (xs++news)∧Kept [e] w w'∧w.grownBy w' v.ownBlock∧(v'.ownBlock=v.ownBlock∨v'.ownBlock=some w.heap.size):=by
 obtain ⟨v',w',hr,h2,h3,h4,h5⟩:=run_append_raw (P:=P) w Bd.B t 0 e z size bytes ht hinfo hzs hsz v n xs hown a m c news hl hnews h1 h63 hbytes hB (Nat.le_refl _)
 refine ⟨v',w',fun o ho=>?_,h2,h3,h4,h5⟩
 simp only [execOp,ho,Sem.run_bind,resolve_builtin (show (appC t x1 x2).callee=.builtin .append from rfl),Result.andThen,invoke,builtin]
 rw [show (appC t x1 x2).args.map (actS bs T).eval= #[v,.slice (some a) m c] by simp [appC,ev_den,hx1,hx2,SV.den]]
 have hr':(Builtin.append_ (appC t x1 x2).argTypes o.type #[v,.slice (some a) m c]).run P w=.ok v' w':=hr
 first
  |(rw [hr'];rfl)
  |(simp only [Sem.run_bind,hr',Result.andThen,Sem.run_pure])
theorem go_append [Bd] {s:ST} (t e size bytes:Nat) (z:Value) (x1 x2:Operand) (v:Value) (n:Nat) (xs:List Value) (a:Addr) (m c:Nat) (news:List Value) (H:List SB) (h:curOp s=some (.call (appC t x1 x2))) (hx1:(evS s.T x1).den bs=v) (hx2:evS s.T x2=.sl a m c)
  (ht:P.underlying t=some (.slice e)) (hinfo:(P.info? e).map (fun i=>(i.zero,i.size,i.bytes))=some (some z,size,bytes)) (hzs:z.cells.size=size) (hsz:0 < size) (hs:Wk bs s w) (hH:s.H=H) (hown:w.ownsRow Bd.B e size v n xs)
  (hl:news.length=m*size) (hnews: ∀ j u,news[j]? =some u→w.cell? (a.add j)=some u) (h1: ∀ u∈news,u.oneCell'=true) (h63:n+m≤maxLen) (hbytes:(n+m)*bytes≤140737488355328) (hne: ∀ b∈bs,some b≠v.ownBlock)
  (hk: ∀ (v':Value) (w':World) (ho:v'.oneCell'=true),w'.ownsRow Bd.B e size v' (n+m) (xs++news)→Kept [e] w w'→Far v.ownBlock.toList w w'→(v'.ownBlock=v.ownBlock∨v'.ownBlock=some w.heap.size)→Wk bs (afterC s (.oc v' ho) H) w'→kx P Q (afterC s (.oc v' ho) H).K .normal (actS bs (afterC s (.oc v' ho) H).T) w'):kx P Q s.K .normal (actS bs s.T) w:=by
 obtain ⟨v',w',hr,h2,h3,h4,h5⟩:=run_appS (P:=P) (bs:=bs) (w:=w) t e size bytes z x1 x2 v n xs a m c news hx1 hx2 ht hinfo hzs hsz hown hl hnews h1 h63 hbytes hs.sz
 refine go_op (.call (appC t x1 x2)) h hs w' (.oc v' (own_one h2)) [] H (.value v') hr (.inl (by simp [SV.den])) (by rw [List.append_nil];exact (hs.satE H hH).grown h4 hne) (fun hW=>?_)
 rw [List.append_nil] at hW ⊢
 exact hk v' w' (own_one h2) h2 h3 (Far.grown h4) h5 hW
theorem go_appendD [Bd] {s:ST} (t e size bytes:Nat) (us:List TypeId) (wr:World) (z:Value) (x1 x2:Operand) (v:Value) (n:Nat) (xs:List Value) (a:Addr) (m c:Nat) (news:List Value) (H:List SB) (h:curD s=some (.call (appC t x1 x2),us)) (hwr:drW s=some wr) (heu:e∈us) (hx1:(evS s.T x1).den bs=v) (hx2:evS s.T x2=.sl a m c)
  (ht:P.underlying t=some (.slice e)) (hinfo:(P.info? e).map (fun i=>(i.zero,i.size,i.bytes))=some (some z,size,bytes)) (hzs:z.cells.size=size) (hsz:0 < size) (hs:Wk bs s w) (hH:s.H=H) (hown:w.ownsRow Bd.B e size v n xs)
  (hl:news.length=m*size) (hnews: ∀ j u,news[j]? =some u→w.cell? (a.add j)=some u) (h1: ∀ u∈news,u.oneCell'=true) (h63:n+m≤maxLen) (hbytes:(n+m)*bytes≤140737488355328) (hne: ∀ b∈bs,some b≠v.ownBlock)
  (hk: ∀ (v':Value) (w':World) (ho:v'.oneCell'=true),w'.ownsRow Bd.B e size v' (n+m) (xs++news)→Kept [e] w w'→Far v.ownBlock.toList w w'→(v'.ownBlock=v.ownBlock∨v'.ownBlock=some w.heap.size)→Wk bs (afterC s (.oc v' ho) H) w'→kx P Q (afterC s (.oc v' ho) H).K .normal (actS bs (afterC s (.oc v' ho) H).T) w'):kx P Q s.K .normal (actS bs s.T) w:=by
 obtain ⟨v',w',hr,h2,h3,h4,h5⟩:=run_appS (P:=P) (bs:=bs) (w:=w) t e size bytes z x1 x2 v n xs a m c news hx1 hx2 ht hinfo hzs hsz hown hl hnews h1 h63 hbytes hs.sz
 refine go_opD (.call (appC t x1 x2)) us wr h hwr hs w' (.oc v' (own_one h2)) [] H (.value v') hr (.inl (by simp [SV.den])) (by rw [List.append_nil];exact (hs.satE H hH).grown h4 hne) (fun hC=>hC.trans (h3.mono (by simpa using heu))) (fun hW=>?_)
 rw [List.append_nil] at hW ⊢
 exact hk v' w' (own_one h2) h2 h3 (Far.grown h4) h5 hW
end
end Go.Proofs.YtghppnklhbbffaaGreatDoor.X
