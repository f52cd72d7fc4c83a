/- Part 32 of the proof that laws.FnTreeLevel answers true, for arguments of small bulk. -/
import Derived.Test.YtghppnklhbbffaaGreatDoorR27
import Derived.Test.YtghppnklhbbffaaGreatDoorR01
import Derived.Test.YtghppnklhbbffaaGreatDoorR09
import Derived.Test.YtghppnklhbbffaaGreatDoorR10
set_option linter.all false
set_option maxHeartbeats 4000000
set_option maxRecDepth 100000
namespace Go.Proofs.YtghppnklhbbffaaGreatDoor.TL
open Go Go.RowKit Go.Proofs.YtghppnklhbbffaaGreatDoor.PFnTreeLevel Go.Proofs.YtghppnklhbbffaaGreatDoorW.PrintWords Go.Proofs.YtghppnklhbbffaaGreatDoorW.PrintLast
theorem at255 [Bd] {w:World} {A:Option Addr} {xs:List S255} (h:Kd.C k255 w A xs.length xs) (i:Nat) (hi:i < xs.length):
  ∃ ad A1 c1 A2 c2,A=some ad∧w.cell? (ad.add (i*2))=some (.slice A1 xs[i].f0.length c1)∧w.cell? ⟨(ad.add (i*2)).block,(ad.add (i*2)).off+1,none⟩=some (.slice A2 xs[i].f1.length c2)∧
   (ad.add (i*2)).block < w.heap.size∧xs[i].f0.length≤c1∧k57.C w A1 xs[i].f0.length xs[i].f0∧xs[i].f1.length≤c2∧k253.C w A2 xs[i].f1.length xs[i].f1:=by
 obtain ⟨ad,A1,c1,A2,c2,e1,g1,g2,g4,g5,g6,g7⟩:=at_T255 h (i:Int) (by omega) (by omega)
 have e:rd_T255 xs (i:Int)=xs[i]:=by unfold rd_T255;simp [List.getD_eq_getElem?_getD,hi]
 rw [e] at g1 g2 g4 g5 g6 g7
 exact ⟨ad,A1,c1,A2,c2,e1,g1,g2,World.block_lt_of_cell? _ _ g1,g4,g5,g6,g7⟩
def lvOk (v:S255):Prop:=(∀ x∈v.f0,legE x∧x.f1 % 256≠15)∧ ∀ i (h:i+1 < v.f0.length),cmpK v.f0[i] v.f0[i+1] < 0
def lvSz (v:S255):Prop:=(∀ x∈v.f0,x.f0.size < 2^31∧x.f2.size < 2^31)∧v.f0.length < 2^30∧(∀ x∈v.f1,x.f0.size < 2^31∧x.f1.size < 2^31∧x.f2.length < 2^40)∧v.f1.length < 2^30∧(v.f1.flatMap (·.f2)).length < 2^30
theorem c30 [Bd] (A:Option Addr) (c:Nat) (xs:List S255) (hs: ∀ v∈xs,lvSz v) (w:World) (hr:Kd.C k255 w A xs.length xs) (hc:xs.length≤c) (hl:xs.length < 2^40):
  Calls Tryz.prog 30 #[.slice A xs.length c] w fun e w'=>BoolRes e (∀ v∈xs,lvOk v)∧Ext w w':=by
 have HR:=Lib.hid hr
 have HC:=Lib.hid hc
 have HL:=Lib.hid hl
 have HS:=Lib.hid hs
 clear hr hc hl hs
 have hu29:=Tryz.underlying29
 have hu255:=Tryz.underlying255
 have hu53:=Tryz.underlying53
 have hu54:=Tryz.underlying54
 have hu57:=Tryz.underlying57
 go_enter Tryz.func30,Tryz.ntmps30
 go_wp2
 go_loopg [3,13] xs.length (fun kq v3 v13 wr=> ∃ (i:Nat) (bd:Int),v13=.int .i64 i∧v3=.int .u64 bd∧Aside0 (i≤xs.length∧xs.length≤kq+i∧ ∀ j (h:j < xs.length),j < i→lvOk xs[j])∧Aside0 (Ext w wr))
 case atStart=>exact ⟨0,_,rfl,rfl,⟨by omega,by omega,by intro j h1 h2;omega⟩,⟨by (repeat (first|exact Kept.refl _ _|apply Kept.ktr|apply Kept.kt0|apply Kept.alloc|apply Kept.drew|apply Kept.drewN))⟩⟩
 case round=>
  obtain ⟨gko,hgko⟩: ∃ n,n=gk:=⟨gk,rfl⟩
  subst hgko
  obtain ⟨i,bd,rfl,rfl,⟨h1,h2,hP⟩,hE⟩:=hrel
  have HP:=Lib.hid hP
  clear hP
  have hlen:=HL.out
  by_cases hi:i < xs.length
  ·have d1:decide ((i:Int) < (xs.length:Int))=true:=by simp [hi]
   obtain ⟨ad,A1,c1,A2,c2,e1,g1,g2,b1,hc1,hC1,hc2,hC2⟩:=at255 HR.out i hi
   subst e1
   have HC1:=Aside0.mk hC1
   have HC2:=Aside0.mk hC2
   replace g1:=hE.out.cell g1
   replace g2:=hE.out.cell g2
   have b1:=World.block_lt_of_cell? _ _ g1
   have hsz:=Lib.hid (HS.out xs[i] (List.getElem_mem _))
   clear hC1 hC2
   generalize ha:xs[i]=a at *
   have HA:=Lib.hid ha
   have LC:=Lib.hid (And.intro hc1 hc2)
   clear ha hc1 hc2
   go_wp2_with (first|(go_at_call 79;go_loud (refine (c79 A1 c1 a.f0 hsz.out.1 _ (Kd.C_below HC1.out (Ext.below (hE.out.alloc (.cells #[.slice A1 a.f0.length c1,.slice A2 a.f1.length c2] 255)))) LC.out.1 (by have:=hsz.out.2.1;omega)).mono ?_;rintro e w2 ⟨⟨bL,rfl,hbL⟩,hk⟩;have HBL:=Lib.hid hbL;have k0:=hk.cell (box_cell wr 0 rfl);have k1:=hk.cell (box_cell wr 1 rfl);have hE0:=Aside0.mk (((hE.out.alloc _).trans hk:Ext w w2));clear hk g1 g2 b1 hE hbL;generalize wr.heap.size=eb at *; cases bL))|(go_at_call 80;go_loud (refine (c80 A2 c2 a.f1 (fun x hx=>hsz.out.2.2.1 x hx) _ (Kd.C_below HC2.out (Ext.below hE0.out)) LC.out.2 (by have:=hsz.out.2.2.2.1;omega)).mono ?_;rintro e w2 ⟨⟨bF,rfl,_⟩,hk⟩;replace k0:=Ext.cell hk k0;replace k1:=Ext.cell hk k1;have hE1:=Aside0.mk (hE0.out.trans hk);clear hE0 hk;have hE0:=hE1;clear hE1;cases bF)))
   all_goals try (go_ret;exact ⟨.no,hE0.out⟩)
   have be:=World.block_lt_of_cell? _ _ k0
   refine wp_region_mix (fun w'=> ∃ x,w'=w2.kt [] x) (by kernel_rfl) ?_
   obtain ⟨z0,hz0⟩: ∃ z,w2.drew=w2.kt [] z:=(Kept.refl [] w2).drew.nx
   rw [hz0]
   clear hz0
   refine rseg [0,1,3,4,7] (f:=3) #[true,true,false,true,true,false,false,true] (by kernel_rfl) ⟨z0,rfl⟩ ?_
   simp only [pick,List.getElem?_cons_zero,List.getElem?_cons_succ]
   (repeat go_big_quiet_step (fail))
   refine wpQuiet_nil ?_
   refine rone (i:=2) (N:=some 30) #[true,true,true,true,true,false,false,true] rfl rfl (by kernel_rfl) (fun K hK=>?_)
   refine goes_ Tryz.func81 (by kernel_rfl) rfl #[.slice A2 a.f1.length c2] (by rfl) rfl rfl (by first|rfl|(go_simp;done)|(go_simp;rfl)) ?_
   have hz:=kept_kt z0
   have hcls: ∀ w',Ext (w2.kt [] z0) w'→ ∃ x,w'=w2.kt [] x:=fun w' h=>(hz.trans h).nx
   refine (X.c81 A2 c2 a.f1 _ (Kd.C_below HC2.out (Ext.below (hE0.out.trans hz))) (by have:=hsz.out.2.2.2.2;omega) (by have:=hsz.out.2.2.2.1;omega)).mono ?_
   rintro e w3 ⟨vT,rT,rfl,hrT,hRT,hk⟩
   refine ⟨vT,rfl,hK _ _ (hcls _ hk) ?_⟩
   clear hK K
   have hE1:Aside0 (Ext w w3):=⟨hE0.out.trans (hz.trans hk)⟩
   have hbase:Aside0 ((w2.kt [] z0).heap.size≤w3.heap.size):=⟨hk.size⟩
   refine rone (i:=5) (N:=some 33) #[true,true,true,true,true,true,false,true] rfl rfl (by kernel_rfl) (fun K hK=>?_)
   refine Kd.R_append_rows_step k57 (Rr:=k57.K w3) (w0:=w2.kt [] z0) (w2.kt [] z0).heap.size rfl (.tmp 30) (.tmp 32) 53 57 (.agg #[.string ⟨#[]⟩,.int .u64 0,.string ⟨#[]⟩]) 40 rfl hu53 info57 rfl (show 0 < 3 by decide) (by omega) vT rT a.f0 A1 a.f0.length c1 (fun _=>True) (fun _=>False) (by first|rfl|(go_simp;done)|(go_simp;rfl)) (by first|rfl|(go_simp;done)|(go_simp;rfl)) hRT (Kd.C_below HC1.out (Ext.below hE1.out)) (fun x cs h=>by obtain rfl:=k57_open h;exact k57_mkM _ _ _ x) (fun _ hk=>hk.elim) (fun _ _=>trivial) (Ext.below hk) hbase.out (by have:=hsz.out.2.2.2.2;have:=hsz.out.2.1;omega) ?_
   rintro vA w4 hRA hbA - -
   have hk4:Ext (w2.kt [] z0) w4:=Ext.of_below hbA
   refine hK _ _ (hcls _ hk4) ?_
   clear hK K
   have HRA:=Aside0.mk hRA
   obtain ⟨AA,cA,rfl,hcA,hCA⟩:=Kd.R_reads hRA
   have hyl:=Lib.hid (show (rT++a.f0).length < 2^40 by have:=hsz.out.2.2.2.2;have:=hsz.out.2.1;simp only [List.length_append];omega)
   clear HRA hRA hrT
   generalize rT++a.f0=ys at *
   show wpC _ _ _ _ _ _ _ (Act.put (Act.put _ (some 30) _) (some 33) _) _
   simp only [Act.put,List.setIfInBounds_toArray,List.set_cons_zero,List.set_cons_succ]
   refine rseg [6] (f:=0) #[true,true,true,true,true,true,true,true] (by kernel_rfl) (hcls _ hk4) ?_
   simp only [pick,List.getElem?_cons_zero,List.getElem?_cons_succ]
   (repeat go_big_quiet_step (fail))
   refine wpQuiet_nil ?_
   refine rend (by kernel_rfl) ?_
   replace k0:=Ext.cell (hz.trans hk4) k0
   replace k1:=Ext.cell (hz.trans hk4) k1
   have HE:=Aside0.mk (hE0.out.trans (hz.trans hk4))
   have HCA:=Aside0.mk hCA
   clear hE0 hE1 hbase hcls hk hk4 hz hbA hCA hRT be hcA
   clear w3
   go_wp2
   go_loopg [6,35] ys.length (fun kq v6 v wr=> ∃ (j:Nat) (lo:Int),v=.int .i64 j∧v6=.int .u64 lo∧Aside0 (j≤ys.length∧ys.length≤kq+j)∧Aside0 (wr.cell? ⟨eb,0,none⟩=some (.slice A1 a.f0.length c1)∧Aside0 (Ext w4 wr)))
   case atStart=>exact ⟨0,_,rfl,rfl,⟨by omega,by omega⟩,⟨k0,⟨Kept.refl _ _⟩⟩⟩
   case round=>
    clear k0 k1
    obtain ⟨j,lo,rfl,rfl,⟨hj1,hj2⟩,⟨k0,hE1⟩⟩:=hrel
    have hyln:=hyl.out
    by_cases hj:j < ys.length
    ·have d7:decide ((j:Int) < (ys.length:Int))=true:=by simp [hj]
     obtain ⟨ad2,e2,g1,g2,g3,b1⟩:=at57 HCA.out j hj
     cases e2
     replace g1:=hE1.out.cell g1
     replace g2:=hE1.out.cell g2
     replace g3:=hE1.out.cell g3
     have b1:=World.block_lt_of_cell? _ _ g1
     generalize ys[j]=x at *
     have be:=World.block_lt_of_cell? _ _ k0
     go_wp2_with (first|(go_at_call 82;(refine (c82 _ _).mono ?_;rintro e w5 ⟨rfl,hk⟩;go_loud (first|(have t0:=hk.cell (box_cell wr 1 rfl);have hk2:=((Kept.refl [] wr).alloc _).trans hk;replace k0:=Ext.cell hk2 k0;have hE2:=Aside0.mk (hE1.out.trans hk2);clear hk hk2 hE1 g1 g2 g3 b1 be;generalize wr.heap.size=xb at *)|(replace k0:=Ext.cell hk k0;have hE3:=Aside0.mk (hE2.out.trans hk);clear hk hE2)))))
     all_goals try (go_ret;exact ⟨.no,HE.out.trans hE2.out⟩)
     all_goals (go_roundg (gk - 1);(case measure=>omega);(case rel=>exact ⟨j+1,_,by go_num,rfl,⟨by omega,by omega⟩,⟨k0,hE3⟩⟩))
    ·have d7:decide ((j:Int) < (ys.length:Int))=false:=by simp;omega
     go_wp2
     have HE2:=Aside0.mk (HE.out.trans hE1.out)
     clear HE hE1 HCA
     go_loopg [53] a.f0.length (fun kq v wr=> ∃ (j:Nat),v=.int .i64 j∧Aside0 (j≤a.f0.length∧a.f0.length≤kq+j∧ ∀ n (h:n < a.f0.length),n < j→a.f0[n].f1 % 256≠15)∧Aside0 (Ext w wr))
     case atStart=>exact ⟨0,rfl,⟨by omega,by omega,by intro n h1 h2;omega⟩,HE2⟩
     case round=>
      clear k0 HE2 hj hj1 hj2 d7 hyl hyln
      obtain ⟨j,rfl,⟨hj1,hj2,hP2⟩,hE⟩:=hrel
      have HP2:=Lib.hid hP2
      clear hP2
      have hln:=hsz.out.2.1
      by_cases hj:j < a.f0.length
      ·have d7:decide ((j:Int) < (a.f0.length:Int))=true:=by simp [hj]
       obtain ⟨ad2,e2,g1,g2,g3,b1⟩:=at57 HC1.out j hj
       cases e2
       replace g1:=hE.out.cell g1
       replace g2:=hE.out.cell g2
       replace g3:=hE.out.cell g3
       have b1:=World.block_lt_of_cell? _ _ g1
       generalize hx:a.f0[j]=x at *
       have HX:=Lib.hid hx
       clear hx
       cases hq:(x.f1 % 256==15)
       ·go_wp2_with (go_at_call 83;refine (c83 _ _).mono ?_;rintro e w5 ⟨rfl,hk⟩;have hE2:=Aside0.mk ((hE.out.alloc _).trans hk);clear hk hE g1 g2 g3 b1;generalize wr.heap.size=xb at *)
        go_roundg (gk - 1)
        case measure=>omega
        case rel=>
                  refine ⟨j+1,by go_num,⟨by omega,by omega,fun n h hn=>?_⟩,hE2⟩
                  by_cases hnj:n=j
                  ·subst hnj;rw [HX.out];simpa using hq
                  ·exact HP2.out n h (by omega)
       ·go_wp2_with (go_at_call 83;refine (c83 _ _).mono ?_;rintro e w5 ⟨rfl,hk⟩;have hE2:=Aside0.mk ((hE.out.alloc _).trans hk);clear hk hE g1 g2 g3 b1;generalize wr.heap.size=xb at *)
        go_ret
        exact ⟨.no,hE2.out⟩
      ·have d7:decide ((j:Int) < (a.f0.length:Int))=false:=by simp;omega
       obtain rfl:j=a.f0.length:=by omega
       go_wp2
       go_roundg (gko - 1)
       case measure=>omega
       case rel=>
        refine ⟨i+1,lo,by go_num,rfl,⟨by omega,by omega,fun n h hn=>?_⟩,hE⟩
        by_cases hni:n=i
        ·subst hni
         rw [HA.out]
         obtain ⟨q1,q2⟩:=HBL.out trivial
         exact ⟨fun x hx=>⟨q1 x hx,by obtain ⟨m,hm,rfl⟩:=List.getElem_of_mem hx;exact HP2.out m hm hm⟩,q2⟩
        ·exact HP.out n h (by omega)
  ·have d1:decide ((i:Int) < (xs.length:Int))=false:=by simp;omega
   obtain rfl:i=xs.length:=by omega
   go_wp2
   go_ret
   exact ⟨.yes fun v hv=>by obtain ⟨j,hj,rfl⟩:=List.getElem_of_mem hv;exact HP.out j hj hj,hE.out⟩
end Go.Proofs.YtghppnklhbbffaaGreatDoor.TL
namespace Go.Proofs.YtghppnklhbbffaaGreatDoor.TL
open Go Go.RowKit Go.Proofs.YtghppnklhbbffaaGreatDoor.PFnTreeLevel Go.Proofs.YtghppnklhbbffaaGreatDoorW.PrintWords
def Post27 (t:S56) (bn base:Nat) (ns:List Int) (w0 w w':World) (e:Ending):Prop:= ∃ b v',e=.returned (.bool b)∧w'.heap[bn]? =some (.cells #[v'] 136 (0,0))∧Below base w0 w'∧
 (∀ (k:Nat) (c:Array Value),w.heap[k]? =some (Obj.cells c 56 (0,0))→w'.heap[k]? =some (Obj.cells c 56 (0,0)))∧
 (b=true∨(t.f0∉ns∧t.f1.length+t.f2.length≠0∧Kd.R (Kd.int .u64) 33 w' base (fun _=>True) v' (ns++[t.f0])))
theorem info33 [Bd]:(Tryz.prog.info? 33).map (fun i=>(i.zero,i.size,i.bytes))=some (some (.int .u64 0),1,8):=by kernel_rfl
theorem at33 [Bd] {w:World} {A:Option Addr} {xs:List Int} (h:Kd.C (Kd.int .u64) w A xs.length xs) (i:Nat) (hi:i < xs.length): ∃ ad,A=some ad∧w.cell? (ad.add i)=some (.int .u64 xs[i])∧(ad.add i).block < w.heap.size:=by
 obtain ⟨ad,c,e,h1,h2,h3⟩:=Kd.C_get h 0 (i:Int) (by omega) (by omega)
 have hc:c=[.int .u64 xs[i]]:=by
  have:c=[.int .u64 (xs.getD ((i:Int).toNat) 0)]:=h2
  rw [this];simp [List.getD_eq_getElem?_getD,hi]
 have h4:=h3 0 (.int .u64 xs[i]) (by rw [hc];rfl)
 have h5:w.cell? (ad.add i)=some (.int .u64 xs[i]):=by simpa [Kd.int,Kd.scalar] using h4
 exact ⟨ad,e,h5,World.block_lt_of_cell? _ _ h5⟩
theorem c27 [Bd] (t:S56) (A1:Option Addr) (c1:Nat) (A2:Option Addr) (c2:Nat) (bn base:Nat) (v:Value) (ns:List Int) (w w0:World)
  (hb:w.heap[bn]? =some (.cells #[v] 136 (0,0))) (hr:Kd.R (Kd.int .u64) 33 w base (fun _=>True) v ns) (hB:Below base w0 w) (hbn:base≤bn) (hl:ns.length < 2^20) (hl1:t.f1.length < 2^40) (hl2:t.f2.length < 2^40):
  Calls Tryz.prog 27 #[.agg #[.int .u64 t.f0,.slice A1 t.f1.length c1,.slice A2 t.f2.length c2],.pointer (some ⟨bn,0,none⟩)] w fun e w'=>Post27 t bn base ns w0 w w' e:=by
 have hu56:=Tryz.underlying56
 have hu136:=Tryz.underlying136
 have k0:=blk_cell hb 0
 have f0:=blk_frozen hb 0
 simp only [List.getElem?_toArray,List.getElem?_cons_zero] at k0
 obtain ⟨A0,c0,rfl⟩:=Kd.R_slice hr
 have hlt:=blk_lt hb
 have HB:=Aside0.mk hb
 have HR:=Aside0.mk hr
 have HBB:=Aside0.mk hB
 have L:=Lib.hid (And.intro hbn (And.intro hl (And.intro hl1 hl2)))
 clear hb hr hB hbn hl hl1 hl2
 go_enter Tryz.func27,Tryz.ntmps27
 go_wp2
 have G0:=Aside0.mk (heap_alloc_new w (.cells #[.int .u64 t.f0,.slice A1 t.f1.length c1,.slice A2 t.f2.length c2] 56))
 have GB:=Aside0.mk (blk_alloc HB.out (.cells #[.int .u64 t.f0,.slice A1 t.f1.length c1,.slice A2 t.f2.length c2] 56))
 have GR:=Aside0.mk (Kd.R_alloc HR.out (.cells #[.int .u64 t.f0,.slice A1 t.f1.length c1,.slice A2 t.f2.length c2] 56))
 have hbs:base≤w.heap.size:=Nat.le_of_lt (Nat.lt_of_le_of_lt L.out.1 hlt)
 have GBB:=Aside0.mk (HBB.out.alloc hbs (.cells #[.int .u64 t.f0,.slice A1 t.f1.length c1,.slice A2 t.f2.length c2] 56))
 have H56:Aside0 (∀ (k:Nat) (c:Array Value),w.heap[k]? =some (Obj.cells c 56 (0,0))→(w.alloc (.cells #[.int .u64 t.f0,.slice A1 t.f1.length c1,.slice A2 t.f2.length c2] 56)).heap[k]? =some (Obj.cells c 56 (0,0))):=⟨fun k c h=>blk_alloc h _⟩
 clear HB HR HBB k0 f0
 have hne:w.heap.size≠bn:=by omega
 have hne':bn≠w.heap.size:=by omega
 generalize w.alloc (.cells #[.int .u64 t.f0,.slice A1 t.f1.length c1,.slice A2 t.f2.length c2] 56)=W at *
 have HBS:=Lib.hid hbs
 clear hbs hlt
 generalize w.heap.size=xb at *
 have k0:=blk_cell GB.out 0
 have f0:=blk_frozen GB.out 0
 have x0:=blk_cell G0.out 0
 have x1:=blk_cell G0.out 1
 have x2:=blk_cell G0.out 2
 have lx:=blk_lt G0.out
 have lb:=blk_lt GB.out
 simp only [List.getElem?_toArray,List.getElem?_cons_zero,List.getElem?_cons_succ] at k0 x0 x1 x2
 go_loopg [8] ns.length (fun kq v wr=> ∃ j:Nat,v=.int .i64 j∧wr=W∧Aside0 (j≤ns.length∧ns.length≤kq+j∧ ∀ i (h:i < ns.length),i < j→ns[i]≠t.f0))
 case atStart=>exact ⟨0,rfl,rfl,⟨by omega,by omega,by intro i h1 h2;omega⟩⟩
 case round=>
  obtain ⟨j,rfl,rfl,⟨hj1,hj2,hP⟩⟩:=hrel
  have HP:=Lib.hid hP
  clear hP
  have hln:=L.out.2.1
  by_cases hj:j < ns.length
  ·have d7:decide ((j:Int) < (ns.length:Int))=true:=by simp [hj]
   obtain ⟨hA,hB,hC⟩:=Kd.R_reads' GR.out
   obtain ⟨ad,e1,g1,b1⟩:=at33 hC j hj
   cases e1
   clear hA hB hC
   generalize hx:ns[j]=x at *
   have HX:=Lib.hid hx
   clear hx
   by_cases hxt:x=t.f0
   ·have d8:(x==t.f0)=true:=by simp [hxt]
    have HXT:=Lib.hid hxt
    clear hxt
    go_wp2
    go_ret
    exact ⟨true,_,rfl,GB.out,GBB.out,H56.out,.inl rfl⟩
   ·have d8:(x==t.f0)=false:=by simp [hxt]
    have HXT:=Lib.hid hxt
    clear hxt
    go_wp2
    go_roundg (gk - 1)
    case measure=>omega
    case rel=>
     refine ⟨j+1,by go_num,rfl,⟨by omega,by omega,fun i h hi=>?_⟩⟩
     by_cases hij:i=j
     ·subst hij;rw [HX.out];exact HXT.out
     ·exact HP.out i h (by omega)
  ·have d7:decide ((j:Int) < (ns.length:Int))=false:=by simp;omega
   obtain rfl:j=ns.length:=by omega
   go_wp2_with ((with_reducible refine gate_builtin (b:=.append) (xs:= #[.tmp 17,.tmp 20]) rfl ?_);at_builtin;go_loud (refine Kd.R_append (Kd.int .u64) (w0:=w0) base rfl (.tmp 17) (.tmp 20) 136 33 (.int .u64 0) 8 rfl hu136 info33 rfl (by decide) (by omega) (.slice A0 ns.length c0) ns t.f0 [.int .u64 t.f0] (fun _=>True) (fun _=>False) rfl (by first|(go_simp;done)|(go_simp;rfl)) rfl (fun _ hk=>hk.elim) (fun _ _=>trivial) GR.out GBB.out (Nat.le_of_lt (Nat.lt_of_le_of_lt L.out.1 lb)) (by omega) ?_;rintro v1 w1 ho hb hg hat;obtain ⟨Av,cv,hv1⟩:=Kd.R_slice ho;subst hv1;generalize (ns++[t.f0]).length=nv at *; have GB1:=blk_grown GB.out hg (Kd.R_ne GR.out GB.out (by decide));have G01:=blk_grown G0.out hg (Kd.R_ne GR.out G0.out (by decide));clear k0 f0 x0 x1 x2;have k0:=blk_cell GB1 0;have f0:=blk_frozen GB1 0;have x1:=blk_cell G01 1;have x2:=blk_cell G01 2;simp only [List.getElem?_toArray,List.getElem?_cons_zero,List.getElem?_cons_succ] at k0 x1 x2;have M1:=Aside0.mk ho;have M2:=Aside0.mk hb;have M3:=Aside0.mk GB1;have M4:Aside0 (∀ (k:Nat) (c:Array Value),wr.heap[k]? =some (Obj.cells c 56 (0,0))→w1.heap[k]? =some (Obj.cells c 56 (0,0))):=⟨fun k c h=>blk_grown h hg (Kd.R_ne GR.out h (by decide))⟩;clear ho hb hg hat GB1 G01))
   go_ret
   refine ⟨_,_,rfl,blk_put (cs':= #[.slice Av nv cv]) M3.out 0 _ rfl,M2.out.setCell (p:=⟨bn,0,none⟩) L.out.1 _,fun k c h=>blk_far (M4.out k c (H56.out k c h)) (fun hk=>by have h1:=M4.out k c (H56.out k c h);subst hk;rw [M3.out] at h1;simp at h1) _,?_⟩
   by_cases hz:t.f1.length+t.f2.length=0
   ·exact .inl (by have:=L.out;simp [wrap64];omega)
   ·refine .inr ⟨fun hm=>?_,hz,Kd.R_set M1.out M3.out (by simp [Kd.int,Kd.scalar]) 0 _⟩
    obtain ⟨i,hi,h⟩:=List.getElem_of_mem hm
    exact HP.out i hi hi h
def sepr (xs:List S56) (i:Nat):Prop:= ∀ (h:i+1 < xs.length),xs[i].f2=[]→xs[i+1].f2=[]→ ∀ a∈xs[i].f1, ∀ b∈xs[i+1].f1,cmpB a.f0 b.f0 < 0
def wellJ (xs:List S56) (j:Nat):Prop:=(∀ a b (ha:a < xs.length) (hb:b < xs.length),a < b→b < j→xs[a].f0≠xs[b].f0)∧(∀ a (ha:a < xs.length),a < j→xs[a].f1.length+xs[a].f2.length≠0)∧ ∀ a,a+1 < j→sepr xs a
theorem _root_.List.length_flatMap_ge [Bd] {α β:Type} {f:α→List β} {l:List α} {i:Nat} (hi:i < l.length):(f l[i]).length≤(l.flatMap f).length:=by
 induction l generalizing i with
 |nil=>simp at hi
 |cons a l ih=>
  rw [List.flatMap_cons,List.length_append]
  cases i with
  |zero=>simp
  |succ i=>have:=ih (i:=i) (by simpa using hi);simp only [List.getElem_cons_succ];omega
theorem wellJ_succ [Bd] (xs:List S56) (j:Nat) (hj:j < xs.length) (hj0:1≤j) (h:wellJ xs j) (h1:xs[j].f0∉(xs.take j).map (·.f0)) (h2:xs[j].f1.length+xs[j].f2.length≠0)
  (h3: ∀ (hh:j - 1 < xs.length),xs[j-1].f2=[]→xs[j].f2=[]→ ∀ a∈xs[j-1].f1, ∀ b∈xs[j].f1,cmpB a.f0 b.f0 < 0):wellJ xs (j+1):=by
 obtain ⟨g1,g2,g3⟩:=h
 refine ⟨fun a b ha hb hab hbj=>?_,fun a ha haj=>?_,fun a haj=>?_⟩
 ·by_cases hb':b=j
  ·subst hb'
   intro he
   exact h1 (List.mem_map.2 ⟨xs[a],List.mem_take_iff_getElem.2 ⟨a,by omega,rfl⟩,he⟩)
  ·exact g1 a b ha hb hab (by omega)
 ·by_cases ha':a=j
  ·subst ha';exact h2
  ·exact g2 a ha (by omega)
 ·by_cases ha':a+1=j
  ·subst ha'
   intro _ p q
   exact h3 (by omega) p q
  ·exact g3 a (by omega)
theorem lv_C [Bd] {w:World} {base:Nat} {ok:Nat→Prop} {v vp vt:Value} {ps:List S57} {ts:List S253} (h:Kd.R kVV 255 w base ok v ((vp,vt)::List.replicate 5 (.slice none 0 0,.slice none 0 0)))
  (hp: ∃ A c,vp=.slice A ps.length c∧ps.length≤c∧Kd.C k57 w A ps.length ps) (ht: ∃ A c,vt=.slice A ts.length c∧ts.length≤c∧Kd.C k253 w A ts.length ts):
  ∃ A c,v=.slice A (⟨ps,ts⟩::List.replicate 5 ⟨[],[]⟩:List S255).length c∧(⟨ps,ts⟩::List.replicate 5 ⟨[],[]⟩:List S255).length≤c∧Kd.C k255 w A (⟨ps,ts⟩::List.replicate 5 ⟨[],[]⟩:List S255).length (⟨ps,ts⟩::List.replicate 5 ⟨[],[]⟩):=by
 obtain ⟨A,c,rfl,hc,h1,h2,h3⟩:=Kd.R_reads h
 refine ⟨A,c,rfl,hc,rfl,h2,fun hn=>?_⟩
 obtain ⟨ad,e,h4⟩:=h3 hn
 refine ⟨ad,e,fun j p hj=>?_⟩
 obtain ⟨A1,c1,rfl,l1,C1⟩:=hp
 obtain ⟨A2,c2,rfl,l2,C2⟩:=ht
 cases j with
 |zero=>
  obtain ⟨cs,q1,⟨q2,_,_⟩,q3⟩:=h4 0 _ rfl
  simp only [List.getElem?_cons_zero,Option.some.injEq] at hj
  subst hj q2
  exact ⟨_,q1,k255_mk w ⟨ps,ts⟩ l1 C1 l2 C2,q3⟩
 |succ j=>
  simp only [List.getElem?_cons_succ] at hj
  have hp:p=⟨[],[]⟩:=List.eq_of_mem_replicate (List.mem_of_getElem? hj)
  have hlt:=(List.getElem?_eq_some_iff.1 hj).1
  simp only [List.length_replicate] at hlt
  obtain ⟨cs,q1,⟨q2,_,_⟩,q3⟩:=h4 (j+1) (.slice none 0 0,.slice none 0 0) (by rw [List.getElem?_cons_succ,List.getElem?_replicate,if_pos hlt])
  subst hp q2
  exact ⟨_,q1,k255_mk w ⟨[],[]⟩ (Nat.le_refl 0) (Kd.C_nil _ _) (Nat.le_refl 0) (Kd.C_nil _ _),q3⟩
theorem gate28 [Bd] {w:World} {Q:Ending→World→Prop} (x:S56) (v1 v2:Value) (h:Calls Tryz.prog 28 #[.agg #[.int .u64 x.f0,v1,v2]] w Q):Calls Tryz.prog 28 #[.agg #[.int .u64 x.f0,v1,v2]] w Q:=h
theorem take1 [Bd] {α:Type} {l:List α} (h:0 < l.length):l.take 1=[l[0]]:=by
 cases l with
 |nil=>simp at h
 |cons a l=>simp
structure WellT (xs:List S56):Prop where
 nums: ∀ i j (hi:i < xs.length) (hj:j < xs.length),i < j→xs[i].f0≠xs[j].f0
 some: ∀ x∈xs,x.f2=[]→x.f1≠[]
 apart: ∀ i (h:i+1 < xs.length),xs[i].f2=[]→xs[i+1].f2=[]→ ∀ a∈xs[i].f1, ∀ b∈xs[i+1].f1,cmpB a.f0 b.f0 < 0
 points: ∀ x∈xs.flatMap (·.f1),legE x∧x.f1 % 256≠15
 order: ∀ i (h:i+1 < (xs.flatMap (·.f1)).length),cmpK (xs.flatMap (·.f1))[i] (xs.flatMap (·.f1))[i+1] < 0
def szT (x:S56):Prop:=(∀ p∈x.f1,p.f0.size < 2^31∧p.f2.size < 2^31)∧(∀ p∈x.f2,p.f0.size < 2^31∧p.f1.size < 2^31∧p.f2.length < 2^30)
theorem lvSz_all [Bd] {xs:List S56} (hs: ∀ x∈xs,szT x) (hp:(xs.flatMap (·.f1)).length < 2^30) (ht:(xs.flatMap (·.f2)).length < 2^30) (hk:((xs.flatMap (·.f2)).flatMap (·.f2)).length < 2^30) (v:S255)
  (hv:v∈(⟨xs.flatMap (·.f1),xs.flatMap (·.f2)⟩::List.replicate 5 ⟨[],[]⟩:List S255)):lvSz v:=by
 rcases List.mem_cons.1 hv with rfl|hv
 ·refine ⟨fun x hx=>?_,hp,fun x hx=>?_,ht,hk⟩
  ·obtain ⟨y,hy,hxy⟩:=List.mem_flatMap.1 hx
   exact (hs y hy).1 x hxy
  ·obtain ⟨y,hy,hxy⟩:=List.mem_flatMap.1 hx
   obtain ⟨q1,q2,q3⟩:=(hs y hy).2 x hxy
   exact ⟨q1,q2,by omega⟩
 ·obtain rfl:=List.eq_of_mem_replicate hv
  exact ⟨by simp,by simp,by simp,by simp,by simp⟩
theorem wellT_of [Bd] {xs:List S56} (h:wellJ xs xs.length) (hl:lvOk ⟨xs.flatMap (·.f1),xs.flatMap (·.f2)⟩):WellT xs:=
 ⟨fun i j hi hj hij=>h.1 i j hi hj hij hj,fun x hx hx2 hx1=>by
   obtain ⟨i,hi,rfl⟩:=List.getElem_of_mem hx
   exact h.2.1 i hi hi (by rw [hx1,hx2];rfl),
  fun i hi=>h.2.2 i hi hi,hl.1,hl.2⟩
theorem c10 [Bd] (A:Option Addr) (c:Nat) (xs:List S56) (w:World) (hr:Kd.C k56 w A xs.length xs) (hc:xs.length≤c) (hl:xs.length≤10) (hp:(xs.flatMap (·.f1)).length < 2^30) (ht:(xs.flatMap (·.f2)).length < 2^30) (hk:((xs.flatMap (·.f2)).flatMap (·.f2)).length < 2^30) (hs: ∀ x∈xs,szT x) (hB0:Bd.B≤w.heap.size):
  Calls Tryz.prog 10 #[.agg #[.slice none 0 0,.slice none 0 0,.slice A xs.length c,.slice none 0 0,.slice none 0 0,.slice none 0 0,.slice none 0 0,.slice none 0 0]] w fun e w'=>BoolRes e (WellT xs)∧Ext w w':=by
 have HR:=Lib.hid hr
 have HC:=Lib.hid hc
 have HL:=Lib.hid hl
 have HP:=Lib.hid hp
 have HT:=Lib.hid ht
 have HK:=Lib.hid hk
 have HS:=Lib.hid hs
 have HB0:=Lib.hid hB0
 clear hr hc hl hp ht hk hs hB0
 have hu32:=Tryz.underlying32
 have hu22:=Tryz.underlying22
 have hu30:=Tryz.underlying30
 have hu56:=Tryz.underlying56
 go_enter Tryz.func10,Tryz.ntmps10
 go_wp2
 have G0:=heap_alloc_new w (.cells #[.slice none 0 0,.slice none 0 0,.slice A xs.length c,.slice none 0 0,.slice none 0 0,.slice none 0 0,.slice none 0 0,.slice none 0 0] 32)
 have GW1:Aside0 (Below w.heap.size w (w.alloc (.cells #[.slice none 0 0,.slice none 0 0,.slice A xs.length c,.slice none 0 0,.slice none 0 0,.slice none 0 0,.slice none 0 0,.slice none 0 0] 32))):=⟨Ext.below (by (repeat (first|exact Kept.refl _ _|apply Kept.ktr|apply Kept.kt0|apply Kept.alloc|apply Kept.drew|apply Kept.drewN)))⟩
 have hnb:=alloc_size w (.cells #[.slice none 0 0,.slice none 0 0,.slice A xs.length c,.slice none 0 0,.slice none 0 0,.slice none 0 0,.slice none 0 0,.slice none 0 0] 32)
 rw [←hnb]
 have HL2:Aside0 (w.heap.size≤(w.alloc (.cells #[.slice none 0 0,.slice none 0 0,.slice A xs.length c,.slice none 0 0,.slice none 0 0,.slice none 0 0,.slice none 0 0,.slice none 0 0] 32)).heap.size):=⟨by omega⟩
 have HL3:Aside0 (w.heap.size < (w.alloc (.cells #[.slice none 0 0,.slice none 0 0,.slice A xs.length c,.slice none 0 0,.slice none 0 0,.slice none 0 0,.slice none 0 0,.slice none 0 0] 32)).heap.size):=⟨by omega⟩
 clear hnb
 generalize w.alloc (.cells #[.slice none 0 0,.slice none 0 0,.slice A xs.length c,.slice none 0 0,.slice none 0 0,.slice none 0 0,.slice none 0 0,.slice none 0 0] 32)=w1 at *
 have GN:=Aside0.mk (heap_alloc_new w1 (.cells #[.slice none 0 0] 136))
 have HB:Aside0 (Below w1.heap.size w1 (w1.alloc (.cells #[.slice none 0 0] 136))):=⟨Ext.below (by (repeat (first|exact Kept.refl _ _|apply Kept.ktr|apply Kept.kt0|apply Kept.alloc|apply Kept.drew|apply Kept.drewN)))⟩
 have HN:Aside0 (Kd.R (Kd.int .u64) 33 (w1.alloc (.cells #[.slice none 0 0] 136)) w1.heap.size (fun _=>True) (.slice none 0 0) (((xs.take 0).map (·.f0)))):=⟨Kd.R_nil _ _ _ _ _⟩
 generalize w1.alloc (.cells #[.slice none 0 0] 136)=W at *
 generalize hnb:w1.heap.size=nb at GN HN HB HL2 HL3 ⊢
 have HNB:=Lib.hid hnb
 clear hnb
 obtain ⟨tb,htb⟩: ∃ b,b=w.heap.size:=⟨_,rfl⟩
 have GT1:Aside0 (w1.heap[tb]? =some (.cells #[.slice none 0 0,.slice none 0 0,.slice A xs.length c,.slice none 0 0,.slice none 0 0,.slice none 0 0,.slice none 0 0,.slice none 0 0] 32 (0,0))):=⟨by rw [htb];exact G0⟩
 have HL4:Aside0 (tb < nb):=⟨by rw [htb];exact HL3.out⟩
 have HGT:Aside0 (∀ wr,Below nb w1 wr→wr.heap[tb]? =some (.cells #[.slice none 0 0,.slice none 0 0,.slice A xs.length c,.slice none 0 0,.slice none 0 0,.slice none 0 0,.slice none 0 0,.slice none 0 0] 32 (0,0))):=⟨fun wr h=>by rw [h.block tb HL4.out];exact GT1.out⟩
 have HGE:Aside0 (∀ wr,Below nb w1 wr→Below w.heap.size w wr):=⟨fun wr h=>GW1.out.trans (h.mono HL2.out)⟩
 have GT:Aside0 (W.heap[tb]? =some (.cells #[.slice none 0 0,.slice none 0 0,.slice A xs.length c,.slice none 0 0,.slice none 0 0,.slice none 0 0,.slice none 0 0,.slice none 0 0] 32 (0,0))):=⟨HGT.out _ HB.out⟩
 clear G0 GW1 GT1 HL3 HL4
 rw [←htb]
 clear htb
 go_loopg [22] 0 (fun kq v wr=>v=.int .i64 0∧wr=W)
 case atStart=>exact ⟨rfl,rfl⟩
 case round=>
  obtain ⟨rfl,rfl⟩:=hrel
  have k2:wr.cell? ⟨tb,2,none⟩=some (.slice A xs.length c):=blk_cell GT.out 2
  have k3:wr.cell? ⟨tb,3,none⟩=some (.slice none 0 0):=blk_cell GT.out 3
  have k4:wr.cell? ⟨tb,4,none⟩=some (.slice none 0 0):=blk_cell GT.out 4
  have k5:wr.cell? ⟨tb,5,none⟩=some (.slice none 0 0):=blk_cell GT.out 5
  have k6:wr.cell? ⟨tb,6,none⟩=some (.slice none 0 0):=blk_cell GT.out 6
  have k7:wr.cell? ⟨tb,7,none⟩=some (.slice none 0 0):=blk_cell GT.out 7
  go_wp2
  clear k2 k3 k4 k5 k6 k7
  go_loopg [32] 6 (fun kq v wr=> ∃ (i:Nat) (vn:Value),v=.int .i64 i∧Aside0 (i+kq=6∧wr.heap[nb]? =some (.cells #[vn] 136 (0,0))∧Kd.R (Kd.int .u64) 33 wr nb (fun _=>True) vn ((xs.take (if i=0 then 0 else xs.length)).map (·.f0))∧wellJ xs (if i=0 then 0 else xs.length)∧Below nb w1 wr))
  case atStart=>exact ⟨0,_,rfl,⟨rfl,GN.out,HN.out,⟨by intro a b ha hb h1 h2;simp at h2,by intro a ha h2;simp at h2,by intro a h2;simp at h2⟩,HB.out⟩⟩
  case round=>
   clear GT GN HN HB
   obtain ⟨gko,hgko⟩: ∃ n,n=gk:=⟨gk,rfl⟩
   subst hgko
   obtain ⟨i,vn,rfl,⟨hi,gn,hn,hw,hB⟩⟩:=hrel
   have GT:=Aside0.mk (HGT.out _ hB)
   have GN:=Aside0.mk gn
   have HN:=Aside0.mk hn
   have HW:=Aside0.mk hw
   have HE:=Aside0.mk (HGE.out _ hB)
   have HB:=Aside0.mk hB
   have HI:=Lib.hid hi
   clear gn hn hw hB
   by_cases hi0:i=0
   ·subst hi0
    simp only [if_true] at HN HW
    clear hi
    have e30:(Instr.index 30 (.agg #[.slice A xs.length c,.slice none 0 0,.slice none 0 0,.slice none 0 0,.slice none 0 0,.slice none 0 0]) (.int .i64 0)).run Tryz.prog wr=.ok (.slice A xs.length c) wr:=idx30 _ _ _ _ (by omega) (by omega) rfl
    go_wp2
    clear e30
    go_loopg [37] xs.length (fun kq v wr=> ∃ (j:Nat) (vn:Value),v=.int .i64 j∧Aside0 (j≤xs.length∧xs.length≤kq+j∧wr.heap[nb]? =some (.cells #[vn] 136 (0,0))∧Kd.R (Kd.int .u64) 33 wr nb (fun _=>True) vn ((xs.take j).map (·.f0))∧wellJ xs j∧Below nb w1 wr))
    case atStart=>exact ⟨0,vn,rfl,⟨by omega,by omega,GN.out,HN.out,HW.out,HB.out⟩⟩
    case round=>
     clear GT GN HN HW HE HB
     obtain ⟨j,vn,rfl,⟨hj1,hj2,gn,hn,hw,hB⟩⟩:=hrel
     have GT:=Aside0.mk (HGT.out _ hB)
     have GN:=Aside0.mk gn
     have HN:=Aside0.mk hn
     have HW:=Aside0.mk hw
     have HE:=Aside0.mk (HGE.out _ hB)
     have HB:=Aside0.mk hB
     clear gn hn hw hB
     have hln:=HL.out
     by_cases hj:j < xs.length
     ·have d7:decide ((j:Int) < (xs.length:Int))=true:=by simp [hj]
      obtain ⟨ad,A1,c1,A2,c2,e1,g1,g2,g3,b1,hc1,hC1,hc2,hC2⟩:=at56 HR.out j hj
      cases e1
      have hprev: ∃ d0:Bool,decide (0 < j)=d0∧(d0=true→1≤j∧ ∃ (hj1:j - 1 < xs.length) (A3:Option Addr) (c3:Nat) (A4:Option Addr) (c4:Nat),w.cell? (ad.add ((j - 1)*3))=some (.int .u64 xs[j-1].f0)∧w.cell? ⟨(ad.add ((j - 1)*3)).block,(ad.add ((j - 1)*3)).off+1,none⟩=some (.slice A3 xs[j-1].f1.length c3)∧w.cell? ⟨(ad.add ((j - 1)*3)).block,(ad.add ((j - 1)*3)).off+2,none⟩=some (.slice A4 xs[j-1].f2.length c4)∧
        (ad.add ((j - 1)*3)).block < w.heap.size∧xs[j-1].f1.length≤c3∧k57.C w A3 xs[j-1].f1.length xs[j-1].f1∧xs[j-1].f2.length≤c4∧k253.C w A4 xs[j-1].f2.length xs[j-1].f2):=by
       refine ⟨_,rfl,fun h=>?_⟩
       have hp:0 < j:=by simpa using h
       obtain ⟨ad',A3,c3,A4,c4,e',r⟩:=at56 HR.out (j - 1) (by omega)
       cases e'
       exact ⟨hp,by omega,A3,c3,A4,c4,r⟩
      have hx:=rfl (a:=xs[j])
      have hszx:=HS.out xs[j] (List.getElem_mem _)
      have hlx1:xs[j].f1.length < 2^30:=by
       have:=List.length_flatMap_ge (f:=(·.f1)) hj
       have:=HP.out;omega
      have hlx2:xs[j].f2.length < 2^30:=by
       have:=List.length_flatMap_ge (f:=(·.f2)) hj
       have:=HT.out;omega
      generalize hxg:xs[j]=x at hx hszx hlx1 hlx2 g1 g2 g3 hc1 hC1 hc2 hC2
      have HX:=Lib.hid hxg
      have HSX:=Lib.hid (And.intro hszx (And.intro hlx1 hlx2))
      have HCX:=Aside0.mk (And.intro hc1 (And.intro hC1 (And.intro hc2 hC2)))
      clear hx hxg hszx hlx1 hlx2 hc1 hC1 hc2 hC2
      replace g1:=(HE.out.cell (p:=ad.add (j*3)) b1).trans g1
      replace g2:=(HE.out.cell (p:=⟨(ad.add (j*3)).block,(ad.add (j*3)).off+1,none⟩) b1).trans g2
      replace g3:=(HE.out.cell (p:=⟨(ad.add (j*3)).block,(ad.add (j*3)).off+2,none⟩) b1).trans g3
      have b1:=World.block_lt_of_cell? _ _ g1
      obtain ⟨d0,e0,hprev⟩:=hprev
      cases d0
      ·clear hprev
       go_wp2_with (first|(go_at_call 27;go_loud (have hz:=HB.out.size;rw [HNB.out] at hz;have hX:=heap_alloc_new wr (.cells #[.int .u64 x.f0,.slice A1 x.f1.length c1,.slice A2 x.f2.length c2] 56);refine (c27 x A1 c1 A2 c2 nb nb vn _ _ w1 (blk_alloc GN.out (.cells #[.int .u64 x.f0,.slice A1 x.f1.length c1,.slice A2 x.f2.length c2] 56)) (Kd.R_alloc HN.out _) (HB.out.alloc hz _) (Nat.le_refl _) (by simp;omega) (by have:=HSX.out;omega) (by have:=HSX.out;omega)).mono ?_;rintro e w2 ⟨b,v',rfl,q1,q2,q4,q3⟩;have Q1:=Aside0.mk q1;have Q2:=Aside0.mk q2;have Q3:=Aside0.mk q3;clear q1 q2 q3 q4 hz hX;cases b)))
       ·obtain rfl:j=0:=by simpa using e0
        obtain ⟨hn1,hn2,hn3⟩:=Q3.out.resolve_left (by simp)
        go_roundg (gk - 1)
        case measure=>omega
        case rel=>
                  refine ⟨1,v',by go_num,⟨by omega,by omega,Q1.out,?_,?_,Q2.out⟩⟩
                  ·rw [take1 hj,HX.out];simpa using hn3
                  ·refine ⟨by intro a b ha hb h1 h2;omega,fun a ha h2=>?_,by intro a h2;omega⟩
                   obtain rfl:a=0:=by omega
                   rw [HX.out];exact hn2
       ·go_ret
        exact ⟨.no,Ext.of_below (HGE.out _ Q2.out)⟩
      ·obtain ⟨hj0,hjl,A3,c3,A4,c4,p1,p2,p3,pb,hc3,hC3,hc4,hC4⟩:=hprev rfl
       clear hprev
       have hszy:=HS.out xs[j-1] (List.getElem_mem _)
       have hly1:xs[j-1].f1.length < 2^30:=by
        have:=List.length_flatMap_ge (f:=(·.f1)) hjl
        have:=HP.out;omega
       have hly2:xs[j-1].f2.length < 2^30:=by
        have:=List.length_flatMap_ge (f:=(·.f2)) hjl
        have:=HT.out;omega
       generalize hyg:xs[j-1]=y at hszy hly1 hly2 p1 p2 p3 hc3 hC3 hc4 hC4
       have HY:=Lib.hid hyg
       have HSY:=Lib.hid (And.intro hszy (And.intro hly1 hly2))
       have HCY:=Aside0.mk (And.intro hc3 (And.intro hC3 (And.intro hc4 hC4)))
       have P1:=Aside0.mk p1
       have P2:=Aside0.mk p2
       have P3:=Aside0.mk p3
       have PB:=Aside0.mk pb
       clear hyg hszy hly1 hly2 hc3 hC3 hc4 hC4 p1 p2 p3
       go_wp2_with (first
        |(go_at_call 27;go_loud (have hz:=HB.out.size;rw [HNB.out] at hz;have hX:=heap_alloc_new wr (.cells #[.int .u64 x.f0,.slice A1 x.f1.length c1,.slice A2 x.f2.length c2] 56);refine (c27 x A1 c1 A2 c2 nb nb vn _ _ w1 (blk_alloc GN.out (.cells #[.int .u64 x.f0,.slice A1 x.f1.length c1,.slice A2 x.f2.length c2] 56)) (Kd.R_alloc HN.out _) (HB.out.alloc hz _) (Nat.le_refl _) (by simp;omega) (by have:=HSX.out;omega) (by have:=HSX.out;omega)).mono ?_;rintro e w2 ⟨b,v',rfl,q1,q2,q4,q3⟩;have Q1:=Aside0.mk q1;have Q2:=Aside0.mk q2;have Q3:=Aside0.mk q3;have X0:=Aside0.mk (q4 _ _ hX);have hE2:=HGE.out _ q2;clear g1 g2 g3;have p1:=(hE2.cell (p:=ad.add ((j - 1)*3)) PB.out).trans P1.out;have p2:=(hE2.cell (p:=⟨(ad.add ((j - 1)*3)).block,(ad.add ((j - 1)*3)).off+1,none⟩) PB.out).trans P2.out;have p3:=(hE2.cell (p:=⟨(ad.add ((j - 1)*3)).block,(ad.add ((j - 1)*3)).off+2,none⟩) PB.out).trans P3.out;have x0:=blk_cell X0.out 0;have x1:=blk_cell X0.out 1;have x2:=blk_cell X0.out 2;simp only [List.getElem?_toArray,List.getElem?_cons_zero,List.getElem?_cons_succ] at x0 x1 x2;generalize wr.heap.size=xb at *; have HE2:=Aside0.mk hE2;clear q1 q2 q3 q4 hz hX hE2;cases b))
        |(go_at_call 28;(with_reducible refine gate28 y _ _ ?_);go_loud (refine (c28 y A3 c3 A4 c4 _ (Kd.C_below HCY.out.2.1 HE2.out) HCY.out.1 (Kd.C_below HCY.out.2.2.2 HE2.out) HCY.out.2.2.1 (by have:=HSY.out;omega) (by have:=HSY.out;omega) (fun p hp=>(HSY.out.1.1 p hp).1) (fun p hp=>⟨(HSY.out.1.2 p hp).1,(HSY.out.1.2 p hp).2.1⟩) (Nat.le_trans HB0.out HE2.out.size)).mono ?_;rintro e w3 ⟨⟨lo1,hi1,o1,rfl,z1,z2,z3⟩,hk⟩;have Z1:=Lib.hid (And.intro z1 (And.intro z2 z3));replace x0:=Ext.cell hk x0;replace x1:=Ext.cell hk x1;replace x2:=Ext.cell hk x2;have K1:=Aside0.mk hk;have HE3:=Aside0.mk (HE2.out.trans ((Ext.below hk).mono HE2.out.size));clear hk z1 z2 z3 p1 p2 p3))
        |(go_at_call 28;(with_reducible refine gate28 x _ _ ?_);go_loud (refine (c28 x A1 c1 A2 c2 _ (Kd.C_below HCX.out.2.1 HE3.out) HCX.out.1 (Kd.C_below HCX.out.2.2.2 HE3.out) HCX.out.2.2.1 (by have:=HSX.out;omega) (by have:=HSX.out;omega) (fun p hp=>(HSX.out.1.1 p hp).1) (fun p hp=>⟨(HSX.out.1.2 p hp).1,(HSX.out.1.2 p hp).2.1⟩) (Nat.le_trans HB0.out HE3.out.size)).mono ?_;rintro e w4 ⟨⟨lo2,hi2,o2,rfl,z1,z2,z3⟩,hk⟩;have Z2:=Lib.hid (And.intro z1 (And.intro z2 z3));have K2:=Aside0.mk (K1.out.trans hk);clear hk z1 z2 z3 x0 x1 x2))
        |(go_at_call 29;go_loud (refine (c29 _ _ (by have:=Z1.out;omega) _).mono ?_;rintro e w5 ⟨rfl,hk⟩;have K3:=Aside0.mk (K2.out.trans hk);clear hk)))
       all_goals first
        |(have hsep:cmpB hi1 lo2 < 0∨o1=true:=by first|(left;omega)|(right;simpa using ‹(!o1)=false›)
          have HSEP:=Lib.hid hsep
          have B5:=Aside0.mk (Q2.out.trans ((Ext.below K3.out).mono (Nat.le_of_lt (blk_lt Q1.out))))
          obtain ⟨hn1,hn2,hn3⟩:=Q3.out.resolve_left (by simp)
          have NB:=Aside0.mk (K3.out.blk Q1.out)
          have NR:=Aside0.mk (Kd.R_below hn3 (Ext.below K3.out))
          clear hn3 hsep
          go_roundg (gk - 1)
          case measure=>omega
          case rel=>
           refine ⟨j+1,v',by go_num,⟨by omega,by omega,NB.out,?_,?_,B5.out⟩⟩
           ·rw [List.take_succ_eq_append_getElem hj,HX.out,List.map_append];exact NR.out
           ·exact wellJ_succ xs j hj hj0 HW.out (by rw [HX.out];exact hn1) (by rw [HX.out];exact hn2) (fun hjj h1 h2 a ha b hb=>by
             rw [HY.out] at h1 ha
             rw [HX.out] at h2 hb
             obtain ⟨q1,q2⟩:=Z1.out.2.2 h1
             obtain ⟨q3,q4⟩:=Z2.out.2.2 h2
             have r1:=(q2 a ha).2
             have r2:=(q4 b hb).1
             rcases HSEP.out with r3|r3
             ·exact cmpB_lt_le (cmpB_le_lt r1 r3) r2
             ·rw [q1] at r3;exact absurd r3 (by simp)))
        |(have B5:=Aside0.mk (Q2.out.trans ((Ext.below K3.out).mono (Nat.le_of_lt (blk_lt Q1.out))))
          go_ret
          exact ⟨.no,Ext.of_below (HGE.out _ B5.out)⟩)
        |(go_ret
          exact ⟨.no,Ext.of_below (HGE.out _ Q2.out)⟩)
     ·have d7:decide ((j:Int) < (xs.length:Int))=false:=by simp;omega
      obtain rfl:j=xs.length:=by omega
      go_wp2
      go_roundg (gko - 1)
      case measure=>have:=HI.out;omega
      case rel=>exact ⟨1,vn,by go_num,⟨by have:=HI.out;omega,GN.out,by simpa using HN.out,by simpa using HW.out,HB.out⟩⟩
   ·rw [if_neg hi0] at HN HW
    have HI0:=Lib.hid hi0
    clear hi0
    obtain rfl|rfl|rfl|rfl|rfl|rfl:i=1∨i=2∨i=3∨i=4∨i=5∨i=6:=by have:=HI0.out;omega
    all_goals clear hi
    ·have e30:(Instr.index 30 (.agg #[.slice A xs.length c,.slice none 0 0,.slice none 0 0,.slice none 0 0,.slice none 0 0,.slice none 0 0]) (.int .i64 1)).run Tryz.prog wr=.ok (.slice none 0 0) wr:=idx30 _ _ _ _ (by omega) (by omega) rfl
     go_wp2
     clear e30
     go_loopg [37] 0 (fun kq v wr1=>v=.int .i64 0∧wr1=wr)
     case atStart=>exact ⟨rfl,rfl⟩
     case round=>
        obtain ⟨rfl,rfl⟩:=hrel
        go_wp2
        go_roundg (gko - 1)
        case measure=>have:=HI.out;omega
        case rel=>exact ⟨1+1,vn,by go_num,⟨by have:=HI.out;omega,GN.out,HN.out,HW.out,HB.out⟩⟩
    ·have e30:(Instr.index 30 (.agg #[.slice A xs.length c,.slice none 0 0,.slice none 0 0,.slice none 0 0,.slice none 0 0,.slice none 0 0]) (.int .i64 2)).run Tryz.prog wr=.ok (.slice none 0 0) wr:=idx30 _ _ _ _ (by omega) (by omega) rfl
     go_wp2
     clear e30
     go_loopg [37] 0 (fun kq v wr1=>v=.int .i64 0∧wr1=wr)
     case atStart=>exact ⟨rfl,rfl⟩
     case round=>
        obtain ⟨rfl,rfl⟩:=hrel
        go_wp2
        go_roundg (gko - 1)
        case measure=>have:=HI.out;omega
        case rel=>exact ⟨2+1,vn,by go_num,⟨by have:=HI.out;omega,GN.out,HN.out,HW.out,HB.out⟩⟩
    ·have e30:(Instr.index 30 (.agg #[.slice A xs.length c,.slice none 0 0,.slice none 0 0,.slice none 0 0,.slice none 0 0,.slice none 0 0]) (.int .i64 3)).run Tryz.prog wr=.ok (.slice none 0 0) wr:=idx30 _ _ _ _ (by omega) (by omega) rfl
     go_wp2
     clear e30
     go_loopg [37] 0 (fun kq v wr1=>v=.int .i64 0∧wr1=wr)
     case atStart=>exact ⟨rfl,rfl⟩
     case round=>
        obtain ⟨rfl,rfl⟩:=hrel
        go_wp2
        go_roundg (gko - 1)
        case measure=>have:=HI.out;omega
        case rel=>exact ⟨3+1,vn,by go_num,⟨by have:=HI.out;omega,GN.out,HN.out,HW.out,HB.out⟩⟩
    ·have e30:(Instr.index 30 (.agg #[.slice A xs.length c,.slice none 0 0,.slice none 0 0,.slice none 0 0,.slice none 0 0,.slice none 0 0]) (.int .i64 4)).run Tryz.prog wr=.ok (.slice none 0 0) wr:=idx30 _ _ _ _ (by omega) (by omega) rfl
     go_wp2
     clear e30
     go_loopg [37] 0 (fun kq v wr1=>v=.int .i64 0∧wr1=wr)
     case atStart=>exact ⟨rfl,rfl⟩
     case round=>
        obtain ⟨rfl,rfl⟩:=hrel
        go_wp2
        go_roundg (gko - 1)
        case measure=>have:=HI.out;omega
        case rel=>exact ⟨4+1,vn,by go_num,⟨by have:=HI.out;omega,GN.out,HN.out,HW.out,HB.out⟩⟩
    ·have e30:(Instr.index 30 (.agg #[.slice A xs.length c,.slice none 0 0,.slice none 0 0,.slice none 0 0,.slice none 0 0,.slice none 0 0]) (.int .i64 5)).run Tryz.prog wr=.ok (.slice none 0 0) wr:=idx30 _ _ _ _ (by omega) (by omega) rfl
     go_wp2
     clear e30
     go_loopg [37] 0 (fun kq v wr1=>v=.int .i64 0∧wr1=wr)
     case atStart=>exact ⟨rfl,rfl⟩
     case round=>
        obtain ⟨rfl,rfl⟩:=hrel
        go_wp2
        go_roundg (gko - 1)
        case measure=>have:=HI.out;omega
        case rel=>exact ⟨5+1,vn,by go_num,⟨by have:=HI.out;omega,GN.out,HN.out,HW.out,HB.out⟩⟩
    ·have k0:wr.cell? ⟨tb,0,none⟩=some (.slice none 0 0):=blk_cell GT.out 0
     have k1:wr.cell? ⟨tb,1,none⟩=some (.slice none 0 0):=blk_cell GT.out 1
     have k2:wr.cell? ⟨tb,2,none⟩=some (.slice A xs.length c):=blk_cell GT.out 2
     have k3:wr.cell? ⟨tb,3,none⟩=some (.slice none 0 0):=blk_cell GT.out 3
     have k4:wr.cell? ⟨tb,4,none⟩=some (.slice none 0 0):=blk_cell GT.out 4
     have k5:wr.cell? ⟨tb,5,none⟩=some (.slice none 0 0):=blk_cell GT.out 5
     have k6:wr.cell? ⟨tb,6,none⟩=some (.slice none 0 0):=blk_cell GT.out 6
     have k7:wr.cell? ⟨tb,7,none⟩=some (.slice none 0 0):=blk_cell GT.out 7
     go_wp2_with (first|(go_at_call 31;go_loud (refine (c31 A c xs _ (Kd.C_below HR.out HE.out) HC.out HL.out (by have:=HP.out;omega) (by have:=HT.out;omega)).mono ?_;rintro e w2 ⟨⟨v,vp,vt,rfl,q1,q2,q3⟩,hk⟩;have Q1:=Aside0.mk q1;have Q2:=Aside0.mk q2;have Q3:=Aside0.mk q3;have HE2:=Aside0.mk (HE.out.trans ((Ext.below hk).mono HE.out.size));obtain ⟨AL,cL,hv,hcL,hCL⟩:=lv_C q1 q2 q3;have HCL:=Aside0.mk (And.intro hcL hCL);subst hv;clear q1 q2 q3 hk Q1 Q2 Q3 hcL hCL;generalize hLL:(⟨xs.flatMap (·.f1),xs.flatMap (·.f2)⟩::List.replicate 5 ⟨[],[]⟩:List S255)=LL at *; have HLL:=Lib.hid hLL;clear hLL))|(go_at_call 30;go_loud (refine (c30 AL cL LL (fun v hv=>by rw [←HLL.out] at hv;exact lvSz_all HS.out HP.out HT.out HK.out v hv) _ HCL.out.2 HCL.out.1 (by rw [←HLL.out];simp)).mono ?_;rintro e w3 ⟨⟨b,rfl,hb⟩,hk⟩;have HBB:=Lib.hid hb;have HE3:=Aside0.mk (HE2.out.trans ((Ext.below hk).mono HE2.out.size));clear hb hk)))
     go_ret
     exact ⟨⟨b,rfl,fun hb=>wellT_of HW.out (HBB.out hb _ (by rw [←HLL.out];exact List.mem_cons_self))⟩,Ext.of_below HE3.out⟩
theorem at50 [Bd] {w:World} {A:Option Addr} {xs:List S50} (h:Kd.C k50 w A xs.length xs) (i:Nat) (hi:i < xs.length):
  ∃ ad,A=some ad∧w.cell? (ad.add (i*4))=some (.string xs[i].f0.f0)∧w.cell? ⟨(ad.add (i*4)).block,(ad.add (i*4)).off+1,none⟩=some (.int .u64 xs[i].f0.f1)∧w.cell? ⟨(ad.add (i*4)).block,(ad.add (i*4)).off+2,none⟩=some (.string xs[i].f0.f2)∧w.cell? ⟨(ad.add (i*4)).block,(ad.add (i*4)).off+3,none⟩=some (.bool xs[i].f1)∧
   (ad.add (i*4)).block < w.heap.size:=by
 obtain ⟨ad,e1,g1,g2,g3,g4⟩:=at_T50 h (i:Int) (by omega) (by omega)
 have e:rd_T50 xs (i:Int)=xs[i]:=by unfold rd_T50;simp [List.getD_eq_getElem?_getD,hi]
 rw [e] at g1 g2 g3 g4
 exact ⟨ad,e1,g1,g2,g3,g4,World.block_lt_of_cell? _ _ g1⟩
theorem at145 [Bd] {w:World} {A:Option Addr} {xs:List S145} (h:Kd.C k145 w A xs.length xs) (i:Nat) (hi:i < xs.length):
  ∃ ad,A=some ad∧w.cell? (ad.add (i*4))=some (.string xs[i].f0.f0)∧w.cell? ⟨(ad.add (i*4)).block,(ad.add (i*4)).off+1,none⟩=some (.int .u64 xs[i].f0.f1)∧w.cell? ⟨(ad.add (i*4)).block,(ad.add (i*4)).off+2,none⟩=some (.string xs[i].f0.f2)∧w.cell? ⟨(ad.add (i*4)).block,(ad.add (i*4)).off+3,none⟩=some (.bool xs[i].f1)∧
   (ad.add (i*4)).block < w.heap.size:=by
 obtain ⟨ad,e1,g1,g2,g3,g4⟩:=at_T145 h (i:Int) (by omega) (by omega)
 have e:rd_T145 xs (i:Int)=xs[i]:=by unfold rd_T145;simp [List.getD_eq_getElem?_getD,hi]
 rw [e] at g1 g2 g3 g4
 exact ⟨ad,e1,g1,g2,g3,g4,World.block_lt_of_cell? _ _ g1⟩
def sameF (g:S50) (x:S145):Prop:=g.f1=x.f1∧(g.f1=true→g.f0.f0=x.f0.f0∧g.f0.f1=x.f0.f1∧g.f0.f2=x.f0.f2)
theorem c15 [Bd] (A B:Option Addr) (c d:Nat) (gs:List S50) (xs:List S145) (w:World) (hg:Kd.C k50 w A gs.length gs) (hx:Kd.C k145 w B xs.length xs) (hc:gs.length≤c) (hd:xs.length≤d) (hl:gs.length < 2^40)
  (hn:gs.length=xs.length) (hs: ∀ i (h:i < gs.length) (h':i < xs.length),sameF gs[i] xs[i]):
  Calls Tryz.prog 15 #[.slice A gs.length c,.slice B xs.length d] w fun e w'=>e=.returned (.bool true)∧Ext w w':=by
 have HG:=Lib.hid hg
 have HX:=Lib.hid hx
 have HC:=Lib.hid hc
 have HD:=Lib.hid hd
 have HL:=Lib.hid hl
 have HS:=Lib.hid hs
 have HN:=Lib.hid hn
 have d0:((gs.length:Int)==(xs.length:Int))=true:=by simp [hn]
 have d0':(gs.length==xs.length)=true:=by simp [hn]
 clear hg hx hc hd hl hs hn
 have hu37:=Tryz.underlying37
 have hu62:=Tryz.underlying62
 have hu50:=Tryz.underlying50
 have hu145:=Tryz.underlying145
 have hu36:=Tryz.underlying36
 have hu57:=Tryz.underlying57
 go_enter Tryz.func15,Tryz.ntmps15
 go_wp2
 all_goals try (rename_i h0;exact absurd HN.out (by omega))
 clear d0 d0'
 generalize (Value.bool ((gs.length:Int) !=(xs.length:Int)))=vdead
 go_loopg [14] gs.length (fun kq v wr=> ∃ j:Nat,v=.int .i64 j∧Aside0 (j≤gs.length∧gs.length≤kq+j)∧Aside0 (Ext w wr))
 case atStart=>exact ⟨0,rfl,⟨by omega,by omega⟩,⟨by (repeat (first|exact Kept.refl _ _|apply Kept.ktr|apply Kept.kt0|apply Kept.alloc|apply Kept.drew|apply Kept.drewN))⟩⟩
 case round=>
  obtain ⟨j,rfl,⟨hj1,hj2⟩,hE⟩:=hrel
  have hln:=HL.out
  by_cases hj:j < gs.length
  ·have d7:decide ((j:Int) < (gs.length:Int))=true:=by simp [hj]
   have hjx:j < xs.length:=by have:=HN.out;omega
   obtain ⟨ad,e1,g1,g2,g3,g4,b1⟩:=at50 HG.out j hj
   obtain ⟨ad',e2,f1,f2,f3,f4,b2⟩:=at145 HX.out j hjx
   cases e1
   cases e2
   replace g1:=hE.out.cell g1
   replace g2:=hE.out.cell g2
   replace g3:=hE.out.cell g3
   replace g4:=hE.out.cell g4
   replace f1:=hE.out.cell f1
   replace f2:=hE.out.cell f2
   replace f3:=hE.out.cell f3
   replace f4:=hE.out.cell f4
   have b1:=World.block_lt_of_cell? _ _ g1
   have b2:=World.block_lt_of_cell? _ _ f1
   have hs:=HS.out j hj hjx
   generalize gs[j]=g at *
   generalize xs[j]=x at *
   obtain ⟨⟨gu,gt,gv⟩,gb⟩:=g
   obtain ⟨⟨xu,xt,xv⟩,xb⟩:=x
   obtain ⟨h1,h2⟩:=hs
   simp only at h1 h2
   subst h1
   cases gb
   ·clear h2
    go_wp2
    (refine wp_region_kt [] (by kernel_rfl) (lexB_of (by kernel_rfl)) ?_;(repeat (any_goals (first|go_big_quiet_step (fail)|(refine wpQuiet_split _ rfl rfl (fun hsp=>?_) (fun hsp=>?_)<;>simp only [hsp]))));all_goals (refine wpQuiet_nil ?_;rintro wq ⟨y,hy⟩;have hk:=kept_kt y;rw [←hy] at hk;clear hy y))
    all_goals (have hkk:Ext wr wq:=((Kept.refl [] wr).alloc _).trans hk;clear hk;have hE1:=Aside0.mk (hE.out.trans hkk);clear hkk hE)
    all_goals go_wp2
    all_goals first
     |(go_roundg (gk - 1);(case measure=>omega);(case rel=>exact ⟨j+1,by go_num,⟨by omega,by omega⟩,hE1⟩))
   ·obtain ⟨rfl,rfl,rfl⟩:=h2 rfl
    clear h2
    go_wp2
    (refine wp_region_kt [] (by kernel_rfl) (lexB_of (by kernel_rfl)) ?_;(repeat (any_goals (first|go_big_quiet_step (fail)|(refine wpQuiet_split _ rfl rfl (fun hsp=>?_) (fun hsp=>?_)<;>simp only [hsp]))));all_goals (refine wpQuiet_nil ?_;rintro wq ⟨y,hy⟩;have hk:=kept_kt y;rw [←hy] at hk;clear hy y))
    all_goals (have hkk:Ext wr wq:=((Kept.refl [] wr).alloc _).trans hk;clear hk;have hE1:=Aside0.mk (hE.out.trans hkk);clear hkk hE)
    all_goals go_wp2
    all_goals first
     |(go_roundg (gk - 1);(case measure=>omega);(case rel=>exact ⟨j+1,by go_num,⟨by omega,by omega⟩,hE1⟩))
  ·have d7:decide ((j:Int) < (gs.length:Int))=false:=by simp;omega
   go_wp2
   go_ret
   exact ⟨rfl,hE.out⟩
end Go.Proofs.YtghppnklhbbffaaGreatDoor.TL
