/- Part 10 of the proof that laws.FnTreeLevel answers true, for arguments of small bulk. -/
import Derived.Test.YtghppnklhbbffaaGreatDoorR09
import Derived.Test.YtghppnklhbbffaaGreatDoorR05
import Derived.Test.YtghppnklhbbffaaGreatDoorR04
set_option linter.all false
set_option maxHeartbeats 4000000
set_option maxRecDepth 100000
namespace Go.Proofs.YtghppnklhbbffaaGreatDoor.TL
open Go Go.RowKit Go.Proofs.YtghppnklhbbffaaGreatDoor.PFnTreeLevel Go.Proofs.YtghppnklhbbffaaGreatDoorW.PrintWords
theorem Kept.blkOf [Bd] {ts:List TypeId} {w w':World} (h:Kept ts w w') {g:Nat} {c:Array Value} {t:TypeId} {f:Nat×Nat} (hb:w.heap[g]? =some (.cells c t f)) (ht:t∉ts):w'.heap[g]? =some (.cells c t f):=by
 rw [h.block g ⟨_,hb,by rintro _ _ _ _ ⟨⟩;exact ht⟩];exact hb
@[simp,go_sem] theorem setCell_same [Bd] {w:World} {a:Addr} {v:Value} (h:w.cell? a=some v):w.setCell a v=w:=by
  have hh:w.heap.modify a.block (fun o=>match o with
    | .cells c elem frozen=>.cells (if a.spot.isSome then c else c.setIfInBounds a.off v) elem frozen
    |o=>o)=w.heap:=by
   apply Array.ext_getElem?
   intro i
   rw [Array.getElem?_modify]
   split
   ·rename_i hi
    subst hi
    unfold World.cell? at h
    cases hb:w.heap[a.block]? with
    |none=>rfl
    |some o=>
     rw [hb] at h
     cases o with
     |cells c e f=>
      simp only at h
      by_cases hs:a.spot.isSome=true
      ·simp [hs] at h
      ·simp only [hs] at h
       simp only [Option.map_some,hs]
       congr 2
       apply Array.ext_getElem?
       intro k
       simp only [Bool.false_eq_true,if_false,Array.getElem?_setIfInBounds]
       split
       ·rename_i hk
        subst hk
        simp only [Bool.false_eq_true,if_false] at h
        rw [h]
        have:=(Array.getElem?_eq_some_iff.1 h).1
        simp [this]
       ·rfl
     |_=>rfl
   ·rfl
  exact congrArg (fun hp=>({ w with heap:=hp }:World)) hh
theorem alloc_size [Bd] (w:World) (o:Obj):(w.alloc o).heap.size=w.heap.size+1:=by show (w.heap.push o).size=_;simp
def TBok (ps:List S57) (ts:List S253) (lo hi:ByteArray) (o:Bool):Prop:=ts=[]→o=false∧ ∀ x∈ps,cmpB lo x.f0≤0∧cmpB x.f0 hi≤0
def Post28 (t:S56) (e:Ending):Prop:= ∃ lo hi o,e=.returned (.tuple #[.string lo,.string hi,.bool o])∧lo.size < 2^31∧hi.size < 2^31∧TBok t.f1 t.f2 lo hi o
theorem see_inv [Bd] (ps:List S57) (j:Nat) (hj:j < ps.length) (lo hi:ByteArray) (h: ∀ i (h:i < ps.length),i < j→cmpB lo ps[i].f0≤0∧cmpB ps[i].f0 hi≤0) (i:Nat) (hi':i < ps.length) (hij:i < j+1):
  cmpB (seeLo (decide (j=0)) lo ps[j].f0) ps[i].f0≤0∧cmpB ps[i].f0 (seeHi (decide (j=0)) hi false ps[j].f0 false).1≤0:=by
 by_cases h0:j=0
 ·have hi0:i=0:=by omega
  subst h0 hi0
  simp [seeLo,seeHi,cmpB_refl]
 ·have hself:=cmpB_refl ps[j].f0
  have a1:=cmpB_anti lo ps[j].f0
  have a2:=cmpB_anti hi ps[j].f0
  by_cases hij':i=j
  ·subst hij'
   constructor
   ·simp only [seeLo,h0,decide_false,Bool.false_or,decide_eq_true_eq]
    split<;>omega
   ·simp only [seeHi,h0,decide_false,Bool.false_or,Bool.and_false,Bool.or_false,decide_eq_true_eq]
    split<;>simp only<;>omega
  ·obtain ⟨h1,h2⟩:=h i hi' (by omega)
   constructor
   ·simp only [seeLo,h0,decide_false,Bool.false_or,decide_eq_true_eq]
    split
    ·exact Int.le_of_lt (cmpB_lt_le ‹_› h1)
    ·exact h1
   ·simp only [seeHi,h0,decide_false,Bool.false_or,Bool.and_false,Bool.or_false,decide_eq_true_eq]
    split
    ·exact Int.le_of_lt (cmpB_le_lt h2 ‹_›)
    ·exact h2
theorem c28 [Bd] (t:S56) (A1:Option Addr) (c1:Nat) (A2:Option Addr) (c2:Nat) (w:World) (hr1:Kd.C k57 w A1 t.f1.length t.f1) (hc1:t.f1.length≤c1) (hr2:Kd.C k253 w A2 t.f2.length t.f2) (hc2:t.f2.length≤c2)
  (hl1:t.f1.length < 2^40) (hl2:t.f2.length < 2^40) (hs1: ∀ x∈t.f1,x.f0.size < 2^31) (hs2: ∀ x∈t.f2,x.f0.size < 2^31∧x.f1.size < 2^31) (hB0:Bd.B≤w.heap.size):
  Calls Tryz.prog 28 #[.agg #[.int .u64 t.f0,.slice A1 t.f1.length c1,.slice A2 t.f2.length c2]] w fun e w'=>Post28 t e∧Ext w w':=by
 have HR1:=Lib.hid hr1
 have HR2:=Lib.hid hr2
 have HC1:=Lib.hid hc1
 have HC2:=Lib.hid hc2
 have HL1:=Lib.hid hl1
 have HL2:=Lib.hid hl2
 have HS1:=Lib.hid hs1
 have HS2:=Lib.hid hs2
 have HB0:=Lib.hid hB0
 clear hr1 hr2 hc1 hc2 hl1 hl2 hs1 hs2 hB0
 have hu56:=Tryz.underlying56
 have hu57:=Tryz.underlying57
 have hu253:=Tryz.underlying253
 have hu53:=Tryz.underlying53
 have hu54:=Tryz.underlying54
 go_enter Tryz.func28,Tryz.ntmps28
 go_wp2
 have G0:=heap_alloc_new w (.cells #[.int .u64 t.f0,.slice A1 t.f1.length c1,.slice A2 t.f2.length c2] 56)
 have G1:=heap_alloc_new (w.alloc (.cells #[.int .u64 t.f0,.slice A1 t.f1.length c1,.slice A2 t.f2.length c2] 56)) (.cells #[.string ⟨#[]⟩] 9)
 have G2:=heap_alloc_new ((w.alloc (.cells #[.int .u64 t.f0,.slice A1 t.f1.length c1,.slice A2 t.f2.length c2] 56)).alloc (.cells #[.string ⟨#[]⟩] 9)) (.cells #[.string ⟨#[]⟩] 9)
 have G3:=heap_alloc_new (((w.alloc (.cells #[.int .u64 t.f0,.slice A1 t.f1.length c1,.slice A2 t.f2.length c2] 56)).alloc (.cells #[.string ⟨#[]⟩] 9)).alloc (.cells #[.string ⟨#[]⟩] 9)) (.cells #[.bool false] 4)
 have G4:=heap_alloc_new ((((w.alloc (.cells #[.int .u64 t.f0,.slice A1 t.f1.length c1,.slice A2 t.f2.length c2] 56)).alloc (.cells #[.string ⟨#[]⟩] 9)).alloc (.cells #[.string ⟨#[]⟩] 9)).alloc (.cells #[.bool false] 4)) (.cells #[.bool true] 4)
 have HE:Aside0 (Ext w (((((w.alloc (.cells #[.int .u64 t.f0,.slice A1 t.f1.length c1,.slice A2 t.f2.length c2] 56)).alloc (.cells #[.string ⟨#[]⟩] 9)).alloc (.cells #[.string ⟨#[]⟩] 9)).alloc (.cells #[.bool false] 4)).alloc (.cells #[.bool true] 4))):=⟨by (repeat (first|exact Kept.refl _ _|apply Kept.ktr|apply Kept.kt0|apply Kept.alloc|apply Kept.drew|apply Kept.drewN))⟩
 replace G0:=blk_alloc (blk_alloc (blk_alloc (blk_alloc G0 (.cells #[.string ⟨#[]⟩] 9)) (.cells #[.string ⟨#[]⟩] 9)) (.cells #[.bool false] 4)) (.cells #[.bool true] 4)
 replace G1:=blk_alloc (blk_alloc (blk_alloc G1 (.cells #[.string ⟨#[]⟩] 9)) (.cells #[.bool false] 4)) (.cells #[.bool true] 4)
 replace G2:=blk_alloc (blk_alloc G2 (.cells #[.bool false] 4)) (.cells #[.bool true] 4)
 replace G3:=blk_alloc G3 (.cells #[.bool true] 4)
 simp only [alloc_size] at G0 G1 G2 G3 G4
 generalize (((((w.alloc (.cells #[.int .u64 t.f0,.slice A1 t.f1.length c1,.slice A2 t.f2.length c2] 56)).alloc (.cells #[.string ⟨#[]⟩] 9)).alloc (.cells #[.string ⟨#[]⟩] 9)).alloc (.cells #[.bool false] 4)).alloc (.cells #[.bool true] 4))=W at *
 generalize hbf:w.heap.size+1+1+1+1=bf at *
 generalize hbo:w.heap.size+1+1+1=bo at *
 generalize hbh:w.heap.size+1+1=bh at *
 generalize hbl:w.heap.size+1=bl at *
 have E:Aside0 (bf≠bo∧bl≠bh∧w.heap.size≤bf∧w.heap.size≤bl∧w.heap.size≤bh∧w.heap.size≤bo):=⟨by omega,by omega,by omega,by omega,by omega,by omega⟩
 clear hbf hbo hbh hbl
 obtain ⟨tb,htb⟩: ∃ b,b=w.heap.size:=⟨_,rfl⟩
 have G0:Aside0 (W.heap[tb]? =some (.cells #[.int .u64 t.f0,.slice A1 t.f1.length c1,.slice A2 t.f2.length c2] 56 (0,0))):=⟨by rw [htb];exact G0⟩
 have GF:=Aside0.mk G4
 have GL:=Aside0.mk G1
 have GH:=Aside0.mk G2
 have GO:=Aside0.mk G3
 rename_i G0x
 clear G0x G1 G2 G3 G4
 rw [←htb]
 have HTB:=Lib.hid htb
 clear htb
 go_loopg [15] t.f1.length (fun kq v wr=> ∃ (j:Nat) (f:Bool) (lo hi:ByteArray) (o:Bool),v=.int .i64 j∧Aside0 (j≤t.f1.length∧t.f1.length≤kq+j∧wr.heap[tb]? =some (.cells #[.int .u64 t.f0,.slice A1 t.f1.length c1,.slice A2 t.f2.length c2] 56 (0,0))∧wr.heap[bf]? =some (.cells #[.bool f] 4 (0,0))∧wr.heap[bl]? =some (.cells #[.string lo] 9 (0,0))∧
    wr.heap[bh]? =some (.cells #[.string hi] 9 (0,0))∧wr.heap[bo]? =some (.cells #[.bool o] 4 (0,0))∧Below w.heap.size w wr∧lo.size < 2^31∧hi.size < 2^31∧(o=false∧f=decide (j=0)∧ ∀ i (h:i < t.f1.length),i < j→cmpB lo t.f1[i].f0≤0∧cmpB t.f1[i].f0 hi≤0)))
 case atStart=>exact ⟨0,true,_,_,false,rfl,⟨by omega,by omega,G0.out,GF.out,GL.out,GH.out,GO.out,HE.out.below,by decide,by decide,⟨rfl,by simp,by intro i h1 h2;omega⟩⟩⟩
 case round=>
  clear G0 GF GL GH GO HE
  obtain ⟨j,f,lo,hi,o,rfl,⟨hj1,hj2,g0,gf,gl,gh,go,hE,hz1,hz2,hV⟩⟩:=hrel
  have G0:=Aside0.mk g0
  have GF:=Aside0.mk gf
  have GL:=Aside0.mk gl
  have GH:=Aside0.mk gh
  have GO:=Aside0.mk go
  have HE:=Aside0.mk hE
  have HV:=Aside0.mk hV
  have HZ:=Aside0.mk (And.intro hz1 hz2)
  clear g0 gf gl gh go hE hV hz1 hz2
  have hL1:=HL1.out
  have hL2:=HL2.out
  by_cases hj:j < t.f1.length
  ·have d7:decide ((j:Int) < (t.f1.length:Int))=true:=by simp [hj]
   obtain ⟨ad,e1,g1,g2,g3,b1⟩:=at57 HR1.out j hj
   cases e1
   have b1':=b1
   replace g1:=(HE.out.cell (p:=ad.add (j*3)) b1).trans g1
   replace g2:=(HE.out.cell (p:=⟨(ad.add (j*3)).block,(ad.add (j*3)).off+1,none⟩) b1).trans g2
   replace g3:=(HE.out.cell (p:=⟨(ad.add (j*3)).block,(ad.add (j*3)).off+2,none⟩) b1).trans g3
   have b1:=World.block_lt_of_cell? _ _ g1
   have hsz:=HS1.out t.f1[j] (List.getElem_mem _)
   have hX:=rfl (a:=t.f1[j])
   generalize hx:t.f1[j]=x at hsz g1 g2 g3
   have HX:=Lib.hid hx
   have HSZ:=Lib.hid hsz
   clear hx hX hsz
   go_wp2_with (go_at_call 78;go_loud (refine (c78 f lo hi o x.f0 x.f0 false bf bl bh bo w.heap.size _ (by have:=HSZ.out;omega) (by have:=HZ.out.2;omega) (blk_alloc GF.out _) (blk_alloc GL.out _) (blk_alloc GH.out _) (blk_alloc GO.out _) E.out.1 E.out.2.1 E.out.2.2.1 E.out.2.2.2.1 E.out.2.2.2.2.1 E.out.2.2.2.2.2 HB0.out).mono ?_;rintro e w2 ⟨rfl,q1,q2,q3,q4,q5,q6⟩;have Q1:=Aside0.mk q1;have Q2:=Aside0.mk q2;have Q3:=Aside0.mk q3;have Q4:=Aside0.mk q4;have Q5:=Aside0.mk ((HE.out.alloc HE.out.size (.cells #[.string x.f0,.int .u64 x.f1,.string x.f2] 57)).trans q5);have Q6:=Aside0.mk (q6.blkOf (blk_alloc G0.out (.cells #[.string x.f0,.int .u64 x.f1,.string x.f2] 57)) (by decide));clear q1 q2 q3 q4 q5 q6))
   go_roundg (gk - 1)
   case measure=>omega
   case rel=>
    refine ⟨j+1,_,_,_,_,by go_num,⟨by omega,by omega,Q6.out,Q1.out,Q2.out,Q3.out,Q4.out,Q5.out,?_,?_,?_⟩⟩
    ·have:=HZ.out;have:=HSZ.out
     unfold seeLo;split<;>omega
    ·have:=HZ.out;have:=HSZ.out
     unfold seeHi;split<;>simp only<;>omega
    ·obtain ⟨h1,h2,h3⟩:=HV.out
     subst h1 h2
     refine ⟨?_,by simp,fun i hlt hij=>?_⟩
     ·unfold seeHi;split<;>simp_all
     ·have hx:=HX.out
      subst hx
      exact see_inv t.f1 j hj lo hi h3 i hlt hij
  ·have d7:decide ((j:Int) < (t.f1.length:Int))=false:=by simp;omega
   obtain rfl:j=t.f1.length:=by omega
   have kt1:=blk_cell G0.out 1
   have kt2:=blk_cell G0.out 2
   simp only [List.getElem?_toArray,List.getElem?_cons_succ,List.getElem?_cons_zero] at kt1 kt2
   go_wp2
   go_loopg [29] t.f2.length (fun kq v wr=> ∃ (j:Nat) (f:Bool) (lo hi:ByteArray) (o:Bool),v=.int .i64 j∧Aside0 (j≤t.f2.length∧t.f2.length≤kq+j∧wr.heap[tb]? =some (.cells #[.int .u64 t.f0,.slice A1 t.f1.length c1,.slice A2 t.f2.length c2] 56 (0,0))∧wr.heap[bf]? =some (.cells #[.bool f] 4 (0,0))∧wr.heap[bl]? =some (.cells #[.string lo] 9 (0,0))∧
      wr.heap[bh]? =some (.cells #[.string hi] 9 (0,0))∧wr.heap[bo]? =some (.cells #[.bool o] 4 (0,0))∧Below w.heap.size w wr∧lo.size < 2^31∧hi.size < 2^31∧(j=0→o=false∧ ∀ x∈t.f1,cmpB lo x.f0≤0∧cmpB x.f0 hi≤0)))
   case atStart=>exact ⟨0,f,lo,hi,o,rfl,⟨by omega,by omega,G0.out,GF.out,GL.out,GH.out,GO.out,HE.out,HZ.out.1,HZ.out.2,(fun _=>⟨HV.out.1,fun x hx=>by obtain ⟨n,hn,rfl⟩:=List.getElem_of_mem hx;exact HV.out.2.2 n hn hn⟩)⟩⟩
   case round=>
    clear G0 GF GL GH GO HE HV HZ hj hj1 hj2 kt1 kt2 hL1 hL2 d7
    obtain ⟨j,f,lo,hi,o,rfl,⟨hj1,hj2,g0,gf,gl,gh,go,hE,hz1,hz2,hV⟩⟩:=hrel
    have G0:=Aside0.mk g0
    have GF:=Aside0.mk gf
    have GL:=Aside0.mk gl
    have GH:=Aside0.mk gh
    have GO:=Aside0.mk go
    have HE:=Aside0.mk hE
    have HV:=Aside0.mk hV
    have HZ:=Aside0.mk (And.intro hz1 hz2)
    clear g0 gf gl gh go hE hV hz1 hz2
    have hL1:=HL1.out
    have hL2:=HL2.out
    by_cases hj:j < t.f2.length
    ·have d7:decide ((j:Int) < (t.f2.length:Int))=true:=by simp [hj]
     obtain ⟨ad,A3,c3,e1,g1,g2,g3,b1,_,_⟩:=at253 HR2.out j hj
     cases e1
     have b1':=b1
     replace g1:=(HE.out.cell (p:=ad.add (j*3)) b1).trans g1
     replace g2:=(HE.out.cell (p:=⟨(ad.add (j*3)).block,(ad.add (j*3)).off+1,none⟩) b1).trans g2
     replace g3:=(HE.out.cell (p:=⟨(ad.add (j*3)).block,(ad.add (j*3)).off+2,none⟩) b1).trans g3
     have b1:=World.block_lt_of_cell? _ _ g1
     have hsz:=HS2.out t.f2[j] (List.getElem_mem _)
     have hX:=rfl (a:=t.f2[j])
     generalize hx:t.f2[j]=x at hsz g1 g2 g3
     have HX:=Lib.hid hx
     have HSZ:=Lib.hid hsz
     clear hx hX hsz
     go_wp2_with (go_at_call 78;go_loud (refine (c78 f lo hi o x.f0 x.f1 true bf bl bh bo w.heap.size _ (by have:=HSZ.out;omega) (by have:=HZ.out.2;omega) (blk_alloc GF.out _) (blk_alloc GL.out _) (blk_alloc GH.out _) (blk_alloc GO.out _) E.out.1 E.out.2.1 E.out.2.2.1 E.out.2.2.2.1 E.out.2.2.2.2.1 E.out.2.2.2.2.2 HB0.out).mono ?_;rintro e w2 ⟨rfl,q1,q2,q3,q4,q5,q6⟩;have Q1:=Aside0.mk q1;have Q2:=Aside0.mk q2;have Q3:=Aside0.mk q3;have Q4:=Aside0.mk q4;have Q5:=Aside0.mk ((HE.out.alloc HE.out.size (.cells #[.string x.f0,.string x.f1,.slice A3 x.f2.length c3] 253)).trans q5);have Q6:=Aside0.mk (q6.blkOf (blk_alloc G0.out (.cells #[.string x.f0,.string x.f1,.slice A3 x.f2.length c3] 253)) (by decide));clear q1 q2 q3 q4 q5 q6))
     go_roundg (gk - 1)
     case measure=>omega
     case rel=>
      refine ⟨j+1,_,_,_,_,by go_num,⟨by omega,by omega,Q6.out,Q1.out,Q2.out,Q3.out,Q4.out,Q5.out,?_,?_,?_⟩⟩
      ·have:=HZ.out;have:=HSZ.out
       unfold seeLo;split<;>omega
      ·have:=HZ.out;have:=HSZ.out
       unfold seeHi;split<;>simp only<;>omega
      ·exact fun h=>absurd h (by omega)
    ·have d7:decide ((j:Int) < (t.f2.length:Int))=false:=by simp;omega
     obtain rfl:j=t.f2.length:=by omega
     have kl:=blk_cell GL.out 0
     have kh:=blk_cell GH.out 0
     have ko:=blk_cell GO.out 0
     simp only [List.getElem?_toArray,List.getElem?_cons_zero] at kl kh ko
     have fl:=blk_frozen GL.out 0
     have fh:=blk_frozen GH.out 0
     have fo:=blk_frozen GO.out 0
     have ll:=blk_lt GL.out
     have lh:=blk_lt GH.out
     have lo':=blk_lt GO.out
     go_wp2
     (refine wp_region_kt [] (by kernel_rfl) (lexB_of (by kernel_rfl)) ?_;(repeat (any_goals (first|go_big_quiet_step (fail)|(refine wpQuiet_split _ rfl rfl (fun hsp=>?_) (fun hsp=>?_)<;>simp only [hsp]))));all_goals (refine wpQuiet_nil ?_;rintro wq ⟨y,hy⟩;have hk:=kept_kt y;rw [←hy] at hk;clear hy y))
     replace kl:=Ext.cell hk kl
     replace kh:=Ext.cell hk kh
     replace ko:=Ext.cell hk ko
     have HE2:=Aside0.mk (Kept.trans (Ext.of_below HE.out) hk)
     clear hk
     go_wp2
     (try simp only [Exit.inBlock,Exit.then])
     refine bodyPost_ret (v:=.tuple #[.string lo,.string hi,.bool o]) ?_ rfl ?_
     ·rw [results,show Tryz.f28.results= #[.cell 2 9,.cell 3 9,.cell 4 4] from rfl]
      simp [go_sem,loadVar,asAddr,kl,kh,ko]
     exact ⟨⟨lo,hi,o,rfl,HZ.out.1,HZ.out.2,fun ht=>HV.out (by rw [ht];rfl)⟩,HE2.out⟩
end Go.Proofs.YtghppnklhbbffaaGreatDoor.TL
namespace Go.Proofs.YtghppnklhbbffaaGreatDoor.X
open Go Go.RowKit Go.Proofs.YtghppnklhbbffaaGreatDoor.TL
theorem denL_any [Bd] {l:List SV} (h:SV.ltL 0 l=true) (bs bs':List Nat):SV.denL bs l=SV.denL bs' l:=by
 have h1:=denL_app (bs:=[]) (xs:=bs) l h
 have h2:=denL_app (bs:=[]) (xs:=bs') l h
 rw [List.nil_append] at h1 h2
 rw [h1,h2]
theorem Sat.cell [Bd] {bs:List Nat} {H:List SB} {w:World} (h:Sat bs H w) (i:Nat) (ty:TypeId) (cs:List SV) (ho:H[i]? =some ⟨ty,cs⟩) (o:Nat) (x:SV) (hx:cs[o]? =some x):w.cell? ⟨nmB bs i,o,none⟩=some (x.den bs):=
 cell_of_heap (h.mem i _ ho) (by rw [List.getElem?_toArray,denL_get,hx];rfl)
theorem Sat.soft [Bd] {bs:List Nat} {H:List SB} {w:World} (h:Sat bs H w) (i:Nat) (hi:i < bs.length) (o:Nat):w.frozen? ⟨nmB bs i,o,none⟩=false:=by
 obtain ⟨ob,ho⟩:=h.lt hi
 simp [World.frozen?,h.mem i ob ho]
theorem Sat.setCell [Bd] {bs:List Nat} {H:List SB} {w:World} (h:Sat bs H w) (i:Nat) (ty:TypeId) (cs:List SV) (ho:H[i]? =some ⟨ty,cs⟩) (o:Nat) (x:SV):
  Sat bs (H.set i ⟨ty,cs.set o x⟩) (w.setCell ⟨nmB bs i,o,none⟩ (x.den bs)):=by
 have hm:=h.mem i _ ho
 have hbl:=(List.getElem?_eq_some_iff.1 ho).1
 refine ⟨by simp [h.len],h.inj,fun j ob hj=>?_,h.lo,by simpa [World.setCell] using h.sz⟩
 rw [List.getElem?_set] at hj
 split at hj
 ·rename_i e
  subst e
  first
   |rw [if_pos hbl] at hj
   |skip
  simp only [Option.some.injEq] at hj
  subst hj
  simp only [World.setCell,Array.getElem?_modify,if_true,hm,Option.map_some]
  congr 2
  rw [if_neg (by simp),List.setIfInBounds_toArray]
  congr 1
  simp [denL_map,List.map_set]
 ·rename_i e
  have hjl:=(List.getElem?_eq_some_iff.1 hj).1
  rw [Below.heap_setCell _ _ _ _ (fun he=>e (h.inj _ _ (by rw [h.len];exact hjl) (by rw [h.len];exact hbl) he).symm)]
  exact h.mem j ob hj
theorem Sat.setFar [Bd] {bs:List Nat} {H:List SB} {w:World} (h:Sat bs H w) {g:Nat} (hg: ∀ x∈bs,x≠g) (o:Nat) (v:Value):Sat bs H (w.setCell ⟨g,o,none⟩ v):=
 ⟨h.len,h.inj,fun i ob hi=>by
  have hil:i < bs.length:=by rw [h.len];exact (List.getElem?_eq_some_iff.1 hi).1
  have e:nmB bs i∈bs:=by
   have:nmB bs i=bs[i]:=by simp [nmB,List.getD_eq_getElem?_getD,hil]
   rw [this];exact List.getElem_mem _
  rw [Below.heap_setCell _ _ _ _ (hg _ e)]
  exact h.mem i ob hi,h.lo,by simpa [World.setCell] using h.sz⟩
def itemV (k:Nat) (fm:Nat→Addr) (i:Nat):Value:=.pointer (cond (Nat.blt i k) (some (fm i)) none)
def itemS (k:Nat) (fm:Nat→Addr) (i:Nat):SV:=.oc (itemV k fm i) rfl
def nodeC (k:Nat) (fm:Nat→Addr):List SV:=
 [.it .i32 1,.it .i16 k,.bl true,.it .i64 k]++(List.range 31).map (itemS k fm)++[.ns]++List.replicate 32 .np
theorem c124 [Bd] (fm:Nat→Addr) (w:World) (hB0:autoParam (Bd.B≤w.heap.size) sz0._auto_1):Calls Tryz.prog 124 #[] w fun e w'=> ∃ b,e=.returned (.pointer (some ⟨b,0,none⟩))∧w.heap.size≤b∧w'.heap[b]? =some (.cells (SV.denL [b] (nodeC 0 fm)).toArray 360 (0,0))∧Ext w w':=by
 refine gs (bs:=[]) [] [] Tryz.func124 (sat0 w) (fun hW=>?_)
 refine gr1 100 ⟨[],0,[],[],0⟩ hW fun b w1 hn hK hW1=>?_
 refine gc 159 [.p 0 0,.it .i32 1] hW1 ?_
 refine (c159 ⟨b,0,none⟩ (.int .i32 0) 1 w1 (hW1.sat.cell 0 360 ([.it .i32 0,.it .i16 0,.bl true,.it .i64 0]++List.replicate 31 .np++[.ns]++List.replicate 32 .np) (by kernel_rfl) 0 (.it .i32 0) rfl) (hW1.sat.soft 0 (by simp) 0)).mono ?_
 rintro e w2 ⟨rfl,rfl⟩
 have hb:=hn b (by simp)
 have hs:=(hW1.satE [⟨360,[.it .i32 0,.it .i16 0,.bl true,.it .i64 0]++List.replicate 31 .np++[.ns]++List.replicate 32 .np⟩] (by kernel_rfl)).setCell 0 360 _ rfl 0 (.it .i32 1)
 refine ⟨.tup [],[],_,rfl,hs,fun hW2=>?_⟩
 refine go_run (bs:=[b]) 100 ⟨[],1,[],[],0⟩ (by kernel_rfl) hW2 rfl [] (by kernel_rfl) trivial ?_
 intro nw w3 hn3 hK3 hW3
 obtain rfl:=nw0 (hW3.num 1 (by kernel_rfl)) rfl
 refine gt (.p 0 0) hW3.sat ?_
 refine ⟨b,rfl,hb,?_,?_⟩
 ·exact (hW3.sq [⟨360,nodeC 0 fm⟩]).mem 0 ⟨360,nodeC 0 fm⟩ rfl
 ·exact (hK.setNew (p:=⟨b,0,none⟩) hb _).trans hK3
set_option maxHeartbeats 400000 in
theorem c125 [Bd] (k:Nat) (fm:Nat→Addr) (tb nb:Nat) (cv:SV) (w:World) (hs:Sat [tb,nb] [⟨214,[.p 1 0,cv]⟩,⟨360,nodeC k fm⟩] w):
  Calls Tryz.prog 125 #[.pointer (some ⟨tb,0,none⟩)] w fun e w'=>e=.returned (.pointer (some ⟨nb,0,none⟩))∧Ext w w':=by
 refine gs (bs:=[tb,nb]) [.p 0 0] _ Tryz.func125 hs (fun hW=>?_)
 refine go_run 100 ⟨[],2,[],[],0⟩ (by kernel_rfl) hW rfl [] (by kernel_rfl) trivial ?_
 intro nw w1 hn hK hW1
 obtain rfl:=nw0 (hW1.num 2 (by kernel_rfl)) rfl
 have hs1:=hW1.satE [⟨214,[.p 1 0,cv]⟩,⟨360,nodeC k fm⟩] (by kernel_rfl)
 refine gc 160 [.p 1 0] hW1 ?_
 refine (c160 ⟨nb,0,none⟩ 1 w1 (hs1.cell 1 360 (nodeC k fm) rfl 0 (.it .i32 1) (by kernel_rfl))).mono ?_
 rintro e w2 ⟨rfl,rfl⟩
 refine ⟨.it .i32 1,[],_,rfl,hs1,fun hW2=>?_⟩
 refine go_run (bs:=[tb,nb]) 100 ⟨[],2,[],[],3⟩ (by kernel_rfl) hW2 rfl [] (by kernel_rfl) trivial ?_
 intro nw w3 hn3 hK3 hW3
 obtain rfl:=nw0 (hW3.num 2 (by kernel_rfl)) rfl
 exact gt (.p 1 0) hW3.sat ⟨rfl,hK.trans hK3⟩
set_option maxHeartbeats 400000 in
theorem c128 [Bd] (f fb:Nat) (n:Int) (w:World) (h1:w.cell? ⟨f,2,none⟩=some (.pointer (some ⟨fb,0,none⟩))) (h2:w.cell? ⟨fb,0,none⟩=some (.int .i32 n)) (h3:w.frozen? ⟨fb,0,none⟩=false):
  Calls Tryz.prog 128 #[.pointer (some ⟨f,0,none⟩)] w fun e w'=>e=.returned (.tuple #[])∧w'=w.setCell ⟨fb,0,none⟩ (.int .i32 (IntKind.i32.wrap (n+1))):=by
 have hu:=Tryz.underlying188
 have hu2:=Tryz.underlying311
 have H:=Lib.hid (c131 ⟨fb,0,none⟩ n 1 w h2 h3)
 clear h2 h3
 go_enter Tryz.func128,Tryz.ntmps128
 go_wp2_with (go_at_call 131;refine (H.out).mono ?_;rintro e w' ⟨rfl,rfl⟩)
 go_end0
 exact ⟨rfl,rfl⟩
set_option maxHeartbeats 400000 in
theorem c132 [Bd] (f fb:Nat) (n:Int) (w:World) (h1:w.cell? ⟨f,2,none⟩=some (.pointer (some ⟨fb,0,none⟩))) (h2:w.cell? ⟨fb,0,none⟩=some (.int .i32 n)) (h3:w.frozen? ⟨fb,0,none⟩=false):
  Calls Tryz.prog 132 #[.pointer (some ⟨f,0,none⟩)] w fun e w'=>e=.returned (.int .i32 (IntKind.i32.wrap (n+ -1)))∧w'=w.setCell ⟨fb,0,none⟩ (.int .i32 (IntKind.i32.wrap (n+ -1))):=by
 have hu:=Tryz.underlying188
 have hu2:=Tryz.underlying311
 have H:=Lib.hid (c131 ⟨fb,0,none⟩ n (-1) w h2 h3)
 clear h2 h3
 generalize IntKind.i32.wrap (n+ -1)=r at *
 go_enter Tryz.func132,Tryz.ntmps132
 go_wp2_with (go_at_call 131;refine (H.out).mono ?_;rintro e w' ⟨rfl,rfl⟩)
 go_ret
 exact ⟨rfl,rfl⟩
def nodeD (c s k:Nat) (fm:Nat→Addr):List SV:=
 [.it .i32 1,.it .i16 c,.bl true,.it .i64 s]++(List.range 31).map (itemS k fm)++[.ns]++List.replicate 32 .np
def updF (fm:Nat→Addr) (k:Nat) (a:Addr):Nat→Addr:=fun i=>cond (Nat.beq i k) a (fm i)
def CmpGt [Bd] (g:FuncId) (capv:Array Value) (a:Addr) (fm:Nat→Addr) (k:Nat) (w:World):Prop:=
 ∀ i,i < k→ ∀ w',Kept [360,311] w w'→Calls Tryz.prog g (#[.pointer (some a),.pointer (some (fm i))]++capv) w' fun e w''=> ∃ r:Int,0 < r∧e=.returned (.int .i64 r)∧Ext w' w''
theorem CmpGt.kept [Bd] {ts:List TypeId} {g:FuncId} {capv:Array Value} {a:Addr} {fm:Nat→Addr} {k:Nat} {w w':World} (h:CmpGt g capv a fm k w) (hk:Kept ts w w') (ht: ∀ t∈ts,t∈[360,311]:=by decide):CmpGt g capv a fm k w':=
 fun i hi w2 h2=>h i hi w2 ((hk.mono ht).trans h2)
theorem ob_gt [Bd] {r:Int} (h:0 < r):AllEq [(r==0,false),(decide (r>0),true)]:=⟨by simp;omega,by simpa using h,trivial⟩
abbrev G4:Cfg:=⟨[],1,[],[(38,false),(41,true)],12⟩
theorem st162 [Bd] {Q:Exit→Act→World→Prop} {s:ST} {g:FuncId} {capv:Array Value} {a:Addr} {fm:Nat→Addr} {k nb:Nat} {w0 w:World} (hg:bodyB Tryz.prog g=true) (hc:CmpGt g capv a fm k w0) (h:Nat) (hK:Ext w0 w) (hW:Wk [nb] s w)
  (hk: ∀ (r:Int) (w':World),Ext w0 w'→Wk [nb] (runS Tryz.prog G4 400 (afterC s (.si .i64 r) [⟨360,nodeC k fm⟩])) w'→kx Tryz.prog Q (runS Tryz.prog G4 400 (afterC s (.si .i64 r) [⟨360,nodeC k fm⟩])).K .normal (actS [nb] (runS Tryz.prog G4 400 (afterC s (.si .i64 r) [⟨360,nodeC k fm⟩])).T) w')
  (hlt:h < k:=by decide) (hs:s.H=[⟨360,nodeC k fm⟩]:=by kernel_rfl) (hv:callV s=some (.oc (.func (.func g) #[] capv) rfl,[.ptr a,itemS k fm h]):=by kernel_rfl) (hi:(itemS k fm h).den [nb]=.pointer (some (fm h)):=by kernel_rfl)
  (ho: ∀ r,(runS Tryz.prog G4 400 (afterC s (.si .i64 r) [⟨360,nodeC k fm⟩])).ob=[(r==0,false),(decide (r>0),true)]:=by intro r;kernel_rfl)
  (hl: ∀ r,(runS Tryz.prog G4 400 (afterC s (.si .i64 r) [⟨360,nodeC k fm⟩])).H.length=1:=by intro r;kernel_rfl):kx Tryz.prog Q s.K .normal (actS [nb] s.T) w:=by
 refine go_callV (.oc (.func (.func g) #[] capv) rfl) [.ptr a,itemS k fm h] g capv hv rfl hg hW ?_
 rw [show SV.denL [nb] [.ptr a,itemS k fm h]=[.pointer (some a),.pointer (some (fm h))] by rw [SV.denL,SV.denL,hi];rfl]
 refine (hc h hlt _ (Kept.of_ext hK _)).mono ?_
 rintro e w2 ⟨r,hr,rfl,hE⟩
 refine ⟨.si .i64 r,[],_,rfl,(hW.satE _ hs).kq hE,fun hW2=>?_⟩
 exact gr0 (bs:=[nb]) 400 G4 hW2 (fun w3 hK3 hW3=>hk r w3 (hK.trans (hE.trans hK3)) hW3) [(r==0,false),(decide (r>0),true)] (ob_gt hr) (by kernel_rfl) rfl (ho r) (hl r)
theorem lt10 [Bd] {k:Nat} (h:k < 10):k=0∨k=1∨k=2∨k=3∨k=4∨k=5∨k=6∨k=7∨k=8∨k=9:=by omega
theorem c162 [Bd] (k:Nat) (hk:k < 10) (g:FuncId) (capv:Array Value) (a:Addr) (fm:Nat→Addr) (nb:Nat) (w:World) (hg:bodyB Tryz.prog g=true) (hs:Sat [nb] [⟨360,nodeC k fm⟩] w) (hc:CmpGt g capv a fm k w):
  Calls Tryz.prog 162 #[.pointer (some ⟨nb,0,none⟩),.func (.func g) #[] capv,.pointer (some a)] w fun e w'=>e=.returned (.tuple #[.int .i64 k,.bool false])∧Ext w w':=by
 rcases lt10 hk with rfl|rfl|rfl|rfl|rfl|rfl|rfl|rfl|rfl|rfl
 all_goals refine gs (bs:=[nb]) [.p 0 0,.oc (.func (.func g) #[] capv) rfl,.ptr a] _ Tryz.func162 hs fun hW=>?_
 all_goals refine gr0 400 ⟨[],1,[],[],12⟩ hW fun w1 hK hW=>?_
 ·exact gt (.tup [.it .i64 0,.bl false]) hW.sat ⟨rfl,hK⟩
 ·refine st162 hg hc 0 hK hW fun r w1 hK hW=>?_;exact gt (.tup [.it .i64 1,.bl false]) hW.sat ⟨rfl,hK⟩
 ·refine st162 hg hc 1 hK hW fun r w1 hK hW=>?_;exact gt (.tup [.it .i64 2,.bl false]) hW.sat ⟨rfl,hK⟩
 ·refine st162 hg hc 1 hK hW fun r w1 hK hW=>?_;refine st162 hg hc 2 hK hW fun r w1 hK hW=>?_;exact gt (.tup [.it .i64 3,.bl false]) hW.sat ⟨rfl,hK⟩
 ·refine st162 hg hc 2 hK hW fun r w1 hK hW=>?_;refine st162 hg hc 3 hK hW fun r w1 hK hW=>?_;exact gt (.tup [.it .i64 4,.bl false]) hW.sat ⟨rfl,hK⟩
 ·refine st162 hg hc 2 hK hW fun r w1 hK hW=>?_;refine st162 hg hc 4 hK hW fun r w1 hK hW=>?_;exact gt (.tup [.it .i64 5,.bl false]) hW.sat ⟨rfl,hK⟩
 ·refine st162 hg hc 3 hK hW fun r w1 hK hW=>?_;refine st162 hg hc 5 hK hW fun r w1 hK hW=>?_;exact gt (.tup [.it .i64 6,.bl false]) hW.sat ⟨rfl,hK⟩
 ·refine st162 hg hc 3 hK hW fun r w1 hK hW=>?_;refine st162 hg hc 5 hK hW fun r w1 hK hW=>?_;refine st162 hg hc 6 hK hW fun r w1 hK hW=>?_;exact gt (.tup [.it .i64 7,.bl false]) hW.sat ⟨rfl,hK⟩
 ·refine st162 hg hc 4 hK hW fun r w1 hK hW=>?_;refine st162 hg hc 6 hK hW fun r w1 hK hW=>?_;refine st162 hg hc 7 hK hW fun r w1 hK hW=>?_;exact gt (.tup [.it .i64 8,.bl false]) hW.sat ⟨rfl,hK⟩
 ·refine st162 hg hc 4 hK hW fun r w1 hK hW=>?_;refine st162 hg hc 7 hK hW fun r w1 hK hW=>?_;refine st162 hg hc 8 hK hW fun r w1 hK hW=>?_;exact gt (.tup [.it .i64 9,.bl false]) hW.sat ⟨rfl,hK⟩
theorem c164 [Bd] (k:Nat) (hk:k < 10) (a:Addr) (fm:Nat→Addr) (nb:Nat) (w:World) (hs:Sat [nb] [⟨360,nodeC k fm⟩] w):
  Calls Tryz.prog 164 #[.pointer (some ⟨nb,0,none⟩),.int .i64 k,.pointer (some a),.pointer none] w fun e w'=>e=.returned (.tuple #[])∧Sat [nb] [⟨360,nodeD (k+1) k (k+1) (updF fm k a)⟩] w'∧Kept [360] w w':=by
 rcases lt10 hk with rfl|rfl|rfl|rfl|rfl|rfl|rfl|rfl|rfl|rfl
 all_goals
  refine gs (bs:=[nb]) [.p 0 0,.it .i64 _,.ptr a,.np] _ Tryz.func164 hs fun hW=>?_
  refine gr0 400 ⟨[360],1,[],[],12⟩ hW fun w1 hK hW=>?_
  exact gt (.tup []) hW.sat ⟨rfl,hW.sq [⟨360,nodeD _ _ _ (updF fm _ a)⟩],hK⟩
theorem c129 [Bd] (k:Nat) (hk:k < 10) (g:FuncId) (capv:Array Value) (a:Addr) (fm:Nat→Addr) (nb:Nat) (w:World) (hg:bodyB Tryz.prog g=true) (hs:Sat [nb] [⟨360,nodeC k fm⟩] w) (hc:CmpGt g capv a fm k w):
  Calls Tryz.prog 129 #[.pointer (some ⟨nb,0,none⟩),.func (.func g) #[] capv,.pointer (some a)] w fun e w'=>e=.returned .nilIface∧Sat [nb] [⟨360,nodeC (k+1) (updF fm k a)⟩] w'∧Kept [360] w w':=by
 have h162: ∀ w,Sat [nb] [⟨360,nodeC k fm⟩] w→CmpGt g capv a fm k w→Calls Tryz.prog 162 #[.pointer (some ⟨nb,0,none⟩),.func (.func g) #[] capv,.pointer (some a)] w fun e w'=>e=.returned (.tuple #[.int .i64 k,.bool false])∧Ext w w'∧Sat [nb] [⟨360,nodeC k fm⟩] w':=
  fun w hs hc=>(c162 k hk g capv a fm nb w hg hs hc).mono fun e w' h=>⟨h.1,h.2,hs.kq h.2⟩
 have h164:=fun w=>c164 k hk a fm nb w
 rcases lt10 hk with rfl|rfl|rfl|rfl|rfl|rfl|rfl|rfl|rfl|rfl
 all_goals
  refine gs (bs:=[nb]) [.p 0 0,.oc (.func (.func g) #[] capv) rfl,.ptr a] _ Tryz.func129 hs fun hW=>?_
  refine gr0 400 ⟨[360],1,[],[],12⟩ hW fun w1 hK hW=>?_
  refine gc 162 [.p 0 0,.oc (.func (.func g) #[] capv) rfl,.ptr a] hW ?_
  refine (h162 w1 (hW.satE _ (by kernel_rfl)) (hc.kept hK)).mono ?_
  rintro e w2 ⟨rfl,hE,hs2⟩
  refine ⟨.tup [.it .i64 _,.bl false],[],_,rfl,hs2,fun hW2=>?_⟩
  refine gr0 (bs:=[nb]) 400 ⟨[360],1,[],[],12⟩ hW2 fun w3 hK3 hW3=>?_
  refine gc 164 [.p 0 0,.it .i64 _,.ptr a,.np] hW3 ((h164 w3 (hW3.satE _ (by kernel_rfl))).mono ?_)
  rintro e w4 ⟨rfl,hs4,hK4⟩
  refine ⟨.tup [],[],_,rfl,hs4,fun hW4=>?_⟩
  refine gr0 (bs:=[nb]) 400 ⟨[360],1,[],[],12⟩ hW4 fun w5 hK5 hW5=>?_
  exact gt .ni hW5.sat ⟨rfl,hW5.sq [⟨360,nodeC _ (updF fm _ a)⟩],(hK.trans (Kept.of_ext hE _)).trans (hK3.trans (hK4.trans hK5))⟩
def FB [Bd] (w:World) (f:Nat):Prop:= ∃ c fb cs n,w.heap[f]? =some (.cells c 188 (0,0))∧c[2]? =some (.pointer (some ⟨fb,0,none⟩))∧w.heap[fb]? =some (.cells cs 311 (0,0))∧cs[0]? =some (.int .i32 n)∧Bd.B≤fb
def Rb [Bd] (w w':World):Prop:= ∀ f,FB w f→FB w' f
theorem Rb.refl [Bd] (w:World):Rb w w:=fun _ h=>h
theorem Rb.trans [Bd] {a b c:World} (h:Rb a b) (k:Rb b c):Rb a c:=fun f hf=>k f (h f hf)
theorem Rb.of_kept [Bd] {ts:List TypeId} {w w':World} (h:Kept ts w w') (h1:188∉ts:=by decide) (h2:311∉ts:=by decide):Rb w w':=fun f ⟨c,fb,cs,n,q1,q2,q3,q4⟩=>
 ⟨c,fb,cs,n,by rw [h.block f (solid_of q1 h1)];exact q1,q2,by rw [h.block fb (solid_of q3 h2)];exact q3,q4⟩
theorem Rb.set [Bd] {w:World} {fb:Nat} {cs:Array Value} {v:Int} (h:w.heap[fb]? =some (.cells cs 311 (0,0))):Rb w (w.setCell ⟨fb,0,none⟩ (.int .i32 v)):=fun f ⟨c,fb',cs',n,q1,q2,q3,q4,q5⟩=>by
 have hne:f≠fb:=by rintro rfl;rw [h] at q1;cases q1
 by_cases e:fb'=fb
 ·subst e
  rw [h] at q3
  cases q3
  refine ⟨c,fb',cs.setIfInBounds 0 (.int .i32 v),v,by rw [Below.heap_setCell _ _ _ _ hne];exact q1,q2,?_,?_,q5⟩
  ·simp only [World.setCell,Array.getElem?_modify,if_true,h,Option.map_some]
   rfl
  ·have:=(Array.getElem?_eq_some_iff.1 q4).1
   simp [this]
 ·exact ⟨c,fb',cs',n,by rw [Below.heap_setCell _ _ _ _ hne];exact q1,q2,by rw [Below.heap_setCell _ _ _ _ e];exact q3,q4,q5⟩
theorem Sat.two [Bd] {bs:List Nat} {H:List SB} {w:World} (h:Sat bs H w) (i j:Nat) (hij:i≠j) (hi:i < bs.length) (hj:j < bs.length) (t1:TypeId) (c1:List SV) (t2:TypeId) (c2:List SV)
  (e1:w.heap[nmB bs i]? =some (.cells (SV.denL [nmB bs i,nmB bs j] c1).toArray t1 (0,0))) (e2:w.heap[nmB bs j]? =some (.cells (SV.denL [nmB bs i,nmB bs j] c2).toArray t2 (0,0))):Sat [nmB bs i,nmB bs j] [⟨t1,c1⟩,⟨t2,c2⟩] w:=by
 have hne:nmB bs i≠nmB bs j:=fun he=>hij (h.inj i j hi hj he)
 refine ⟨rfl,fun a b ha hb he=>?_,fun a ob ho=>?_,fun x hx=>?_,h.sz⟩
 rotate_left 2
 ·simp only [List.mem_cons,List.not_mem_nil,or_false] at hx
  rcases hx with rfl|rfl
  ·exact h.loN hi
  ·exact h.loN hj
 ·match a,b,ha,hb,he with
  |0,0,_,_,_=>rfl
  |1,1,_,_,_=>rfl
  |0,1,_,_,he=>exact absurd he hne
  |1,0,_,_,he=>exact absurd he.symm hne
  |a+2,_,ha,_,_=>simp at ha;omega
  |_,b+2,_,hb,_=>simp at hb;omega
 ·match a,ho with
  |0,ho=>simp only [List.getElem?_cons_zero,Option.some.injEq] at ho;subst ho;exact e1
  |1,ho=>simp only [List.getElem?_cons_succ,List.getElem?_cons_zero,Option.some.injEq] at ho;subst ho;exact e2
  |a+2,ho=>simp at ho
theorem Sat.ne_ty [Bd] {bs:List Nat} {H:List SB} {w:World} (h:Sat bs H w) {t:TypeId} (ho:outH [t] H=true) {g:Nat} {cs:Array Value} {f:Nat×Nat} (hg:w.heap[g]? =some (.cells cs t f)): ∀ x∈bs,x≠g:=fun x hx he=>by
 subst he
 obtain ⟨i,hi,rfl⟩:=List.getElem_of_mem hx
 obtain ⟨ob,hob⟩:=h.lt hi
 have hm:=h.mem i ob hob
 have e:nmB bs i=bs[i]:=by simp [nmB,List.getD_eq_getElem?_getD,hi]
 rw [e,hg] at hm
 cases hm
 exact outH_get ho hob (by simp)
theorem ref_any [Bd] {bs:List Nat} {H:List SB} {w:World} (hs:Sat bs H w) (ho:outH [311] H=true) (f:Nat) (hf:FB w f):
  Calls Tryz.prog 128 #[.pointer (some ⟨f,0,none⟩)] w fun e w'=>e=.returned (.tuple #[])∧Sat bs H w'∧Kept [311] w w'∧Rb w w':=by
 obtain ⟨c,fb,cs,n,q1,q2,q3,q4,q5⟩:=hf
 refine (c128 f fb n w (cell_of_heap q1 q2) (cell_of_heap q3 q4) (by simp [World.frozen?,q3])).mono ?_
 rintro e w' ⟨rfl,rfl⟩
 exact ⟨rfl,hs.setFar (hs.ne_ty ho q3) 0 _,(Kept.refl _ w).setCell q3 (by simp) _ q5,Rb.set q3⟩
theorem unref_any [Bd] {bs:List Nat} {H:List SB} {w:World} (hs:Sat bs H w) (ho:outH [311] H=true) (f:Nat) (hf:FB w f):
  Calls Tryz.prog 132 #[.pointer (some ⟨f,0,none⟩)] w fun e w'=> ∃ n,e=.returned (.int .i32 n)∧Sat bs H w'∧Kept [311] w w'∧Rb w w':=by
 obtain ⟨c,fb,cs,n,q1,q2,q3,q4,q5⟩:=hf
 refine (c132 f fb n w (cell_of_heap q1 q2) (cell_of_heap q3 q4) (by simp [World.frozen?,q3])).mono ?_
 rintro e w' ⟨rfl,rfl⟩
 exact ⟨_,rfl,hs.setFar (hs.ne_ty ho q3) 0 _,(Kept.refl _ w).setCell q3 (by simp) _ q5,Rb.set q3⟩
def CmpG3 [Bd] (g:FuncId) (capv:Array Value) (a:Addr) (fm:Nat→Addr) (k:Nat) (w:World):Prop:=
 ∀ i,i < k→ ∀ w',Kept [214,360,311] w w'→Calls Tryz.prog g (#[.pointer (some a),.pointer (some (fm i))]++capv) w' fun e w''=> ∃ r:Int,0 < r∧e=.returned (.int .i64 r)∧Ext w' w''
theorem CmpG3.at_ [Bd] {g:FuncId} {capv:Array Value} {a:Addr} {fm:Nat→Addr} {k:Nat} {w w':World} (h:CmpG3 g capv a fm k w) (hk:Kept [214,360,311] w w'):CmpGt g capv a fm k w':=
 fun i hi w2 h2=>h i hi w2 (hk.trans (h2.mono (by decide)))
theorem c100_0 [Bd] (g:FuncId) (capv:Array Value) (f:Nat) (fm:Nat→Addr) (tb xb:Nat) (v1 v2:Value) (h1:v1.oneCell'=true) (h2:v2.oneCell'=true) (w:World) (hg:bodyB Tryz.prog g=true) (hs:Sat [tb,xb] [⟨214,[.np,.oc (.func (.func g) #[] capv) rfl]⟩,⟨214,[.oc v1 h1,.oc v2 h2]⟩] w) (hf:FB w f) (hc:CmpG3 g capv ⟨f,0,none⟩ fm 0 w):
  Calls Tryz.prog 100 #[.pointer (some ⟨tb,0,none⟩),.pointer (some ⟨f,0,none⟩)] w fun e w'=> ∃ nb,w.heap.size≤nb∧e=.returned .nilIface∧Sat [tb,xb,nb] [⟨214,[.p 2 0,.oc (.func (.func g) #[] capv) rfl]⟩,⟨214,[.oc v1 h1,.oc v2 h2]⟩,⟨360,nodeC 1 (updF fm 0 ⟨f,0,none⟩)⟩] w'∧Kept [214,360,311] w w'∧Rb w w':=by
 refine gs (bs:=[tb,xb]) [.p 0 0,.ptr ⟨f,0,none⟩] _ Tryz.func100 hs (fun hW=>?_)
 refine go_run 400 ⟨[214],2,[],[],0⟩ (by kernel_rfl) hW rfl [] (by kernel_rfl) trivial ?_
 intro nw w1 hn1 hK1 hW1
 obtain rfl:=nw0 (hW1.num 2 (by kernel_rfl)) rfl
 have hs1:=hW1.satE [⟨214,[.np,.oc (.func (.func g) #[] capv) rfl]⟩,⟨214,[.oc v1 h1,.oc v2 h2]⟩] (by kernel_rfl)
 refine gc 124 [] hW1 ?_
 refine (c124 fm w1).mono ?_
 rintro e w2 ⟨nb,rfl,hnb,hb2,hE2⟩
 have hs2:=(hs1.kq hE2).add (by kernel_rfl) (b:=nb) (by intro x hx;have:=hs1.old_lt x hx;omega) 360 (nodeC 0 fm) (by rw [denL_any (by kernel_rfl) _ [nb]];exact hb2)
 refine ⟨.p 2 0,[nb],_,rfl,hs2,fun hW2=>?_⟩
 refine go_run (bs:=[tb,xb,nb]) 400 ⟨[214],3,[],[],0⟩ (by kernel_rfl) hW2 rfl [] (by kernel_rfl) trivial ?_
 intro nw w3 hn3 hK3 hW
 obtain rfl:=nw0 (hW.num 3 (by kernel_rfl)) rfl
 have hK03:Kept [214] w w3:=hK1.trans ((Kept.of_ext hE2 _).trans hK3)
 have hnb0:w.heap.size≤nb:=Nat.le_trans hK1.size hnb
 refine gc 128 [.ptr ⟨f,0,none⟩] hW ?_
 have hs1:=hW.satE [⟨214,[.p 2 0,.oc (.func (.func g) #[] capv) rfl]⟩,⟨214,[.oc v1 h1,.oc v2 h2]⟩,⟨360,nodeC 0 fm⟩] (by kernel_rfl)
 refine (ref_any hs1 (by kernel_rfl) f (Rb.of_kept hK03 (by decide) (by decide) f hf)).mono ?_
 rintro e w4 ⟨rfl,hs4,hK4,hR4⟩
 refine ⟨.tup [],[],_,rfl,hs4,fun hW4=>?_⟩
 refine go_run (bs:=[tb,xb,nb]) 400 ⟨[],3,[],[],0⟩ (by kernel_rfl) hW4 rfl [] (by kernel_rfl) trivial ?_
 intro nw w5 hn5 hK5 hW5
 obtain rfl:=nw0 (hW5.num 3 (by kernel_rfl)) rfl
 refine gd [360] [] hW5 (fun hW6=>?_)
 refine go_run (bs:=[tb,xb,nb]) 400 ⟨[],3,[],[],0⟩ (by kernel_rfl) hW6 rfl [] (by kernel_rfl) trivial ?_
 intro nw w6 hn6 hK6 hW6
 obtain rfl:=nw0 (hW6.num 3 (by kernel_rfl)) rfl
 have hs6:=hW6.satE [⟨214,[.p 2 0,.oc (.func (.func g) #[] capv) rfl]⟩,⟨214,[.oc v1 h1,.oc v2 h2]⟩,⟨360,nodeC 0 fm⟩] (by kernel_rfl)
 refine gcd 125 [.p 0 0] [360] w5.drew hW6 (fun _=>?_)
 refine (c125 0 fm tb nb (.oc (.func (.func g) #[] capv) rfl) w6 (hs6.two 0 2 (by decide) (by simp) (by simp) 214 [.p 1 0,.oc (.func (.func g) #[] capv) rfl] 360 (nodeC 0 fm) (hs6.mem 0 _ rfl) (blk_any (hs6.mem 2 _ rfl) (by kernel_rfl)))).mono ?_
 rintro e w7 ⟨rfl,hE7⟩
 have hs7:=hs6.kq hE7
 refine ⟨.p 2 0,[],_,rfl,hs7,Kept.of_ext (hK6.trans hE7) _,fun hW7=>?_⟩
 refine go_run (bs:=[tb,xb,nb]) 400 ⟨[],3,[],[],0⟩ (by kernel_rfl) hW7 rfl [] (by kernel_rfl) trivial ?_
 intro nw w8 hn8 hK8 hW8
 obtain rfl:=nw0 (hW8.num 3 (by kernel_rfl)) rfl
 have hs8:=hW8.satE [⟨214,[.p 2 0,.oc (.func (.func g) #[] capv) rfl]⟩,⟨214,[.oc v1 h1,.oc v2 h2]⟩,⟨360,nodeC 0 fm⟩] (by kernel_rfl)
 have hK68:Kept [360] w5.drew w8:=Kept.of_ext ((hK6.trans hE7).trans hK8) _
 have hK48:Ext w4 w8:=((hK5.drew).trans (hK6.trans hE7)).trans hK8
 refine gcd 129 [.p 2 0,.oc (.func (.func g) #[] capv) rfl,.ptr ⟨f,0,none⟩] [360] w5.drew hW8 (fun _=>?_)
 have hsn:Sat [nb] [⟨360,nodeC 0 fm⟩] w8:=Sat.add0 360 (nodeC 0 fm) (blk_any (hs8.mem 2 ⟨360,nodeC 0 fm⟩ rfl) (by kernel_rfl))
 have hK08:Kept [214,360,311] w w8:=(hK03.mono (by decide)).trans ((hK4.mono (by decide)).trans (Kept.of_ext hK48 _))
 refine (c129 0 (by decide) g capv ⟨f,0,none⟩ fm nb w8 hg hsn (hc.at_ hK08)).mono ?_
 rintro e w9 ⟨rfl,hs9,hK9⟩
 refine ⟨.ni,[],_,rfl,hs8.keep1 hK9 2 360 (nodeC 1 (updF fm 0 ⟨f,0,none⟩)) (.inr (by kernel_rfl)) rfl (blk_any (hs9.mem 0 ⟨360,nodeC 1 (updF fm 0 ⟨f,0,none⟩)⟩ rfl) (by kernel_rfl)),hK68.trans hK9,fun hW9=>?_⟩
 refine go_run (bs:=[tb,xb,nb]) 400 ⟨[],3,[],[],0⟩ (by kernel_rfl) hW9 rfl [] (by kernel_rfl) trivial ?_
 intro nw wA hnA hKA hWA
 obtain rfl:=nw0 (hWA.num 3 (by kernel_rfl)) rfl
 have hKf:Kept [214,360,311] w wA:=hK08.trans ((hK9.mono (by decide)).trans (Kept.of_ext hKA _))
 have hRf:Rb w wA:=((Rb.of_kept hK03).trans hR4).trans (((Rb.of_kept hK48).trans (Rb.of_kept hK9)).trans (Rb.of_kept hKA))
 exact gt .ni hWA.sat ⟨nb,hnb0,rfl,hWA.satE [⟨214,[.p 2 0,.oc (.func (.func g) #[] capv) rfl]⟩,⟨214,[.oc v1 h1,.oc v2 h2]⟩,⟨360,nodeC 1 (updF fm 0 ⟨f,0,none⟩)⟩] (by kernel_rfl),hKf,hRf⟩
theorem c100 [Bd] (k:Nat) (hk1:1≤k) (hk:k < 10) (g:FuncId) (capv:Array Value) (f:Nat) (fm:Nat→Addr) (tb xb nb:Nat) (v1 v2:Value) (h1:v1.oneCell'=true) (h2:v2.oneCell'=true) (w:World) (hg:bodyB Tryz.prog g=true) (hs:Sat [tb,xb,nb] [⟨214,[.p 2 0,.oc (.func (.func g) #[] capv) rfl]⟩,⟨214,[.oc v1 h1,.oc v2 h2]⟩,⟨360,nodeC k fm⟩] w) (hf:FB w f) (hc:CmpG3 g capv ⟨f,0,none⟩ fm k w):
  Calls Tryz.prog 100 #[.pointer (some ⟨tb,0,none⟩),.pointer (some ⟨f,0,none⟩)] w fun e w'=>e=.returned .nilIface∧Sat [tb,xb,nb] [⟨214,[.p 2 0,.oc (.func (.func g) #[] capv) rfl]⟩,⟨214,[.oc v1 h1,.oc v2 h2]⟩,⟨360,nodeC (k+1) (updF fm k ⟨f,0,none⟩)⟩] w'∧Kept [214,360,311] w w'∧Rb w w':=by
 let m:=k
 have h129:=fun w=>c129 k hk g capv ⟨f,0,none⟩ fm nb w hg
 rcases (by omega:k=1∨k=2∨k=3∨k=4∨k=5∨k=6∨k=7∨k=8∨k=9) with rfl|rfl|rfl|rfl|rfl|rfl|rfl|rfl|rfl
 all_goals
  refine gs (bs:=[tb,xb,nb]) [.p 0 0,.ptr ⟨f,0,none⟩] _ Tryz.func100 hs (fun hW=>?_)
  refine go_run 400 ⟨[214],3,[],[],0⟩ (by kernel_rfl) hW rfl [] (by kernel_rfl) trivial ?_
  intro nw w3 hn1 hK03 hW
  obtain rfl:=nw0 (hW.num 3 (by kernel_rfl)) rfl
  refine gc 128 [.ptr ⟨f,0,none⟩] hW ?_
  have hs1:=hW.satE [⟨214,[.p 2 0,.oc (.func (.func g) #[] capv) rfl]⟩,⟨214,[.oc v1 h1,.oc v2 h2]⟩,⟨360,nodeC m fm⟩] (by kernel_rfl)
  refine (ref_any hs1 (by kernel_rfl) f (Rb.of_kept hK03 (by decide) (by decide) f hf)).mono ?_
  rintro e w4 ⟨rfl,hs4,hK4,hR4⟩
  refine ⟨.tup [],[],_,rfl,hs4,fun hW4=>?_⟩
  refine go_run (bs:=[tb,xb,nb]) 400 ⟨[],3,[],[],0⟩ (by kernel_rfl) hW4 rfl [] (by kernel_rfl) trivial ?_
  intro nw w5 hn5 hK5 hW5
  obtain rfl:=nw0 (hW5.num 3 (by kernel_rfl)) rfl
  refine gd [360] [] hW5 (fun hW6=>?_)
  refine go_run (bs:=[tb,xb,nb]) 400 ⟨[],3,[],[],0⟩ (by kernel_rfl) hW6 rfl [] (by kernel_rfl) trivial ?_
  intro nw w6 hn6 hK6 hW6
  obtain rfl:=nw0 (hW6.num 3 (by kernel_rfl)) rfl
  have hs6:=hW6.satE [⟨214,[.p 2 0,.oc (.func (.func g) #[] capv) rfl]⟩,⟨214,[.oc v1 h1,.oc v2 h2]⟩,⟨360,nodeC m fm⟩] (by kernel_rfl)
  refine gcd 125 [.p 0 0] [360] w5.drew hW6 (fun _=>?_)
  refine (c125 m fm tb nb (.oc (.func (.func g) #[] capv) rfl) w6 (hs6.two 0 2 (by decide) (by simp) (by simp) 214 [.p 1 0,.oc (.func (.func g) #[] capv) rfl] 360 (nodeC m fm) (hs6.mem 0 _ rfl) (blk_any (hs6.mem 2 _ rfl) (by kernel_rfl)))).mono ?_
  rintro e w7 ⟨rfl,hE7⟩
  have hs7:=hs6.kq hE7
  refine ⟨.p 2 0,[],_,rfl,hs7,Kept.of_ext (hK6.trans hE7) _,fun hW7=>?_⟩
  refine go_run (bs:=[tb,xb,nb]) 400 ⟨[],3,[],[],0⟩ (by kernel_rfl) hW7 rfl [] (by kernel_rfl) trivial ?_
  intro nw w8 hn8 hK8 hW8
  obtain rfl:=nw0 (hW8.num 3 (by kernel_rfl)) rfl
  have hs8:=hW8.satE [⟨214,[.p 2 0,.oc (.func (.func g) #[] capv) rfl]⟩,⟨214,[.oc v1 h1,.oc v2 h2]⟩,⟨360,nodeC m fm⟩] (by kernel_rfl)
  have hK68:Kept [360] w5.drew w8:=Kept.of_ext ((hK6.trans hE7).trans hK8) _
  have hK48:Ext w4 w8:=((hK5.drew).trans (hK6.trans hE7)).trans hK8
  refine gcd 129 [.p 2 0,.oc (.func (.func g) #[] capv) rfl,.ptr ⟨f,0,none⟩] [360] w5.drew hW8 (fun _=>?_)
  have hsn:Sat [nb] [⟨360,nodeC m fm⟩] w8:=Sat.add0 360 (nodeC m fm) (blk_any (hs8.mem 2 ⟨360,nodeC m fm⟩ rfl) (by kernel_rfl))
  have hK08:Kept [214,360,311] w w8:=(hK03.mono (by decide)).trans ((hK4.mono (by decide)).trans (Kept.of_ext hK48 _))
  refine (h129 w8 hsn (hc.at_ hK08)).mono ?_
  rintro e w9 ⟨rfl,hs9,hK9⟩
  refine ⟨.ni,[],_,rfl,hs8.keep1 hK9 2 360 (nodeC (m+1) (updF fm m ⟨f,0,none⟩)) (.inr (by kernel_rfl)) rfl (blk_any (hs9.mem 0 ⟨360,nodeC (m+1) (updF fm m ⟨f,0,none⟩)⟩ rfl) (by kernel_rfl)),hK68.trans hK9,fun hW9=>?_⟩
  refine go_run (bs:=[tb,xb,nb]) 400 ⟨[],3,[],[],0⟩ (by kernel_rfl) hW9 rfl [] (by kernel_rfl) trivial ?_
  intro nw wA hnA hKA hWA
  obtain rfl:=nw0 (hWA.num 3 (by kernel_rfl)) rfl
  have hKf:Kept [214,360,311] w wA:=hK08.trans ((hK9.mono (by decide)).trans (Kept.of_ext hKA _))
  have hRf:Rb w wA:=((Rb.of_kept hK03).trans hR4).trans (((Rb.of_kept hK48).trans (Rb.of_kept hK9)).trans (Rb.of_kept hKA))
  exact gt .ni hWA.sat ⟨rfl,hWA.satE [⟨214,[.p 2 0,.oc (.func (.func g) #[] capv) rfl]⟩,⟨214,[.oc v1 h1,.oc v2 h2]⟩,⟨360,nodeC (m+1) (updF fm m ⟨f,0,none⟩)⟩] (by kernel_rfl),hKf,hRf⟩
theorem c64_ [Bd] (a0 a1 a2 a3 a4 a5 a6 a7 a8 a9 a10 a11 a12 a13 a14:Value) (w:World) (hB0:autoParam (Bd.B≤w.heap.size) sz0._auto_1):Calls Tryz.prog 64 #[.agg #[a0,a1,a2,a3,a4,a5,a6,a7,a8,a9,a10,a11,a12,a13,a14]] w fun e w'=>e=.returned (.tuple #[])∧Ext w w':=by
 refine gs (bs:=[]) [.agg [.va a0,.va a1,.va a2,.va a3,.va a4,.va a5,.va a6,.va a7,.va a8,.va a9,.va a10,.va a11,.va a12,.va a13,.va a14]] [] Tryz.func64 (sat0 w) (fun hW=>?_)
 refine go_run 100 ⟨[],0,[],[],0⟩ (by kernel_rfl) hW rfl [] (by kernel_rfl) trivial ?_
 intro nw w1 hn hK hW1
 exact gt (.tup []) hW1.sat ⟨rfl,hK⟩
theorem c64 [Bd] (l:List Value) (hl:l.length=15) (w:World) (hB0:autoParam (Bd.B≤w.heap.size) sz0._auto_1):Calls Tryz.prog 64 #[.agg l.toArray] w fun e w'=>e=.returned (.tuple #[])∧Ext w w':=by
 match l,hl with
 |[a0,a1,a2,a3,a4,a5,a6,a7,a8,a9,a10,a11,a12,a13,a14],_=>exact c64_ a0 a1 a2 a3 a4 a5 a6 a7 a8 a9 a10 a11 a12 a13 a14 w hB0
def iterV (r n:Value) (pos:Int) (cv:Value):Array Value:= #[r,n,.int .i16 pos,cv,.pointer none,.int .i16 0,.pointer none,.int .i16 0,.pointer none,.int .i16 0,.int .i16 0,.slice none 0 0]
def iterS (r n:SV) (pos:Int) (cv:SV):List SV:=[r,n,.it .i16 pos,cv,.np,.it .i16 0,.np,.it .i16 0,.np,.it .i16 0,.it .i16 0,.ns]
theorem c102 [Bd] (tb:Nat) (r cv:Value) (hr:r.oneCell'=true) (hc:cv.oneCell'=true) (w:World) (hs:Sat [tb] [⟨214,[.oc r hr,.oc cv hc]⟩] w):Calls Tryz.prog 102 #[.pointer (some ⟨tb,0,none⟩)] w fun e w'=>e=.returned (.agg (iterV r (.pointer none) (-1) cv))∧Ext w w':=by
 refine gs (bs:=[tb]) [.p 0 0] _ Tryz.func102 hs (fun hW=>?_)
 refine gr1 100 ⟨[],1,[],[],0⟩ hW fun b w1 hn hK hW1=>?_
 exact gt (.agg (iterS (.oc r hr) .np (-1) (.oc cv hc))) hW1.sat ⟨rfl,hK⟩
def sliceV (r:Value) (n:Int) (cv:Value):Array Value:=iterV r (.pointer none) (-1) cv++ #[.int .i64 n,.pointer none,.pointer none]
def sliceS (r:SV) (n:Int) (cv:SV):List SV:=iterS r .np (-1) cv++[.it .i64 n,.np,.np]
theorem c101_0 [Bd] (cv:Value) (hc:cv.oneCell'=true) (w:World) (hB0:autoParam (Bd.B≤w.heap.size) sz0._auto_1):Calls Tryz.prog 101 #[.agg (iterV (.pointer none) (.pointer none) (-1) cv)] w fun e w'=>e=.returned (.agg (sliceV (.pointer none) 0 cv))∧Ext w w':=by
 refine gs (bs:=[]) [.agg (iterS .np .np (-1) (.oc cv hc))] [] Tryz.func101 (sat0 w) (fun hW=>?_)
 refine go_runA 100 ⟨[],0,[],[],0⟩ (by kernel_rfl) hW (Fr.refl _ _ _) rfl [] (by kernel_rfl) trivial ?_
 intro nw w1 hF hW1
 obtain ⟨b1,b2,b3,rfl⟩:=nw3 (hW1.num 3 (by kernel_rfl)) rfl
 have hs1:=hW1.satE [⟨92,iterS .np .np (-1) (.oc cv hc)⟩,⟨95,iterS .np .np 0 .nf++[.it .i64 0,.np,.np]⟩,⟨95,sliceS .np 0 (.oc cv hc)⟩] (by kernel_rfl)
 refine gc 64 [.agg (sliceS .np 0 (.oc cv hc))] hW1 ?_
 refine (c64 (SV.denL [b1,b2,b3] (sliceS .np 0 (.oc cv hc))) rfl w1).mono ?_
 rintro e w2 ⟨rfl,hE⟩
 refine ⟨.tup [],[],_,rfl,hs1.kq hE,fun hW2=>?_⟩
 refine ga0 100 ⟨[],0,[],[],0⟩ hW2 (hF.call hE) fun w3 hF3 hW3=>?_
 exact gt (.agg (sliceS .np 0 (.oc cv hc))) hW3.sat ⟨rfl,hF3.kept⟩
theorem c101 [Bd] (k nb:Nat) (fm:Nat→Addr) (cv:Value) (hc:cv.oneCell'=true) (w:World) (hs:Sat [nb] [⟨360,nodeC k fm⟩] w):Calls Tryz.prog 101 #[.agg (iterV (.pointer (some ⟨nb,0,none⟩)) (.pointer none) (-1) cv)] w fun e w'=>e=.returned (.agg (sliceV (.pointer (some ⟨nb,0,none⟩)) k cv))∧Ext w w':=by
 refine gs (bs:=[nb]) [.agg (iterS (.p 0 0) .np (-1) (.oc cv hc))] _ Tryz.func101 hs (fun hW=>?_)
 refine go_runA 100 ⟨[],1,[],[],0⟩ (by kernel_rfl) hW (Fr.refl _ _ _) rfl [] (by kernel_rfl) trivial ?_
 intro nw w1 hF hW1
 obtain ⟨b1,b2,b3,rfl⟩:=nw3 (hW1.num 4 (by kernel_rfl)) rfl
 have hs1:=hW1.satE [⟨360,nodeC k fm⟩,⟨92,iterS (.p 0 0) .np (-1) (.oc cv hc)⟩,⟨95,iterS .np .np 0 .nf++[.it .i64 0,.np,.np]⟩,⟨95,sliceS (.p 0 0) k (.oc cv hc)⟩] (by kernel_rfl)
 refine gc 64 [.agg (sliceS (.p 0 0) k (.oc cv hc))] hW1 ?_
 refine (c64 (SV.denL [nb,b1,b2,b3] (sliceS (.p 0 0) k (.oc cv hc))) rfl w1).mono ?_
 rintro e w2 ⟨rfl,hE⟩
 refine ⟨.tup [],[],_,rfl,hs1.kq hE,fun hW2=>?_⟩
 refine ga0 100 ⟨[],1,[],[],0⟩ hW2 (hF.call hE) fun w3 hF3 hW3=>?_
 exact gt (.agg (sliceS (.p 0 0) k (.oc cv hc))) hW3.sat ⟨rfl,hF3.kept⟩
end Go.Proofs.YtghppnklhbbffaaGreatDoor.X
