/- Part 27 of the proof that laws.FnTreeLevel answers true, for arguments of small bulk. -/
import Derived.Test.YtghppnklhbbffaaGreatDoorR09
import Derived.Test.YtghppnklhbbffaaGreatDoorR05
import Derived.Test.YtghppnklhbbffaaGreatDoorR26
import Derived.Test.YtghppnklhbbffaaGreatDoorR13
set_option linter.all false
set_option maxHeartbeats 4000000
set_option maxRecDepth 100000
namespace Go.Proofs.YtghppnklhbbffaaGreatDoor.TL
open Go Go.RowKit Go.Proofs.YtghppnklhbbffaaGreatDoor.PFnTreeLevel Go.Proofs.YtghppnklhbbffaaGreatDoorW.PrintWords
def flat {α:Type} (d:Kd α) (w0:World):Kd α where
 sz:=d.sz
 E:=[]
 K:=fun _ x cs=>d.K w0 x cs
 M:=fun _ _ _ x cs=>d.K w0 x cs
 K_len:=d.K_len
 K_one:=d.K_one
 K_below:=fun _ h=>h
 K_of_M:=fun h=>h
 M_mono:=fun _ h=>h
 M_bound:=fun h=>h
 M_move:=fun _ h=>h
 M_lower:=fun _ h=>h
def kVV:Kd (Value×Value) where
 sz:=2
 E:=[]
 K:=fun _ x cs=>cs=[x.1,x.2]∧x.1.oneCell'=true∧x.2.oneCell'=true
 M:=fun _ _ _ x cs=>cs=[x.1,x.2]∧x.1.oneCell'=true∧x.2.oneCell'=true
 K_len:=by rintro _ _ _ ⟨rfl,_⟩;rfl
 K_one:=by
  rintro _ _ _ ⟨rfl,h1,h2⟩ u hu
  simp only [List.mem_cons,List.not_mem_nil,or_false] at hu
  rcases hu with rfl|rfl<;>assumption
 K_below:=fun _ h=>h
 K_of_M:=fun h=>h
 M_mono:=fun _ h=>h
 M_bound:=fun h=>h
 M_move:=fun _ h=>h
 M_lower:=fun _ h=>h
theorem flat_C [Bd] {α:Type} {d:Kd α} {w0 w:World} {A:Option Addr} {n:Nat} {xs:List α} (h:(flat d w0).C w A n xs) (hb:Below w0.heap.size w0 w):d.C w A n xs:=
 ⟨h.1,h.2.1,fun hn=>by
  obtain ⟨ad,e,hc⟩:=h.2.2 hn
  exact ⟨ad,e,fun j p hj=>by
   obtain ⟨c,h1,h2,h3⟩:=hc j p hj
   exact ⟨c,h1,d.K_below hb h2,h3⟩⟩⟩
theorem info255 [Bd]:(Tryz.prog.info? 255).map (fun i=>(i.zero,i.size,i.bytes))=some (some (.agg #[(.slice none 0 0),(.slice none 0 0)]),2,48):=by kernel_rfl
theorem info253 [Bd]:(Tryz.prog.info? 253).map (fun i=>(i.zero,i.size,i.bytes))=some (some (.agg #[(.string ⟨#[]⟩),(.string ⟨#[]⟩),(.slice none 0 0)]),3,56):=by kernel_rfl
theorem info22 [Bd]:(Tryz.prog.info? 22).map (fun i=>i.size)=some 1:=by kernel_rfl
theorem run_isAgg_no [Bd] {P:Program} {t:TypeId} {d:TypeDesc} (w:World) (h:P.underlying t=some d) (hd:(match d with| .struct _| .array _ _=>true|_=>false)=false):(isAgg t).run P w=.ok false w:=by
 unfold isAgg
 simp only [Sem.run_bind,run_underlying h,Result.andThen_ok]
 cases d<;>simp_all [go_sem]
theorem run_sizeOf_one [Bd] {P:Program} {t:TypeId} (w:World) (h:(P.info? t).map (fun i=>i.size)=some 1):(sizeOf t).run P w=.ok 1 w:=by
 obtain ⟨i,hi,h1⟩:=Option.map_eq_some_iff.1 h
 simp [sizeOf,typeInfo,hi,h1,go_sem]
theorem run_index_arr [Bd] {P:Program} {t e:TypeId} {n:Nat} {cs:Array Value} {k:IntKind} {i:Int} {v:Value} (w:World) (h:P.underlying t=some (.array n e)) (ha:(isAgg e).run P w=.ok false w) (hs:(sizeOf e).run P w=.ok 1 w)
  (h0:0≤i) (h1:i < n) (hv:cs[i.toNat]? =some v):(Instr.index t (.agg cs) (.int k i)).run P w=.ok v w:=by
 simp [Instr.index,run_underlying h,asIntOf,h0,h1,go_sem,part,Sem.run_bind,ha,hs,hv]
theorem idx30 [Bd] (cs:Array Value) (i:Int) (v:Value) (w:World) (h0:0≤i) (h1:i < 6) (hv:cs[i.toNat]? =some v):(Instr.index 30 (.agg cs) (.int .i64 i)).run Tryz.prog w=.ok v w:=
 run_index_arr w Tryz.underlying30 (run_isAgg_no w Tryz.underlying22 rfl) (run_sizeOf_one w info22) h0 h1 hv
def Post31 (w w':World) (xs:List S56) (e:Ending):Prop:= ∃ v vp vt,e=.returned v∧
   Kd.R kVV 255 w' w.heap.size (fun _=>True) v ((vp,vt)::List.replicate 5 (.slice none 0 0,.slice none 0 0))∧
   (∃ A c,vp=.slice A (xs.flatMap (·.f1)).length c∧(xs.flatMap (·.f1)).length≤c∧Kd.C k57 w' A (xs.flatMap (·.f1)).length (xs.flatMap (·.f1)))∧
   (∃ A c,vt=.slice A (xs.flatMap (·.f2)).length c∧(xs.flatMap (·.f2)).length≤c∧Kd.C k253 w' A (xs.flatMap (·.f2)).length (xs.flatMap (·.f2)))
theorem c31 [Bd] (A:Option Addr) (c:Nat) (xs:List S56) (w:World) (hr:Kd.C k56 w A xs.length xs) (hc:xs.length≤c) (hl:xs.length≤10) (hp:(xs.flatMap (·.f1)).length≤2^30) (ht:(xs.flatMap (·.f2)).length≤2^30):
  Calls Tryz.prog 31 #[.agg #[.slice none 0 0,.slice none 0 0,.slice A xs.length c,.slice none 0 0,.slice none 0 0,.slice none 0 0,.slice none 0 0,.slice none 0 0]] w fun e w'=>Post31 w w' xs e∧Ext w w':=by
 have HR:=Lib.hid hr
 have HC:=Lib.hid hc
 have HL:=Lib.hid hl
 have HP:=Lib.hid hp
 have HT:=Lib.hid ht
 clear hr hc hl hp ht
 have hu32:=Tryz.underlying32
 have hu22:=Tryz.underlying22
 have hu30:=Tryz.underlying30
 have hu29:=Tryz.underlying29
 have hu56:=Tryz.underlying56
 have hu255:=Tryz.underlying255
 have hu53:=Tryz.underlying53
 have hu54:=Tryz.underlying54
 go_enter Tryz.func31,Tryz.ntmps31
 go_wp2
 generalize hW:((w.alloc (.cells #[.slice none 0 0,.slice none 0 0,.slice A xs.length c,.slice none 0 0,.slice none 0 0,.slice none 0 0,.slice none 0 0,.slice none 0 0] 32)).alloc (.cells #[] 255))=W
 have HB:Aside0 (W.heap[w.heap.size]? =some (.cells #[.slice none 0 0,.slice none 0 0,.slice A xs.length c,.slice none 0 0,.slice none 0 0,.slice none 0 0,.slice none 0 0,.slice none 0 0] 32 (0,0))):=⟨by rw [←hW];exact blk_alloc (heap_alloc_new w _) _⟩
 have HO:Aside0 (Kd.R kVV 255 W w.heap.size (fun _=>True) (.slice (some ⟨w.heap.size+1,0,none⟩) 0 0) []):=⟨⟨fun _ _=>trivial,[],⟨by simp,.inr ⟨w.heap.size+1,0, #[],rfl,Nat.le_succ _,by rw [←hW];simpa using heap_alloc_new (w.alloc _) (.cells #[] 255 (0,0)),Nat.le_refl 0,by simp [maxLen],by simp,by simp⟩⟩,Reps.none _ _⟩⟩
 have HE:Aside0 (Ext w W):=⟨by rw [←hW];(repeat (first|exact Kept.refl _ _|apply Kept.ktr|apply Kept.kt0|apply Kept.alloc|apply Kept.drew|apply Kept.drewN))⟩
 clear hW
 generalize (.slice (some ⟨w.heap.size+1,0,none⟩) 0 0:Value)=vo at *
 have HLT:Aside0 (w.heap.size < W.heap.size):=⟨blk_lt HB.out⟩
 obtain ⟨tb,htb⟩: ∃ b,b=w.heap.size:=⟨_,rfl⟩
 have HB1:Aside0 (W.heap[tb]? =some (.cells #[.slice none 0 0,.slice none 0 0,.slice A xs.length c,.slice none 0 0,.slice none 0 0,.slice none 0 0,.slice none 0 0,.slice none 0 0] 32 (0,0))):=⟨by rw [htb];exact HB.out⟩
 clear HB
 rw [←htb]
 clear htb
 go_loopg [3,18] 0 (fun kq v3 v wr=>v3=vo∧v=.int .i64 0∧wr=W)
 case atStart=>exact ⟨rfl,rfl,rfl⟩
 case round=>
  obtain ⟨rfl,rfl,rfl⟩:=hrel
  have k2:wr.cell? ⟨tb,2,none⟩=some (.slice A xs.length c):=blk_cell HB1.out 2
  have k3:wr.cell? ⟨tb,3,none⟩=some (.slice none 0 0):=blk_cell HB1.out 3
  have k4:wr.cell? ⟨tb,4,none⟩=some (.slice none 0 0):=blk_cell HB1.out 4
  have k5:wr.cell? ⟨tb,5,none⟩=some (.slice none 0 0):=blk_cell HB1.out 5
  have k6:wr.cell? ⟨tb,6,none⟩=some (.slice none 0 0):=blk_cell HB1.out 6
  have k7:wr.cell? ⟨tb,7,none⟩=some (.slice none 0 0):=blk_cell HB1.out 7
  go_wp2
  clear k2 k3 k4 k5 k6 k7
  go_loopg [3,33] 6 (fun kq v3 v33 wr=> ∃ i:Nat,v33=.int .i64 i∧Aside0 (i+kq=6∧Ext w wr∧
   ((i=0∧Kd.R kVV 255 wr w.heap.size (fun _=>True) v3 [])∨(1≤i∧ ∃ vp vt,Kd.R kVV 255 wr w.heap.size (fun _=>True) v3 ((vp,vt)::List.replicate (i - 1) (.slice none 0 0,.slice none 0 0))∧
     Kd.R (flat k57 w) 57 wr w.heap.size (fun _=>True) vp (xs.flatMap (·.f1))∧Kd.R (flat k253 w) 253 wr w.heap.size (fun _=>True) vt (xs.flatMap (·.f2))))))
  case atStart=>exact ⟨0,rfl,⟨rfl,HE.out,.inl ⟨rfl,HO.out⟩⟩⟩
  case round=>
   clear HO HE HB1 HLT
   obtain ⟨gko,hgko⟩: ∃ n,n=gk:=⟨gk,rfl⟩
   subst hgko
   obtain ⟨i,rfl,⟨hi,hE,hS⟩⟩:=hrel
   have HGK:=Aside0.mk hi
   clear hi
   rcases hS with ⟨rfl,hO⟩|⟨h1,vp,vt,hO,hp,ht⟩
   ·have HE:=Aside0.mk hE
    have HO:=Aside0.mk hO
    clear hE hO
    have e30:(Instr.index 30 (.agg #[.slice A xs.length c,.slice none 0 0,.slice none 0 0,.slice none 0 0,.slice none 0 0,.slice none 0 0]) (.int .i64 0)).run Tryz.prog wr=.ok (.slice A xs.length c) wr:=idx30 _ _ _ _ (by omega) (by omega) rfl
    go_wp2
    clear e30
    have HVB:=Aside0.mk (heap_alloc_new wr (.cells #[.slice none 0 0,.slice none 0 0] 255))
    have HE1:Aside0 (Ext w (wr.alloc (.cells #[.slice none 0 0,.slice none 0 0] 255))):=⟨HE.out.alloc _⟩
    have HO1:=Aside0.mk (Kd.R_alloc (Kd.R_mono (Kd.R_bound HO.out) (fun k hk=>Nat.ne_of_lt hk.2.2.1):Kd.R kVV 255 wr w.heap.size (fun k=>k≠wr.heap.size) u3 []) (.cells #[.slice none 0 0,.slice none 0 0] 255))
    have HVS:Aside0 (w.heap.size≤wr.heap.size):=⟨HE.out.size⟩
    generalize hvb:wr.heap.size=vb at HVB HO1 HVS ⊢
    generalize wr.alloc (.cells #[.slice none 0 0,.slice none 0 0] 255)=W1 at HVB HE1 HO1 ⊢
    clear HE HO hvb
    go_loopg [39] xs.length (fun kq v wr=> ∃ (j:Nat) (vp vt:Value),v=.int .i64 j∧Aside0 (j≤xs.length∧xs.length≤kq+j∧wr.heap[vb]? =some (.cells #[vp,vt] 255 (0,0))∧Kd.R (flat k57 w) 57 wr w.heap.size (fun _=>True) vp ((xs.take j).flatMap (·.f1))∧
      Kd.R (flat k253 w) 253 wr w.heap.size (fun _=>True) vt ((xs.take j).flatMap (·.f2))∧Kd.R kVV 255 wr w.heap.size (fun k=>k≠vb) u3 []∧Ext w wr))
    case atStart=>exact ⟨0,_,_,rfl,⟨by omega,by omega,HVB.out,by simpa using Kd.R_nil _ _ _ _ _,by simpa using Kd.R_nil _ _ _ _ _,HO1.out,HE1.out⟩⟩
    case round=>
     clear HVB HE1 HO1
     obtain ⟨j,vp,vt,rfl,⟨hj1,hj2,hvb,hp,ht,hO,hE⟩⟩:=hrel
     have HVB:=Aside0.mk hvb
     have HPP:=Aside0.mk hp
     have HTT:=Aside0.mk ht
     have HO:=Aside0.mk hO
     have HE:=Aside0.mk hE
     clear hvb hp ht hO hE
     have hlen:=HL.out
     by_cases hj:j < xs.length
     ·have d7:decide ((j:Int) < (xs.length:Int))=true:=by simp [hj]
      obtain ⟨ad,A1,c1,A2,c2,e1,g1,g2,g3,b1,hc1,hC1,hc2,hC2⟩:=at56 HR.out j hj
      cases e1
      replace g1:=HE.out.cell g1
      replace g2:=HE.out.cell g2
      replace g3:=HE.out.cell g3
      have b1:=World.block_lt_of_cell? _ _ g1
      have kv0:wr.cell? ⟨vb,0,none⟩=some vp:=blk_cell HVB.out 0
      have kv1:wr.cell? ⟨vb,1,none⟩=some vt:=blk_cell HVB.out 1
      have hvl:=blk_lt HVB.out
      have hxv:wr.heap.size≠vb:=by omega
      have hxv':vb≠wr.heap.size:=by omega
      have HC1:=Aside0.mk hC1
      have HC2:=Aside0.mk hC2
      have hm1:((xs.take j).flatMap (·.f1)).length+xs[j].f1.length≤2^30:=by
       have h1:((xs.take (j+1)).flatMap (·.f1)).length≤(xs.flatMap (·.f1)).length:=by
        conv=>rhs;rw [←List.take_append_drop (j+1) xs]
        rw [List.flatMap_append,List.length_append];omega
       have h2:((xs.take (j+1)).flatMap (·.f1)).length=((xs.take j).flatMap (·.f1)).length+xs[j].f1.length:=by
        rw [List.take_succ_eq_append_getElem hj,List.flatMap_append,List.length_append];simp
       have:=HP.out;omega
      have hm2:((xs.take j).flatMap (·.f2)).length+xs[j].f2.length≤2^30:=by
       have h1:((xs.take (j+1)).flatMap (·.f2)).length≤(xs.flatMap (·.f2)).length:=by
        conv=>rhs;rw [←List.take_append_drop (j+1) xs]
        rw [List.flatMap_append,List.length_append];omega
       have h2:((xs.take (j+1)).flatMap (·.f2)).length=((xs.take j).flatMap (·.f2)).length+xs[j].f2.length:=by
        rw [List.take_succ_eq_append_getElem hj,List.flatMap_append,List.length_append];simp
       have:=HT.out;omega
      have HM1:=Lib.hid hm1
      have HM2:=Lib.hid hm2
      have hxe:xs.take (j+1)=xs.take j++[xs[j]]:=List.take_succ_eq_append_getElem hj
      have HXE:=Lib.hid hxe
      clear hm1 hm2 hC1 hC2 hc1 hc2 hxe
      generalize xs[j]=x at *
      generalize hps:(xs.take j).flatMap (·.f1)=ps at HPP HM1
      generalize hts:(xs.take j).flatMap (·.f2)=tsx at HTT HM2
      have HPS:=Lib.hid hps
      have HTS:=Lib.hid hts
      clear hps hts
      go_wp2_with (first
       |((with_reducible refine gate_builtin (b:=.append) (xs:= #[.tmp 44,.tmp 46]) rfl ?_);at_builtin;go_loud (have hXB:=heap_alloc_new wr (.cells #[.int .u64 x.f0,.slice A1 x.f1.length c1,.slice A2 x.f2.length c2] 56);have hVB:=blk_alloc HVB.out (.cells #[.int .u64 x.f0,.slice A1 x.f1.length c1,.slice A2 x.f2.length c2] 56);have hP0:=Kd.R_alloc HPP.out (.cells #[.int .u64 x.f0,.slice A1 x.f1.length c1,.slice A2 x.f2.length c2] 56);have hT0:=Kd.R_alloc HTT.out (.cells #[.int .u64 x.f0,.slice A1 x.f1.length c1,.slice A2 x.f2.length c2] 56);have hO0:=Kd.R_alloc HO.out (.cells #[.int .u64 x.f0,.slice A1 x.f1.length c1,.slice A2 x.f2.length c2] 56);have hE0:=HE.out.alloc (.cells #[.int .u64 x.f0,.slice A1 x.f1.length c1,.slice A2 x.f2.length c2] 56);refine Kd.R_append_rows (flat k57 w) (Rr:=k57.K w) (w0:=w) w.heap.size rfl (.tmp 44) (.tmp 46) 53 57 (.agg #[.string ⟨#[]⟩,.int .u64 0,.string ⟨#[]⟩]) 40 rfl hu53 info57 rfl (show 0 < 3 by decide) (by omega) vp ps x.f1 A1 x.f1.length c1 (fun _=>True) (fun _=>False) (by first|(go_simp;done)|(go_simp;rfl)) (by first|(go_simp;done)|(go_simp;rfl)) hP0 (ReadsRow.imp_ HC1.out (Ext.below hE0) (fun _ _ h=>h)) (fun _ _ h=>h) (fun _ hk=>hk.elim) (fun _ _=>trivial) (Ext.below hE0) hE0.size (by have:=HM1.out;omega) ?_;rintro v1 w1 ho hb hg hat;obtain ⟨Av,cv,hv1⟩:=Kd.R_slice ho;subst hv1;generalize (ps++x.f1).length=nv1 at *; have hVB1:=blk_grown hVB hg (Kd.R_ne hP0 hVB (by decide));have hXB1:=blk_grown hXB hg (Kd.R_ne hP0 hXB (by decide));have hT1:=Kd.R_over hT0 hP0 (by simp [flat]) hg;have hO1:=Kd.R_over hO0 hP0 (by simp [kVV]) hg;clear kv0 kv1;have kv0:w1.cell? ⟨vb,0,none⟩=some vp:=blk_cell hVB1 0;have kv1:w1.cell? ⟨vb,1,none⟩=some vt:=blk_cell hVB1 1;have fv0:=blk_frozen hVB1 0;have fv1:=blk_frozen hVB1 1;have kx2:w1.cell? ⟨wr.heap.size,2,none⟩=some (.slice A2 x.f2.length c2):=blk_cell hXB1 2;have n1:=Aside0.mk ho;have n2:=Aside0.mk (Ext.of_below hb);have n3:=Aside0.mk hT1;have n4:=Aside0.mk hO1;have n5:=Aside0.mk hVB1;clear ho hb hg hat hVB1 hXB1 hT1 hO1 hVB hXB hP0 hT0 hO0 hE0))
       |((with_reducible refine gate_builtin (b:=.append) (xs:= #[.tmp 50,.tmp 52]) rfl ?_);at_builtin;go_loud (have hVB:=blk_put (cs':= #[(.slice Av nv1 cv),vt]) n5.out 0 (.slice Av nv1 cv) rfl;have hP0:=Kd.R_set n1.out n5.out (by simp [flat]) 0 (.slice Av nv1 cv);have hT0:=Kd.R_set n3.out n5.out (by simp [flat]) 0 (.slice Av nv1 cv);have hO0:=Kd.R_far n4.out (p:=⟨vb,0,none⟩) (fun _ hk=>hk) (.slice Av nv1 cv);have hE0:=n2.out.setNew (p:=⟨vb,0,none⟩) HVS.out (.slice Av nv1 cv);refine Kd.R_append_rows (flat k253 w) (Rr:=k253.K w) (w0:=w) w.heap.size rfl (.tmp 50) (.tmp 52) 54 253 (.agg #[.string ⟨#[]⟩,.string ⟨#[]⟩,.slice none 0 0]) 56 rfl hu54 info253 rfl (show 0 < 3 by decide) (by omega) vt tsx x.f2 A2 x.f2.length c2 (fun _=>True) (fun _=>False) (by first|(go_simp;done)|(go_simp;rfl)) (by first|(go_simp;done)|(go_simp;rfl)) hT0 (ReadsRow.imp_ HC2.out (Ext.below hE0) (fun _ _ h=>h)) (fun _ _ h=>h) (fun _ hk=>hk.elim) (fun _ _=>trivial) (Ext.below hE0) hE0.size (by have:=HM2.out;omega) ?_;rintro v2 w2 ho hb hg hat;obtain ⟨Av2,cv2,hv2⟩:=Kd.R_slice ho;subst hv2;generalize (tsx++x.f2).length=nv2 at *; have hVB2:=blk_grown hVB hg (Kd.R_ne hT0 hVB (by decide));have hP2:=Kd.R_over hP0 hT0 (by simp [flat]) hg;have hO2:=Kd.R_over hO0 hT0 (by simp [kVV]) hg;clear kv0 kv1 kx2 fv0 fv1;have kv1:w2.cell? ⟨vb,1,none⟩=some vt:=blk_cell hVB2 1;have fv1:=blk_frozen hVB2 1;have m1:=Aside0.mk hP2;have m2:=Aside0.mk (Ext.of_below hb);have m3:=Aside0.mk ho;have m4:=Aside0.mk hO2;have m5:=Aside0.mk hVB2;clear ho hb hg hat hVB2 hP2 hO2 hVB hP0 hT0 hO0 hE0 n1 n2 n3 n4 n5)))
      go_roundg (gk - 1)
      case measure=>omega
      case rel=>
       refine ⟨j+1,_,_,by go_num,⟨by omega,by omega,blk_put (cs':= #[(.slice Av nv1 cv),(.slice Av2 nv2 cv2)]) m5.out 1 (.slice Av2 nv2 cv2) rfl,?_,?_,Kd.R_far m4.out (p:=⟨vb,1,none⟩) (fun _ hk=>hk) (.slice Av2 nv2 cv2),m2.out.setNew (p:=⟨vb,1,none⟩) HVS.out (.slice Av2 nv2 cv2)⟩⟩
       ·rw [HXE.out,List.flatMap_append,HPS.out]
        simpa using Kd.R_set m1.out m5.out (by simp [flat]) 1 (.slice Av2 nv2 cv2)
       ·rw [HXE.out,List.flatMap_append,HTS.out]
        simpa using Kd.R_set m3.out m5.out (by simp [flat]) 1 (.slice Av2 nv2 cv2)
     ·have d7:decide ((j:Int) < (xs.length:Int))=false:=by simp;omega
      have kv0:wr.cell? ⟨vb,0,none⟩=some vp:=blk_cell HVB.out 0
      have kv1:wr.cell? ⟨vb,1,none⟩=some vt:=blk_cell HVB.out 1
      obtain ⟨hop,hot⟩:vp.oneCell'=true∧vt.oneCell'=true:=by
       obtain ⟨_,_,e1⟩:=Kd.R_slice HPP.out
       obtain ⟨_,_,e2⟩:=Kd.R_slice HTT.out
       subst e1 e2
       exact ⟨rfl,rfl⟩
      have hop:=Lib.hid hop
      have hot:=Lib.hid hot
      go_wp2_with ((with_reducible refine gate_builtin (b:=.append) (xs:= #[.tmp 56,.tmp 58]) rfl ?_);at_builtin;go_loud (refine Kd.R_append kVV (w0:=w) w.heap.size rfl (.tmp 56) (.tmp 58) 29 255 (.agg #[.slice none 0 0,.slice none 0 0]) 48 rfl hu29 info255 rfl (by decide) (by omega) u3 [] (vp,vt) [vp,vt] (fun _=>True) (fun _=>False) rfl (by first|(go_simp;done)|(go_simp;rfl)) ⟨rfl,hop.out,hot.out⟩ (fun _ hk=>hk.elim) (fun _ _=>trivial) (Kd.R_mono HO.out (fun _ _=>trivial)) HE.out.below HE.out.size (by decide) ?_;rintro v1 w1 ho hb hg hat;have n1:=Aside0.mk ho;have n2:=Aside0.mk hb;have n3:=Aside0.mk (Kd.R_over HPP.out HO.out (by simp [flat]) hg);have n4:=Aside0.mk (Kd.R_over HTT.out HO.out (by simp [flat]) hg);clear ho hb hg hat))
      go_roundg (gko - 1)
      case measure=>have:=HGK.out;omega
      case rel=>
       obtain rfl:j=xs.length:=by omega
       rw [List.take_length] at n3 n4
       exact ⟨1,by go_num,⟨by have:=HGK.out;omega,Ext.of_below n2.out,.inr ⟨by omega,vp,vt,n1.out,n3.out,n4.out⟩⟩⟩
   ·have HE:=Aside0.mk hE
    have HO:=Aside0.mk hO
    have HP1:=Aside0.mk hp
    have HT1:=Aside0.mk ht
    clear hE hO hp ht
    obtain rfl|rfl|rfl|rfl|rfl|rfl:i=1∨i=2∨i=3∨i=4∨i=5∨i=6:=by have:=HGK.out;omega
    ·have e30:(Instr.index 30 (.agg #[.slice A xs.length c,.slice none 0 0,.slice none 0 0,.slice none 0 0,.slice none 0 0,.slice none 0 0]) (.int .i64 1)).run Tryz.prog wr=.ok (.slice none 0 0) wr:=idx30 _ _ _ _ (by omega) (by omega) rfl
     go_wp2
     have HE1:Aside0 (Ext w (wr.alloc (.cells #[.slice none 0 0,.slice none 0 0] 255))):=⟨HE.out.alloc _⟩
     have HO1:=Aside0.mk (Kd.R_alloc HO.out (.cells #[.slice none 0 0,.slice none 0 0] 255))
     have HP2:=Aside0.mk (Kd.R_alloc HP1.out (.cells #[.slice none 0 0,.slice none 0 0] 255))
     have HT2:=Aside0.mk (Kd.R_alloc HT1.out (.cells #[.slice none 0 0,.slice none 0 0] 255))
     have kv0:=box_cell wr (cs:= #[.slice none 0 0,.slice none 0 0]) (t:=255) (f:=(0,0)) 0 rfl
     have kv1:=box_cell wr (cs:= #[.slice none 0 0,.slice none 0 0]) (t:=255) (f:=(0,0)) 1 rfl
     clear HE HO HP1 HT1
     generalize wr.alloc (.cells #[.slice none 0 0,.slice none 0 0] 255)=W1 at *
     generalize wr.heap.size=vb at *
     go_loopg [39] 0 (fun kq v wr=>v=.int .i64 0∧wr=W1)
     case atStart=>exact ⟨rfl,rfl⟩
     case round=>
      obtain ⟨rfl,rfl⟩:=hrel
      go_wp2_with ((with_reducible refine gate_builtin (b:=.append) (xs:= #[.tmp 56,.tmp 58]) rfl ?_);at_builtin;go_loud (refine Kd.R_append kVV (w0:=w) w.heap.size rfl (.tmp 56) (.tmp 58) 29 255 (.agg #[.slice none 0 0,.slice none 0 0]) 48 rfl hu29 info255 rfl (by decide) (by omega) u3 ((vp,vt)::List.replicate (1 - 1) (.slice none 0 0,.slice none 0 0)) (.slice none 0 0,.slice none 0 0) [.slice none 0 0,.slice none 0 0] (fun _=>True) (fun _=>False) rfl (by first|(go_simp;done)|(go_simp;rfl)) ⟨rfl,rfl,rfl⟩ (fun _ hk=>hk.elim) (fun _ _=>trivial) HO1.out HE1.out.below HE1.out.size (by simp) ?_;rintro v1 w1 ho hb hg hat;have n1:=Aside0.mk ho;have n2:=Aside0.mk hb;have n3:=Aside0.mk (Kd.R_over HP2.out HO1.out (by simp [flat]) hg);have n4:=Aside0.mk (Kd.R_over HT2.out HO1.out (by simp [flat]) hg);clear ho hb hg hat))
      go_roundg (gko - 1)
      case measure=>have:=HGK.out;omega
      case rel=>
       exact ⟨1+1,by go_num,⟨by have:=HGK.out;omega,Ext.of_below n2.out,.inr ⟨by omega,vp,vt,n1.out,n3.out,n4.out⟩⟩⟩
    ·have e30:(Instr.index 30 (.agg #[.slice A xs.length c,.slice none 0 0,.slice none 0 0,.slice none 0 0,.slice none 0 0,.slice none 0 0]) (.int .i64 2)).run Tryz.prog wr=.ok (.slice none 0 0) wr:=idx30 _ _ _ _ (by omega) (by omega) rfl
     go_wp2
     have HE1:Aside0 (Ext w (wr.alloc (.cells #[.slice none 0 0,.slice none 0 0] 255))):=⟨HE.out.alloc _⟩
     have HO1:=Aside0.mk (Kd.R_alloc HO.out (.cells #[.slice none 0 0,.slice none 0 0] 255))
     have HP2:=Aside0.mk (Kd.R_alloc HP1.out (.cells #[.slice none 0 0,.slice none 0 0] 255))
     have HT2:=Aside0.mk (Kd.R_alloc HT1.out (.cells #[.slice none 0 0,.slice none 0 0] 255))
     have kv0:=box_cell wr (cs:= #[.slice none 0 0,.slice none 0 0]) (t:=255) (f:=(0,0)) 0 rfl
     have kv1:=box_cell wr (cs:= #[.slice none 0 0,.slice none 0 0]) (t:=255) (f:=(0,0)) 1 rfl
     clear HE HO HP1 HT1
     generalize wr.alloc (.cells #[.slice none 0 0,.slice none 0 0] 255)=W1 at *
     generalize wr.heap.size=vb at *
     go_loopg [39] 0 (fun kq v wr=>v=.int .i64 0∧wr=W1)
     case atStart=>exact ⟨rfl,rfl⟩
     case round=>
      obtain ⟨rfl,rfl⟩:=hrel
      go_wp2_with ((with_reducible refine gate_builtin (b:=.append) (xs:= #[.tmp 56,.tmp 58]) rfl ?_);at_builtin;go_loud (refine Kd.R_append kVV (w0:=w) w.heap.size rfl (.tmp 56) (.tmp 58) 29 255 (.agg #[.slice none 0 0,.slice none 0 0]) 48 rfl hu29 info255 rfl (by decide) (by omega) u3 ((vp,vt)::List.replicate (2 - 1) (.slice none 0 0,.slice none 0 0)) (.slice none 0 0,.slice none 0 0) [.slice none 0 0,.slice none 0 0] (fun _=>True) (fun _=>False) rfl (by first|(go_simp;done)|(go_simp;rfl)) ⟨rfl,rfl,rfl⟩ (fun _ hk=>hk.elim) (fun _ _=>trivial) HO1.out HE1.out.below HE1.out.size (by simp) ?_;rintro v1 w1 ho hb hg hat;have n1:=Aside0.mk ho;have n2:=Aside0.mk hb;have n3:=Aside0.mk (Kd.R_over HP2.out HO1.out (by simp [flat]) hg);have n4:=Aside0.mk (Kd.R_over HT2.out HO1.out (by simp [flat]) hg);clear ho hb hg hat))
      go_roundg (gko - 1)
      case measure=>have:=HGK.out;omega
      case rel=>
       exact ⟨2+1,by go_num,⟨by have:=HGK.out;omega,Ext.of_below n2.out,.inr ⟨by omega,vp,vt,n1.out,n3.out,n4.out⟩⟩⟩
    ·have e30:(Instr.index 30 (.agg #[.slice A xs.length c,.slice none 0 0,.slice none 0 0,.slice none 0 0,.slice none 0 0,.slice none 0 0]) (.int .i64 3)).run Tryz.prog wr=.ok (.slice none 0 0) wr:=idx30 _ _ _ _ (by omega) (by omega) rfl
     go_wp2
     have HE1:Aside0 (Ext w (wr.alloc (.cells #[.slice none 0 0,.slice none 0 0] 255))):=⟨HE.out.alloc _⟩
     have HO1:=Aside0.mk (Kd.R_alloc HO.out (.cells #[.slice none 0 0,.slice none 0 0] 255))
     have HP2:=Aside0.mk (Kd.R_alloc HP1.out (.cells #[.slice none 0 0,.slice none 0 0] 255))
     have HT2:=Aside0.mk (Kd.R_alloc HT1.out (.cells #[.slice none 0 0,.slice none 0 0] 255))
     have kv0:=box_cell wr (cs:= #[.slice none 0 0,.slice none 0 0]) (t:=255) (f:=(0,0)) 0 rfl
     have kv1:=box_cell wr (cs:= #[.slice none 0 0,.slice none 0 0]) (t:=255) (f:=(0,0)) 1 rfl
     clear HE HO HP1 HT1
     generalize wr.alloc (.cells #[.slice none 0 0,.slice none 0 0] 255)=W1 at *
     generalize wr.heap.size=vb at *
     go_loopg [39] 0 (fun kq v wr=>v=.int .i64 0∧wr=W1)
     case atStart=>exact ⟨rfl,rfl⟩
     case round=>
      obtain ⟨rfl,rfl⟩:=hrel
      go_wp2_with ((with_reducible refine gate_builtin (b:=.append) (xs:= #[.tmp 56,.tmp 58]) rfl ?_);at_builtin;go_loud (refine Kd.R_append kVV (w0:=w) w.heap.size rfl (.tmp 56) (.tmp 58) 29 255 (.agg #[.slice none 0 0,.slice none 0 0]) 48 rfl hu29 info255 rfl (by decide) (by omega) u3 ((vp,vt)::List.replicate (3 - 1) (.slice none 0 0,.slice none 0 0)) (.slice none 0 0,.slice none 0 0) [.slice none 0 0,.slice none 0 0] (fun _=>True) (fun _=>False) rfl (by first|(go_simp;done)|(go_simp;rfl)) ⟨rfl,rfl,rfl⟩ (fun _ hk=>hk.elim) (fun _ _=>trivial) HO1.out HE1.out.below HE1.out.size (by simp) ?_;rintro v1 w1 ho hb hg hat;have n1:=Aside0.mk ho;have n2:=Aside0.mk hb;have n3:=Aside0.mk (Kd.R_over HP2.out HO1.out (by simp [flat]) hg);have n4:=Aside0.mk (Kd.R_over HT2.out HO1.out (by simp [flat]) hg);clear ho hb hg hat))
      go_roundg (gko - 1)
      case measure=>have:=HGK.out;omega
      case rel=>
       exact ⟨3+1,by go_num,⟨by have:=HGK.out;omega,Ext.of_below n2.out,.inr ⟨by omega,vp,vt,n1.out,n3.out,n4.out⟩⟩⟩
    ·have e30:(Instr.index 30 (.agg #[.slice A xs.length c,.slice none 0 0,.slice none 0 0,.slice none 0 0,.slice none 0 0,.slice none 0 0]) (.int .i64 4)).run Tryz.prog wr=.ok (.slice none 0 0) wr:=idx30 _ _ _ _ (by omega) (by omega) rfl
     go_wp2
     have HE1:Aside0 (Ext w (wr.alloc (.cells #[.slice none 0 0,.slice none 0 0] 255))):=⟨HE.out.alloc _⟩
     have HO1:=Aside0.mk (Kd.R_alloc HO.out (.cells #[.slice none 0 0,.slice none 0 0] 255))
     have HP2:=Aside0.mk (Kd.R_alloc HP1.out (.cells #[.slice none 0 0,.slice none 0 0] 255))
     have HT2:=Aside0.mk (Kd.R_alloc HT1.out (.cells #[.slice none 0 0,.slice none 0 0] 255))
     have kv0:=box_cell wr (cs:= #[.slice none 0 0,.slice none 0 0]) (t:=255) (f:=(0,0)) 0 rfl
     have kv1:=box_cell wr (cs:= #[.slice none 0 0,.slice none 0 0]) (t:=255) (f:=(0,0)) 1 rfl
     clear HE HO HP1 HT1
     generalize wr.alloc (.cells #[.slice none 0 0,.slice none 0 0] 255)=W1 at *
     generalize wr.heap.size=vb at *
     go_loopg [39] 0 (fun kq v wr=>v=.int .i64 0∧wr=W1)
     case atStart=>exact ⟨rfl,rfl⟩
     case round=>
      obtain ⟨rfl,rfl⟩:=hrel
      go_wp2_with ((with_reducible refine gate_builtin (b:=.append) (xs:= #[.tmp 56,.tmp 58]) rfl ?_);at_builtin;go_loud (refine Kd.R_append kVV (w0:=w) w.heap.size rfl (.tmp 56) (.tmp 58) 29 255 (.agg #[.slice none 0 0,.slice none 0 0]) 48 rfl hu29 info255 rfl (by decide) (by omega) u3 ((vp,vt)::List.replicate (4 - 1) (.slice none 0 0,.slice none 0 0)) (.slice none 0 0,.slice none 0 0) [.slice none 0 0,.slice none 0 0] (fun _=>True) (fun _=>False) rfl (by first|(go_simp;done)|(go_simp;rfl)) ⟨rfl,rfl,rfl⟩ (fun _ hk=>hk.elim) (fun _ _=>trivial) HO1.out HE1.out.below HE1.out.size (by simp) ?_;rintro v1 w1 ho hb hg hat;have n1:=Aside0.mk ho;have n2:=Aside0.mk hb;have n3:=Aside0.mk (Kd.R_over HP2.out HO1.out (by simp [flat]) hg);have n4:=Aside0.mk (Kd.R_over HT2.out HO1.out (by simp [flat]) hg);clear ho hb hg hat))
      go_roundg (gko - 1)
      case measure=>have:=HGK.out;omega
      case rel=>
       exact ⟨4+1,by go_num,⟨by have:=HGK.out;omega,Ext.of_below n2.out,.inr ⟨by omega,vp,vt,n1.out,n3.out,n4.out⟩⟩⟩
    ·have e30:(Instr.index 30 (.agg #[.slice A xs.length c,.slice none 0 0,.slice none 0 0,.slice none 0 0,.slice none 0 0,.slice none 0 0]) (.int .i64 5)).run Tryz.prog wr=.ok (.slice none 0 0) wr:=idx30 _ _ _ _ (by omega) (by omega) rfl
     go_wp2
     have HE1:Aside0 (Ext w (wr.alloc (.cells #[.slice none 0 0,.slice none 0 0] 255))):=⟨HE.out.alloc _⟩
     have HO1:=Aside0.mk (Kd.R_alloc HO.out (.cells #[.slice none 0 0,.slice none 0 0] 255))
     have HP2:=Aside0.mk (Kd.R_alloc HP1.out (.cells #[.slice none 0 0,.slice none 0 0] 255))
     have HT2:=Aside0.mk (Kd.R_alloc HT1.out (.cells #[.slice none 0 0,.slice none 0 0] 255))
     have kv0:=box_cell wr (cs:= #[.slice none 0 0,.slice none 0 0]) (t:=255) (f:=(0,0)) 0 rfl
     have kv1:=box_cell wr (cs:= #[.slice none 0 0,.slice none 0 0]) (t:=255) (f:=(0,0)) 1 rfl
     clear HE HO HP1 HT1
     generalize wr.alloc (.cells #[.slice none 0 0,.slice none 0 0] 255)=W1 at *
     generalize wr.heap.size=vb at *
     go_loopg [39] 0 (fun kq v wr=>v=.int .i64 0∧wr=W1)
     case atStart=>exact ⟨rfl,rfl⟩
     case round=>
      obtain ⟨rfl,rfl⟩:=hrel
      go_wp2_with ((with_reducible refine gate_builtin (b:=.append) (xs:= #[.tmp 56,.tmp 58]) rfl ?_);at_builtin;go_loud (refine Kd.R_append kVV (w0:=w) w.heap.size rfl (.tmp 56) (.tmp 58) 29 255 (.agg #[.slice none 0 0,.slice none 0 0]) 48 rfl hu29 info255 rfl (by decide) (by omega) u3 ((vp,vt)::List.replicate (5 - 1) (.slice none 0 0,.slice none 0 0)) (.slice none 0 0,.slice none 0 0) [.slice none 0 0,.slice none 0 0] (fun _=>True) (fun _=>False) rfl (by first|(go_simp;done)|(go_simp;rfl)) ⟨rfl,rfl,rfl⟩ (fun _ hk=>hk.elim) (fun _ _=>trivial) HO1.out HE1.out.below HE1.out.size (by simp) ?_;rintro v1 w1 ho hb hg hat;have n1:=Aside0.mk ho;have n2:=Aside0.mk hb;have n3:=Aside0.mk (Kd.R_over HP2.out HO1.out (by simp [flat]) hg);have n4:=Aside0.mk (Kd.R_over HT2.out HO1.out (by simp [flat]) hg);clear ho hb hg hat))
      go_roundg (gko - 1)
      case measure=>have:=HGK.out;omega
      case rel=>
       exact ⟨5+1,by go_num,⟨by have:=HGK.out;omega,Ext.of_below n2.out,.inr ⟨by omega,vp,vt,n1.out,n3.out,n4.out⟩⟩⟩
    ·go_wp2
     go_ret
     obtain ⟨A1,c1,e1,l1,C1⟩:=Kd.R_reads HP1.out
     obtain ⟨A2,c2,e2,l2,C2⟩:=Kd.R_reads HT1.out
     exact ⟨⟨_,vp,vt,rfl,HO.out,⟨A1,c1,e1,l1,flat_C C1 HE.out.below⟩,⟨A2,c2,e2,l2,flat_C C2 HE.out.below⟩⟩,HE.out⟩
end Go.Proofs.YtghppnklhbbffaaGreatDoor.TL
namespace Go.Proofs.YtghppnklhbbffaaGreatDoor.X
open Go Go.RowKit Go.MapKept Go.Proofs.YtghppnklhbbffaaGreatDoor.TL Go.Proofs.YtghppnklhbbffaaGreatDoor.PFnTreeLevel Go.Proofs.YtghppnklhbbffaaGreatDoorW.PrintWords Go.Proofs.YtghppnklhbbffaaGreatDoorW.PrintMore
theorem reps_flat [Bd] {α:Type} {R:α→List Value→Prop} {size:Nat} (f:α→List Value) (hl: ∀ x,(f x).length=size) (hR: ∀ x,R x (f x)): ∀ ps:List α,Reps R size ps (ps.flatMap f)
 |[]=>Reps.none R size
 |a::l=>by
  have ih:=reps_flat f hl hR l
  refine ⟨by rw [List.flatMap_cons,List.length_append,hl,ih.1,List.length_cons,Nat.succ_mul,Nat.add_comm],fun j p hj=>?_⟩
  rw [List.flatMap_cons]
  cases j with
  |zero=>
   simp only [List.getElem?_cons_zero,Option.some.injEq] at hj
   subst hj
   rw [Nat.zero_mul,List.drop_zero,List.take_append_of_le_length (by rw [hl];exact Nat.le_refl _),List.take_of_length_le (by rw [hl];exact Nat.le_refl _)]
   exact hR a
  |succ j=>
   simp only [List.getElem?_cons_succ] at hj
   have h:=ih.2 j p hj
   have e:(f a++l.flatMap f).drop ((j+1)*size)=(l.flatMap f).drop (j*size):=by
    rw [List.drop_append,List.drop_eq_nil_of_le (by rw [hl,Nat.succ_mul];omega),List.nil_append,hl]
    congr 1
    rw [Nat.succ_mul];omega
   rw [e];exact h
theorem own_form {w:World} {B e size n:Nat} {v:Value} {xs:List Value} (h:w.ownsRow B e size v n xs): ∃ A c,v=.slice A n c∧(A=none→c=0∧n=0)∧ ∀ a,A=some a→v.ownBlock=some a.block∧a=⟨a.block,0,none⟩:=by
 rcases h.2 with ⟨rfl,rfl⟩|⟨g,cap,cur,rfl,_⟩
 ·exact ⟨none,0,rfl,fun _=>⟨rfl,rfl⟩,fun a h=>(by cases h)⟩
 ·exact ⟨_,cap,rfl,fun h=>(by cases h),fun a h=>(by cases h;exact ⟨rfl,rfl⟩)⟩
theorem _root_.Go.Proofs.YtghppnklhbbffaaGreatDoor.TL.Kept.prot [Bd] {ts:List TypeId} {w w':World} (h:Kept ts w w') {k:Nat} (hB:k < Bd.B) (hk:k < w.heap.size):w'.heap[k]? =w.heap[k]?:=
 h.block k ⟨w.heap[k],by simp [hk],fun hb=>absurd hb (by omega)⟩
theorem Kept.toExt [Bd] {ts:List TypeId} {w w':World} (h:Kept ts w w') (hw:w.heap.size=Bd.B):Ext w w':=
 ⟨h.os,h.tape,h.output,h.size,fun k hk=>h.prot (by have:=hk.lt;omega) hk.lt,h.ty⟩
theorem Kept.toBelow [Bd] {ts:List TypeId} {w w':World} (h:Kept ts w w') (hw:w.heap.size=Bd.B):Below w.heap.size w w':=(Kept.toExt h hw).below
theorem ext_at (b1 b2:Bd) {ts:List TypeId} {w w':World} (h: @Kept b1 ts w w') (hs:w.heap.size≤b1.B): @Ext b2 w w':=
 ⟨@Kept.os b1 _ _ _ h, @Kept.tape b1 _ _ _ h, @Kept.output b1 _ _ _ h, @Kept.size b1 _ _ _ h,fun _ hk=> @Kept.prot b1 _ _ _ h _ (Nat.lt_of_lt_of_le (@solid.lt b2 _ _ _ hk) hs) (@solid.lt b2 _ _ _ hk), @Kept.ty b1 _ _ _ h⟩
theorem RK.C [Bd] {α:Type} {d:Kd α} {e:Nat} {w:World} {A:Option Addr} {n c:Nat} {xs:List α} (h:RK d e w (.slice A n c) xs):n=xs.length∧Kd.C d w A xs.length xs:=by
 obtain ⟨A',c',e1,_,h2⟩:=h.reads
 cases e1
 exact ⟨rfl,h2⟩
def cells57 (x:S57):List Value:=[.string x.f0,.int .u64 x.f1,.string x.f2]
def T81 (A:Addr) (n c:Nat) (ov:V1) (i:Int) (ys:Nat→Value):List SV:=mkT 34 [(3,o1 ov),(8,.sl A n c),(9,.si .i64 n),(10,.si .i64 i)] ys
def U81 (A:Addr) (n c:Nat) (a:Addr) (k d:Nat) (ov:V1) (i j:Int) (ys:Nat→Value):List SV:=mkT 34 [(3,o1 ov),(5,.p 0 0),(8,.sl A n c),(9,.si .i64 n),(10,.si .i64 i),(15,.sl a k d),(16,.si .i64 k),(17,.si .i64 j)] ys
def O81 [Bd] (w0:World) (N:Nat) (ov:V1) (w:World):Prop:= ∃ r:List S57,r.length=N∧w.ownsRow Bd.B 57 3 ov.1 r.length (r.flatMap cells57)∧Kept [57] w0 w
def J81 [Bd] (ts:List S253) (A:Addr) (n c:Nat) (w0:World) (m:Nat) (bs:List Nat) (T:List SV) (H:List SB) (w:World):Prop:=
 ∃ (i:Nat) (ys:Nat→Value) (ov:V1),i≤n∧m+i=n∧bs=[]∧T=T81 A n c ov i ys∧H=[]∧O81 w0 ((ts.take i).flatMap (·.f2)).length ov w
def I81 [Bd] (A:Addr) (n c:Nat) (a:Addr) (k d N:Nat) (i:Int) (sb:Nat) (H0:List SB) (w0:World) (m:Nat) (bs:List Nat) (T:List SV) (H:List SB) (w:World):Prop:=
 ∃ (j:Nat) (ys:Nat→Value) (ov:V1),j≤k∧m+j=k∧bs=[sb]∧T=U81 A n c a k d ov i j ys∧H=H0∧O81 w0 (N+j) ov w
noncomputable def S81 (A:Addr) (n c:Nat):ST:=runS Tryz.prog ⟨[],0,[],[],0⟩ 200 (startS Tryz.f81 [.sl A n c] [])
theorem c81K [Bd] (A:Option Addr) (c:Nat) (ts:List S253) (w:World) (hr:Kd.C k253 w A ts.length ts) (hl:(ts.flatMap (·.f2)).length < 2^30) (hn:ts.length < 2^30) (hw:w.heap.size=Bd.B) (hB0:autoParam (Bd.B≤w.heap.size) sz0._auto_1):
  Calls Tryz.prog 81 #[.slice A ts.length c] w fun e w'=> ∃ v:V1,e=.returned v.1∧O81 w (ts.flatMap (·.f2)).length v w':=by
 generalize hnn:ts.length=n at *
 cases A with
 |none=>
  obtain rfl:n=0:=Nat.eq_zero_of_not_pos fun h=>by obtain ⟨ad,e,_⟩:=hr.2.2 h;cases e
  obtain rfl:=List.eq_nil_of_length_eq_zero hnn
  refine gs (bs:=[]) [.oc (.slice none 0 c) rfl] [] Tryz.func81 (sat0 w) fun hW=>?_
  refine gr0 200 ⟨[],0,[],[],0⟩ hW fun w1 hK1 hW1=>?_
  refine go_lenS 54 253 (.tmp 8) none 0 c [] (by kernel_rfl) (by kernel_rfl) (by kernel_rfl) hW1 (by kernel_rfl) fun hV1=>?_
  refine gr0 (bs:=[]) 200 ⟨[],0,[],[(11,false)],1⟩ hV1 (fun w2 hK2 hW2=>?_) [(decide ((0:Int) < ((0:Nat):Int)),false)] ⟨rfl,trivial⟩
  exact gt .ns hW2.sat ⟨⟨.slice none 0 0,rfl⟩,rfl,[],rfl,World.ownsRow_nil _ _ _ _,(hK1.trans hK2).mono (by simp)⟩
 |some A=>
 refine gs (bs:=[]) [.sl A n c] [] Tryz.func81 (sat0 w) fun hW=>?_
 refine gr0 200 ⟨[],0,[],[],0⟩ hW fun w1 hK1 hW1=>?_
 refine go_loop (s:=S81 A n c) (bs:=[]) (J81 ts A n c w) n (by kernel_rfl) hW1 (fun ys=>T81 A n c ⟨.slice none 0 0,rfl⟩ 0 ys) [] (by kernel_rfl) (by kernel_rfl) (fun ys=>⟨0,ys,⟨.slice none 0 0,rfl⟩,by omega,by omega,rfl,rfl,rfl,[],rfl,World.ownsRow_nil _ _ _ _,hK1.mono (by simp)⟩) ?_ ?_
 ·rintro m bs' T H w' ⟨j,ys,_,_,_,rfl,_⟩
  exact ⟨[],rfl⟩
 ·rintro m bs' T H w' ⟨i,ys,ov,hi,hm,rfl,rfl,rfl,r,hrl,hown,hX⟩ hW'
  by_cases hlt:i < n
  ·refine gr0 (bs:=[]) 200 ⟨[],0,[],[(11,true)],0⟩ hW' (fun v1 hG1 hV1=>?_) [(decide ((i:Int) < n),true),(decide ((0:Int)≤i),true),(decide ((i:Int) < n),true)] ⟨by simpa using hlt,by simp,by simpa using hlt,trivial⟩
   obtain ⟨ad,cs,e1,_,hK,hcell⟩:=ReadsRow.get_ hr z253 (i:Int) (by omega) (by omega)
   cases e1
   have hXe:Ext w v1:=Kept.toExt (hX.trans (hG1.mono (by simp))) hw
   have hcell:=fun i y hy=>Ext.cell hXe (hcell i y hy)
   have hxe:ts.getD (i:Int).toNat z253=ts[i]:=by simp [List.getD_eq_getElem?_getD,hnn,hlt]
   rw [hxe] at hK
   have hsum:((ts.take (i+1)).flatMap (·.f2)).length=((ts.take i).flatMap (·.f2)).length+ts[i].f2.length:=by
    rw [List.take_succ_eq_append_getElem (by omega),List.flatMap_append,List.length_append];simp
   have hle:((ts.take (i+1)).flatMap (·.f2)).length≤(ts.flatMap (·.f2)).length:=by
    conv=>rhs;rw [←List.take_append_drop (i+1) ts]
    rw [List.flatMap_append,List.length_append];omega
   generalize ts[i]=x at hK hsum
   obtain ⟨A2,c2,rfl,_,g2⟩:=k253_open hK
   cases A2 with
   |none=>
    have h0:x.f2.length=0:=Nat.eq_zero_of_not_pos fun h=>by obtain ⟨ad,e,_⟩:=g2.2.2 h;cases e
    rw [h0] at hcell hsum
    refine go_loadA 253 (.tmp 12) (A.add ((i:Int).toNat*3)) [sv x.f0,sv x.f1,.oc (.slice none 0 c2) rfl] [] (by kernel_rfl) (by kernel_rfl) (by kernel_rfl) (by kernel_rfl) hV1 (by kernel_rfl) (fun i y hy=>by rw [Addr.add_add];exact hcell i _ (denL_getS (bs:=[]) hy)) (fun hV2=>?_)
    refine gr1 (bs:=[]) 200 ⟨[],0,[],[],0⟩ hV2 fun sb v3 _ hG3 hV3=>?_
    refine go_lenS 251 335 (.tmp 15) none 0 c2 [⟨253,[sv x.f0,sv x.f1,.oc (.slice none 0 c2) rfl]⟩] (by kernel_rfl) (by kernel_rfl) (by kernel_rfl) hV3 (by kernel_rfl) fun hV4=>?_
    refine gr0 (bs:=[sb]) 200 ⟨[],1,[],[(18,false)],1⟩ hV4 (fun v5 hG5 hV5=>?_) [(decide ((0:Int) < ((0:Nat):Int)),false)] ⟨rfl,trivial⟩
    refine go_fin (Hand (J81 ts A n c w) m) (by kernel_rfl) (fun ys=>T81 A n c ov (IntKind.i64.wrap ((i:Int)+1)) ys) (by kernel_rfl) (fun ys=>?_)
    rw [wrap_succ i (by omega)]
    have hX5:=hG1.trans (hG3.trans hG5)
    exact ⟨m - 1,by omega,[],T81 A n c ov ((i+1:Nat):Int) ys,[],actS_cut [] [sb] _ (by kernel_rfl),sat0 v5 hV5.sz,i+1,ys,ov,by omega,by omega,rfl,rfl,rfl,r,by omega,own_kept hown hX5 (by simp),hX.trans (hX5.mono (by simp))⟩
   |some a=>
    refine go_loadA 253 (.tmp 12) (A.add ((i:Int).toNat*3)) [sv x.f0,sv x.f1,.sl a x.f2.length c2] [] (by kernel_rfl) (by kernel_rfl) (by kernel_rfl) (by kernel_rfl) hV1 (by kernel_rfl) (fun i y hy=>by rw [Addr.add_add];exact hcell i _ (denL_getS (bs:=[]) hy)) (fun hV2=>?_)
    refine gr1 (bs:=[]) 200 ⟨[],0,[],[],0⟩ hV2 fun sb v3 _ hG3 hV3=>?_
    have hX3:=hG1.trans hG3
    refine go_loop (bs:=[sb]) (I81 A n c a x.f2.length c2 ((ts.take i).flatMap (·.f2)).length i sb [⟨253,[sv x.f0,sv x.f1,.sl a x.f2.length c2]⟩] w) x.f2.length (by kernel_rfl) hV3 (fun ys=>U81 A n c a x.f2.length c2 ov i 0 ys) [⟨253,[sv x.f0,sv x.f1,.sl a x.f2.length c2]⟩] (by kernel_rfl) (by kernel_rfl) (fun ys=>⟨0,ys,ov,by omega,by omega,rfl,rfl,rfl,r,by omega,own_kept hown hX3 (by simp),hX.trans (hX3.mono (by simp))⟩) ?_ ?_
    ·rintro m bs' T H w' ⟨j,ys,_,_,_,rfl,_⟩
     exact ⟨[],rfl⟩
    ·rintro q bs' T H v4 ⟨j,ys,ov,hj,hq,rfl,rfl,rfl,r,hrl,hown,hX⟩ hV4
     by_cases hjl:j < x.f2.length
     ·refine gr0 (bs:=[sb]) 200 ⟨[],1,[],[(18,true)],0⟩ hV4 (fun v5 hG5 hV5=>?_) [(decide ((j:Int) < x.f2.length),true),(decide ((0:Int)≤j),true),(decide ((j:Int) < x.f2.length),true)] ⟨by simpa using hjl,by simp,by simpa using hjl,trivial⟩
      have hX5:=hX.trans (hG5.mono (by simp):Kept [57] _ _)
      obtain ⟨ad,cs,e1,_,hK,hcell⟩:=ReadsRow.get_ (Kd.C_below g2 (Kept.toBelow hX5 hw)) z335 (j:Int) (by omega) (by omega)
      cases e1
      generalize x.f2.getD (j:Int).toNat z335=y at hK
      obtain rfl:=k335_open hK
      refine go_loadA 335 (.tmp 19) (a.add ((j:Int).toNat*3)) [.si .u64 y.f0,sv y.f1,sv y.f2] [⟨253,[sv x.f0,sv x.f1,.sl a x.f2.length c2]⟩] (by kernel_rfl) (by kernel_rfl) (by kernel_rfl) (by kernel_rfl) hV5 (by kernel_rfl) (fun i y hy=>by rw [Addr.add_add];exact hcell i _ (denL_getS (bs:=[sb]) hy)) (fun hV6=>?_)
      refine gr1 (bs:=[sb]) 200 ⟨[],1,[],[],0⟩ hV6 fun kb v7 _ hG7 hV7=>?_
      have hown7:=own_kept hown (hG5.trans hG7) (by simp)
      refine zapp 53 57 3 40 (.agg #[.string ⟨#[]⟩,.int .u64 0,.string ⟨#[]⟩]) 28 21 29 [sv x.f0,.si .u64 y.f0,sv x.f1] ov r.length _ [⟨253,[sv x.f0,sv x.f1,.sl a x.f2.length c2]⟩,⟨335,[.si .u64 y.f0,sv y.f1,sv y.f2]⟩] hV7 hown7 (by omega) (hV7.sat.ne_own hown7 (by kernel_rfl)) (fun nb v' v8 hown8 hK8 _ hV8=>?_)
      refine gr0 (bs:=[sb,kb,nb]) 200 ⟨[],3,[],[],0⟩ hV8 fun v9 hK9 hV9=>?_
      have hs9:=hV9.sq ([⟨253,[sv x.f0,sv x.f1,.sl a x.f2.length c2]⟩,⟨335,[.si .u64 y.f0,sv y.f1,sv y.f2]⟩]++[⟨57,[sv x.f0,.si .u64 y.f0,sv x.f1]⟩])
      refine go_fin (Hand (I81 A n c a x.f2.length c2 ((ts.take i).flatMap (·.f2)).length i sb [⟨253,[sv x.f0,sv x.f1,.sl a x.f2.length c2]⟩] w) q) (by kernel_rfl) (fun ys=>U81 A n c a x.f2.length c2 v' i (IntKind.i64.wrap ((j:Int)+1)) ys) (by kernel_rfl) (fun ys=>?_)
      rw [wrap_succ j (by omega)]
      refine ⟨q - 1,by omega,[sb],U81 A n c a x.f2.length c2 v' i ((j+1:Nat):Int) ys,[⟨253,[sv x.f0,sv x.f1,.sl a x.f2.length c2]⟩],actS_cut [sb] [kb,nb] _ (by kernel_rfl),hs9.sub [0] (by decide) (by simp) rfl ⟨hs9.memC 0 rfl (by kernel_rfl),trivial⟩,j+1,ys,v',by omega,by omega,rfl,rfl,rfl,r++[⟨x.f0,y.f0,x.f1⟩],by rw [List.length_append];show r.length+1=_;omega,?_,hX5.trans (hG7.tr (hK8.tr hK9 (ts:=[57])) (ts:=[57]))⟩
      rw [List.flatMap_append,List.length_append]
      exact own_kept hown8 hK9 (by simp)
     ·obtain rfl:j=x.f2.length:=by omega
      refine gr0 (bs:=[sb]) 200 ⟨[],1,[],[(18,false)],0⟩ hV4 (fun v5 hG5 hV5=>?_) [(decide ((x.f2.length:Int) < x.f2.length),false)] ⟨by simp,trivial⟩
      refine go_fin (Hand (J81 ts A n c w) m) (by kernel_rfl) (fun ys=>T81 A n c ov (IntKind.i64.wrap ((i:Int)+1)) ys) (by kernel_rfl) (fun ys=>?_)
      rw [wrap_succ i (by omega)]
      exact ⟨m - 1,by omega,[],T81 A n c ov ((i+1:Nat):Int) ys,[],actS_cut [] [sb] _ (by kernel_rfl),sat0 v5 hV5.sz,i+1,ys,ov,by omega,by omega,rfl,rfl,rfl,r,by omega,own_kept hown hG5 (by simp),hX.trans (hG5.mono (by simp))⟩
  ·obtain rfl:i=n:=by omega
   refine gr0 (bs:=[]) 200 ⟨[],0,[],[(11,false)],0⟩ hW' (fun v1 hG1 hV1=>?_) [(decide ((i:Int) < i),false)] ⟨by simp,trivial⟩
   exact gt (o1 ov) hV1.sat ⟨ov,rfl,r,by rw [hrl, ←hnn,List.take_length],own_kept hown hG1 (by simp),hX.trans (hG1.mono (by simp))⟩
theorem c81 [Bd] (A:Option Addr) (c:Nat) (ts:List S253) (w:World) (hr:Kd.C k253 w A ts.length ts) (hl:(ts.flatMap (·.f2)).length < 2^30) (hn:ts.length < 2^30):
  Calls Tryz.prog 81 #[.slice A ts.length c] w fun e w'=> ∃ v r,e=.returned v∧r.length=(ts.flatMap (·.f2)).length∧Kd.R k57 57 w' w.heap.size (fun _=>True) v r∧Ext w w':=by
 have h:= @c81K ⟨w.heap.size⟩ A c ts w hr hl hn rfl (Nat.le_refl _)
 exact h.mono fun e w' ⟨v,h1,r,h2,h3,h4⟩=>⟨v.1,r,h1,h2,⟨fun _ _=>trivial,_,h3,reps_flat cells57 (fun _=>rfl) (fun x=>k57_mkM _ _ _ x) r⟩,ext_at _ _ h4 (Nat.le_refl _)⟩
end Go.Proofs.YtghppnklhbbffaaGreatDoor.X
