/- Part 12 of the proof that laws.FnTreeLevel answers true, for arguments of small bulk. -/
import Derived.Test.YtghppnklhbbffaaGreatDoorR11
set_option linter.all false
set_option maxHeartbeats 4000000
set_option maxRecDepth 100000
namespace Go.Proofs.YtghppnklhbbffaaGreatDoor.TL
open Go Go.RowKit Go.Proofs.YtghppnklhbbffaaGreatDoor.PFnTreeLevel Go.Proofs.YtghppnklhbbffaaGreatDoorW.PrintWords Go.Proofs.YtghppnklhbbffaaGreatDoorW.PrintLast
def lRes (vk vv:Value) (w:World) (xs:List S36) (i:Option Nat) (v:Value):Prop:=
 match i with
 |none=>v=.tuple #[.pointer none,.agg #[.slice none 0 0,.pointer none]]
 |some i=> ∃ (h:i < xs.length) (g:Nat) (n c:Nat) (vu:Value),vk=.slice (some ⟨g,0,none⟩) n c∧v=.tuple #[.pointer (some ⟨g,i*2,none⟩),.agg #[vu,.pointer none]]∧RdS w vu (bs xs[i].f2)
theorem c217 [Bd] (lb:Nat) (vk vv vlo vup:Value) (at_:Int) (xs:List S36) (lo up:Option (List UInt8)) (w:World) (hb:w.heap[lb]? =some (.cells #[vk,vv,.int .i64 at_,vlo,vup] 266 (0,0))) (hL:LstC w vk vv vlo vup xs lo up) (h0:0≤at_) (h1:at_≤xs.length):
  Calls Tryz.prog 217 #[.pointer (some ⟨lb,0,none⟩)] w fun e w'=> ∃ v,e=.returned v∧lRes vk vv w' xs (if lBehind xs up at_ then none else some at_.toNat) v∧Ext w w':=by
 have hu266:=Tryz.underlying266
 have hu224:=Tryz.underlying224
 have HB:=Aside0.mk hb
 have HL:=Aside0.mk hL
 have L:=Lib.hid (And.intro h0 h1)
 have bl:=blk_lt hb
 cases hq:lBehind xs up at_
 ·obtain ⟨i,rfl⟩: ∃ i:Nat,at_=i:=⟨at_.toNat,by omega⟩
  have hi:i < xs.length:=by
   apply Classical.byContradiction
   intro hn
   have:lBehind xs up (i:Int)=true:=by simp [lBehind];omega
   rw [this] at hq
   cases hq
  clear hb hL h0 h1
  go_enter Tryz.func217,Tryz.ntmps217
  go_wp2_with (go_at_call 219;go_loud (refine (c219 lb vk vv vlo vup _ xs lo up _ (blk_alloc HB.out _) (HL.out.kept ((Kept.refl [] w).alloc _) (by simp) (by simp) (by simp)) (by have:=L.out;omega) L.out.2).mono ?_;rw [hq];rintro e w2 ⟨rfl,hk⟩;have hX:=hk.blk (heap_alloc_new w (.cells #[.slice none 0 0,.pointer none] 224));have HX:=Aside0.mk hX;have HE:=Aside0.mk (((Kept.refl [] w).alloc _).trans hk:Ext w w2);have x0:=blk_cell hX 0;have x1:=blk_cell hX 1;have f0:=blk_frozen hX 0;have f1:=blk_frozen hX 1;simp only [List.getElem?_toArray,List.getElem?_cons_zero,List.getElem?_cons_succ] at x0 x1;clear hX hk))
  have hbw:=HB.out
  have hk0:w.cell? ⟨lb,0,none⟩=some vk:=blk_cell HB.out 0
  have hk1:w.cell? ⟨lb,1,none⟩=some vv:=blk_cell HB.out 1
  have hk2:w.cell? ⟨lb,2,none⟩=some (.int .i64 (i:Int)):=blk_cell HB.out 2
  obtain ⟨⟨A,c,rfl,hc,hn,hkeys⟩,⟨A',c',rfl,hc',hvals⟩, -, -⟩:=HL.out
  obtain ⟨g,cs,f,rfl,hbk,hkc⟩:=hkeys (by omega)
  obtain ⟨g',cs',f',rfl,hbv,hvc⟩:=hvals (by omega)
  obtain ⟨vu,qv,hrd⟩:=hvc i hi
  have HV:=Aside0.mk (And.intro qv hrd)
  obtain ⟨vb,vo,vc,_,_,rfl, -, -⟩:=hrd
  have bg':=World.block_lt_of_cell? _ _ qv
  have LN:=Lib.hid (And.intro hc (And.intro hc' hn))
  clear hkeys hvals hkc hvc hbk hbv hbw hc hc' hn
  refine wp_region_mix (fun w'=> ∃ x,w'=w.kt [] x) (by kernel_rfl) ?_
  obtain ⟨z0,hz0⟩: ∃ z,w2.drew=w.kt [] z:=(HE.out.drew).nx
  have hXd:w2.drew.heap[w.heap.size]? =_:=HX.out
  rw [hz0] at hXd ⊢
  clear hz0
  refine rseg [0,1,2,3,4,5,6,7,8,9,10,11,12,13,14,15,16,17,18] (f:=3) #[true,true,true,true,true,true,true,true,true,true,true,true,true,true,true,true,true,true,true,false,false,false] (by kernel_rfl) ⟨z0,rfl⟩ ?_
  simp only [pick,List.getElem?_cons_zero,List.getElem?_cons_succ]
  (repeat go_big_quiet_step (fail))
  refine wpQuiet_nil ?_
  have hz:=kept_kt z0
  refine rone (i:=19) (N:=some 26) #[true,true,true,true,true,true,true,true,true,true,true,true,true,true,true,true,true,true,true,true,false,false] rfl rfl (by kernel_rfl) (fun K hK=>?_)
  refine goes_ Tryz.func223 (by kernel_rfl) rfl #[.slice (some ⟨vb,vo,none⟩) xs[i].f2.size vc] (by rfl) rfl rfl (by first|rfl|(go_simp;done)|(go_simp;rfl)) ?_
  refine (c223 _ _ _ _).mono ?_
  rintro e w3 ⟨rfl,hk⟩
  refine ⟨_,rfl,hK _ _ (hz.trans hk).nx ?_⟩
  clear hK K
  have hX3:=hk.blk hXd
  have hE3:=hz.trans hk
  simp only [Act.put,List.setIfInBounds_toArray,List.set_cons_zero,List.set_cons_succ]
  refine rseg [20] (f:=1) #[true,true,true,true,true,true,true,true,true,true,true,true,true,true,true,true,true,true,true,true,true,false] (by kernel_rfl) hE3.nx ?_
  simp only [pick,List.getElem?_cons_zero,List.getElem?_cons_succ]
  (repeat go_big_quiet_step (fail))
  refine wpQuiet_nil ?_
  refine rone (i:=21) (N:=none) #[true,true,true,true,true,true,true,true,true,true,true,true,true,true,true,true,true,true,true,true,true,true] rfl rfl (by kernel_rfl) (fun K hK=>?_)
  have y0:=blk_cell hX3 0
  have y1:=blk_cell hX3 1
  have g0:=blk_frozen hX3 0
  have g1:=blk_frozen hX3 1
  simp only [List.getElem?_toArray,List.getElem?_cons_zero,List.getElem?_cons_succ] at y0 y1
  refine skip_ (w1:=(w3.setCell ⟨w.heap.size,0,none⟩ (.slice (some ⟨vb,vo,none⟩) xs[i].f2.size vc)).setCell ⟨w.heap.size,1,none⟩ (.pointer none)) rfl rfl ?_ ?_
  ·go_simp
  ·have hb0:=blk_put (cs':= #[.slice (some ⟨vb,vo,none⟩) xs[i].f2.size vc,.pointer none]) hX3 0 (.slice (some ⟨vb,vo,none⟩) xs[i].f2.size vc) rfl
   have hb1:=blk_put (cs':= #[.slice (some ⟨vb,vo,none⟩) xs[i].f2.size vc,.pointer none]) hb0 1 (.pointer none) rfl
   have hE4:=(hE3.setNew (p:=⟨w.heap.size,0,none⟩) (Nat.le_refl _) (.slice (some ⟨vb,vo,none⟩) xs[i].f2.size vc)).setNew (p:=⟨w.heap.size,1,none⟩) (Nat.le_refl _) (.pointer none)
   refine hK _ _ hE4.nx ?_
   clear hK K y0 y1 g0 g1
   generalize ((w3.setCell ⟨w.heap.size,0,none⟩ (.slice (some ⟨vb,vo,none⟩) xs[i].f2.size vc)).setCell ⟨w.heap.size,1,none⟩ (.pointer none))=w4 at *
   refine rend (by kernel_rfl) ?_
   have y0:=blk_cell hb1 0
   have y1:=blk_cell hb1 1
   simp only [List.getElem?_toArray,List.getElem?_cons_zero,List.getElem?_cons_succ] at y0 y1
   go_wp2
   refine bodyPost_ret (v:=.tuple #[.pointer (some ⟨g,i*2,none⟩),.agg #[.slice (some ⟨vb,vo,none⟩) xs[i].f2.size vc,.pointer none]]) ?_ rfl ?_
   ·rw [results,show Tryz.f217.results= #[.tmp 2,.cell 3 224] from rfl]
    clear hb0 hb1 hE4 hE3 hX3
    simp [go_sem,loadVar,asAddr,y0,y1]
   ·exact ⟨_,rfl,⟨by simpa using hi,g,_,_,(.slice (some ⟨vb,vo,none⟩) xs[i].f2.size vc),rfl,by simp,by simpa using HV.out.2.kept hE4 (by simp)⟩,hE4⟩
 ·have HR:=Aside0.mk (show ∀ w v,v=.tuple #[.pointer none,.agg #[.slice none 0 0,.pointer none]]→lRes vk vv w xs (if true=true then none else some at_.toNat) v from fun w v h=>h)
  clear hb hL h0 h1
  go_enter Tryz.func217,Tryz.ntmps217
  go_wp2_with (go_at_call 219;go_loud (refine (c219 lb vk vv vlo vup _ xs lo up _ (blk_alloc HB.out _) (HL.out.kept ((Kept.refl [] w).alloc _) (by simp) (by simp) (by simp)) (by have:=L.out;omega) L.out.2).mono ?_;rw [hq];rintro e w2 ⟨rfl,hk⟩;have hX:=hk.blk (heap_alloc_new w (.cells #[.slice none 0 0,.pointer none] 224));have HX:=Aside0.mk hX;have HE:=Aside0.mk (((Kept.refl [] w).alloc _).trans hk:Ext w w2);have x0:=blk_cell hX 0;have x1:=blk_cell hX 1;have f0:=blk_frozen hX 0;have f1:=blk_frozen hX 1;simp only [List.getElem?_toArray,List.getElem?_cons_zero,List.getElem?_cons_succ] at x0 x1;clear hX hk))
  refine bodyPost_ret (v:=.tuple #[.pointer none,.agg #[.slice none 0 0,.pointer none]]) ?_ rfl ?_
  ·rw [results,show Tryz.f217.results= #[.tmp 2,.cell 3 224] from rfl]
   simp [go_sem,loadVar,asAddr,x0,x1]
  ·exact ⟨_,rfl,rfl,HE.out⟩
theorem c218 [Bd] (lb:Nat) (vk vv vlo vup:Value) (at_:Int) (xs:List S36) (lo up:Option (List UInt8)) (w:World) (hb:w.heap[lb]? =some (.cells #[vk,vv,.int .i64 at_,vlo,vup] 266 (0,0))) (hL:LstC w vk vv vlo vup xs lo up) (h0: -1≤at_) (h1:at_ < xs.length):
  Calls Tryz.prog 218 #[.pointer (some ⟨lb,0,none⟩)] w fun e w'=> ∃ v,e=.returned v∧lRes vk vv w' xs (if lAhead xs lo at_ then none else some at_.toNat) v∧Ext w w':=by
 have hu266:=Tryz.underlying266
 have hu224:=Tryz.underlying224
 have HB:=Aside0.mk hb
 have HL:=Aside0.mk hL
 have L:=Lib.hid (And.intro h0 h1)
 have bl:=blk_lt hb
 cases hq:lAhead xs lo at_
 ·have h0':0≤at_:=by
   apply Classical.byContradiction
   intro hn
   have:lAhead xs lo at_=true:=by unfold lAhead;rw [decide_eq_true (by omega:at_ < 0)];rfl
   rw [this] at hq
   cases hq
  obtain ⟨i,rfl⟩: ∃ i:Nat,at_=i:=⟨at_.toNat,by omega⟩
  have hi:i < xs.length:=by omega
  clear h0'
  clear hb hL h0 h1
  go_enter Tryz.func218,Tryz.ntmps218
  go_wp2_with (go_at_call 220;go_loud (refine (c220 lb vk vv vlo vup _ xs lo up _ (blk_alloc HB.out _) (HL.out.kept ((Kept.refl [] w).alloc _) (by simp) (by simp) (by simp)) (by have:=L.out;omega) (by have:=L.out;omega)).mono ?_;rw [hq];rintro e w2 ⟨rfl,hk⟩;have hX:=hk.blk (heap_alloc_new w (.cells #[.slice none 0 0,.pointer none] 224));have HX:=Aside0.mk hX;have HE:=Aside0.mk (((Kept.refl [] w).alloc _).trans hk:Ext w w2);have x0:=blk_cell hX 0;have x1:=blk_cell hX 1;have f0:=blk_frozen hX 0;have f1:=blk_frozen hX 1;simp only [List.getElem?_toArray,List.getElem?_cons_zero,List.getElem?_cons_succ] at x0 x1;clear hX hk))
  have hbw:=HB.out
  have hk0:w.cell? ⟨lb,0,none⟩=some vk:=blk_cell HB.out 0
  have hk1:w.cell? ⟨lb,1,none⟩=some vv:=blk_cell HB.out 1
  have hk2:w.cell? ⟨lb,2,none⟩=some (.int .i64 (i:Int)):=blk_cell HB.out 2
  obtain ⟨⟨A,c,rfl,hc,hn,hkeys⟩,⟨A',c',rfl,hc',hvals⟩, -, -⟩:=HL.out
  obtain ⟨g,cs,f,rfl,hbk,hkc⟩:=hkeys (by omega)
  obtain ⟨g',cs',f',rfl,hbv,hvc⟩:=hvals (by omega)
  obtain ⟨vu,qv,hrd⟩:=hvc i hi
  have HV:=Aside0.mk (And.intro qv hrd)
  obtain ⟨vb,vo,vc,_,_,rfl, -, -⟩:=hrd
  have bg':=World.block_lt_of_cell? _ _ qv
  have LN:=Lib.hid (And.intro hc (And.intro hc' hn))
  clear hkeys hvals hkc hvc hbk hbv hbw hc hc' hn
  refine wp_region_mix (fun w'=> ∃ x,w'=w.kt [] x) (by kernel_rfl) ?_
  obtain ⟨z0,hz0⟩: ∃ z,w2.drew=w.kt [] z:=(HE.out.drew).nx
  have hXd:w2.drew.heap[w.heap.size]? =_:=HX.out
  rw [hz0] at hXd ⊢
  clear hz0
  refine rseg [0,1,2,3,4,5,6,7,8,9,10,11,12,13,14,15,16,17,18] (f:=3) #[true,true,true,true,true,true,true,true,true,true,true,true,true,true,true,true,true,true,true,false,false,false] (by kernel_rfl) ⟨z0,rfl⟩ ?_
  simp only [pick,List.getElem?_cons_zero,List.getElem?_cons_succ]
  (repeat go_big_quiet_step (fail))
  refine wpQuiet_nil ?_
  have hz:=kept_kt z0
  refine rone (i:=19) (N:=some 26) #[true,true,true,true,true,true,true,true,true,true,true,true,true,true,true,true,true,true,true,true,false,false] rfl rfl (by kernel_rfl) (fun K hK=>?_)
  refine goes_ Tryz.func223 (by kernel_rfl) rfl #[.slice (some ⟨vb,vo,none⟩) xs[i].f2.size vc] (by rfl) rfl rfl (by first|rfl|(go_simp;done)|(go_simp;rfl)) ?_
  refine (c223 _ _ _ _).mono ?_
  rintro e w3 ⟨rfl,hk⟩
  refine ⟨_,rfl,hK _ _ (hz.trans hk).nx ?_⟩
  clear hK K
  have hX3:=hk.blk hXd
  have hE3:=hz.trans hk
  simp only [Act.put,List.setIfInBounds_toArray,List.set_cons_zero,List.set_cons_succ]
  refine rseg [20] (f:=1) #[true,true,true,true,true,true,true,true,true,true,true,true,true,true,true,true,true,true,true,true,true,false] (by kernel_rfl) hE3.nx ?_
  simp only [pick,List.getElem?_cons_zero,List.getElem?_cons_succ]
  (repeat go_big_quiet_step (fail))
  refine wpQuiet_nil ?_
  refine rone (i:=21) (N:=none) #[true,true,true,true,true,true,true,true,true,true,true,true,true,true,true,true,true,true,true,true,true,true] rfl rfl (by kernel_rfl) (fun K hK=>?_)
  have y0:=blk_cell hX3 0
  have y1:=blk_cell hX3 1
  have g0:=blk_frozen hX3 0
  have g1:=blk_frozen hX3 1
  simp only [List.getElem?_toArray,List.getElem?_cons_zero,List.getElem?_cons_succ] at y0 y1
  refine skip_ (w1:=(w3.setCell ⟨w.heap.size,0,none⟩ (.slice (some ⟨vb,vo,none⟩) xs[i].f2.size vc)).setCell ⟨w.heap.size,1,none⟩ (.pointer none)) rfl rfl ?_ ?_
  ·go_simp
  ·have hb0:=blk_put (cs':= #[.slice (some ⟨vb,vo,none⟩) xs[i].f2.size vc,.pointer none]) hX3 0 (.slice (some ⟨vb,vo,none⟩) xs[i].f2.size vc) rfl
   have hb1:=blk_put (cs':= #[.slice (some ⟨vb,vo,none⟩) xs[i].f2.size vc,.pointer none]) hb0 1 (.pointer none) rfl
   have hE4:=(hE3.setNew (p:=⟨w.heap.size,0,none⟩) (Nat.le_refl _) (.slice (some ⟨vb,vo,none⟩) xs[i].f2.size vc)).setNew (p:=⟨w.heap.size,1,none⟩) (Nat.le_refl _) (.pointer none)
   refine hK _ _ hE4.nx ?_
   clear hK K y0 y1 g0 g1
   generalize ((w3.setCell ⟨w.heap.size,0,none⟩ (.slice (some ⟨vb,vo,none⟩) xs[i].f2.size vc)).setCell ⟨w.heap.size,1,none⟩ (.pointer none))=w4 at *
   refine rend (by kernel_rfl) ?_
   have y0:=blk_cell hb1 0
   have y1:=blk_cell hb1 1
   simp only [List.getElem?_toArray,List.getElem?_cons_zero,List.getElem?_cons_succ] at y0 y1
   go_wp2
   refine bodyPost_ret (v:=.tuple #[.pointer (some ⟨g,i*2,none⟩),.agg #[.slice (some ⟨vb,vo,none⟩) xs[i].f2.size vc,.pointer none]]) ?_ rfl ?_
   ·rw [results,show Tryz.f218.results= #[.tmp 2,.cell 3 224] from rfl]
    clear hb0 hb1 hE4 hE3 hX3
    simp [go_sem,loadVar,asAddr,y0,y1]
   ·exact ⟨_,rfl,⟨by simpa using hi,g,_,_,(.slice (some ⟨vb,vo,none⟩) xs[i].f2.size vc),rfl,by simp,by simpa using HV.out.2.kept hE4 (by simp)⟩,hE4⟩
 ·have HR:=Aside0.mk (show ∀ w v,v=.tuple #[.pointer none,.agg #[.slice none 0 0,.pointer none]]→lRes vk vv w xs (if true=true then none else some at_.toNat) v from fun w v h=>h)
  clear hb hL h0 h1
  go_enter Tryz.func218,Tryz.ntmps218
  go_wp2_with (go_at_call 220;go_loud (refine (c220 lb vk vv vlo vup _ xs lo up _ (blk_alloc HB.out _) (HL.out.kept ((Kept.refl [] w).alloc _) (by simp) (by simp) (by simp)) (by have:=L.out;omega) (by have:=L.out;omega)).mono ?_;rw [hq];rintro e w2 ⟨rfl,hk⟩;have hX:=hk.blk (heap_alloc_new w (.cells #[.slice none 0 0,.pointer none] 224));have HX:=Aside0.mk hX;have HE:=Aside0.mk (((Kept.refl [] w).alloc _).trans hk:Ext w w2);have x0:=blk_cell hX 0;have x1:=blk_cell hX 1;have f0:=blk_frozen hX 0;have f1:=blk_frozen hX 1;simp only [List.getElem?_toArray,List.getElem?_cons_zero,List.getElem?_cons_succ] at x0 x1;clear hX hk))
  refine bodyPost_ret (v:=.tuple #[.pointer none,.agg #[.slice none 0 0,.pointer none]]) ?_ rfl ?_
  ·rw [results,show Tryz.f218.results= #[.tmp 2,.cell 3 224] from rfl]
   simp [go_sem,loadVar,asAddr,x0,x1]
  ·exact ⟨_,rfl,rfl,HE.out⟩
def lSeek (xs:List S36) (key:List UInt8):Nat:=(xs.takeWhile (fun x=>decide (Lib.compareBytes (bs x.f0) key < 0))).length
theorem lSeek_le [Bd] (xs:List S36) (key:List UInt8):lSeek xs key≤xs.length:=by
 unfold lSeek
 exact List.Sublist.length_le (List.takeWhile_sublist _)
theorem lSeek_lt [Bd] (xs:List S36) (key:List UInt8) (i:Nat) (h:i < lSeek xs key) (hi:i < xs.length):Lib.compareBytes (bs xs[i].f0) key < 0:=by
 induction xs generalizing i with
 |nil=>simp at hi
 |cons x xs ih=>
  by_cases hx:Lib.compareBytes (bs x.f0) key < 0
  ·have e:lSeek (x::xs) key=lSeek xs key+1:=by unfold lSeek;simp [List.takeWhile_cons,hx]
   cases i with
   |zero=>simpa using hx
   |succ i=>simpa using ih i (by omega) (by simpa using hi)
  ·have e:lSeek (x::xs) key=0:=by unfold lSeek;simp [List.takeWhile_cons,hx]
   omega
theorem lSeek_ge [Bd] (xs:List S36) (key:List UInt8) (h:lSeek xs key < xs.length): ¬ Lib.compareBytes (bs xs[lSeek xs key].f0) key < 0:=by
 induction xs with
 |nil=>simp at h
 |cons x xs ih=>
  by_cases hx:Lib.compareBytes (bs x.f0) key < 0
  ·have e:lSeek (x::xs) key=lSeek xs key+1:=by unfold lSeek;simp [List.takeWhile_cons,hx]
   have h2:lSeek xs key < xs.length:=by rw [e] at h;simpa using h
   have:=ih h2
   simpa [e] using this
  ·have e:lSeek (x::xs) key=0:=by unfold lSeek;simp [List.takeWhile_cons,hx]
   simpa [e] using hx
theorem lSeek_is [Bd] (xs:List S36) (key:List UInt8) (j:Nat) (hj:j≤xs.length) (h1: ∀ i (h:i < xs.length),i < j→Lib.compareBytes (bs xs[i].f0) key < 0) (h2: ∀ (h:j < xs.length), ¬ Lib.compareBytes (bs xs[j].f0) key < 0):lSeek xs key=j:=by
 have hle:=lSeek_le xs key
 apply Classical.byContradiction
 intro hne
 by_cases h:lSeek xs key < j
 ·exact lSeek_ge xs key (by omega) (h1 _ (by omega) h)
 ·exact h2 (by omega) (lSeek_lt xs key j (by omega) (by omega))
theorem c222 [Bd] (lb:Nat) (vk vv vlo vup kv:Value) (at_:Int) (xs:List S36) (lo up:Option (List UInt8)) (key:List UInt8) (w:World) (hb:w.heap[lb]? =some (.cells #[vk,vv,.int .i64 at_,vlo,vup] 266 (0,0))) (hL:LstC w vk vv vlo vup xs lo up) (hk:RdS w kv key) (hLB:autoParam (Bd.B≤lb) lb0._auto_1):
  Calls Tryz.prog 222 #[.pointer (some ⟨lb,0,none⟩),kv] w fun e w'=>e=.returned (.tuple #[])∧w'.heap[lb]? =some (.cells #[vk,vv,.int .i64 (lSeek xs key:Nat),vlo,vup] 266 (0,0))∧Kept [266] w w':=by
 have hu266:=Tryz.underlying266
 have hu182:=Tryz.underlying182
 have HB:=Aside0.mk hb
 have HL:=Aside0.mk hL
 have HK:=Aside0.mk hk
 have bl:=blk_lt hb
 have k2:=blk_cell hb 2
 have f2:=blk_frozen hb 2
 simp only [List.getElem?_toArray,List.getElem?_cons_zero,List.getElem?_cons_succ] at k2
 clear hb hL hk
 go_enter Tryz.func222,Tryz.ntmps222
 go_wp2
 have hb1:=blk_put (cs':= #[vk,vv,.int .i64 0,vlo,vup]) HB.out 2 (.int .i64 0) rfl
 have hK1:=(Kept.refl [266] w).setCell (p:=⟨lb,2,none⟩) HB.out (by decide) (.int .i64 0) hLB
 have HB1:=Aside0.mk hb1
 have HK1:=Aside0.mk hK1
 clear hb1 hK1 k2 f2 bl
 generalize w.setCell ⟨lb,2,none⟩ (.int .i64 0)=W at *
 obtain ⟨⟨A,c,rfl,hc,hn,hkeys⟩, -, -, -⟩:=HL.out
 have HN:=Lib.hid (And.intro hc hn)
 have HKEYS:=Aside0.mk hkeys
 clear hc hn hkeys
 obtain ⟨kb,ko,kc,_,_,rfl, -, -⟩:=HK.out
 go_loopg [7] xs.length (fun kq v7 wr=> ∃ j:Nat,Aside0 (j≤xs.length∧xs.length≤kq+j∧wr.heap[lb]? =some (.cells #[.slice A xs.length c,vv,.int .i64 (j:Nat),vlo,vup] 266 (0,0))∧Kept [266] w wr∧ ∀ i (h:i < xs.length),i < j→Lib.compareBytes (bs xs[i].f0) key < 0))
 case atStart=>exact ⟨0,⟨by omega,by omega,HB1.out,HK1.out,by intro i h1 h2;omega⟩⟩
 case round=>
  clear HB1 HK1
  obtain ⟨j,⟨hj1,hj2,hb,hkk,hP⟩⟩:=hrel
  have k0:=blk_cell hb 0
  have k2:=blk_cell hb 2
  have f2:=blk_frozen hb 2
  have bl:=blk_lt hb
  simp only [List.getElem?_toArray,List.getElem?_cons_zero,List.getElem?_cons_succ] at k0 k2
  have HB1:=Aside0.mk hb
  have HK1:=Aside0.mk hkk
  have HP:=Lib.hid hP
  clear hb hkk hP
  have hnl:=HN.out.2
  by_cases hj:j < xs.length
  ·have d7:decide ((j:Int) < (xs.length:Int))=true:=by simp [hj]
   have d7':decide (j < xs.length)=true:=by simp [hj]
   obtain ⟨g,cs,f,rfl,hbk,hkc⟩:=HKEYS.out (by omega)
   obtain ⟨ku,q1,q2,q3⟩:=hkc j hj
   have bg:=blk_lt (HK1.out.blkOf hbk (by decide))
   have hs:=solid_of hbk (by decide:(182:Nat)∉[266])
   replace q1:=HK1.out.cell (p:=⟨g,j*2,none⟩) hs q1
   have HQ:=Lib.hid (q3.kept HK1.out (by decide))
   have HKK:=Lib.hid (HK.out.kept HK1.out (by decide))
   obtain ⟨qb,qo,qc,_,_,rfl, -, -⟩:=q3
   have hcmp: ∀ x:Nx [] wr,Calls Tryz.prog 65 #[.slice (some ⟨qb,qo,none⟩) (bs xs[j].f0).length qc,.slice (some ⟨kb,ko,none⟩) key.length kc] (wr.kt [] x) fun e w'=>e=.returned (.int .i64 (Lib.compareBytes (bs xs[j].f0) key))∧wr.kt [] x=w':=
    fun x=>compare_any _ _ _ _ _ (HQ.out.kept x.ok (by simp)) (HKK.out.kept x.ok (by simp))
   have HCM:=Lib.hid hcmp
   clear hcmp hkc hbk hs q2 HQ HKK
   cases hcv:decide (Lib.compareBytes (bs xs[j].f0) key < 0)
   ·have HCV:=Lib.hid hcv
    generalize (bs xs[j].f0).length=ql at *
    generalize Lib.compareBytes (bs xs[j].f0) key=cv at hcv HCM
    go_wp2
    (refine wp_region_kt [] (by kernel_rfl) (lexB_of (by kernel_rfl)) ?_;(repeat (any_goals (first|go_big_quiet_step (exact quiet_same (HCM.out _))|(refine wpQuiet_split _ rfl rfl (fun hsp=>?_) (fun hsp=>?_)<;>simp only [hsp]))));all_goals (refine wpQuiet_nil ?_;rintro wq ⟨y,hy⟩;have hk:=kept_kt y;rw [←hy] at hk;clear hy y))
    go_wp2
    go_end0
    have e:=lSeek_is xs key j hj1 HP.out (fun h=>by simpa using HCV.out)
    exact ⟨rfl,by rw [e];exact hk.blk HB1.out,HK1.out.trans (Kept.of_ext hk _)⟩
   ·have HCV:=Lib.hid hcv
    generalize (bs xs[j].f0).length=ql at *
    generalize Lib.compareBytes (bs xs[j].f0) key=cv at hcv HCM
    go_wp2
    (refine wp_region_kt [] (by kernel_rfl) (lexB_of (by kernel_rfl)) ?_;(repeat (any_goals (first|go_big_quiet_step (exact quiet_same (HCM.out _))|(refine wpQuiet_split _ rfl rfl (fun hsp=>?_) (fun hsp=>?_)<;>simp only [hsp]))));all_goals (refine wpQuiet_nil ?_;rintro wq ⟨y,hy⟩;have hk:=kept_kt y;rw [←hy] at hk;clear hy y))
    have HB2:=Aside0.mk (hk.blk HB1.out)
    have HK2:=Aside0.mk (HK1.out.trans (Kept.of_ext hk _))
    clear k0 k2 f2 bl bg q1 hk
    have k2:=blk_cell HB2.out 2
    have f2:=blk_frozen HB2.out 2
    simp only [List.getElem?_toArray,List.getElem?_cons_zero,List.getElem?_cons_succ] at k2
    go_wp2
    go_roundg (gk - 1)
    case measure=>omega
    case rel=>
     refine ⟨j+1,⟨by omega,by omega,?_,HK2.out.setCell (p:=⟨lb,2,none⟩) HB2.out (by decide) _ hLB,fun i h hi=>?_⟩⟩
     ·exact blk_put HB2.out 2 _ (by simp)
     ·by_cases hij:i=j
      ·subst hij;simpa using HCV.out
      ·exact HP.out i h (by omega)
  ·have d7:decide ((j:Int) < (xs.length:Int))=false:=by simp;omega
   have d7':decide (j < xs.length)=false:=by simp;omega
   go_wp2
   (refine wp_region_kt [] (by kernel_rfl) (lexB_of (by kernel_rfl)) ?_;(repeat (any_goals (first|go_big_quiet_step (fail)|(refine wpQuiet_split _ rfl rfl (fun hsp=>?_) (fun hsp=>?_)<;>simp only [hsp]))));all_goals (refine wpQuiet_nil ?_;rintro wq ⟨y,hy⟩;have hk:=kept_kt y;rw [←hy] at hk;clear hy y))
   go_wp2
   go_end0
   obtain rfl:j=xs.length:=by omega
   have e:=lSeek_is xs key xs.length hj1 HP.out (fun h=>absurd h (by omega))
   exact ⟨rfl,by rw [e];exact hk.blk HB1.out,HK1.out.trans (Kept.of_ext hk _)⟩
theorem lRes_form [Bd] {vk vv:Value} {w:World} {xs:List S36} {i:Option Nat} {v:Value} (h:lRes vk vv w xs i v): ∃ p A n c,v=.tuple #[.pointer p,.agg #[.slice A n c,.pointer none]]:=by
 cases i with
 |none=>exact ⟨none,none,0,0,h⟩
 |some i=>
  obtain ⟨_,g,n,c,vu,_,rfl,b,o,c',_,_,rfl,_⟩:=h
  exact ⟨_,_,_,_,rfl⟩
theorem lRes.setN [Bd] {vk vv:Value} {w:World} {xs:List S36} {i:Option Nat} {v:Value} (h:lRes vk vv w xs i v) {p:Addr} {cs:Array Value} {t:TypeId} {f:Nat×Nat} (hb:w.heap[p.block]? =some (.cells cs t f)) (ht:t∉[5]) (u:Value):lRes vk vv (w.setCell p u) xs i v:=by
 cases i with
 |none=>exact h
 |some i=>
  obtain ⟨hh,g,n,c,vu,q1,q2,q3⟩:=h
  exact ⟨hh,g,n,c,vu,q1,q2,q3.setN hb ht u⟩
theorem lRes.kept [Bd] {vk vv:Value} {w w':World} {xs:List S36} {i:Option Nat} {v:Value} {ts:List TypeId} (h:lRes vk vv w xs i v) (hk:Kept ts w w') (h5:5∉ts):lRes vk vv w' xs i v:=by
 cases i with
 |none=>exact h
 |some i=>
  obtain ⟨q1,g,n,c,vu,q2,q3,q4⟩:=h
  exact ⟨q1,g,n,c,vu,q2,q3,q4.kept hk h5⟩
theorem setCell_size [Bd] (w:World) (a:Addr) (v:Value):(w.setCell a v).heap.size=w.heap.size:=by simp [World.setCell]
structure LDone [Bd] (w w':World) (lb:Nat) (vk vv vlo vup:Value) (xs:List S36) (at_:Int) (i:Option Nat) (e:Ending):Prop where
 res: ∃ v,e=.returned v∧lRes vk vv w' xs i v
 row:w'.heap[lb]? =some (.cells #[vk,vv,.int .i64 at_,vlo,vup] 266 (0,0))
 kept:Kept [266] w w'
theorem c208 [Bd] (lb:Nat) (vk vv vlo vup:Value) (at_:Int) (xs:List S36) (lo up:Option (List UInt8)) (w:World) (hb:w.heap[lb]? =some (.cells #[vk,vv,.int .i64 at_,vlo,vup] 266 (0,0))) (hL:LstC w vk vv vlo vup xs lo up) (hLB:autoParam (Bd.B≤lb) lb0._auto_1):
  Calls Tryz.prog 208 #[.pointer (some ⟨lb,0,none⟩)] w fun e w'=>LDone w w' lb vk vv vlo vup xs 0 (if lBehind xs up 0 then none else some 0) e:=by
 have hu266:=Tryz.underlying266
 have hu224:=Tryz.underlying224
 have HB:=Aside0.mk hb
 have HL:=Aside0.mk hL
 have bl:=blk_lt hb
 have k2:=blk_cell hb 2
 have f2:=blk_frozen hb 2
 simp only [List.getElem?_toArray,List.getElem?_cons_zero,List.getElem?_cons_succ] at k2
 clear hb hL
 generalize hR:(if lBehind xs up 0=true then none else some 0:Option Nat)=R
 have HR:=Lib.hid hR
 clear hR
 go_enter Tryz.func208,Tryz.ntmps208
 go_wp2_with (go_at_call 217;go_loud (
  have hX:=heap_alloc_new (w.setCell ⟨lb,2,none⟩ (.int .i64 0)) (.cells #[.slice none 0 0,.pointer none] 224);rw [setCell_size] at hX;
  have hb1:=blk_alloc (blk_put (cs':= #[vk,vv,.int .i64 0,vlo,vup]) HB.out 2 (.int .i64 0) rfl) (.cells #[.slice none 0 0,.pointer none] 224);
  have hK:=((Kept.refl [266] w).setCell (p:=⟨lb,2,none⟩) HB.out (by decide) (.int .i64 0) hLB).alloc (.cells #[.slice none 0 0,.pointer none] 224);
  refine (c217 lb vk vv vlo vup 0 xs lo up _ hb1 (HL.out.kept hK (by decide) (by decide) (by decide)) (by omega) (by omega)).mono ?_;rintro e w2 ⟨v,rfl,hv,hk⟩;
  have hX2:=hk.blk hX;have HX:=Aside0.mk hX2;have HB2:=Aside0.mk (hk.blk hb1);have HK2:=Aside0.mk (hK.trans (Kept.of_ext hk _));have HV:Aside0 (lRes vk vv w2 xs R v):=⟨by rw [←HR.out];exact hv⟩;
  obtain ⟨p,A,n,c,rfl⟩:=lRes_form hv;
  have x0:=blk_cell hX2 0;have x1:=blk_cell hX2 1;have f0:=blk_frozen hX2 0;have f1:=blk_frozen hX2 1;simp only [List.getElem?_toArray,List.getElem?_cons_zero,List.getElem?_cons_succ] at x0 x1;clear hX hb1 hK hX2 hk hv))
 have hX2:=blk_put (cs':= #[.slice A n c,.pointer none]) HX.out 0 (.slice A n c) rfl
 have hK2:=HK2.out.setNew (p:=⟨w.heap.size,0,none⟩) (Nat.le_refl _) (.slice A n c)
 have hV2:=HV.out.setN (p:=⟨w.heap.size,0,none⟩) HX.out (by decide) (.slice A n c)
 have hB2:=blk_far HB2.out (p:=⟨w.heap.size,0,none⟩) (Nat.ne_of_lt bl) (.slice A n c)
 clear x0 x1 f0 f1
 generalize w2.setCell ⟨w.heap.size,0,none⟩ (.slice A n c)=w3 at *
 have y0:=blk_cell hX2 0
 have y1:=blk_cell hX2 1
 simp only [List.getElem?_toArray,List.getElem?_cons_zero,List.getElem?_cons_succ] at y0 y1
 refine bodyPost_ret (v:=.tuple #[.pointer p,.agg #[.slice A n c,.pointer none]]) ?_ rfl ?_
 ·rw [results,show Tryz.f208.results= #[.tmp 2,.cell 3 224] from rfl]
  clear hX2 hK2 hV2 hB2
  simp [go_sem,loadVar,asAddr,y0,y1]
 ·exact ⟨⟨_,rfl,hV2⟩,hB2,hK2⟩
def lNext (xs:List S36) (up:Option (List UInt8)) (at_:Int):Int:=if lBehind xs up at_ then at_ else at_+1
theorem c210 [Bd] (lb:Nat) (vk vv vlo vup:Value) (at_:Int) (xs:List S36) (lo up:Option (List UInt8)) (w:World) (hb:w.heap[lb]? =some (.cells #[vk,vv,.int .i64 at_,vlo,vup] 266 (0,0))) (hL:LstC w vk vv vlo vup xs lo up) (h0:0≤at_) (h1:at_≤xs.length) (hn:xs.length≤2^31) (hLB:autoParam (Bd.B≤lb) lb0._auto_1):
  Calls Tryz.prog 210 #[.pointer (some ⟨lb,0,none⟩)] w fun e w'=>LDone w w' lb vk vv vlo vup xs (lNext xs up at_) (if lBehind xs up (lNext xs up at_) then none else some (lNext xs up at_).toNat) e:=by
 have hu266:=Tryz.underlying266
 have hu224:=Tryz.underlying224
 have HB:=Aside0.mk hb
 have HL:=Aside0.mk hL
 have bl:=blk_lt hb
 have k2:=blk_cell hb 2
 have f2:=blk_frozen hb 2
 simp only [List.getElem?_toArray,List.getElem?_cons_zero,List.getElem?_cons_succ] at k2
 clear hb hL
 generalize hR:(if lBehind xs up (lNext xs up at_)=true then none else some (lNext xs up at_).toNat:Option Nat)=R
 have HR:=Lib.hid hR
 clear hR
 have L:=Lib.hid (And.intro h0 (And.intro h1 hn))
 cases hq:lBehind xs up at_
 ·have hat:lNext xs up at_=at_+1:=by simp [lNext,hq]
  have hlt:at_ < xs.length:=by
   apply Classical.byContradiction
   intro hge
   have:lBehind xs up at_=true:=by unfold lBehind;rw [decide_eq_true (by omega:(xs.length:Int)≤at_)];rfl
   rw [this] at hq;cases hq
  rw [hat] at HR ⊢
  have hw:wrap64 (at_+1)=at_+1:=by unfold wrap64;omega
  have L2:=Lib.hid hlt
  clear hat hlt h0 h1 hn
  go_enter Tryz.func210,Tryz.ntmps210
  go_wp2_with (first
   |(go_at_call 219;go_loud (refine (c219 lb vk vv vlo vup _ xs lo up _ (blk_alloc HB.out _) (HL.out.kept ((Kept.refl [] w).alloc _) (by simp) (by simp) (by simp)) (by have:=L.out;omega) L.out.2.1).mono ?_;rw [hq];rintro e w1 ⟨rfl,hk1⟩;have hX:=hk1.blk (heap_alloc_new w (.cells #[.slice none 0 0,.pointer none] 224));have hb1:=hk1.blk (blk_alloc HB.out (.cells #[.slice none 0 0,.pointer none] 224));have hK:=((Kept.refl [266] w).alloc (.cells #[.slice none 0 0,.pointer none] 224)).trans (Kept.of_ext hk1 _);clear k2 f2;have k2:=blk_cell hb1 2;have f2:=blk_frozen hb1 2;simp only [List.getElem?_toArray,List.getElem?_cons_zero,List.getElem?_cons_succ] at k2;have X1:=Aside0.mk hX;have B1:=Aside0.mk hb1;have K1:=Aside0.mk hK;clear hX hb1 hK hk1))
   |(go_at_call 217;go_loud (
    have hX:=blk_far X1.out (p:=⟨lb,2,none⟩) (Nat.ne_of_gt bl) (.int .i64 (at_+1));
    have hb1:=blk_put (cs':= #[vk,vv,.int .i64 (at_+1),vlo,vup]) B1.out 2 (.int .i64 (at_+1)) rfl;
    have hK:=K1.out.setCell (p:=⟨lb,2,none⟩) B1.out (by decide) (.int .i64 (at_+1)) hLB;
    refine (c217 lb vk vv vlo vup _ xs lo up _ hb1 (HL.out.kept hK (by decide) (by decide) (by decide)) (by have:=L.out;omega) (by have:=L2.out;omega)).mono ?_;rintro e w2 ⟨v,rfl,hv,hk⟩;
    have hX2:=hk.blk hX;have HX:=Aside0.mk hX2;have HB2:=Aside0.mk (hk.blk hb1);have HK2:=Aside0.mk (hK.trans (Kept.of_ext hk _));have HV:Aside0 (lRes vk vv w2 xs R v):=⟨by rw [←HR.out];exact hv⟩;
    obtain ⟨p,A,n,c,rfl⟩:=lRes_form hv;clear k2 f2;
    have x0:=blk_cell hX2 0;have x1:=blk_cell hX2 1;have f0:=blk_frozen hX2 0;have f1:=blk_frozen hX2 1;simp only [List.getElem?_toArray,List.getElem?_cons_zero,List.getElem?_cons_succ] at x0 x1;clear hX hb1 hK hX2 hk hv)))
  have hX2:=blk_put (cs':= #[.slice A n c,.pointer none]) HX.out 0 (.slice A n c) rfl
  have hK2:=HK2.out.setNew (p:=⟨w.heap.size,0,none⟩) (Nat.le_refl _) (.slice A n c)
  have hV2:=HV.out.setN (p:=⟨w.heap.size,0,none⟩) HX.out (by decide) (.slice A n c)
  have hB2:=blk_far HB2.out (p:=⟨w.heap.size,0,none⟩) (Nat.ne_of_lt bl) (.slice A n c)
  clear x0 x1 f0 f1
  generalize w2.setCell ⟨w.heap.size,0,none⟩ (.slice A n c)=w3 at *
  have y0:=blk_cell hX2 0
  have y1:=blk_cell hX2 1
  simp only [List.getElem?_toArray,List.getElem?_cons_zero,List.getElem?_cons_succ] at y0 y1
  refine bodyPost_ret (v:=.tuple #[.pointer p,.agg #[.slice A n c,.pointer none]]) ?_ rfl ?_
  ·rw [results,show Tryz.f210.results= #[.tmp 2,.cell 3 224] from rfl]
   clear hX2 hK2 hV2 hB2
   simp [go_sem,loadVar,asAddr,y0,y1]
  ·exact ⟨⟨_,rfl,hV2⟩,hB2,hK2⟩
 ·have hat:lNext xs up at_=at_:=by simp [lNext,hq]
  rw [hat] at HR ⊢
  clear hat h0 h1 hn
  go_enter Tryz.func210,Tryz.ntmps210
  go_wp2_with (first
   |(go_at_call 219;go_loud (refine (c219 lb vk vv vlo vup _ xs lo up _ (blk_alloc HB.out _) (HL.out.kept ((Kept.refl [] w).alloc _) (by simp) (by simp) (by simp)) (by have:=L.out;omega) L.out.2.1).mono ?_;rw [hq];rintro e w1 ⟨rfl,hk1⟩;have hX:=hk1.blk (heap_alloc_new w (.cells #[.slice none 0 0,.pointer none] 224));have hb1:=hk1.blk (blk_alloc HB.out (.cells #[.slice none 0 0,.pointer none] 224));have hK:=((Kept.refl [266] w).alloc (.cells #[.slice none 0 0,.pointer none] 224)).trans (Kept.of_ext hk1 _);clear k2 f2;have k2:=blk_cell hb1 2;have f2:=blk_frozen hb1 2;simp only [List.getElem?_toArray,List.getElem?_cons_zero,List.getElem?_cons_succ] at k2;have X1:=Aside0.mk hX;have B1:=Aside0.mk hb1;have K1:=Aside0.mk hK;clear hX hb1 hK hk1))
   |(go_at_call 217;go_loud (
    have hX:=X1.out;have hb1:=B1.out;have hK:=K1.out;
    refine (c217 lb vk vv vlo vup _ xs lo up _ hb1 (HL.out.kept hK (by decide) (by decide) (by decide)) (by have:=L.out;omega) (by have:=L.out;omega)).mono ?_;rintro e w2 ⟨v,rfl,hv,hk⟩;
    have hX2:=hk.blk hX;have HX:=Aside0.mk hX2;have HB2:=Aside0.mk (hk.blk hb1);have HK2:=Aside0.mk (hK.trans (Kept.of_ext hk _));have HV:Aside0 (lRes vk vv w2 xs R v):=⟨by rw [←HR.out];exact hv⟩;
    obtain ⟨p,A,n,c,rfl⟩:=lRes_form hv;clear k2 f2;
    have x0:=blk_cell hX2 0;have x1:=blk_cell hX2 1;have f0:=blk_frozen hX2 0;have f1:=blk_frozen hX2 1;simp only [List.getElem?_toArray,List.getElem?_cons_zero,List.getElem?_cons_succ] at x0 x1;clear hX hb1 hK hX2 hk hv)))
  have hX2:=blk_put (cs':= #[.slice A n c,.pointer none]) HX.out 0 (.slice A n c) rfl
  have hK2:=HK2.out.setNew (p:=⟨w.heap.size,0,none⟩) (Nat.le_refl _) (.slice A n c)
  have hV2:=HV.out.setN (p:=⟨w.heap.size,0,none⟩) HX.out (by decide) (.slice A n c)
  have hB2:=blk_far HB2.out (p:=⟨w.heap.size,0,none⟩) (Nat.ne_of_lt bl) (.slice A n c)
  clear x0 x1 f0 f1
  generalize w2.setCell ⟨w.heap.size,0,none⟩ (.slice A n c)=w3 at *
  have y0:=blk_cell hX2 0
  have y1:=blk_cell hX2 1
  simp only [List.getElem?_toArray,List.getElem?_cons_zero,List.getElem?_cons_succ] at y0 y1
  refine bodyPost_ret (v:=.tuple #[.pointer p,.agg #[.slice A n c,.pointer none]]) ?_ rfl ?_
  ·rw [results,show Tryz.f210.results= #[.tmp 2,.cell 3 224] from rfl]
   clear hX2 hK2 hV2 hB2
   simp [go_sem,loadVar,asAddr,y0,y1]
  ·exact ⟨⟨_,rfl,hV2⟩,hB2,hK2⟩
def lPrev (xs:List S36) (lo:Option (List UInt8)) (at_:Int):Int:=if lAhead xs lo at_ then at_ else at_ - 1
theorem c212 [Bd] (lb:Nat) (vk vv vlo vup:Value) (at_:Int) (xs:List S36) (lo up:Option (List UInt8)) (w:World) (hb:w.heap[lb]? =some (.cells #[vk,vv,.int .i64 at_,vlo,vup] 266 (0,0))) (hL:LstC w vk vv vlo vup xs lo up) (h0: -1≤at_) (h1:at_ < xs.length) (hn:xs.length≤2^31) (hLB:autoParam (Bd.B≤lb) lb0._auto_1):
  Calls Tryz.prog 212 #[.pointer (some ⟨lb,0,none⟩)] w fun e w'=>LDone w w' lb vk vv vlo vup xs (lPrev xs lo at_) (if lAhead xs lo (lPrev xs lo at_) then none else some (lPrev xs lo at_).toNat) e:=by
 have hu266:=Tryz.underlying266
 have hu224:=Tryz.underlying224
 have HB:=Aside0.mk hb
 have HL:=Aside0.mk hL
 have bl:=blk_lt hb
 have k2:=blk_cell hb 2
 have f2:=blk_frozen hb 2
 simp only [List.getElem?_toArray,List.getElem?_cons_zero,List.getElem?_cons_succ] at k2
 clear hb hL
 generalize hR:(if lAhead xs lo (lPrev xs lo at_)=true then none else some (lPrev xs lo at_).toNat:Option Nat)=R
 have HR:=Lib.hid hR
 clear hR
 have L:=Lib.hid (And.intro h0 (And.intro h1 hn))
 cases hq:lAhead xs lo at_
 ·have hat:lPrev xs lo at_=at_ - 1:=by simp [lPrev,hq]
  have hlt:0≤at_:=by
   apply Classical.byContradiction
   intro hge
   have:lAhead xs lo at_=true:=by unfold lAhead;rw [decide_eq_true (by omega:at_ < 0)];rfl
   rw [this] at hq;cases hq
  rw [hat] at HR ⊢
  have hw:wrap64 (at_ - 1)=at_ - 1:=by unfold wrap64;omega
  have L2:=Lib.hid hlt
  clear hat hlt h0 h1 hn
  go_enter Tryz.func212,Tryz.ntmps212
  go_wp2_with (first
   |(go_at_call 220;go_loud (refine (c220 lb vk vv vlo vup _ xs lo up _ (blk_alloc HB.out _) (HL.out.kept ((Kept.refl [] w).alloc _) (by simp) (by simp) (by simp)) (by have:=L.out;omega) (by have:=L.out;omega)).mono ?_;rw [hq];rintro e w1 ⟨rfl,hk1⟩;have hX:=hk1.blk (heap_alloc_new w (.cells #[.slice none 0 0,.pointer none] 224));have hb1:=hk1.blk (blk_alloc HB.out (.cells #[.slice none 0 0,.pointer none] 224));have hK:=((Kept.refl [266] w).alloc (.cells #[.slice none 0 0,.pointer none] 224)).trans (Kept.of_ext hk1 _);clear k2 f2;have k2:=blk_cell hb1 2;have f2:=blk_frozen hb1 2;simp only [List.getElem?_toArray,List.getElem?_cons_zero,List.getElem?_cons_succ] at k2;have X1:=Aside0.mk hX;have B1:=Aside0.mk hb1;have K1:=Aside0.mk hK;clear hX hb1 hK hk1))
   |(go_at_call 218;go_loud (
    have hX:=blk_far X1.out (p:=⟨lb,2,none⟩) (Nat.ne_of_gt bl) (.int .i64 (at_ - 1));
    have hb1:=blk_put (cs':= #[vk,vv,.int .i64 (at_ - 1),vlo,vup]) B1.out 2 (.int .i64 (at_ - 1)) rfl;
    have hK:=K1.out.setCell (p:=⟨lb,2,none⟩) B1.out (by decide) (.int .i64 (at_ - 1)) hLB;
    refine (c218 lb vk vv vlo vup _ xs lo up _ hb1 (HL.out.kept hK (by decide) (by decide) (by decide)) (by have:=L2.out;omega) (by have:=L.out;omega)).mono ?_;rintro e w2 ⟨v,rfl,hv,hk⟩;
    have hX2:=hk.blk hX;have HX:=Aside0.mk hX2;have HB2:=Aside0.mk (hk.blk hb1);have HK2:=Aside0.mk (hK.trans (Kept.of_ext hk _));have HV:Aside0 (lRes vk vv w2 xs R v):=⟨by rw [←HR.out];exact hv⟩;
    obtain ⟨p,A,n,c,rfl⟩:=lRes_form hv;clear k2 f2;
    have x0:=blk_cell hX2 0;have x1:=blk_cell hX2 1;have f0:=blk_frozen hX2 0;have f1:=blk_frozen hX2 1;simp only [List.getElem?_toArray,List.getElem?_cons_zero,List.getElem?_cons_succ] at x0 x1;clear hX hb1 hK hX2 hk hv)))
  have hX2:=blk_put (cs':= #[.slice A n c,.pointer none]) HX.out 0 (.slice A n c) rfl
  have hK2:=HK2.out.setNew (p:=⟨w.heap.size,0,none⟩) (Nat.le_refl _) (.slice A n c)
  have hV2:=HV.out.setN (p:=⟨w.heap.size,0,none⟩) HX.out (by decide) (.slice A n c)
  have hB2:=blk_far HB2.out (p:=⟨w.heap.size,0,none⟩) (Nat.ne_of_lt bl) (.slice A n c)
  clear x0 x1 f0 f1
  generalize w2.setCell ⟨w.heap.size,0,none⟩ (.slice A n c)=w3 at *
  have y0:=blk_cell hX2 0
  have y1:=blk_cell hX2 1
  simp only [List.getElem?_toArray,List.getElem?_cons_zero,List.getElem?_cons_succ] at y0 y1
  refine bodyPost_ret (v:=.tuple #[.pointer p,.agg #[.slice A n c,.pointer none]]) ?_ rfl ?_
  ·rw [results,show Tryz.f212.results= #[.tmp 2,.cell 3 224] from rfl]
   clear hX2 hK2 hV2 hB2
   simp [go_sem,loadVar,asAddr,y0,y1]
  ·exact ⟨⟨_,rfl,hV2⟩,hB2,hK2⟩
 ·have hat:lPrev xs lo at_=at_:=by simp [lPrev,hq]
  rw [hat] at HR ⊢
  clear hat h0 h1 hn
  go_enter Tryz.func212,Tryz.ntmps212
  go_wp2_with (first
   |(go_at_call 220;go_loud (refine (c220 lb vk vv vlo vup _ xs lo up _ (blk_alloc HB.out _) (HL.out.kept ((Kept.refl [] w).alloc _) (by simp) (by simp) (by simp)) (by have:=L.out;omega) (by have:=L.out;omega)).mono ?_;rw [hq];rintro e w1 ⟨rfl,hk1⟩;have hX:=hk1.blk (heap_alloc_new w (.cells #[.slice none 0 0,.pointer none] 224));have hb1:=hk1.blk (blk_alloc HB.out (.cells #[.slice none 0 0,.pointer none] 224));have hK:=((Kept.refl [266] w).alloc (.cells #[.slice none 0 0,.pointer none] 224)).trans (Kept.of_ext hk1 _);clear k2 f2;have k2:=blk_cell hb1 2;have f2:=blk_frozen hb1 2;simp only [List.getElem?_toArray,List.getElem?_cons_zero,List.getElem?_cons_succ] at k2;have X1:=Aside0.mk hX;have B1:=Aside0.mk hb1;have K1:=Aside0.mk hK;clear hX hb1 hK hk1))
   |(go_at_call 218;go_loud (
    have hX:=X1.out;have hb1:=B1.out;have hK:=K1.out;
    refine (c218 lb vk vv vlo vup _ xs lo up _ hb1 (HL.out.kept hK (by decide) (by decide) (by decide)) (by have:=L.out;omega) (by have:=L.out;omega)).mono ?_;rintro e w2 ⟨v,rfl,hv,hk⟩;
    have hX2:=hk.blk hX;have HX:=Aside0.mk hX2;have HB2:=Aside0.mk (hk.blk hb1);have HK2:=Aside0.mk (hK.trans (Kept.of_ext hk _));have HV:Aside0 (lRes vk vv w2 xs R v):=⟨by rw [←HR.out];exact hv⟩;
    obtain ⟨p,A,n,c,rfl⟩:=lRes_form hv;clear k2 f2;
    have x0:=blk_cell hX2 0;have x1:=blk_cell hX2 1;have f0:=blk_frozen hX2 0;have f1:=blk_frozen hX2 1;simp only [List.getElem?_toArray,List.getElem?_cons_zero,List.getElem?_cons_succ] at x0 x1;clear hX hb1 hK hX2 hk hv)))
  have hX2:=blk_put (cs':= #[.slice A n c,.pointer none]) HX.out 0 (.slice A n c) rfl
  have hK2:=HK2.out.setNew (p:=⟨w.heap.size,0,none⟩) (Nat.le_refl _) (.slice A n c)
  have hV2:=HV.out.setN (p:=⟨w.heap.size,0,none⟩) HX.out (by decide) (.slice A n c)
  have hB2:=blk_far HB2.out (p:=⟨w.heap.size,0,none⟩) (Nat.ne_of_lt bl) (.slice A n c)
  clear x0 x1 f0 f1
  generalize w2.setCell ⟨w.heap.size,0,none⟩ (.slice A n c)=w3 at *
  have y0:=blk_cell hX2 0
  have y1:=blk_cell hX2 1
  simp only [List.getElem?_toArray,List.getElem?_cons_zero,List.getElem?_cons_succ] at y0 y1
  refine bodyPost_ret (v:=.tuple #[.pointer p,.agg #[.slice A n c,.pointer none]]) ?_ rfl ?_
  ·rw [results,show Tryz.f212.results= #[.tmp 2,.cell 3 224] from rfl]
   clear hX2 hK2 hV2 hB2
   simp [go_sem,loadVar,asAddr,y0,y1]
  ·exact ⟨⟨_,rfl,hV2⟩,hB2,hK2⟩
theorem c209 [Bd] (lb:Nat) (vk vv vlo vup:Value) (at_:Int) (xs:List S36) (lo up:Option (List UInt8)) (w:World) (hb:w.heap[lb]? =some (.cells #[vk,vv,.int .i64 at_,vlo,vup] 266 (0,0))) (hL:LstC w vk vv vlo vup xs lo up) (hLB:autoParam (Bd.B≤lb) lb0._auto_1):
  Calls Tryz.prog 209 #[.pointer (some ⟨lb,0,none⟩)] w fun e w'=>LDone w w' lb vk vv vlo vup xs ((xs.length:Int) - 1) (if lAhead xs lo ((xs.length:Int) - 1) then none else some (xs.length - 1)) e:=by
 have hu266:=Tryz.underlying266
 have hu224:=Tryz.underlying224
 have HB:=Aside0.mk hb
 have HL:=Aside0.mk hL
 have bl:=blk_lt hb
 obtain ⟨⟨KA,KC,rfl,kc1,kc2, -⟩, -, -, -⟩:=hL
 have k0:=blk_cell hb 0
 have k2:=blk_cell hb 2
 have hw:wrap64 ((xs.length:Int) - 1)=(xs.length:Int) - 1:=by unfold wrap64;omega
 have f2:=blk_frozen hb 2
 simp only [List.getElem?_toArray,List.getElem?_cons_zero,List.getElem?_cons_succ] at k0 k2
 clear hb kc1
 generalize hR:(if lAhead xs lo ((xs.length:Int) - 1)=true then none else some (xs.length - 1):Option Nat)=R
 have HR:=Lib.hid hR
 clear hR
 go_enter Tryz.func209,Tryz.ntmps209
 go_wp2_with (go_at_call 218;go_loud (
  have hX:=heap_alloc_new (w.setCell ⟨lb,2,none⟩ (.int .i64 ((xs.length:Int) - 1))) (.cells #[.slice none 0 0,.pointer none] 224);rw [setCell_size] at hX;
  have hb1:=blk_alloc (blk_put (cs':= #[.slice KA xs.length KC,vv,(.int .i64 ((xs.length:Int) - 1)),vlo,vup]) HB.out 2 (.int .i64 ((xs.length:Int) - 1)) rfl) (.cells #[.slice none 0 0,.pointer none] 224);
  have hK:=((Kept.refl [266] w).setCell (p:=⟨lb,2,none⟩) HB.out (by decide) (.int .i64 ((xs.length:Int) - 1)) hLB).alloc (.cells #[.slice none 0 0,.pointer none] 224);
  refine (c218 lb (.slice KA xs.length KC) vv vlo vup _ xs lo up _ hb1 (HL.out.kept hK (by decide) (by decide) (by decide)) (by omega) (by omega)).mono ?_;rintro e w2 ⟨v,rfl,hv,hk⟩;
  have hX2:=hk.blk hX;have HX:=Aside0.mk hX2;have HB2:=Aside0.mk (hk.blk hb1);have HK2:=Aside0.mk (hK.trans (Kept.of_ext hk _));have HV:Aside0 (lRes (.slice KA xs.length KC) vv w2 xs R v):=⟨by rw [←HR.out];have e:((xs.length:Int) - 1).toNat=xs.length - 1:=(by omega);rw [e] at hv;exact hv⟩;
  obtain ⟨p,A,n,c,rfl⟩:=lRes_form hv;
  have x0:=blk_cell hX2 0;have x1:=blk_cell hX2 1;have f0:=blk_frozen hX2 0;have f1:=blk_frozen hX2 1;simp only [List.getElem?_toArray,List.getElem?_cons_zero,List.getElem?_cons_succ] at x0 x1;clear hX hb1 hK hX2 hk hv))
 have hX2:=blk_put (cs':= #[.slice A n c,.pointer none]) HX.out 0 (.slice A n c) rfl
 have hK2:=HK2.out.setNew (p:=⟨w.heap.size,0,none⟩) (Nat.le_refl _) (.slice A n c)
 have hV2:=HV.out.setN (p:=⟨w.heap.size,0,none⟩) HX.out (by decide) (.slice A n c)
 have hB2:=blk_far HB2.out (p:=⟨w.heap.size,0,none⟩) (Nat.ne_of_lt bl) (.slice A n c)
 clear x0 x1 f0 f1
 generalize w2.setCell ⟨w.heap.size,0,none⟩ (.slice A n c)=w3 at *
 have y0:=blk_cell hX2 0
 have y1:=blk_cell hX2 1
 simp only [List.getElem?_toArray,List.getElem?_cons_zero,List.getElem?_cons_succ] at y0 y1
 refine bodyPost_ret (v:=.tuple #[.pointer p,.agg #[.slice A n c,.pointer none]]) ?_ rfl ?_
 ·rw [results,show Tryz.f209.results= #[.tmp 2,.cell 3 224] from rfl]
  clear hX2 hK2 hV2 hB2
  simp [go_sem,loadVar,asAddr,y0,y1]
 ·exact ⟨⟨_,rfl,hV2⟩,hB2,hK2⟩
theorem c224 [Bd] (w:World):Calls Tryz.prog 224 #[.int .u8 0] w fun e w'=>e=.returned (.bool false)∧Ext w w':=by
 go_enter Tryz.func224,Tryz.ntmps224
 go_wp2
 go_ret
 exact ⟨rfl,by (repeat (first|exact Kept.refl _ _|apply Kept.ktr|apply Kept.kt0|apply Kept.alloc|apply Kept.drew|apply Kept.drewN))⟩
theorem c221 [Bd] (lb:Nat) (vk vv vlo vup kv:Value) (at_:Int) (xs:List S36) (lo up:Option (List UInt8)) (key:List UInt8) (w:World) (hb:w.heap[lb]? =some (.cells #[vk,vv,.int .i64 at_,vlo,vup] 266 (0,0))) (hL:LstC w vk vv vlo vup xs lo up) (hk:RdS w kv key) (hLB:autoParam (Bd.B≤lb) lb0._auto_1):
  Calls Tryz.prog 221 #[.pointer (some ⟨lb,0,none⟩),kv,.int .u8 0] w fun e w'=>e=.returned (.tuple #[])∧w'.heap[lb]? =some (.cells #[vk,vv,.int .i64 (lSeek xs key:Nat),vlo,vup] 266 (0,0))∧Kept [266] w w':=by
 have hu266:=Tryz.underlying266
 have hu182:=Tryz.underlying182
 have HB:=Aside0.mk hb
 have HL:=Aside0.mk hL
 have HK:=Aside0.mk hk
 have bl:=blk_lt hb
 clear hb hL hk
 go_enter Tryz.func221,Tryz.ntmps221
 go_wp2_with (first
  |(go_at_call 224;refine (c224 _).mono ?_;rintro e w1 ⟨rfl,hk⟩;have E1:=Aside0.mk hk;clear hk)
  |(go_at_call 222;go_loud (refine (c222 lb vk vv vlo vup kv at_ xs lo up key _ (E1.out.blk HB.out) (HL.out.kept E1.out (by simp) (by simp) (by simp)) (HK.out.kept E1.out (by simp))).mono ?_;rintro e w2 ⟨rfl,hb2,hk2⟩;have HB2:=Aside0.mk hb2;have HK2:=Aside0.mk ((Kept.of_ext E1.out [266]).trans hk2);clear hb2 hk2)))
 go_loopg [24] 0 (fun kq v wr=>wr=w2)
 case atStart=>rfl
 case round=>
  obtain rfl:=hrel
  have hbl:=blk_lt HB2.out
  have k0:=blk_cell HB2.out 0
  have k2:=blk_cell HB2.out 2
  simp only [List.getElem?_toArray,List.getElem?_cons_zero,List.getElem?_cons_succ] at k0 k2
  obtain ⟨⟨A,c,rfl,hc,hn,hkeys⟩, -, -, -⟩:=HL.out
  have HN:=Lib.hid (And.intro hc hn)
  have hle:=lSeek_le xs key
  have hge:=lSeek_ge xs key
  obtain ⟨kb,ko,kc,_,_,rfl, -, -⟩:=HK.out
  clear hc hn
  generalize hjj:lSeek xs key=j at *
  have HJ:=Lib.hid hjj
  clear hjj
  have hnl:=HN.out.2
  by_cases hj:j < xs.length
  ·have d7:decide ((j:Int) < (xs.length:Int))=true:=by simp [hj]
   have d7':decide (j < xs.length)=true:=by simp [hj]
   have hcv:decide (Lib.compareBytes (bs xs[j].f0) key < 0)=false:=decide_eq_false (hge hj)
   obtain ⟨g,cs,f,rfl,hbk,hkc⟩:=hkeys (by omega)
   obtain ⟨ku,q1,q2,q3⟩:=hkc j hj
   have bg:=blk_lt (HK2.out.blkOf hbk (by decide))
   have hs:=solid_of hbk (by decide:(182:Nat)∉[266])
   replace q1:=HK2.out.cell (p:=⟨g,j*2,none⟩) hs q1
   have HQ:=Lib.hid (q3.kept HK2.out (by decide))
   have HKK:=Lib.hid (HK.out.kept HK2.out (by decide))
   obtain ⟨qb,qo,qc,_,_,rfl, -, -⟩:=q3
   have hcmp: ∀ x:Nx [] wr,Calls Tryz.prog 65 #[.slice (some ⟨qb,qo,none⟩) (bs xs[j].f0).length qc,.slice (some ⟨kb,ko,none⟩) key.length kc] (wr.kt [] x) fun e w'=>e=.returned (.int .i64 (Lib.compareBytes (bs xs[j].f0) key))∧wr.kt [] x=w':=
    fun x=>compare_any _ _ _ _ _ (HQ.out.kept x.ok (by simp)) (HKK.out.kept x.ok (by simp))
   have HCM:=Lib.hid hcmp
   clear hcmp hkc hbk hs q2 HQ HKK hge hkeys hle
   generalize (bs xs[j].f0).length=ql at *
   generalize Lib.compareBytes (bs xs[j].f0) key=cv at hcv HCM
   go_wp2
   (refine wp_region_kt [] (by kernel_rfl) (lexB_of (by kernel_rfl)) ?_;(repeat (any_goals (first|go_big_quiet_step (exact quiet_same (HCM.out _))|(refine wpQuiet_split _ rfl rfl (fun hsp=>?_) (fun hsp=>?_)<;>simp only [hsp]))));all_goals (refine wpQuiet_nil ?_;rintro wq ⟨y,hy⟩;have hk:=kept_kt y;rw [←hy] at hk;clear hy y))
   go_wp2
   go_end0
   exact ⟨rfl,by rw [HJ.out];exact hk.blk HB2.out,HK2.out.trans (Kept.of_ext hk _)⟩
  ·have d7:decide ((j:Int) < (xs.length:Int))=false:=by simp;omega
   have d7':decide (j < xs.length)=false:=by simp;omega
   clear hge hkeys hle
   go_wp2
   (refine wp_region_kt [] (by kernel_rfl) (lexB_of (by kernel_rfl)) ?_;(repeat (any_goals (first|go_big_quiet_step (fail)|(refine wpQuiet_split _ rfl rfl (fun hsp=>?_) (fun hsp=>?_)<;>simp only [hsp]))));all_goals (refine wpQuiet_nil ?_;rintro wq ⟨y,hy⟩;have hk:=kept_kt y;rw [←hy] at hk;clear hy y))
   go_wp2
   go_end0
   exact ⟨rfl,by rw [HJ.out];exact hk.blk HB2.out,HK2.out.trans (Kept.of_ext hk _)⟩
end Go.Proofs.YtghppnklhbbffaaGreatDoor.TL
