/- Part 9 of the proof that laws.FnTreeLevel answers true, for arguments of small bulk. -/
import Derived.Test.YtghppnklhbbffaaGreatDoorR08
set_option linter.all false
set_option maxHeartbeats 4000000
set_option maxRecDepth 100000
namespace Go.Proofs.YtghppnklhbbffaaGreatDoor.TL
open Go Go.RowKit Go.Proofs.YtghppnklhbbffaaGreatDoor.PFnTreeLevel Go.Proofs.YtghppnklhbbffaaGreatDoorW.PrintWords
theorem at253 [Bd] {w:World} {A:Option Addr} {xs:List S253} (h:Kd.C k253 w A xs.length xs) (i:Nat) (hi:i < xs.length):
  ∃ ad A2 c2,A=some ad∧w.cell? (ad.add (i*3))=some (.string xs[i].f0)∧w.cell? ⟨(ad.add (i*3)).block,(ad.add (i*3)).off+1,none⟩=some (.string xs[i].f1)∧w.cell? ⟨(ad.add (i*3)).block,(ad.add (i*3)).off+2,none⟩=some (.slice A2 xs[i].f2.length c2)∧
   (ad.add (i*3)).block < w.heap.size∧xs[i].f2.length≤c2∧k335.C w A2 xs[i].f2.length xs[i].f2:=by
 obtain ⟨ad,A2,c2,e1,g1,g2,g3,g4,g5⟩:=at_T253 h (i:Int) (by omega) (by omega)
 have e:rd_T253 xs (i:Int)=xs[i]:=by unfold rd_T253;simp [List.getD_eq_getElem?_getD,hi]
 rw [e] at g1 g2 g3 g4 g5
 exact ⟨ad,A2,c2,e1,g1,g2,g3,World.block_lt_of_cell? _ _ g1,g4,g5⟩
theorem at335 [Bd] {w:World} {A:Option Addr} {xs:List S335} (h:Kd.C k335 w A xs.length xs) (i:Nat) (hi:i < xs.length):
  ∃ ad,A=some ad∧w.cell? (ad.add (i*3))=some (.int .u64 xs[i].f0)∧w.cell? ⟨(ad.add (i*3)).block,(ad.add (i*3)).off+1,none⟩=some (.string xs[i].f1)∧w.cell? ⟨(ad.add (i*3)).block,(ad.add (i*3)).off+2,none⟩=some (.string xs[i].f2)∧(ad.add (i*3)).block < w.heap.size:=by
 obtain ⟨ad,e1,g1,g2,g3⟩:=at_T335 h (i:Int) (by omega) (by omega)
 have e:rd_T335 xs (i:Int)=xs[i]:=by unfold rd_T335;simp [List.getD_eq_getElem?_getD,hi]
 rw [e] at g1 g2 g3
 exact ⟨ad,e1,g1,g2,g3,World.block_lt_of_cell? _ _ g1⟩
theorem at56 [Bd] {w:World} {A:Option Addr} {xs:List S56} (h:Kd.C k56 w A xs.length xs) (i:Nat) (hi:i < xs.length):
  ∃ ad A1 c1 A2 c2,A=some ad∧w.cell? (ad.add (i*3))=some (.int .u64 xs[i].f0)∧w.cell? ⟨(ad.add (i*3)).block,(ad.add (i*3)).off+1,none⟩=some (.slice A1 xs[i].f1.length c1)∧w.cell? ⟨(ad.add (i*3)).block,(ad.add (i*3)).off+2,none⟩=some (.slice A2 xs[i].f2.length c2)∧
   (ad.add (i*3)).block < w.heap.size∧xs[i].f1.length≤c1∧k57.C w A1 xs[i].f1.length xs[i].f1∧xs[i].f2.length≤c2∧k253.C w A2 xs[i].f2.length xs[i].f2:=by
 obtain ⟨ad,A1,c1,A2,c2,e1,g1,g2,g3,g4,g5,g6,g7⟩:=at_T56 h (i:Int) (by omega) (by omega)
 have e:rd_T56 xs (i:Int)=xs[i]:=by unfold rd_T56;simp [List.getD_eq_getElem?_getD,hi]
 rw [e] at g1 g2 g3 g4 g5 g6 g7
 exact ⟨ad,A1,c1,A2,c2,e1,g1,g2,g3,World.block_lt_of_cell? _ _ g1,g4,g5,g6,g7⟩
theorem c80 [Bd] (A:Option Addr) (c:Nat) (xs:List S253) (hs: ∀ x∈xs,x.f0.size < 2^31∧x.f1.size < 2^31∧x.f2.length < 2^40) (w:World) (hr:Kd.C k253 w A xs.length xs) (hc:xs.length≤c) (hl:xs.length < 2^40):
  Calls Tryz.prog 80 #[.slice A xs.length c] w fun e w'=>BoolRes e True∧Ext w w':=by
 have HR:=Lib.hid hr
 have HC:=Lib.hid hc
 have HL:=Lib.hid hl
 have HS:=Lib.hid hs
 clear hr hc hl hs
 have hu:=Tryz.underlying54
 have hu253:=Tryz.underlying253
 have hu335:=Tryz.underlying335
 go_enter Tryz.func80,Tryz.ntmps80
 go_wp2
 go_loopg [9] xs.length (fun kq v wr=> ∃ i:Nat,v=.int .i64 i∧Aside0 (i≤xs.length∧xs.length≤kq+i)∧Aside0 (Ext w wr))
 case atStart=>exact ⟨0,rfl,⟨by omega,by omega⟩,⟨by (repeat (first|exact Kept.refl _ _|apply Kept.ktr|apply Kept.kt0|apply Kept.alloc|apply Kept.drew|apply Kept.drewN))⟩⟩
 case round=>
  obtain ⟨gko,hgko⟩: ∃ n,n=gk:=⟨gk,rfl⟩
  subst hgko
  obtain ⟨i,rfl,⟨h1,h2⟩,hE⟩:=hrel
  have hlen:=HL.out
  by_cases hi:i < xs.length
  ·have d1:decide ((i:Int) < (xs.length:Int))=true:=by simp [hi]
   obtain ⟨ad,A2,c2,e1,g1,g2,g3,b1,hkc,hK⟩:=at253 HR.out i hi
   subst e1
   have hK:=Lib.hid hK
   replace g1:=hE.out.cell g1
   replace g2:=hE.out.cell g2
   replace g3:=hE.out.cell g3
   have b1:=World.block_lt_of_cell? _ _ g1
   have hsz:=Lib.hid (HS.out xs[i] (List.getElem_mem _))
   generalize xs[i]=a at *
   have hstart: ∃ d0:Bool,decide (0 < i)=d0∧(d0=true→1≤i∧ ∃ b:S253,b.f1.size < 2^31∧wr.cell? ⟨(ad.add ((i - 1)*3)).block,(ad.add ((i - 1)*3)).off+1,none⟩=some (.string b.f1)∧(ad.add ((i - 1)*3)).block < wr.heap.size):=by
    refine ⟨_,rfl,fun h=>?_⟩
    have hp:0 < i:=by simpa using h
    obtain ⟨ad',A2',c2',e1',g1',g2',g3',b1',hkc',hK'⟩:=at253 HR.out (i - 1) (by omega)
    cases e1'
    have:=hE.out.cell g2'
    exact ⟨hp,xs[i-1],(HS.out xs[i-1] (List.getElem_mem _)).2.1,this,Nat.lt_of_lt_of_le b1' hE.out.size⟩
   obtain ⟨d0,e0,hprev⟩:=hstart
   have HH:Aside0 (∀ w2,Ext (wr.alloc (.cells #[.string a.f0,.string a.f1,.slice A2 a.f2.length c2] 253)) w2→w2.cell? ⟨wr.heap.size,2,none⟩=some (.slice A2 a.f2.length c2)∧Ext w w2):=⟨fun w2 h=>⟨h.cell (box_cell wr 2 rfl),(hE.out.alloc _).trans h⟩⟩
   cases d0
   ·clear hprev
    go_wp2
    (refine wp_region_kt [] (by kernel_rfl) (lexB_of (by kernel_rfl)) ?_;(repeat (any_goals (first|go_big_quiet_step (first|exact quiet_of (c29 _ _ (by have:=hsz.out;omega) _)|exact quiet_of (c29 _ _ (by have:=hsz2.out;omega) _))|(refine wpQuiet_split _ rfl rfl (fun hsp=>?_) (fun hsp=>?_)<;>simp only [hsp]))));all_goals (refine wpQuiet_nil ?_;rintro wq ⟨y,hy⟩;have hk:=kept_kt y;rw [←hy] at hk;clear hy y))
    all_goals (obtain ⟨k2,hE2⟩:=HH.out _ hk;clear hk HH hE;generalize wr.heap.size=eb at *; have hE:=Aside0.mk hE2;clear hE2)
    all_goals go_wp2
    all_goals try (go_ret;exact ⟨.no,hE.out⟩)
    all_goals (
     go_loopg [57] a.f2.length (fun kq v wr=> ∃ j:Nat,v=.int .i64 j∧Aside0 (j≤a.f2.length∧a.f2.length≤kq+j)∧Aside0 (wr.cell? ⟨eb,2,none⟩=some (.slice A2 a.f2.length c2)∧Aside0 (Ext w wr)))
     case atStart=>exact ⟨0,rfl,⟨by omega,by omega⟩,⟨k2,hE⟩⟩
     case round=>
      clear k2
      have hlk:=hsz.out.2.2
      obtain ⟨j,rfl,⟨hj1,hj2⟩,⟨k2,hE⟩⟩:=hrel
      have b3:=World.block_lt_of_cell? _ _ k2
      by_cases hj:j < a.f2.length
      ·have d7:decide ((j:Int) < (a.f2.length:Int))=true:=by simp [hj]
       obtain ⟨ad2,e2,p1,p2,p3,bb⟩:=at335 hK.out j hj
       cases e2
       have hstart: ∃ d0:Bool,decide (0 < j)=d0∧(d0=true→1≤j∧ ∃ t:Int,wr.cell? (ad2.add ((j - 1)*3))=some (.int .u64 t)∧(ad2.add ((j - 1)*3)).block < wr.heap.size):=by
        refine ⟨_,rfl,fun h=>?_⟩
        have hp:0 < j:=by simpa using h
        obtain ⟨ad',e1',g1',g2',g3',b1'⟩:=at335 hK.out (j - 1) (by omega)
        cases e1'
        exact ⟨hp,_,hE.out.cell g1',Nat.lt_of_lt_of_le b1' hE.out.size⟩
       replace p1:=hE.out.cell p1
       replace p2:=hE.out.cell p2
       replace p3:=hE.out.cell p3
       have b1:=World.block_lt_of_cell? _ _ p1
       generalize a.f2[j]=b at *
       obtain ⟨d0,e0,hprev⟩:=hstart
       cases d0
       ·clear hprev
        go_wp2
        (refine wp_region_kt [] (by kernel_rfl) (lexB_of (by kernel_rfl)) ?_;(repeat (any_goals (first|go_big_quiet_step (first|exact quiet_of (c82 _ _)|exact quiet_of (c83 _ _))|(refine wpQuiet_split _ rfl rfl (fun hsp=>?_) (fun hsp=>?_)<;>simp only [hsp]))));all_goals (refine wpQuiet_nil ?_;rintro wq ⟨y,hy⟩;have hk:=kept_kt y;rw [←hy] at hk;clear hy y))
        all_goals (have hkk:Ext wr wq:=((Kept.refl [] wr).alloc _).trans hk;clear hk;replace k2:=hkk.cell k2;have hE1:=Aside0.mk (hE.out.trans hkk);clear hkk hE)
        all_goals go_wp2
        all_goals first
                  |(go_ret;exact ⟨.no,hE1.out⟩)
                  |(go_roundg (gk - 1);(case measure=>omega);(case rel=>exact ⟨j+1,by go_num,⟨by omega,by omega⟩,⟨k2,hE1⟩⟩))
       ·obtain ⟨hj1,t,f2,fb⟩:=hprev rfl
        clear hprev
        go_wp2
        (refine wp_region_kt [] (by kernel_rfl) (lexB_of (by kernel_rfl)) ?_;(repeat (any_goals (first|go_big_quiet_step (first|exact quiet_of (c82 _ _)|exact quiet_of (c83 _ _))|(refine wpQuiet_split _ rfl rfl (fun hsp=>?_) (fun hsp=>?_)<;>simp only [hsp]))));all_goals (refine wpQuiet_nil ?_;rintro wq ⟨y,hy⟩;have hk:=kept_kt y;rw [←hy] at hk;clear hy y))
        all_goals (have hkk:Ext wr wq:=((Kept.refl [] wr).alloc _).trans hk;clear hk;replace k2:=hkk.cell k2;have hE1:=Aside0.mk (hE.out.trans hkk);clear hkk hE)
        all_goals go_wp2
        all_goals first
                  |(go_ret;exact ⟨.no,hE1.out⟩)
                  |(go_roundg (gk - 1);(case measure=>omega);(case rel=>exact ⟨j+1,by go_num,⟨by omega,by omega⟩,⟨k2,hE1⟩⟩))
      ·have d7:decide ((j:Int) < (a.f2.length:Int))=false:=by simp;omega
       go_wp2
       go_roundg (gko - 1)
       case measure=>omega
       case rel=>exact ⟨i+1,by go_num,⟨by omega,by omega⟩,hE⟩)
   ·obtain ⟨hi1,b,hbs,f2,fb⟩:=hprev rfl
    have hsz2:=Lib.hid hbs
    clear hprev hbs
    go_wp2
    (refine wp_region_kt [] (by kernel_rfl) (lexB_of (by kernel_rfl)) ?_;(repeat (any_goals (first|go_big_quiet_step (first|exact quiet_of (c29 _ _ (by have:=hsz.out;omega) _)|exact quiet_of (c29 _ _ (by have:=hsz2.out;omega) _))|(refine wpQuiet_split _ rfl rfl (fun hsp=>?_) (fun hsp=>?_)<;>simp only [hsp]))));all_goals (refine wpQuiet_nil ?_;rintro wq ⟨y,hy⟩;have hk:=kept_kt y;rw [←hy] at hk;clear hy y))
    all_goals (obtain ⟨k2,hE2⟩:=HH.out _ hk;clear hk HH hE f2;generalize wr.heap.size=eb at *; have hE:=Aside0.mk hE2;clear hE2)
    all_goals go_wp2
    all_goals try (go_ret;exact ⟨.no,hE.out⟩)
    all_goals (
     go_loopg [57] a.f2.length (fun kq v wr=> ∃ j:Nat,v=.int .i64 j∧Aside0 (j≤a.f2.length∧a.f2.length≤kq+j)∧Aside0 (wr.cell? ⟨eb,2,none⟩=some (.slice A2 a.f2.length c2)∧Aside0 (Ext w wr)))
     case atStart=>exact ⟨0,rfl,⟨by omega,by omega⟩,⟨k2,hE⟩⟩
     case round=>
      clear k2
      have hlk:=hsz.out.2.2
      obtain ⟨j,rfl,⟨hj1,hj2⟩,⟨k2,hE⟩⟩:=hrel
      have b3:=World.block_lt_of_cell? _ _ k2
      by_cases hj:j < a.f2.length
      ·have d7:decide ((j:Int) < (a.f2.length:Int))=true:=by simp [hj]
       obtain ⟨ad2,e2,p1,p2,p3,bb⟩:=at335 hK.out j hj
       cases e2
       have hstart: ∃ d0:Bool,decide (0 < j)=d0∧(d0=true→1≤j∧ ∃ t:Int,wr.cell? (ad2.add ((j - 1)*3))=some (.int .u64 t)∧(ad2.add ((j - 1)*3)).block < wr.heap.size):=by
            refine ⟨_,rfl,fun h=>?_⟩
            have hp:0 < j:=by simpa using h
            obtain ⟨ad',e1',g1',g2',g3',b1'⟩:=at335 hK.out (j - 1) (by omega)
            cases e1'
            exact ⟨hp,_,hE.out.cell g1',Nat.lt_of_lt_of_le b1' hE.out.size⟩
       replace p1:=hE.out.cell p1
       replace p2:=hE.out.cell p2
       replace p3:=hE.out.cell p3
       have b1:=World.block_lt_of_cell? _ _ p1
       generalize a.f2[j]=b at *
       obtain ⟨d0,e0,hprev⟩:=hstart
       cases d0
       ·clear hprev
        go_wp2
        (refine wp_region_kt [] (by kernel_rfl) (lexB_of (by kernel_rfl)) ?_;(repeat (any_goals (first|go_big_quiet_step (first|exact quiet_of (c82 _ _)|exact quiet_of (c83 _ _))|(refine wpQuiet_split _ rfl rfl (fun hsp=>?_) (fun hsp=>?_)<;>simp only [hsp]))));all_goals (refine wpQuiet_nil ?_;rintro wq ⟨y,hy⟩;have hk:=kept_kt y;rw [←hy] at hk;clear hy y))
        all_goals (have hkk:Ext wr wq:=((Kept.refl [] wr).alloc _).trans hk;clear hk;replace k2:=hkk.cell k2;have hE1:=Aside0.mk (hE.out.trans hkk);clear hkk hE)
        all_goals go_wp2
        all_goals first
                  |(go_ret;exact ⟨.no,hE1.out⟩)
                  |(go_roundg (gk - 1);(case measure=>omega);(case rel=>exact ⟨j+1,by go_num,⟨by omega,by omega⟩,⟨k2,hE1⟩⟩))
       ·obtain ⟨hj1,t,f2,fb⟩:=hprev rfl
        clear hprev
        go_wp2
        (refine wp_region_kt [] (by kernel_rfl) (lexB_of (by kernel_rfl)) ?_;(repeat (any_goals (first|go_big_quiet_step (first|exact quiet_of (c82 _ _)|exact quiet_of (c83 _ _))|(refine wpQuiet_split _ rfl rfl (fun hsp=>?_) (fun hsp=>?_)<;>simp only [hsp]))));all_goals (refine wpQuiet_nil ?_;rintro wq ⟨y,hy⟩;have hk:=kept_kt y;rw [←hy] at hk;clear hy y))
        all_goals (have hkk:Ext wr wq:=((Kept.refl [] wr).alloc _).trans hk;clear hk;replace k2:=hkk.cell k2;have hE1:=Aside0.mk (hE.out.trans hkk);clear hkk hE)
        all_goals go_wp2
        all_goals first
                  |(go_ret;exact ⟨.no,hE1.out⟩)
                  |(go_roundg (gk - 1);(case measure=>omega);(case rel=>exact ⟨j+1,by go_num,⟨by omega,by omega⟩,⟨k2,hE1⟩⟩))
      ·have d7:decide ((j:Int) < (a.f2.length:Int))=false:=by simp;omega
       go_wp2
       go_roundg (gko - 1)
       case measure=>omega
       case rel=>exact ⟨i+1,by go_num,⟨by omega,by omega⟩,hE⟩)
  ·have d1:decide ((i:Int) < (xs.length:Int))=false:=by simp;omega
   go_wp2
   go_ret
   exact ⟨.yes trivial,hE.out⟩
def seeLo (f:Bool) (lo a:ByteArray):ByteArray:=if f||decide (cmpB a lo < 0) then a else lo
def seeHi (f:Bool) (hi:ByteArray) (o:Bool) (b:ByteArray) (out:Bool):ByteArray×Bool:=if f||decide (cmpB hi b < 0)||(decide (cmpB hi b=0)&&o) then (b,out) else (hi,o)
theorem gate_args [Bd] {P:Program} {f:FuncId} {a b:ByteArray} {w:World} {Q:Ending→World→Prop} (h:Calls P f #[.string a,.string b] w Q):Calls P f #[.string a,.string b] w Q:=h
theorem c78 [Bd] (f:Bool) (lo hi:ByteArray) (o:Bool) (a b:ByteArray) (out:Bool) (bf bl bh bo base:Nat) (w:World) (ha:a.size≤140737488351232) (hh:hi.size≤140737488351232)
  (hf:w.heap[bf]? =some (.cells #[.bool f] 4 (0,0))) (hl:w.heap[bl]? =some (.cells #[.string lo] 9 (0,0))) (hhi:w.heap[bh]? =some (.cells #[.string hi] 9 (0,0))) (ho:w.heap[bo]? =some (.cells #[.bool o] 4 (0,0)))
  (n1:bf≠bo) (n2:bl≠bh) (l1:base≤bf) (l2:base≤bl) (l3:base≤bh) (l4:base≤bo) (lB:Bd.B≤base):
  Calls Tryz.prog 78 #[.string a,.string b,.bool out,.pointer (some ⟨bf,0,none⟩),.pointer (some ⟨bl,0,none⟩),.pointer (some ⟨bh,0,none⟩),.pointer (some ⟨bo,0,none⟩)] w fun e w'=>e=.returned (.tuple #[])∧
   w'.heap[bf]? =some (.cells #[.bool false] 4 (0,0))∧w'.heap[bl]? =some (.cells #[.string (seeLo f lo a)] 9 (0,0))∧w'.heap[bh]? =some (.cells #[.string (seeHi f hi o b out).1] 9 (0,0))∧w'.heap[bo]? =some (.cells #[.bool (seeHi f hi o b out).2] 4 (0,0))∧
   Below base w w'∧Kept [4,9] w w':=by
 have hfl:bf≠bl:=by rintro rfl;rw [hf] at hl;simp at hl
 have hfh:bf≠bh:=by rintro rfl;rw [hf] at hhi;simp at hhi
 have hol:bo≠bl:=by rintro rfl;rw [ho] at hl;simp at hl
 have hoh:bo≠bh:=by rintro rfl;rw [ho] at hhi;simp at hhi
 have n1':=n1.symm
 have n2':=n2.symm
 have hfl':=hfl.symm
 have hfh':=hfh.symm
 have hol':=hol.symm
 have hoh':=hoh.symm
 have ha:=Lib.hid ha
 have hh:=Lib.hid hh
 have L:=Lib.hid (And.intro l1 (And.intro l2 (And.intro l3 l4)))
 have LB:=Lib.hid (And.intro (Nat.le_trans lB l1) (And.intro (Nat.le_trans lB l2) (And.intro (Nat.le_trans lB l3) (Nat.le_trans lB l4))))
 clear lB
 clear l1 l2 l3 l4
 have kf:=blk_cell hf 0
 have kl:=blk_cell hl 0
 have kh:=blk_cell hhi 0
 have ko:=blk_cell ho 0
 have ff:=blk_frozen hf 0
 have fl:=blk_frozen hl 0
 have fh:=blk_frozen hhi 0
 have fo:=blk_frozen ho 0
 simp only [List.getElem?_toArray,List.getElem?_cons_zero] at kf kl kh ko
 cases f
 ·by_cases h1:cmpB a lo < 0
  ·have LE:=Lib.hid (show seeLo false lo a=a by simp [seeLo,h1])
   have d1:decide (cmpB a lo < 0)=true:=decide_eq_true h1
   clear h1
   by_cases h2:cmpB hi b < 0
   ·have HE:=Lib.hid (show seeHi false hi o b out=(b,out) by simp [seeHi,h2])
    have d2:decide (cmpB hi b < 0)=true:=decide_eq_true h2
    clear h2
    have hf:=Aside0.mk hf
    have hl:=Aside0.mk hl
    have hhi:=Aside0.mk hhi
    have ho:=Aside0.mk ho
    have hB:=Aside0.mk (Below.refl base w)
    have hK:=Aside0.mk (Kept.refl [4,9] w)
    go_enter Tryz.func78,Tryz.ntmps78
    go_wp2_with (first|(go_at_call 29;(with_reducible refine gate_args (b:=lo) ?_);refine (c29 _ _ ha.out _).mono ?_;rintro e w2 ⟨rfl,hk⟩;go_loud (have gf:=Aside0.mk (hk.blk hf.out);have gl:=Aside0.mk (hk.blk hl.out);have gh:=Aside0.mk (hk.blk hhi.out);have go:=Aside0.mk (hk.blk ho.out);have hB1:=Aside0.mk (hB.out.trans (Kept.below hk (Nat.le_trans L.out.2.1 (Nat.le_of_lt (blk_lt hl.out)))));have hK1:=Aside0.mk (hK.out.trans (Kept.of_ext hk _));clear hf hl hhi ho hB hK hk;have hf:=gf;have hl:=gl;have hhi:=gh;have ho:=go;have hB:=hB1;have hK:=hK1;clear gf gl gh go hB1 hK1;clear kf kl kh ko ff fl fh fo;have kf:=blk_cell hf.out 0;have kl:=blk_cell hl.out 0;have kh:=blk_cell hhi.out 0;have ko:=blk_cell ho.out 0;have ff:=blk_frozen hf.out 0;have fl:=blk_frozen hl.out 0;have fh:=blk_frozen hhi.out 0;have fo:=blk_frozen ho.out 0;simp only [List.getElem?_toArray,List.getElem?_cons_zero] at kf kl kh ko))|(go_at_call 29;(with_reducible refine gate_args (b:=b) ?_);refine (c29 _ _ hh.out _).mono ?_;rintro e w2 ⟨rfl,hk⟩;go_loud (have gf:=Aside0.mk (hk.blk (blk_far hf.out hfl (.string a)));have gl:=Aside0.mk (hk.blk (blk_put (cs':= #[.string a]) hl.out 0 (.string a) rfl));have gh:=Aside0.mk (hk.blk (blk_far hhi.out n2' (.string a)));have go:=Aside0.mk (hk.blk (blk_far ho.out hol (.string a)));have hB1:=Aside0.mk ((hB.out.setCell (p:=⟨bl,0,none⟩) L.out.2.1 (.string a)).trans (Kept.below hk (Nat.le_trans L.out.2.1 (Nat.le_of_lt (blk_lt (blk_put (cs':= #[.string a]) hl.out 0 (.string a) rfl))))));have hK1:=Aside0.mk ((hK.out.setCell (p:=⟨bl,0,none⟩) hl.out (by decide) (.string a) LB.out.2.1).trans (Kept.of_ext hk _));clear hf hl hhi ho hB hK hk;have hf:=gf;have hl:=gl;have hhi:=gh;have ho:=go;have hB:=hB1;have hK:=hK1;clear gf gl gh go hB1 hK1;clear kf kl kh ko ff fl fh fo;have kf:=blk_cell hf.out 0;have kl:=blk_cell hl.out 0;have kh:=blk_cell hhi.out 0;have ko:=blk_cell ho.out 0;have ff:=blk_frozen hf.out 0;have fl:=blk_frozen hl.out 0;have fh:=blk_frozen hhi.out 0;have fo:=blk_frozen ho.out 0;simp only [List.getElem?_toArray,List.getElem?_cons_zero] at kf kl kh ko)))
    go_end0
    refine ⟨rfl,blk_put (cs':= #[.bool false]) (blk_far (blk_far hf.out hfh _) n1 _) 0 _ rfl,?_,?_,?_,
    ((hB.out.setCell (p:=⟨bh,0,none⟩) L.out.2.2.1 _).setCell (p:=⟨bo,0,none⟩) L.out.2.2.2 _).setCell (p:=⟨bf,0,none⟩) L.out.1 _,
    ((hK.out.setCell (p:=⟨bh,0,none⟩) hhi.out (by decide) _ LB.out.2.2.1).setCell (p:=⟨bo,0,none⟩) (blk_far ho.out hoh _) (by decide) _ LB.out.2.2.2).setCell (p:=⟨bf,0,none⟩) (blk_far (blk_far hf.out hfh _) n1 _) (by decide) _ LB.out.1⟩
    ·rw [LE.out];exact blk_far (blk_far (blk_far hl.out n2 _) hol' _) hfl' _
    ·rw [HE.out];exact blk_far (blk_far (blk_put (cs':= #[.string b]) hhi.out 0 _ rfl) hoh' _) hfh' _
    ·rw [HE.out];exact blk_far (blk_put (cs':= #[.bool out]) (blk_far ho.out hoh _) 0 _ rfl) n1' _
   ·have d2:decide (cmpB hi b < 0)=false:=decide_eq_false h2
    by_cases h3:cmpB hi b=0
    ·have d3:(cmpB hi b==0)=true:=by simp [h3]
     have H3:=Lib.hid h3
     clear h3
     cases o
     ·have HE:=Lib.hid (show seeHi false hi false b out=(hi,false) by simp [seeHi,H3.out])
      clear h2
      have hf:=Aside0.mk hf
      have hl:=Aside0.mk hl
      have hhi:=Aside0.mk hhi
      have ho:=Aside0.mk ho
      have hB:=Aside0.mk (Below.refl base w)
      have hK:=Aside0.mk (Kept.refl [4,9] w)
      go_enter Tryz.func78,Tryz.ntmps78
      go_wp2_with (first|(go_at_call 29;(with_reducible refine gate_args (b:=lo) ?_);refine (c29 _ _ ha.out _).mono ?_;rintro e w2 ⟨rfl,hk⟩;go_loud (have gf:=Aside0.mk (hk.blk hf.out);have gl:=Aside0.mk (hk.blk hl.out);have gh:=Aside0.mk (hk.blk hhi.out);have go:=Aside0.mk (hk.blk ho.out);have hB1:=Aside0.mk (hB.out.trans (Kept.below hk (Nat.le_trans L.out.2.1 (Nat.le_of_lt (blk_lt hl.out)))));have hK1:=Aside0.mk (hK.out.trans (Kept.of_ext hk _));clear hf hl hhi ho hB hK hk;have hf:=gf;have hl:=gl;have hhi:=gh;have ho:=go;have hB:=hB1;have hK:=hK1;clear gf gl gh go hB1 hK1;clear kf kl kh ko ff fl fh fo;have kf:=blk_cell hf.out 0;have kl:=blk_cell hl.out 0;have kh:=blk_cell hhi.out 0;have ko:=blk_cell ho.out 0;have ff:=blk_frozen hf.out 0;have fl:=blk_frozen hl.out 0;have fh:=blk_frozen hhi.out 0;have fo:=blk_frozen ho.out 0;simp only [List.getElem?_toArray,List.getElem?_cons_zero] at kf kl kh ko))|(go_at_call 29;(with_reducible refine gate_args (b:=b) ?_);refine (c29 _ _ hh.out _).mono ?_;rintro e w2 ⟨rfl,hk⟩;go_loud (have gf:=Aside0.mk (hk.blk (blk_far hf.out hfl (.string a)));have gl:=Aside0.mk (hk.blk (blk_put (cs':= #[.string a]) hl.out 0 (.string a) rfl));have gh:=Aside0.mk (hk.blk (blk_far hhi.out n2' (.string a)));have go:=Aside0.mk (hk.blk (blk_far ho.out hol (.string a)));have hB1:=Aside0.mk ((hB.out.setCell (p:=⟨bl,0,none⟩) L.out.2.1 (.string a)).trans (Kept.below hk (Nat.le_trans L.out.2.1 (Nat.le_of_lt (blk_lt (blk_put (cs':= #[.string a]) hl.out 0 (.string a) rfl))))));have hK1:=Aside0.mk ((hK.out.setCell (p:=⟨bl,0,none⟩) hl.out (by decide) (.string a) LB.out.2.1).trans (Kept.of_ext hk _));clear hf hl hhi ho hB hK hk;have hf:=gf;have hl:=gl;have hhi:=gh;have ho:=go;have hB:=hB1;have hK:=hK1;clear gf gl gh go hB1 hK1;clear kf kl kh ko ff fl fh fo;have kf:=blk_cell hf.out 0;have kl:=blk_cell hl.out 0;have kh:=blk_cell hhi.out 0;have ko:=blk_cell ho.out 0;have ff:=blk_frozen hf.out 0;have fl:=blk_frozen hl.out 0;have fh:=blk_frozen hhi.out 0;have fo:=blk_frozen ho.out 0;simp only [List.getElem?_toArray,List.getElem?_cons_zero] at kf kl kh ko)))
      go_end0
      refine ⟨rfl,blk_put (cs':= #[.bool false]) hf.out 0 _ rfl,?_,?_,?_,
    hB.out.setCell (p:=⟨bf,0,none⟩) L.out.1 _,
    hK.out.setCell (p:=⟨bf,0,none⟩) hf.out (by decide) _ LB.out.1⟩
      ·rw [LE.out];exact blk_far hl.out hfl' _
      ·rw [HE.out];exact blk_far hhi.out hfh' _
      ·rw [HE.out];exact blk_far ho.out n1' _
     ·have HE:=Lib.hid (show seeHi false hi true b out=(b,out) by simp [seeHi,H3.out])
      clear h2
      have hf:=Aside0.mk hf
      have hl:=Aside0.mk hl
      have hhi:=Aside0.mk hhi
      have ho:=Aside0.mk ho
      have hB:=Aside0.mk (Below.refl base w)
      have hK:=Aside0.mk (Kept.refl [4,9] w)
      go_enter Tryz.func78,Tryz.ntmps78
      go_wp2_with (first|(go_at_call 29;(with_reducible refine gate_args (b:=lo) ?_);refine (c29 _ _ ha.out _).mono ?_;rintro e w2 ⟨rfl,hk⟩;go_loud (have gf:=Aside0.mk (hk.blk hf.out);have gl:=Aside0.mk (hk.blk hl.out);have gh:=Aside0.mk (hk.blk hhi.out);have go:=Aside0.mk (hk.blk ho.out);have hB1:=Aside0.mk (hB.out.trans (Kept.below hk (Nat.le_trans L.out.2.1 (Nat.le_of_lt (blk_lt hl.out)))));have hK1:=Aside0.mk (hK.out.trans (Kept.of_ext hk _));clear hf hl hhi ho hB hK hk;have hf:=gf;have hl:=gl;have hhi:=gh;have ho:=go;have hB:=hB1;have hK:=hK1;clear gf gl gh go hB1 hK1;clear kf kl kh ko ff fl fh fo;have kf:=blk_cell hf.out 0;have kl:=blk_cell hl.out 0;have kh:=blk_cell hhi.out 0;have ko:=blk_cell ho.out 0;have ff:=blk_frozen hf.out 0;have fl:=blk_frozen hl.out 0;have fh:=blk_frozen hhi.out 0;have fo:=blk_frozen ho.out 0;simp only [List.getElem?_toArray,List.getElem?_cons_zero] at kf kl kh ko))|(go_at_call 29;(with_reducible refine gate_args (b:=b) ?_);refine (c29 _ _ hh.out _).mono ?_;rintro e w2 ⟨rfl,hk⟩;go_loud (have gf:=Aside0.mk (hk.blk (blk_far hf.out hfl (.string a)));have gl:=Aside0.mk (hk.blk (blk_put (cs':= #[.string a]) hl.out 0 (.string a) rfl));have gh:=Aside0.mk (hk.blk (blk_far hhi.out n2' (.string a)));have go:=Aside0.mk (hk.blk (blk_far ho.out hol (.string a)));have hB1:=Aside0.mk ((hB.out.setCell (p:=⟨bl,0,none⟩) L.out.2.1 (.string a)).trans (Kept.below hk (Nat.le_trans L.out.2.1 (Nat.le_of_lt (blk_lt (blk_put (cs':= #[.string a]) hl.out 0 (.string a) rfl))))));have hK1:=Aside0.mk ((hK.out.setCell (p:=⟨bl,0,none⟩) hl.out (by decide) (.string a) LB.out.2.1).trans (Kept.of_ext hk _));clear hf hl hhi ho hB hK hk;have hf:=gf;have hl:=gl;have hhi:=gh;have ho:=go;have hB:=hB1;have hK:=hK1;clear gf gl gh go hB1 hK1;clear kf kl kh ko ff fl fh fo;have kf:=blk_cell hf.out 0;have kl:=blk_cell hl.out 0;have kh:=blk_cell hhi.out 0;have ko:=blk_cell ho.out 0;have ff:=blk_frozen hf.out 0;have fl:=blk_frozen hl.out 0;have fh:=blk_frozen hhi.out 0;have fo:=blk_frozen ho.out 0;simp only [List.getElem?_toArray,List.getElem?_cons_zero] at kf kl kh ko)))
      go_end0
      refine ⟨rfl,blk_put (cs':= #[.bool false]) (blk_far (blk_far hf.out hfh _) n1 _) 0 _ rfl,?_,?_,?_,
    ((hB.out.setCell (p:=⟨bh,0,none⟩) L.out.2.2.1 _).setCell (p:=⟨bo,0,none⟩) L.out.2.2.2 _).setCell (p:=⟨bf,0,none⟩) L.out.1 _,
    ((hK.out.setCell (p:=⟨bh,0,none⟩) hhi.out (by decide) _ LB.out.2.2.1).setCell (p:=⟨bo,0,none⟩) (blk_far ho.out hoh _) (by decide) _ LB.out.2.2.2).setCell (p:=⟨bf,0,none⟩) (blk_far (blk_far hf.out hfh _) n1 _) (by decide) _ LB.out.1⟩
      ·rw [LE.out];exact blk_far (blk_far (blk_far hl.out n2 _) hol' _) hfl' _
      ·rw [HE.out];exact blk_far (blk_far (blk_put (cs':= #[.string b]) hhi.out 0 _ rfl) hoh' _) hfh' _
      ·rw [HE.out];exact blk_far (blk_put (cs':= #[.bool out]) (blk_far ho.out hoh _) 0 _ rfl) n1' _
    ·have HE:=Lib.hid (show seeHi false hi o b out=(hi,o) by simp [seeHi,h2,h3])
     have d3:(cmpB hi b==0)=false:=by simp [h3]
     clear h2 h3
     have hf:=Aside0.mk hf
     have hl:=Aside0.mk hl
     have hhi:=Aside0.mk hhi
     have ho:=Aside0.mk ho
     have hB:=Aside0.mk (Below.refl base w)
     have hK:=Aside0.mk (Kept.refl [4,9] w)
     go_enter Tryz.func78,Tryz.ntmps78
     go_wp2_with (first|(go_at_call 29;(with_reducible refine gate_args (b:=lo) ?_);refine (c29 _ _ ha.out _).mono ?_;rintro e w2 ⟨rfl,hk⟩;go_loud (have gf:=Aside0.mk (hk.blk hf.out);have gl:=Aside0.mk (hk.blk hl.out);have gh:=Aside0.mk (hk.blk hhi.out);have go:=Aside0.mk (hk.blk ho.out);have hB1:=Aside0.mk (hB.out.trans (Kept.below hk (Nat.le_trans L.out.2.1 (Nat.le_of_lt (blk_lt hl.out)))));have hK1:=Aside0.mk (hK.out.trans (Kept.of_ext hk _));clear hf hl hhi ho hB hK hk;have hf:=gf;have hl:=gl;have hhi:=gh;have ho:=go;have hB:=hB1;have hK:=hK1;clear gf gl gh go hB1 hK1;clear kf kl kh ko ff fl fh fo;have kf:=blk_cell hf.out 0;have kl:=blk_cell hl.out 0;have kh:=blk_cell hhi.out 0;have ko:=blk_cell ho.out 0;have ff:=blk_frozen hf.out 0;have fl:=blk_frozen hl.out 0;have fh:=blk_frozen hhi.out 0;have fo:=blk_frozen ho.out 0;simp only [List.getElem?_toArray,List.getElem?_cons_zero] at kf kl kh ko))|(go_at_call 29;(with_reducible refine gate_args (b:=b) ?_);refine (c29 _ _ hh.out _).mono ?_;rintro e w2 ⟨rfl,hk⟩;go_loud (have gf:=Aside0.mk (hk.blk (blk_far hf.out hfl (.string a)));have gl:=Aside0.mk (hk.blk (blk_put (cs':= #[.string a]) hl.out 0 (.string a) rfl));have gh:=Aside0.mk (hk.blk (blk_far hhi.out n2' (.string a)));have go:=Aside0.mk (hk.blk (blk_far ho.out hol (.string a)));have hB1:=Aside0.mk ((hB.out.setCell (p:=⟨bl,0,none⟩) L.out.2.1 (.string a)).trans (Kept.below hk (Nat.le_trans L.out.2.1 (Nat.le_of_lt (blk_lt (blk_put (cs':= #[.string a]) hl.out 0 (.string a) rfl))))));have hK1:=Aside0.mk ((hK.out.setCell (p:=⟨bl,0,none⟩) hl.out (by decide) (.string a) LB.out.2.1).trans (Kept.of_ext hk _));clear hf hl hhi ho hB hK hk;have hf:=gf;have hl:=gl;have hhi:=gh;have ho:=go;have hB:=hB1;have hK:=hK1;clear gf gl gh go hB1 hK1;clear kf kl kh ko ff fl fh fo;have kf:=blk_cell hf.out 0;have kl:=blk_cell hl.out 0;have kh:=blk_cell hhi.out 0;have ko:=blk_cell ho.out 0;have ff:=blk_frozen hf.out 0;have fl:=blk_frozen hl.out 0;have fh:=blk_frozen hhi.out 0;have fo:=blk_frozen ho.out 0;simp only [List.getElem?_toArray,List.getElem?_cons_zero] at kf kl kh ko)))
     go_end0
     refine ⟨rfl,blk_put (cs':= #[.bool false]) hf.out 0 _ rfl,?_,?_,?_,
    hB.out.setCell (p:=⟨bf,0,none⟩) L.out.1 _,
    hK.out.setCell (p:=⟨bf,0,none⟩) hf.out (by decide) _ LB.out.1⟩
     ·rw [LE.out];exact blk_far hl.out hfl' _
     ·rw [HE.out];exact blk_far hhi.out hfh' _
     ·rw [HE.out];exact blk_far ho.out n1' _
  ·have LE:=Lib.hid (show seeLo false lo a=lo by simp [seeLo,h1])
   have d1:decide (cmpB a lo < 0)=false:=decide_eq_false h1
   clear h1
   by_cases h2:cmpB hi b < 0
   ·have HE:=Lib.hid (show seeHi false hi o b out=(b,out) by simp [seeHi,h2])
    have d2:decide (cmpB hi b < 0)=true:=decide_eq_true h2
    clear h2
    have hf:=Aside0.mk hf
    have hl:=Aside0.mk hl
    have hhi:=Aside0.mk hhi
    have ho:=Aside0.mk ho
    have hB:=Aside0.mk (Below.refl base w)
    have hK:=Aside0.mk (Kept.refl [4,9] w)
    go_enter Tryz.func78,Tryz.ntmps78
    go_wp2_with (first|(go_at_call 29;(with_reducible refine gate_args (b:=lo) ?_);refine (c29 _ _ ha.out _).mono ?_;rintro e w2 ⟨rfl,hk⟩;go_loud (have gf:=Aside0.mk (hk.blk hf.out);have gl:=Aside0.mk (hk.blk hl.out);have gh:=Aside0.mk (hk.blk hhi.out);have go:=Aside0.mk (hk.blk ho.out);have hB1:=Aside0.mk (hB.out.trans (Kept.below hk (Nat.le_trans L.out.2.1 (Nat.le_of_lt (blk_lt hl.out)))));have hK1:=Aside0.mk (hK.out.trans (Kept.of_ext hk _));clear hf hl hhi ho hB hK hk;have hf:=gf;have hl:=gl;have hhi:=gh;have ho:=go;have hB:=hB1;have hK:=hK1;clear gf gl gh go hB1 hK1;clear kf kl kh ko ff fl fh fo;have kf:=blk_cell hf.out 0;have kl:=blk_cell hl.out 0;have kh:=blk_cell hhi.out 0;have ko:=blk_cell ho.out 0;have ff:=blk_frozen hf.out 0;have fl:=blk_frozen hl.out 0;have fh:=blk_frozen hhi.out 0;have fo:=blk_frozen ho.out 0;simp only [List.getElem?_toArray,List.getElem?_cons_zero] at kf kl kh ko))|(go_at_call 29;(with_reducible refine gate_args (b:=b) ?_);refine (c29 _ _ hh.out _).mono ?_;rintro e w2 ⟨rfl,hk⟩;go_loud (have gf:=Aside0.mk (hk.blk hf.out);have gl:=Aside0.mk (hk.blk hl.out);have gh:=Aside0.mk (hk.blk hhi.out);have go:=Aside0.mk (hk.blk ho.out);have hB1:=Aside0.mk (hB.out.trans (Kept.below hk (Nat.le_trans L.out.2.1 (Nat.le_of_lt (blk_lt hl.out)))));have hK1:=Aside0.mk (hK.out.trans (Kept.of_ext hk _));clear hf hl hhi ho hB hK hk;have hf:=gf;have hl:=gl;have hhi:=gh;have ho:=go;have hB:=hB1;have hK:=hK1;clear gf gl gh go hB1 hK1;clear kf kl kh ko ff fl fh fo;have kf:=blk_cell hf.out 0;have kl:=blk_cell hl.out 0;have kh:=blk_cell hhi.out 0;have ko:=blk_cell ho.out 0;have ff:=blk_frozen hf.out 0;have fl:=blk_frozen hl.out 0;have fh:=blk_frozen hhi.out 0;have fo:=blk_frozen ho.out 0;simp only [List.getElem?_toArray,List.getElem?_cons_zero] at kf kl kh ko)))
    go_end0
    refine ⟨rfl,blk_put (cs':= #[.bool false]) (blk_far (blk_far hf.out hfh _) n1 _) 0 _ rfl,?_,?_,?_,
    ((hB.out.setCell (p:=⟨bh,0,none⟩) L.out.2.2.1 _).setCell (p:=⟨bo,0,none⟩) L.out.2.2.2 _).setCell (p:=⟨bf,0,none⟩) L.out.1 _,
    ((hK.out.setCell (p:=⟨bh,0,none⟩) hhi.out (by decide) _ LB.out.2.2.1).setCell (p:=⟨bo,0,none⟩) (blk_far ho.out hoh _) (by decide) _ LB.out.2.2.2).setCell (p:=⟨bf,0,none⟩) (blk_far (blk_far hf.out hfh _) n1 _) (by decide) _ LB.out.1⟩
    ·rw [LE.out];exact blk_far (blk_far (blk_far hl.out n2 _) hol' _) hfl' _
    ·rw [HE.out];exact blk_far (blk_far (blk_put (cs':= #[.string b]) hhi.out 0 _ rfl) hoh' _) hfh' _
    ·rw [HE.out];exact blk_far (blk_put (cs':= #[.bool out]) (blk_far ho.out hoh _) 0 _ rfl) n1' _
   ·have d2:decide (cmpB hi b < 0)=false:=decide_eq_false h2
    by_cases h3:cmpB hi b=0
    ·have d3:(cmpB hi b==0)=true:=by simp [h3]
     have H3:=Lib.hid h3
     clear h3
     cases o
     ·have HE:=Lib.hid (show seeHi false hi false b out=(hi,false) by simp [seeHi,H3.out])
      clear h2
      have hf:=Aside0.mk hf
      have hl:=Aside0.mk hl
      have hhi:=Aside0.mk hhi
      have ho:=Aside0.mk ho
      have hB:=Aside0.mk (Below.refl base w)
      have hK:=Aside0.mk (Kept.refl [4,9] w)
      go_enter Tryz.func78,Tryz.ntmps78
      go_wp2_with (first|(go_at_call 29;(with_reducible refine gate_args (b:=lo) ?_);refine (c29 _ _ ha.out _).mono ?_;rintro e w2 ⟨rfl,hk⟩;go_loud (have gf:=Aside0.mk (hk.blk hf.out);have gl:=Aside0.mk (hk.blk hl.out);have gh:=Aside0.mk (hk.blk hhi.out);have go:=Aside0.mk (hk.blk ho.out);have hB1:=Aside0.mk (hB.out.trans (Kept.below hk (Nat.le_trans L.out.2.1 (Nat.le_of_lt (blk_lt hl.out)))));have hK1:=Aside0.mk (hK.out.trans (Kept.of_ext hk _));clear hf hl hhi ho hB hK hk;have hf:=gf;have hl:=gl;have hhi:=gh;have ho:=go;have hB:=hB1;have hK:=hK1;clear gf gl gh go hB1 hK1;clear kf kl kh ko ff fl fh fo;have kf:=blk_cell hf.out 0;have kl:=blk_cell hl.out 0;have kh:=blk_cell hhi.out 0;have ko:=blk_cell ho.out 0;have ff:=blk_frozen hf.out 0;have fl:=blk_frozen hl.out 0;have fh:=blk_frozen hhi.out 0;have fo:=blk_frozen ho.out 0;simp only [List.getElem?_toArray,List.getElem?_cons_zero] at kf kl kh ko))|(go_at_call 29;(with_reducible refine gate_args (b:=b) ?_);refine (c29 _ _ hh.out _).mono ?_;rintro e w2 ⟨rfl,hk⟩;go_loud (have gf:=Aside0.mk (hk.blk hf.out);have gl:=Aside0.mk (hk.blk hl.out);have gh:=Aside0.mk (hk.blk hhi.out);have go:=Aside0.mk (hk.blk ho.out);have hB1:=Aside0.mk (hB.out.trans (Kept.below hk (Nat.le_trans L.out.2.1 (Nat.le_of_lt (blk_lt hl.out)))));have hK1:=Aside0.mk (hK.out.trans (Kept.of_ext hk _));clear hf hl hhi ho hB hK hk;have hf:=gf;have hl:=gl;have hhi:=gh;have ho:=go;have hB:=hB1;have hK:=hK1;clear gf gl gh go hB1 hK1;clear kf kl kh ko ff fl fh fo;have kf:=blk_cell hf.out 0;have kl:=blk_cell hl.out 0;have kh:=blk_cell hhi.out 0;have ko:=blk_cell ho.out 0;have ff:=blk_frozen hf.out 0;have fl:=blk_frozen hl.out 0;have fh:=blk_frozen hhi.out 0;have fo:=blk_frozen ho.out 0;simp only [List.getElem?_toArray,List.getElem?_cons_zero] at kf kl kh ko)))
      go_end0
      refine ⟨rfl,blk_put (cs':= #[.bool false]) hf.out 0 _ rfl,?_,?_,?_,
    hB.out.setCell (p:=⟨bf,0,none⟩) L.out.1 _,
    hK.out.setCell (p:=⟨bf,0,none⟩) hf.out (by decide) _ LB.out.1⟩
      ·rw [LE.out];exact blk_far hl.out hfl' _
      ·rw [HE.out];exact blk_far hhi.out hfh' _
      ·rw [HE.out];exact blk_far ho.out n1' _
     ·have HE:=Lib.hid (show seeHi false hi true b out=(b,out) by simp [seeHi,H3.out])
      clear h2
      have hf:=Aside0.mk hf
      have hl:=Aside0.mk hl
      have hhi:=Aside0.mk hhi
      have ho:=Aside0.mk ho
      have hB:=Aside0.mk (Below.refl base w)
      have hK:=Aside0.mk (Kept.refl [4,9] w)
      go_enter Tryz.func78,Tryz.ntmps78
      go_wp2_with (first|(go_at_call 29;(with_reducible refine gate_args (b:=lo) ?_);refine (c29 _ _ ha.out _).mono ?_;rintro e w2 ⟨rfl,hk⟩;go_loud (have gf:=Aside0.mk (hk.blk hf.out);have gl:=Aside0.mk (hk.blk hl.out);have gh:=Aside0.mk (hk.blk hhi.out);have go:=Aside0.mk (hk.blk ho.out);have hB1:=Aside0.mk (hB.out.trans (Kept.below hk (Nat.le_trans L.out.2.1 (Nat.le_of_lt (blk_lt hl.out)))));have hK1:=Aside0.mk (hK.out.trans (Kept.of_ext hk _));clear hf hl hhi ho hB hK hk;have hf:=gf;have hl:=gl;have hhi:=gh;have ho:=go;have hB:=hB1;have hK:=hK1;clear gf gl gh go hB1 hK1;clear kf kl kh ko ff fl fh fo;have kf:=blk_cell hf.out 0;have kl:=blk_cell hl.out 0;have kh:=blk_cell hhi.out 0;have ko:=blk_cell ho.out 0;have ff:=blk_frozen hf.out 0;have fl:=blk_frozen hl.out 0;have fh:=blk_frozen hhi.out 0;have fo:=blk_frozen ho.out 0;simp only [List.getElem?_toArray,List.getElem?_cons_zero] at kf kl kh ko))|(go_at_call 29;(with_reducible refine gate_args (b:=b) ?_);refine (c29 _ _ hh.out _).mono ?_;rintro e w2 ⟨rfl,hk⟩;go_loud (have gf:=Aside0.mk (hk.blk hf.out);have gl:=Aside0.mk (hk.blk hl.out);have gh:=Aside0.mk (hk.blk hhi.out);have go:=Aside0.mk (hk.blk ho.out);have hB1:=Aside0.mk (hB.out.trans (Kept.below hk (Nat.le_trans L.out.2.1 (Nat.le_of_lt (blk_lt hl.out)))));have hK1:=Aside0.mk (hK.out.trans (Kept.of_ext hk _));clear hf hl hhi ho hB hK hk;have hf:=gf;have hl:=gl;have hhi:=gh;have ho:=go;have hB:=hB1;have hK:=hK1;clear gf gl gh go hB1 hK1;clear kf kl kh ko ff fl fh fo;have kf:=blk_cell hf.out 0;have kl:=blk_cell hl.out 0;have kh:=blk_cell hhi.out 0;have ko:=blk_cell ho.out 0;have ff:=blk_frozen hf.out 0;have fl:=blk_frozen hl.out 0;have fh:=blk_frozen hhi.out 0;have fo:=blk_frozen ho.out 0;simp only [List.getElem?_toArray,List.getElem?_cons_zero] at kf kl kh ko)))
      go_end0
      refine ⟨rfl,blk_put (cs':= #[.bool false]) (blk_far (blk_far hf.out hfh _) n1 _) 0 _ rfl,?_,?_,?_,
    ((hB.out.setCell (p:=⟨bh,0,none⟩) L.out.2.2.1 _).setCell (p:=⟨bo,0,none⟩) L.out.2.2.2 _).setCell (p:=⟨bf,0,none⟩) L.out.1 _,
    ((hK.out.setCell (p:=⟨bh,0,none⟩) hhi.out (by decide) _ LB.out.2.2.1).setCell (p:=⟨bo,0,none⟩) (blk_far ho.out hoh _) (by decide) _ LB.out.2.2.2).setCell (p:=⟨bf,0,none⟩) (blk_far (blk_far hf.out hfh _) n1 _) (by decide) _ LB.out.1⟩
      ·rw [LE.out];exact blk_far (blk_far (blk_far hl.out n2 _) hol' _) hfl' _
      ·rw [HE.out];exact blk_far (blk_far (blk_put (cs':= #[.string b]) hhi.out 0 _ rfl) hoh' _) hfh' _
      ·rw [HE.out];exact blk_far (blk_put (cs':= #[.bool out]) (blk_far ho.out hoh _) 0 _ rfl) n1' _
    ·have HE:=Lib.hid (show seeHi false hi o b out=(hi,o) by simp [seeHi,h2,h3])
     have d3:(cmpB hi b==0)=false:=by simp [h3]
     clear h2 h3
     have hf:=Aside0.mk hf
     have hl:=Aside0.mk hl
     have hhi:=Aside0.mk hhi
     have ho:=Aside0.mk ho
     have hB:=Aside0.mk (Below.refl base w)
     have hK:=Aside0.mk (Kept.refl [4,9] w)
     go_enter Tryz.func78,Tryz.ntmps78
     go_wp2_with (first|(go_at_call 29;(with_reducible refine gate_args (b:=lo) ?_);refine (c29 _ _ ha.out _).mono ?_;rintro e w2 ⟨rfl,hk⟩;go_loud (have gf:=Aside0.mk (hk.blk hf.out);have gl:=Aside0.mk (hk.blk hl.out);have gh:=Aside0.mk (hk.blk hhi.out);have go:=Aside0.mk (hk.blk ho.out);have hB1:=Aside0.mk (hB.out.trans (Kept.below hk (Nat.le_trans L.out.2.1 (Nat.le_of_lt (blk_lt hl.out)))));have hK1:=Aside0.mk (hK.out.trans (Kept.of_ext hk _));clear hf hl hhi ho hB hK hk;have hf:=gf;have hl:=gl;have hhi:=gh;have ho:=go;have hB:=hB1;have hK:=hK1;clear gf gl gh go hB1 hK1;clear kf kl kh ko ff fl fh fo;have kf:=blk_cell hf.out 0;have kl:=blk_cell hl.out 0;have kh:=blk_cell hhi.out 0;have ko:=blk_cell ho.out 0;have ff:=blk_frozen hf.out 0;have fl:=blk_frozen hl.out 0;have fh:=blk_frozen hhi.out 0;have fo:=blk_frozen ho.out 0;simp only [List.getElem?_toArray,List.getElem?_cons_zero] at kf kl kh ko))|(go_at_call 29;(with_reducible refine gate_args (b:=b) ?_);refine (c29 _ _ hh.out _).mono ?_;rintro e w2 ⟨rfl,hk⟩;go_loud (have gf:=Aside0.mk (hk.blk hf.out);have gl:=Aside0.mk (hk.blk hl.out);have gh:=Aside0.mk (hk.blk hhi.out);have go:=Aside0.mk (hk.blk ho.out);have hB1:=Aside0.mk (hB.out.trans (Kept.below hk (Nat.le_trans L.out.2.1 (Nat.le_of_lt (blk_lt hl.out)))));have hK1:=Aside0.mk (hK.out.trans (Kept.of_ext hk _));clear hf hl hhi ho hB hK hk;have hf:=gf;have hl:=gl;have hhi:=gh;have ho:=go;have hB:=hB1;have hK:=hK1;clear gf gl gh go hB1 hK1;clear kf kl kh ko ff fl fh fo;have kf:=blk_cell hf.out 0;have kl:=blk_cell hl.out 0;have kh:=blk_cell hhi.out 0;have ko:=blk_cell ho.out 0;have ff:=blk_frozen hf.out 0;have fl:=blk_frozen hl.out 0;have fh:=blk_frozen hhi.out 0;have fo:=blk_frozen ho.out 0;simp only [List.getElem?_toArray,List.getElem?_cons_zero] at kf kl kh ko)))
     go_end0
     refine ⟨rfl,blk_put (cs':= #[.bool false]) hf.out 0 _ rfl,?_,?_,?_,
    hB.out.setCell (p:=⟨bf,0,none⟩) L.out.1 _,
    hK.out.setCell (p:=⟨bf,0,none⟩) hf.out (by decide) _ LB.out.1⟩
     ·rw [LE.out];exact blk_far hl.out hfl' _
     ·rw [HE.out];exact blk_far hhi.out hfh' _
     ·rw [HE.out];exact blk_far ho.out n1' _
 ·have LE:=Lib.hid (show seeLo true lo a=a by simp [seeLo])
  have HE:=Lib.hid (show seeHi true hi o b out=(b,out) by simp [seeHi])
  have hf:=Aside0.mk hf
  have hl:=Aside0.mk hl
  have hhi:=Aside0.mk hhi
  have ho:=Aside0.mk ho
  have hB:=Aside0.mk (Below.refl base w)
  have hK:=Aside0.mk (Kept.refl [4,9] w)
  go_enter Tryz.func78,Tryz.ntmps78
  go_wp2_with (first|(go_at_call 29;refine (c29 _ _ hh.out _).mono ?_;rintro e w2 ⟨rfl,hk⟩;go_loud (have gf:=Aside0.mk (hk.blk (blk_far hf.out hfl (.string a)));have gl:=Aside0.mk (hk.blk (blk_put (cs':= #[.string a]) hl.out 0 (.string a) rfl));have gh:=Aside0.mk (hk.blk (blk_far hhi.out n2' (.string a)));have go:=Aside0.mk (hk.blk (blk_far ho.out hol (.string a)));have hB1:=Aside0.mk ((hB.out.setCell (p:=⟨bl,0,none⟩) L.out.2.1 (.string a)).trans (Kept.below hk (Nat.le_trans L.out.2.1 (Nat.le_of_lt (blk_lt (blk_put (cs':= #[.string a]) hl.out 0 (.string a) rfl))))));have hK1:=Aside0.mk ((hK.out.setCell (p:=⟨bl,0,none⟩) hl.out (by decide) (.string a) LB.out.2.1).trans (Kept.of_ext hk _));clear hf hl hhi ho hB hK hk;have hf:=gf;have hl:=gl;have hhi:=gh;have ho:=go;have hB:=hB1;have hK:=hK1;clear gf gl gh go hB1 hK1;clear kf kl kh ko ff fl fh fo;have kf:=blk_cell hf.out 0;have kl:=blk_cell hl.out 0;have kh:=blk_cell hhi.out 0;have ko:=blk_cell ho.out 0;have ff:=blk_frozen hf.out 0;have fl:=blk_frozen hl.out 0;have fh:=blk_frozen hhi.out 0;have fo:=blk_frozen ho.out 0;simp only [List.getElem?_toArray,List.getElem?_cons_zero] at kf kl kh ko)))
  go_end0
  refine ⟨rfl,blk_put (cs':= #[.bool false]) (blk_far (blk_far hf.out hfh _) n1 _) 0 _ rfl,?_,?_,?_,
    ((hB.out.setCell (p:=⟨bh,0,none⟩) L.out.2.2.1 _).setCell (p:=⟨bo,0,none⟩) L.out.2.2.2 _).setCell (p:=⟨bf,0,none⟩) L.out.1 _,
    ((hK.out.setCell (p:=⟨bh,0,none⟩) hhi.out (by decide) _ LB.out.2.2.1).setCell (p:=⟨bo,0,none⟩) (blk_far ho.out hoh _) (by decide) _ LB.out.2.2.2).setCell (p:=⟨bf,0,none⟩) (blk_far (blk_far hf.out hfh _) n1 _) (by decide) _ LB.out.1⟩
  ·rw [LE.out];exact blk_far (blk_far (blk_far hl.out n2 _) hol' _) hfl' _
  ·rw [HE.out];exact blk_far (blk_far (blk_put (cs':= #[.string b]) hhi.out 0 _ rfl) hoh' _) hfh' _
  ·rw [HE.out];exact blk_far (blk_put (cs':= #[.bool out]) (blk_far ho.out hoh _) 0 _ rfl) n1' _
end Go.Proofs.YtghppnklhbbffaaGreatDoor.TL
namespace Go.Proofs.YtghppnklhbbffaaGreatDoor.TL
open Go Go.RowKit
theorem cb_vals [Bd]: ∀ (a b:List UInt8),Lib.compareBytes a b= -1∨Lib.compareBytes a b=0∨Lib.compareBytes a b=1
 |[],[]=>by simp [Lib.compareBytes]
 |[],_::_=>by simp [Lib.compareBytes]
 |_::_,[]=>by simp [Lib.compareBytes]
 |x::a,y::b=>by
  have:=cb_vals a b
  simp only [Lib.compareBytes]
  (repeat' split)<;>simp_all
theorem cb_refl [Bd]: ∀ (a:List UInt8),Lib.compareBytes a a=0
 |[]=>by simp [Lib.compareBytes]
 |x::a=>by
  have:=cb_refl a
  simp [Lib.compareBytes,this]
theorem cb_eq [Bd]: ∀ (a b:List UInt8),Lib.compareBytes a b=0→a=b
 |[],[]=>by simp
 |[],_::_=>by simp [Lib.compareBytes]
 |_::_,[]=>by simp [Lib.compareBytes]
 |x::a,y::b=>by
  intro h
  simp only [Lib.compareBytes,UInt8.lt_iff_toNat_lt] at h
  by_cases h1:x.toNat < y.toNat
  ·simp [h1] at h
  ·by_cases h2:y.toNat < x.toNat
   ·simp [h1,h2] at h
   ·simp [h1,h2] at h
    have hxy:x=y:=UInt8.toNat_inj.1 (by omega)
    rw [cb_eq a b h,hxy]
theorem cb_anti [Bd]: ∀ (a b:List UInt8),Lib.compareBytes b a= - Lib.compareBytes a b
 |[],[]=>by simp [Lib.compareBytes]
 |[],_::_=>by simp [Lib.compareBytes]
 |_::_,[]=>by simp [Lib.compareBytes]
 |x::a,y::b=>by
  have:=cb_anti a b
  simp only [Lib.compareBytes,UInt8.lt_iff_toNat_lt]
  by_cases h1:x.toNat < y.toNat
  ·simp [h1,show ¬ y.toNat < x.toNat by omega]
  ·by_cases h2:y.toNat < x.toNat
   ·simp [h1,h2]
   ·simp [h1,h2,this]
theorem cb_trans [Bd]: ∀ (a b c:List UInt8),Lib.compareBytes a b≤0→Lib.compareBytes b c≤0→Lib.compareBytes a c≤0
 |[],_,[]=>by simp [Lib.compareBytes]
 |[],_,_::_=>by simp [Lib.compareBytes]
 |_::_,[],_=>by simp [Lib.compareBytes]
 |_::_,_::_,[]=>by simp [Lib.compareBytes]
 |x::a,y::b,z::c=>by
  have ih:=cb_trans a b c
  simp only [Lib.compareBytes,UInt8.lt_iff_toNat_lt]
  by_cases h1:x.toNat < y.toNat<;>by_cases h2:y.toNat < x.toNat<;>by_cases h3:y.toNat < z.toNat<;>by_cases h4:z.toNat < y.toNat<;>
   by_cases h5:x.toNat < z.toNat<;>by_cases h6:z.toNat < x.toNat<;>simp [h1,h2,h3,h4,h5,h6]<;>first|omega|exact ih
theorem cb_trans_lt [Bd] (a b c:List UInt8) (h1:Lib.compareBytes a b < 0) (h2:Lib.compareBytes b c≤0):Lib.compareBytes a c < 0:=by
 have h3:=cb_trans a b c (by omega) h2
 rcases Int.lt_or_eq_of_le h3 with h|h
 ·exact h
 ·have:=cb_eq a c h;subst this
  have:=cb_anti a b;omega
theorem cb_trans_lt' [Bd] (a b c:List UInt8) (h1:Lib.compareBytes a b≤0) (h2:Lib.compareBytes b c < 0):Lib.compareBytes a c < 0:=by
 have h3:=cb_trans a b c h1 (by omega)
 rcases Int.lt_or_eq_of_le h3 with h|h
 ·exact h
 ·have:=cb_eq a c h;subst this
  have:=cb_anti a b;omega
theorem cmpB_refl [Bd] (a:ByteArray):cmpB a a=0:=cb_refl _
theorem cmpB_anti [Bd] (a b:ByteArray):cmpB b a= - cmpB a b:=cb_anti _ _
theorem cmpB_vals [Bd] (a b:ByteArray):cmpB a b= -1∨cmpB a b=0∨cmpB a b=1:=cb_vals _ _
theorem cmpB_eq [Bd] {a b:ByteArray} (h:cmpB a b=0):a=b:=by
 have:=cb_eq _ _ h
 cases a;cases b
 congr
 exact Array.toList_inj.1 this
theorem cmpB_le_trans [Bd] {a b c:ByteArray} (h1:cmpB a b≤0) (h2:cmpB b c≤0):cmpB a c≤0:=cb_trans _ _ _ h1 h2
theorem cmpB_lt_le [Bd] {a b c:ByteArray} (h1:cmpB a b < 0) (h2:cmpB b c≤0):cmpB a c < 0:=cb_trans_lt _ _ _ h1 h2
theorem cmpB_le_lt [Bd] {a b c:ByteArray} (h1:cmpB a b≤0) (h2:cmpB b c < 0):cmpB a c < 0:=cb_trans_lt' _ _ _ h1 h2
end Go.Proofs.YtghppnklhbbffaaGreatDoor.TL
