/- Part 14 of the proof that laws.FnTreeLevel answers true, for arguments of small bulk. -/
import Derived.Test.YtghppnklhbbffaaGreatDoorR05
import Derived.Test.YtghppnklhbbffaaGreatDoorR13
import Derived.Laws.Bits64b
import Derived.MapKept
set_option linter.all false
set_option maxHeartbeats 4000000
set_option maxRecDepth 100000
namespace Go.Proofs.YtghppnklhbbffaaGreatDoor.X
open Go Go.RowKit Go.Proofs.YtghppnklhbbffaaGreatDoor.TL
def nodeR (r:Int) (k:Nat) (fm:Nat→Addr):List SV:=
 [.it .i32 r,.it .i16 k,.bl true,.it .i64 k]++(List.range 31).map (itemS k fm)++[.ns]++List.replicate 32 .np
theorem run_slice354 [Bd] (w:World) (a:Addr) (n:Nat) (hn:n≤31):(Instr.sliceAt 354 (.pointer (some a)) none (some (.int .i16 n)) none).run Tryz.prog w=.ok (.slice (some a) n 31) w:=by
 have hu:=Tryz.underlying354
 have h1:(Instr.sliceBound (.int .i16 n) 31 .sliceAlen).run Tryz.prog w=.ok n w:=by
  rw [run_sliceBound w .i16 n 31 .sliceAlen (by omega) (by omega)];simp
 simp [Instr.sliceAt,run_underlying hu,Instr.sureAddr,Instr.sliceBounds,h1,Result.andThen]
 rfl
theorem run_slice354S [Bd] {T:List SV} (nb ob:Nat) (w:World) (n:Nat) (hn:n≤31) (h1:evS T (.tmp 19)=.p 0 4) (h2:evS T (.tmp 24)=.it .i16 n) (o:Oper) (ho:o.op=.slice 354 (.tmp 19) none (some (.tmp 24)) none):
  (execOp (actS ([nb,ob]++[]) T).eval o).run Tryz.prog w=.ok (.value (.slice (some ⟨nb,4,none⟩) n 31)) w:=by
 have e1:(actS ([nb,ob]++[]) T).eval (.tmp 19)=.pointer (some ⟨nb,4,none⟩):=by
  rw [ev_den,h1];rfl
 have e2:(actS ([nb,ob]++[]) T).eval (.tmp 24)=.int .i16 n:=by
  rw [ev_den,h2];rfl
 have hr:=run_slice354 w ⟨nb,4,none⟩ n hn
 simp only [execOp,ho,e1,e2,Option.map_none,Option.map_some,Sem.run_bind,hr,Result.andThen,Sem.run_pure]
def nilV:V1:=⟨.slice none 0 0,rfl⟩
def H105 (r:Int) (n:Nat) (fl:Nat→Nat) (x:V1):List SB:=[⟨360,nodeR r n (flA fl)⟩,⟨218,[o1 x]⟩]
noncomputable def Q105 (n:Nat) (fl:Nat→Nat):ST:=runS Tryz.prog ⟨[],2,[],[],0⟩ 200 (startS Tryz.f105 [.p 0 0,.bl true,.p 1 0] (H105 1 n fl nilV))
noncomputable def P105 (n:Nat) (fl:Nat→Nat):ST:=runS Tryz.prog ⟨[],2,[],[],0⟩ 200 (afterC (Q105 n fl) (.it .i32 0) (H105 0 n fl nilV))
noncomputable def O105 (n:Nat) (fl:Nat→Nat) (nb ob:Nat) (w:World):ST:=runS Tryz.prog ⟨[],2,[],[],0⟩ 200 (enterD [] [] [nb,ob] w (P105 n fl))
noncomputable def S105 (n:Nat) (fl:Nat→Nat) (nb ob:Nat) (w:World):ST:=runS Tryz.prog ⟨[],2,[],[],0⟩ 200 (afterC (O105 n fl nb ob w) (.sl ⟨nb,4,none⟩ n 31) (H105 0 n fl nilV))
def T105 (n:Nat) (nb:Nat) (j:Int) (xs:Nat→Value):List SV:=[.p 0 0,.bl true,.p 1 0,.un,.un,.un,.un,.va (xs 7),.un,.p 0 0,.p 0 0,.p 0 0,.p 0 0,.it .i32 0,.bl false,.bl true,.p 0 0,.p 0 0,.p 0 0,.p 0 4,.p 0 0,.p 0 0,.p 0 0,.p 0 1,.it .i16 n,.sl ⟨nb,4,none⟩ n 31,.si .i64 n,.si .i64 j,.va (xs 28),.va (xs 29),.va (xs 30),.va (xs 31),.va (xs 32),.va (xs 33),.va (xs 34),.va (xs 35),.va (xs 36),.va (xs 37),.va (xs 38),.va (xs 39),.va (xs 40),.va (xs 41),.va (xs 42),.va (xs 43),.va (xs 44),.va (xs 45),.va (xs 46),.va (xs 47),.va (xs 48),.un,.un,.un,.un,.un,.un,.un,.un,.un,.un,.un,.un,.un,.un,.un,.un,.un,.un,.un,.un,.un,.un,.un]
def J105 [Bd] (n:Nat) (fl:Nat→Nat) (nb ob:Nat) (w0 wd:World) (m:Nat) (bs:List Nat) (T:List SV) (H:List SB) (w:World):Prop:=
 ∃ (j k:Nat) (xs:Nat→Value) (x:V1) (vs:List Value),j≤n∧m+j=n∧k≤j∧bs=[nb,ob]∧T=T105 n nb j xs∧H=H105 0 n fl x∧w.ownsRow Bd.B 180 1 x.1 k vs∧(∀ b∈[nb,ob],some b≠x.1.ownBlock)∧Fr [360,218,180,311] w0 [nb,ob] bs w∧Rb w0 w
theorem own_kept [Bd] {w w':World} {ts:List TypeId} {e size n:Nat} {v:Value} {xs:List Value} (h:w.ownsRow Bd.B e size v n xs) (hk:Kept ts w w') (he:e∉ts):w'.ownsRow Bd.B e size v n xs:=by
 refine ⟨h.1,?_⟩
 rcases h.2 with h0|⟨g,cap,cur,rfl,hb,hg,rest⟩
 ·exact .inl h0
 ·exact .inr ⟨g,cap,cur,rfl,hb,by rw [hk.block g (solid_of hg he)];exact hg,rest⟩
theorem own_lt' [Bd] {w:World} {e size n:Nat} {v:Value} {xs:List Value} (h:w.ownsRow Bd.B e size v n xs) (k:Nat) (hk:v.ownBlock=some k):k < w.heap.size:=(h.lt k hk).2
theorem nodeR_item [Bd] (r:Int) (n:Nat) (fl:Nat→Nat) (j:Nat) (hj:j < n) (hn:n≤10):(nodeR r n (flA fl))[4+j]? =some (itemS n (flA fl) j):=by
 unfold nodeR
 rw [List.append_assoc,List.append_assoc,List.getElem?_append_right (by simp),List.getElem?_append_left (by simp;omega)]
 simp only [List.length_cons,List.length_nil,List.getElem?_map]
 rw [List.getElem?_range (by omega)]
 simp
theorem itemV_lt [Bd] (n:Nat) (fl:Nat→Nat) (j:Nat) (hj:j < n):itemV n (flA fl) j=.pointer (some ⟨fl j,0,none⟩):=by
 unfold itemV
 rw [show Nat.blt j n=true by simpa [Nat.blt_eq] using hj]
 rfl
theorem c105 [Bd] (n:Nat) (hn:n≤10) (fl:Nat→Nat) (nb ob:Nat) (w:World) (hs:Sat [nb,ob] (H105 1 n fl nilV) w) (hfb: ∀ i,i < n→FB w (fl i)):
  Calls Tryz.prog 105 #[.pointer (some ⟨nb,0,none⟩),.bool true,.pointer (some ⟨ob,0,none⟩)] w fun e w'=>e=.returned (.tuple #[])∧Kept [360,218,180,311] w w'∧Rb w w'∧ ∃ x,Sat [nb,ob] (H105 0 n fl x) w':=by
 refine gs (bs:=[nb,ob]) [.p 0 0,.bl true,.p 1 0] _ Tryz.func105 hs (fun hW=>?_)
 refine ga0 200 ⟨[],2,[],[],0⟩ hW (Fr.refl _ _ _) fun w1 hF1 hW1=>?_
 have hs1:=hW1.satE (H105 1 n fl nilV) (by kernel_rfl)
 refine gc 131 [.p 0 0,.it .i32 (-1)] hW1 ?_
 refine (c131 ⟨nb,0,none⟩ 1 (-1) w1 (hs1.cell 0 360 (nodeR 1 n (flA fl)) rfl 0 (.it .i32 1) (by kernel_rfl)) (by simp [World.frozen?,show w1.heap[nb]? =_ from hs1.mem 0 _ rfl])).mono ?_
 rintro e w2 ⟨rfl,rfl⟩
 have hs2:Sat [nb,ob] (H105 0 n fl nilV) (w1.setCell ⟨nb,0,none⟩ (.int .i32 0)):=hs1.setCell 0 360 (nodeR 1 n (flA fl)) rfl 0 (.it .i32 0)
 have hK2:Kept [360] w1 (w1.setCell ⟨nb,0,none⟩ (.int .i32 0)):=(Kept.refl _ w1).setCell (hs1.mem 0 _ rfl) (by simp) _ (hs1.lo nb (by simp))
 rw [show IntKind.i32.wrap (1+ -1)=0 by rfl]
 have hR2:Rb w1 (w1.setCell ⟨nb,0,none⟩ (.int .i32 0)):=Rb.of_kept hK2
 generalize w1.setCell ⟨nb,0,none⟩ (.int .i32 0)=w2 at *
 refine ⟨.it .i32 0,[],H105 0 n fl nilV,rfl,hs2,fun hW2=>?_⟩
 have hF2:Fr [360,218,180,311] w [nb,ob] [nb,ob] w2:=(hF1.mono (us:=[360,218,180,311])).call (nw:=[]) hK2
 refine gr0 (bs:=[nb,ob]) 200 ⟨[],2,[],[],0⟩ hW2 fun w3 hK3 hW3=>?_
 refine gd [] [] hW3 (fun hW4=>?_)
 refine gr0 (bs:=[nb,ob]) 200 ⟨[],2,[],[],0⟩ hW4 fun w4 hK4 hW4=>?_
 have hs4:=hW4.satE (H105 0 n fl nilV) (by kernel_rfl)
 refine go_opD (.slice 354 (.tmp 19) none (some (.tmp 24)) none) [] w3.drew (by kernel_rfl) (by kernel_rfl) hW4 w4 (.sl ⟨nb,4,none⟩ n 31) [] (H105 0 n fl nilV) (.value (.slice (some ⟨nb,4,none⟩) n 31)) (run_slice354S nb ob w4 n (by omega) (by kernel_rfl) (by kernel_rfl)) (.inl rfl) hs4 (fun h=>h) (fun hW5=>?_)
 refine gr0 (bs:=[nb,ob]) 200 ⟨[],2,[],[],0⟩ hW5 fun w5 hK5 hW5=>?_
 have hF5:Fr [360,218,180,311] w [nb,ob] [nb,ob] w5:=((hF2.call (nw:=[]) hK3).drew.call (nw:=[]) hK4).call (nw:=[]) hK5
 have hR5:Rb w w5:=(Rb.of_kept hF1.kept).trans (hR2.trans ((Rb.of_kept hK3).trans ((Rb.of_kept ((Kept.refl [] w3).drew)).trans ((Rb.of_kept hK4).trans (Rb.of_kept hK5)))))
 refine go_loop (s:=S105 n fl nb ob w3.drew) (bs:=[nb,ob]) (J105 n fl nb ob w w3.drew) n (by kernel_rfl) hW5 (fun xs=>T105 n nb 0 xs) (H105 0 n fl nilV) (by kernel_rfl) (by kernel_rfl) (fun xs=>⟨0,0,xs,nilV,[],by omega,by omega,by omega,rfl,rfl,rfl,World.ownsRow_nil _ _ _ _,by simp [Value.ownBlock,nilV],hF5,hR5⟩) ?_ ?_
 ·rintro m bs' T H w' ⟨j,k,xs,x,vs,_,_,_,rfl,_⟩
  exact ⟨[],rfl⟩
 ·rintro m bs' T H w' ⟨j,k,xs,x,vs,hj,hm,hkj,rfl,rfl,rfl,hown,hne,hF',hR'⟩ hW'
  by_cases hlt:j < n
  ·refine go_run (s:=bodyS (S105 n fl nb ob w3.drew) (Hand (J105 n fl nb ob w w3.drew) m) (T105 n nb j xs) (H105 0 n fl x)) (bs:=[nb,ob]) 200 ⟨[],2,[],[(28,true)],0⟩ (by kernel_rfl) hW' rfl [(decide ((j:Int) < n),true),(decide ((0:Int)≤j),true),(decide ((j:Int) < n),true)] (by kernel_rfl) ⟨by simpa using hlt,by simp,by simpa using hlt,trivial⟩ ?_
   intro nw w6 _ hK6 hW6
   obtain rfl:=nw0 (hW6.num 2 (by kernel_rfl)) rfl
   have hs6:=hW6.satE (H105 0 n fl x) (by kernel_rfl)
   have hc6:w6.cell? ((⟨nb,4,none⟩:Addr).add ((j:Int).toNat*1))=some ((SV.ptr ⟨fl j,0,none⟩).den [nb,ob]):=by
    have:=hs6.cell 0 360 (nodeR 0 n (flA fl)) rfl (4+j) _ (nodeR_item 0 n fl j hlt hn)
    rw [show (itemS n (flA fl) j).den ([nb,ob]++[])=itemV n (flA fl) j from rfl,itemV_lt n fl j hlt] at this
    rw [Int.toNat_natCast,Nat.mul_one,SV.den,show (⟨nb,4,none⟩:Addr).add j=⟨nb,4+j,none⟩ by simp [Addr.add]]
    exact this
   refine go_load 79 (.tmp 29) ((⟨nb,4,none⟩:Addr).add ((j:Int).toNat*1)) (.ptr ⟨fl j,0,none⟩) (H105 0 n fl x) (by kernel_rfl) (by kernel_rfl) (by kernel_rfl) hW6 (by kernel_rfl) hc6 (fun hW7=>?_)
   clear hc6
   refine gr0 (bs:=[nb,ob]) 200 ⟨[],2,[],[],0⟩ hW7 fun w7 hK7 hW7=>?_
   have hs7:=hW7.satE (H105 0 n fl x) (by kernel_rfl)
   have hR7:Rb w w7:=hR'.trans ((Rb.of_kept hK6).trans (Rb.of_kept hK7))
   refine gc 132 [.ptr ⟨fl j,0,none⟩] hW7 ?_
   refine (unref_any hs7 (by kernel_rfl) (fl j) (hR7 _ (hfb j hlt))).mono ?_
   rintro e w8 ⟨r,rfl,hs8,hK8,hR8⟩
   have hown8:=own_kept (own_kept (own_kept hown hK6 (by simp)) hK7 (by simp)) hK8 (by simp)
   have hF8:=((hF'.call (nw:=[]) hK6).call (nw:=[]) hK7).call (nw:=[]) hK8
   refine ⟨.si .i32 r,[],_,rfl,hs8,fun hW8=>?_⟩
   by_cases hr0:r=0
   ·refine gr0 (bs:=[nb,ob]) 200 ⟨[],2,[],[(33,true)],0⟩ hW8 (fun w9 hK9 hW9=>?_) [(r==0,true)] ⟨by simpa using hr0,trivial⟩
    have hR9:Rb w w9.drew:=hR7.trans (hR8.trans ((Rb.of_kept hK9).trans (Rb.of_kept ((Kept.refl [] w9).drew))))
    obtain ⟨cf,fb,cs,r',q1,q2,q3,q4⟩:=hR9 _ (hfb j hlt)
    refine gd [180] [] hW9 (fun hW10=>?_)
    refine gr0 (bs:=[nb,ob]) 200 ⟨[],2,[],[],0⟩ hW10 fun w10 hK10 hW10=>?_
    refine go_hload 7 180 (.tmp 43) [180] w9.drew ⟨fl j,2,none⟩ (.ptr ⟨fb,0,none⟩) (H105 0 n fl x) (by kernel_rfl) (by kernel_rfl) (by kernel_rfl) (by kernel_rfl) hW10 (by kernel_rfl) (fun w' hC=>?_) (fun hW11=>?_)
    ·rw [SV.den]
     exact cell_of_heap ((hC.block _ (solid_of q1 (by simp))).trans q1) q2
    have hown10:=own_kept (own_kept hown8 hK9 (by simp)) (((Kept.refl [] w9).drew).trans hK10) (by simp)
    refine go_bsliceD 218 180 1 [180] w9.drew (.tmp 44) [.ptr ⟨fb,0,none⟩] (H105 0 n fl x) (by kernel_rfl) (by kernel_rfl) (by kernel_rfl) (by kernel_rfl) (by kernel_rfl) rfl (by omega) (by omega) hW11 (by kernel_rfl) (by kernel_rfl) (by kernel_rfl) (fun sb w12 hsb hE12 hW12=>?_)
    have hs12:=hW12.satE (H105 0 n fl x++[⟨180,[.ptr ⟨fb,0,none⟩]⟩]) (by kernel_rfl)
    have hown12:=own_kept hown10 hE12 (by simp)
    refine go_appendD 218 180 1 8 [180] w9.drew (.pointer none) (.tmp 40) (.tmp 45) x.1 k vs ⟨sb,0,none⟩ 1 1 [.pointer (some ⟨fb,0,none⟩)] (H105 0 n fl x++[⟨180,[.ptr ⟨fb,0,none⟩]⟩]) (by kernel_rfl) (by kernel_rfl) (by simp) (by kernel_rfl) (by kernel_rfl) (by kernel_rfl) (by kernel_rfl) rfl (by omega) hW12 (by kernel_rfl) hown12 rfl ?_ ?_ ?_ ?_ ?_ ?_
    ·intro i u hu
     match i,hu with
     |0,hu=>cases hu;exact hs12.cell 2 180 [.ptr ⟨fb,0,none⟩] rfl 0 (.ptr ⟨fb,0,none⟩) rfl
    ·intro u hu;simp only [List.mem_singleton] at hu;subst hu;rfl
    ·simp only [maxLen];omega
    ·omega
    ·intro b hb
     rcases List.mem_append.1 hb with h1|h1
     ·exact hne b h1
     ·simp only [List.mem_singleton] at h1
      intro he
      have:=own_lt' hown10 b he.symm
      omega
    ·intro v' w13 ho hown13 hK13 _ hor hW13
     refine gr0 (bs:=[nb,ob,sb]) 200 ⟨[218],3,[],[],0⟩ hW13 fun w14 hK14 hW14=>?_
     have hs14:=hW14.satE (H105 0 n fl ⟨v',ho⟩++[⟨180,[.ptr ⟨fb,0,none⟩]⟩]) (by kernel_rfl)
     have hs15:Sat [nb,ob] (H105 0 n fl ⟨v',ho⟩) w14:=hs14.sub [0,1] (by decide) (by simp) rfl ⟨hs14.mem 0 _ rfl,hs14.mem 1 _ rfl,trivial⟩
     have hF14:=((((hF8.call (nw:=[]) hK9).drew.call (nw:=[]) hK10).call (nw:=[]) hE12).call (nw:=[]) hK13).call (nw:=[]) hK14
     have hR14:Rb w w14:=hR9.trans ((Rb.of_kept hK10).trans ((Rb.of_kept hE12).trans ((Rb.of_kept hK13).trans (Rb.of_kept hK14))))
     have hne': ∀ b∈[nb,ob],some b≠v'.ownBlock:=by
      intro b hb
      rcases hor with h|h
      ·rw [h];exact hne b hb
      ·rw [h]
       intro he
       have:=hs12.old_lt b (List.mem_append_left _ hb)
       simp only [Option.some.injEq] at he
       omega
     refine go_fin (Hand (J105 n fl nb ob w w3.drew) m) (by kernel_rfl) (fun xs=>T105 n nb (IntKind.i64.wrap ((j:Int)+1)) xs) (by kernel_rfl) (fun xs=>?_)
     rw [wrap_succ j (by omega)]
     exact ⟨m - 1,by omega,[nb,ob],_,_,actS_cut [nb,ob] [sb] _ (by kernel_rfl),hs15,j+1,k+1,xs,⟨v',ho⟩,_,by omega,by omega,by omega,rfl,rfl,rfl,own_kept hown13 hK14 (by simp),hne',hF14,hR14⟩
   ·refine gr0 (bs:=[nb,ob]) 200 ⟨[],2,[],[(33,false)],0⟩ hW8 (fun w9 hK9 hW9=>?_) [(r==0,false)] ⟨by simpa using hr0,trivial⟩
    have hs9:=hW9.satE (H105 0 n fl x) (by kernel_rfl)
    refine go_fin (Hand (J105 n fl nb ob w w3.drew) m) (by kernel_rfl) (fun xs=>T105 n nb (IntKind.i64.wrap ((j:Int)+1)) xs) (by kernel_rfl) (fun xs=>?_)
    rw [wrap_succ j (by omega)]
    exact ⟨m - 1,by omega,_,_,_,rfl,hs9,j+1,k,xs,x,vs,by omega,by omega,by omega,rfl,rfl,rfl,own_kept hown8 hK9 (by simp),hne,hF8.call (nw:=[]) hK9,hR7.trans (hR8.trans (Rb.of_kept hK9))⟩
  ·obtain rfl:j=n:=by omega
   refine go_run (s:=bodyS (S105 j fl nb ob w3.drew) (Hand (J105 j fl nb ob w w3.drew) m) (T105 j nb j xs) (H105 0 j fl x)) (bs:=[nb,ob]) 200 ⟨[],2,[],[(28,false)],0⟩ (by kernel_rfl) hW' rfl [(decide ((j:Int) < j),false)] (by kernel_rfl) ⟨by simp,trivial⟩ ?_
   intro nw w6 _ hK6 hW6
   obtain rfl:=nw0 (hW6.num 2 (by kernel_rfl)) rfl
   have hs6:=hW6.satE (H105 0 j fl x) (by kernel_rfl)
   exact gt (.tup []) hW6.sat ⟨rfl,hF'.kept.trans (hK6.mono (by simp)),hR'.trans (Rb.of_kept hK6),x,hs6⟩
theorem c63 [Bd] (n:Nat) (hn:n≤10) (fl:Nat→Nat) (tb nb:Nat) (cv:V1) (w:World) (hs:Sat [tb,nb] [⟨214,[.p 1 0,o1 cv]⟩,⟨360,nodeR 1 n (flA fl)⟩] w) (hfb: ∀ i,i < n→FB w (fl i)):
  Calls Tryz.prog 63 #[.pointer (some ⟨tb,0,none⟩)] w fun e w'=>(∃ v:V1,e=.returned v.1)∧Kept [214,360,218,180,311] w w'∧Rb w w'∧Sat [tb,nb] [⟨214,[.np,o1 cv]⟩,⟨360,nodeR 0 n (flA fl)⟩] w':=by
 refine gs (bs:=[tb,nb]) [.p 0 0] _ Tryz.func63 hs (fun hW=>?_)
 refine go_runA 200 ⟨[],2,[],[],0⟩ (by kernel_rfl) hW (Fr.refl _ _ _) rfl [] (by kernel_rfl) trivial ?_
 intro nw w1 hF1 hW1
 obtain ⟨ob,rfl⟩:=nw1 (hW1.num 3 (by kernel_rfl)) rfl
 have hs1:=hW1.satE [⟨214,[.p 1 0,o1 cv]⟩,⟨360,nodeR 1 n (flA fl)⟩,⟨218,[.ns]⟩] (by kernel_rfl)
 have hR1:Rb w w1:=Rb.of_kept hF1.kept
 refine gc 105 [.p 1 0,.bl true,.p 2 0] hW1 ?_
 refine (c105 n hn fl nb ob w1 (hs1.sub [1,2] (by decide) (by simp) rfl ⟨blk_any (hs1.mem 1 _ rfl) (by kernel_rfl),hs1.mem 2 _ rfl,trivial⟩) (fun i hi=>hR1 _ (hfb i hi))).mono ?_
 rintro e w2 ⟨rfl,hK2,hR2,x,hs2⟩
 have hs2':Sat [tb,nb,ob] [⟨214,[.p 1 0,o1 cv]⟩,⟨360,nodeR 0 n (flA fl)⟩,⟨218,[o1 x]⟩] w2:=hs1.re rfl ⟨hs1.kp hK2 0 _ rfl rfl,blk_any (hs2.mem 0 _ rfl) (by kernel_rfl),hs2.mem 1 _ rfl,trivial⟩
 refine ⟨.tup [],[],_,rfl,hs2',fun hW2=>?_⟩
 have hF2:Fr [214,360,218,180,311] w [tb,nb] [tb,nb,ob] w2:=(hF1.mono (us:=[214,360,218,180,311])).call (nw:=[]) hK2
 refine gr0 (bs:=[tb,nb,ob]) 200 ⟨[214,218],3,[],[],0⟩ hW2 fun w3 hK3 hW3=>?_
 have hs3:=hW3.satE [⟨214,[.np,o1 cv]⟩,⟨360,nodeR 0 n (flA fl)⟩,⟨218,[o1 x]⟩] (by kernel_rfl)
 refine gt (o1 x) hW3.sat ⟨⟨x,rfl⟩,hF2.kept.trans (hK3.mono (by simp)),hR1.trans (hR2.trans (Rb.of_kept hK3)),hs3.sub [0,1] (by decide) (by simp) rfl ⟨hs3.mem 0 _ rfl,blk_any (hs3.mem 1 _ rfl) (by kernel_rfl),trivial⟩⟩
def Post22 [Bd] (n:Nat) (fl:Nat→Nat) (w:World) (e:Ending) (w':World):Prop:=
 ∃ nb gb,w.heap.size≤nb∧w.heap.size≤gb∧e=.returned (.agg (sliceV (.pointer (some ⟨nb,0,none⟩)) n (.func (.func 103) #[] #[.pointer (some ⟨gb,0,none⟩)])))∧Sat [nb] [⟨360,nodeR 0 n (flA fl)⟩] w'∧Kept [214,360,218,180,311] w w'∧Rb w w'
abbrev k15_0 (n:Nat) (fl:Nat→Nat):List SB:=[⟨95,iterS .np .np 0 .nf++[.it .i64 0,.np,.np]⟩,⟨98,[.fn 65 []]⟩,⟨360,nodeR 0 n (flA fl)⟩,⟨214,[.np,.fn 103 [.p 1 0]]⟩,⟨95,sliceS (.p 2 0) n (.fn 103 [.p 1 0])⟩]
abbrev k15_1:List SB:=[⟨95,iterS .np .np 0 .nf++[.it .i64 0,.np,.np]⟩,⟨98,[.fn 65 []]⟩]
theorem c22 [Bd] (A:Addr) (n c:Nat) (fl:Nat→Nat) (w:World) (hn1:1≤n) (hn:n≤10)
  (hfiles: ∀ i,i < n→ ∀ w',Kept [214,360,311] w w'→w'.cell? (A.add i)=some (.pointer (some ⟨fl i,0,none⟩))) (hfb: ∀ i,i < n→FB w (fl i))
  (hcmp: ∀ i j,i < j→j < n→ ∀ gb w',Kept [214,360,311] w w'→w'.heap[gb]? =some (.cells #[fnv 65] 98 (0,0))→Bd.B≤gb→Calls Tryz.prog 103 #[.pointer (some ⟨fl j,0,none⟩),.pointer (some ⟨fl i,0,none⟩),.pointer (some ⟨gb,0,none⟩)] w' fun e w''=> ∃ r:Int,0 < r∧e=.returned (.int .i64 r)∧Ext w' w'') (hB0:autoParam (Bd.B≤w.heap.size) sz0._auto_1):
  Calls Tryz.prog 22 #[fnv 65,.slice (some A) n c] w (Post22 n fl w):=by
 refine gs (bs:=[]) [.fn 65 [],.sl A n c] [] Tryz.func22 (sat0 w) (fun hW=>?_)
 refine go_runA 200 ⟨[],0,[],[],0⟩ (by kernel_rfl) hW (Fr.refl _ _ _) rfl [] (by kernel_rfl) trivial ?_
 intro nw w1 hF1 hW1
 obtain ⟨b0,rfl⟩:=nw1 (hW1.num 1 (by kernel_rfl)) rfl
 have hs1:=hW1.satE [⟨95,iterS .np .np 0 .nf++[.it .i64 0,.np,.np]⟩] (by kernel_rfl)
 refine gc 62 [.fn 65 []] hW1 ?_
 refine (c62 (fnv 65) rfl w1).mono ?_
 rintro e w2 ⟨gb,rfl,hgb,hg2,hE2⟩
 have hs2:Sat [b0,gb] k15_1 w2:=hs1.ext hgb rfl ⟨hs1.kp hE2 0 _ rfl rfl,hg2,trivial⟩
 refine ⟨.fn 103 [.p 1 0],[gb],_,rfl,hs2,fun hW2=>?_⟩
 have hF2:Fr [] w [] [b0,gb] w2:=hF1.call (nw:=[gb]) hE2 (by simp) (by simpa using hgb)
 refine gf0 (bs:=[b0,gb]) 200 ⟨[],2,[],[],0⟩ hW2 hF2 fun w3 hK3 hF3 hW3=>?_
 have hs3:=hW3.satE k15_1 (by kernel_rfl)
 have hR3:Rb w w3:=Rb.of_kept hF3.kept
 refine gc 61 [.fn 103 [.p 1 0],.sl A n c] hW3 ?_
 refine (c61 103 #[.pointer (some ⟨gb,0,none⟩)] A n c fl w3 (by kernel_rfl) hn1 hn (fun i hi w' hk=>hfiles i hi w' ((hF3.kept.mono (by simp)).trans hk)) (fun i hi=>hR3 _ (hfb i hi)) (fun i j hij hj w' hk=>hcmp i j hij hj gb w' ((hF3.kept.mono (by simp)).trans hk) (hs3.kp hk 1 _ rfl rfl) (hs3.lo gb (by simp)))).mono ?_
 rintro e w4 ⟨nb,hnb,rfl,hs4,hK4,hR4⟩
 have hs4':Sat [b0,gb,nb] [⟨95,iterS .np .np 0 .nf++[.it .i64 0,.np,.np]⟩,⟨98,[.fn 65 []]⟩,⟨360,nodeR 1 n (flA fl)⟩] w4:=hs3.ext hnb rfl ⟨hs3.kp hK4 0 _ rfl rfl,hs3.kp hK4 1 _ rfl rfl,blk_any (hs4.mem 0 _ rfl) (by kernel_rfl),trivial⟩
 refine ⟨.tup [.agg [.p 2 0,.fn 103 [.p 1 0]],.agg (sliceS (.p 2 0) n (.fn 103 [.p 1 0]))],[nb],_,rfl,hs4',fun hW4=>?_⟩
 have hF4:Fr [214,360,218,180,311] w [] [b0,gb,nb] w4:=(hF3.mono (us:=[214,360,218,180,311])).call (nw:=[nb]) hK4 (by simp) (by simpa using hnb)
 refine go_runF (bs:=[b0,gb,nb]) 200 ⟨[],3,[],[],0⟩ (by kernel_rfl) hW4 hF4 rfl [] (by kernel_rfl) trivial ?_
 intro nw w5 hK5 hF5 hW5
 obtain ⟨tb,sb,rfl⟩:=nw2 (hW5.num 5 (by kernel_rfl)) rfl
 have hs5:=hW5.satE [⟨95,iterS .np .np 0 .nf++[.it .i64 0,.np,.np]⟩,⟨98,[.fn 65 []]⟩,⟨360,nodeR 1 n (flA fl)⟩,⟨214,[.p 2 0,.fn 103 [.p 1 0]]⟩,⟨95,sliceS (.p 2 0) n (.fn 103 [.p 1 0])⟩] (by kernel_rfl)
 have hR5:Rb w w5:=hR3.trans (hR4.trans (Rb.of_kept hK5))
 refine gc 63 [.p 3 0] hW5 ?_
 refine (c63 n hn fl tb nb ⟨.func (.func 103) #[] #[.pointer (some ⟨gb,0,none⟩)],rfl⟩ w5 (hs5.sub [3,2] (by decide) (by simp) rfl ⟨hs5.mem 3 _ rfl,blk_any (hs5.mem 2 _ rfl) (by kernel_rfl),trivial⟩) (fun i hi=>hR5 _ (hfb i hi))).mono ?_
 rintro e w6 ⟨⟨v,rfl⟩,hK6,hR6,hs6⟩
 have hs6':Sat [b0,gb,nb,tb,sb] (k15_0 n fl) w6:=
  hs5.re rfl ⟨hs5.kp hK6 0 _ rfl rfl,hs5.kp hK6 1 _ rfl rfl,blk_any (hs6.mem 1 _ rfl) (by kernel_rfl),hs6.mem 0 _ rfl,hs5.kp hK6 4 _ rfl rfl,trivial⟩
 refine ⟨o1 v,[],_,rfl,hs6',fun hW6=>?_⟩
 have hF6:Fr [214,360,218,180,311] w [] [b0,gb,nb,tb,sb] w6:=hF5.call (nw:=[]) hK6
 refine gf0 (bs:=[b0,gb,nb,tb,sb]) 200 ⟨[],5,[],[],0⟩ hW6 hF6 fun w7 hK7 hF7 hW7=>?_
 have hs7:=hW7.satE (k15_0 n fl) (by kernel_rfl)
 refine gc 64 [.agg (sliceS (.p 2 0) n (.fn 103 [.p 1 0]))] hW7 ?_
 refine (c64 (SV.denL [b0,gb,nb,tb,sb] (sliceS (.p 2 0) n (.fn 103 [.p 1 0]))) (by rw [denL_length];rfl) w7).mono ?_
 rintro e w8 ⟨rfl,hE8⟩
 have hs8:=hs7.kq hE8
 refine ⟨.tup [],[],_,rfl,hs8,fun hW8=>?_⟩
 have hF8:Fr [214,360,218,180,311] w [] [b0,gb,nb,tb,sb] w8:=hF7.call (nw:=[]) hE8
 refine gg0 (bs:=[b0,gb,nb,tb,sb]) 200 ⟨[95,4000000],5,[],[],0⟩ hW8 fun w9 hK9 hN9 hW9=>?_
 have hs9:=hW9.satE [⟨95,sliceS (.p 2 0) n (.fn 103 [.p 1 0])⟩,⟨98,[.fn 65 []]⟩,⟨360,nodeR 0 n (flA fl)⟩,⟨214,[.np,.fn 103 [.p 1 0]]⟩,⟨95,sliceS (.p 2 0) n (.fn 103 [.p 1 0])⟩] (by kernel_rfl)
 refine gt (.agg (sliceS (.p 2 0) n (.fn 103 [.p 1 0]))) hW9.sat ?_
 exact ⟨nb,gb,hF8.lo (nw:=[b0,gb,nb,tb,sb]) nb (by simp),hF8.lo (nw:=[b0,gb,nb,tb,sb]) gb (by simp),rfl,Sat.add0 360 _ (blk_any (hs9.mem 2 _ rfl) (by kernel_rfl)),(hF8.callNew hK9 hN9).kept,hR5.trans (hR6.trans ((Rb.of_kept hK7).trans ((Rb.of_kept hE8).trans (Rb.of_kept hK9))))⟩
abbrev stk0:List SV:=[.np,.it .i16 0,.np,.it .i16 0,.np,.it .i16 0,.it .i16 0,.ns]
abbrev stkV:Array Value:= #[.pointer none,.int .i16 0,.pointer none,.int .i16 0,.pointer none,.int .i16 0,.int .i16 0,.slice none 0 0]
theorem c112 [Bd] (sb:Nat) (r cv:V1) (n:Int) (w:World) (hs:Sat [sb] [⟨95,sliceS (o1 r) n (o1 cv)⟩] w):Calls Tryz.prog 112 #[.pointer (some ⟨sb,4,none⟩)] w fun e w'=>e=.returned (.agg stkV)∧Ext w w':=by
 refine gs (bs:=[sb]) [.p 0 4] _ Tryz.func112 hs (fun hW=>?_)
 refine go_runA 200 ⟨[],1,[],[],0⟩ (by kernel_rfl) hW (Fr.refl _ _ _) rfl [] (by kernel_rfl) trivial ?_
 intro nw w1 hF1 hW1
 exact gt (.agg stk0) hW1.sat ⟨rfl,hF1.kept⟩
theorem c77 [Bd] (sb:Nat) (r cv:V1) (n:Int) (w:World) (hs:Sat [sb] [⟨95,sliceS (o1 r) n (o1 cv)⟩] w):Calls Tryz.prog 77 #[.pointer (some ⟨sb,0,none⟩)] w fun e w'=>e=.returned (.agg (iterV r.1 (.pointer none) (-1) cv.1))∧Ext w w':=by
 refine gs (bs:=[sb]) [.p 0 0] _ Tryz.func77 hs (fun hW=>?_)
 refine go_runA 200 ⟨[],1,[],[],0⟩ (by kernel_rfl) hW (Fr.refl _ _ _) rfl [] (by kernel_rfl) trivial ?_
 intro nw w1 hF1 hW1
 obtain ⟨b1,b2,rfl⟩:=nw2 (hW1.num 3 (by kernel_rfl)) rfl
 refine gc 112 [.p 0 4] hW1 ?_
 refine (c112 sb r cv n w1 (hs.keep hF1.kept (by kernel_rfl))).mono ?_
 rintro e w2 ⟨rfl,hE2⟩
 refine ⟨.agg stk0,[],_,rfl,hW1.sat.kq hE2,fun hW2=>?_⟩
 refine go_runA (bs:=[sb,b1,b2]) 200 ⟨[],1,[],[],0⟩ (by kernel_rfl) hW2 (hF1.call (nw:=[]) hE2) rfl [] (by kernel_rfl) trivial ?_
 intro nw w3 hF3 hW3
 exact gt (.agg (iterS (o1 r) .np (-1) (o1 cv))) hW3.sat ⟨rfl,hF3.kept⟩
theorem c26 [Bd] (sb:Nat) (r cv:V1) (n:Int) (w:World) (hs:Sat [sb] [⟨95,sliceS (o1 r) n (o1 cv)⟩] w):Calls Tryz.prog 26 #[.pointer (some ⟨sb,0,none⟩)] w fun e w'=>e=.returned (.agg (iterV r.1 (.pointer none) (-1) cv.1++ #[.pointer none,.pointer none,.int .i8 0]))∧Ext w w':=by
 refine gs (bs:=[sb]) [.p 0 0] _ Tryz.func26 hs (fun hW=>?_)
 refine go_runA 200 ⟨[],1,[],[],0⟩ (by kernel_rfl) hW (Fr.refl _ _ _) rfl [] (by kernel_rfl) trivial ?_
 intro nw w1 hF1 hW1
 obtain ⟨b1,rfl⟩:=nw1 (hW1.num 2 (by kernel_rfl)) rfl
 refine gd [] [] hW1 (fun hW2=>?_)
 refine ga0 (bs:=[sb,b1]) 200 ⟨[],1,[],[],0⟩ hW2 hF1.drew fun w3 hF3 hW3=>?_
 refine gcd 77 [.p 0 0] [] w1.drew hW3 (fun hC=>?_)
 refine (c77 sb r cv n w3 (hs.keep hF3.kept (by kernel_rfl))).mono ?_
 rintro e w4 ⟨rfl,hE4⟩
 refine ⟨.agg (iterS (o1 r) .np (-1) (o1 cv)),[],_,rfl,hW3.sat.kq hE4,hC.trans hE4,fun hW4=>?_⟩
 refine go_runA (bs:=[sb,b1]) 200 ⟨[],1,[],[],0⟩ (by kernel_rfl) hW4 (hF3.call (nw:=[]) hE4) rfl [] (by kernel_rfl) trivial ?_
 intro nw w5 hF5 hW5
 exact gt (.agg (iterS (o1 r) .np (-1) (o1 cv)++[.np,.np,.it .i8 0])) hW5.sat ⟨rfl,hF5.kept⟩
theorem and255 [Bd] (t:Nat) (h:t < 18446744073709551616):bits BinOp.and IntKind.u64 (t:Int) 255 % 256=((t % 256:Nat):Int):=by
 rw [show (255:Int)=((255:Nat):Int) from rfl,bits_and_u64_nat t 255 h (by omega),show (255:Nat)=2 ^ 8 - 1 from rfl,Nat.and_two_pow_sub_one_eq_mod]
 omega
theorem c189 [Bd] (t:Nat) (h:t < 18446744073709551616) (w:World):Calls Tryz.prog 189 #[.int .u64 t] w fun e w'=>e=.returned (.int .u8 ((t % 256:Nat):Int))∧w=w':=by
 rw [←and255 t h]
 clear h
 generalize (t:Int)=t
 go_enter Tryz.func189,Tryz.ntmps189
 go_wp2
 go_ret
 exact ⟨rfl,rfl⟩
theorem c179 [Bd] (u:V1) (t:Nat) (h:t < 18446744073709551616) (w:World) (hB0:autoParam (Bd.B≤w.heap.size) sz0._auto_1):Calls Tryz.prog 179 #[.agg #[u.1,.int .u64 t]] w fun e w'=>e=.returned (.int .u8 ((t % 256:Nat):Int))∧Ext w w':=by
 refine gs (bs:=[]) [.agg [o1 u,.si .u64 t]] _ Tryz.func179 (sat0 w) (fun hW=>?_)
 refine go_runA 200 ⟨[],0,[],[],0⟩ (by kernel_rfl) hW (Fr.refl _ _ _) rfl [] (by kernel_rfl) trivial ?_
 intro nw w1 hF1 hW1
 obtain ⟨b1,rfl⟩:=nw1 (hW1.num 1 (by kernel_rfl)) rfl
 refine gc 189 [.si .u64 t] hW1 ?_
 refine (c189 t h w1).mono ?_
 rintro e w2 ⟨rfl,rfl⟩
 refine ⟨.si .u8 ((t % 256:Nat):Int),[],_,rfl,hW1.sat,fun hW2=>?_⟩
 refine go_runA (bs:=[b1]) 200 ⟨[],0,[],[],0⟩ (by kernel_rfl) hW2 hF1 rfl [] (by kernel_rfl) trivial ?_
 intro nw w3 hF3 hW3
 exact gt (.si .u8 ((t % 256:Nat):Int)) hW3.sat ⟨rfl,hF3.kept⟩
theorem c155 [Bd] (u:V1) (t:Nat) (h:t < 18446744073709551616) (hk:(t % 256≠15∧t % 256≠19∧t % 256≠20∧t % 256≠21)) (w:World) (hB0:autoParam (Bd.B≤w.heap.size) sz0._auto_1):Calls Tryz.prog 155 #[.agg #[u.1,.int .u64 t]] w fun e w'=>e=.returned (.bool false)∧Ext w w':=by
 refine gs (bs:=[]) [.agg [o1 u,.si .u64 t]] _ Tryz.func155 (sat0 w) (fun hW=>?_)
 refine go_runA 200 ⟨[],0,[],[],0⟩ (by kernel_rfl) hW (Fr.refl _ _ _) rfl [] (by kernel_rfl) trivial ?_
 intro nw w1 hF1 hW1
 obtain ⟨b1,rfl⟩:=nw1 (hW1.num 1 (by kernel_rfl)) rfl
 refine gc 179 [.agg [o1 u,.si .u64 t]] hW1 ?_
 refine (c179 u t h w1).mono ?_
 rintro e w2 ⟨rfl,hE2⟩
 refine ⟨.si .u8 ((t % 256:Nat):Int),[],_,rfl,hW1.sat.kq hE2,fun hW2=>?_⟩
 generalize t % 256=q at *
 refine go_runA (bs:=[b1]) 200 ⟨[],0,[],[(8,false),(13,false),(14,false),(15,false)],0⟩ (by kernel_rfl) hW2 (hF1.call (nw:=[]) hE2) rfl [((q:Int)==15,false),((q:Int)==19,false),((q:Int)==20,false),((q:Int)==21,false)] (by kernel_rfl) ⟨by simp;omega,by simp;omega,by simp;omega,by simp;omega,trivial⟩ ?_
 intro nw w3 hF3 hW3
 exact gt (.bl false) hW3.sat ⟨rfl,hF3.kept⟩
end Go.Proofs.YtghppnklhbbffaaGreatDoor.X
namespace Go.Proofs.YtghppnklhbbffaaGreatDoor.X
open Go Go.RowKit Go.MapKept Go.Proofs.YtghppnklhbbffaaGreatDoor.TL
def MapN (w:World) (r:Nat) (es:List (Int×Value)):Prop:= ∃ a clock,w.heap[r]? =some (.map a clock)∧a.toList.map (fun e=>(e.key,e.val))=es.map fun p=>(Value.int .u64 p.1,p.2)
theorem MapN.kept [Bd] {ts:List TypeId} {w w':World} {r:Nat} {es:List (Int×Value)} (h:MapN w r es) (hk:Kept ts w w'):MapN w' r es:=by
 obtain ⟨a,c,h1,h2⟩:=h
 exact ⟨a,c,by rw [hk.block r ⟨_,h1,by rintro _ _ _ _ ⟨⟩⟩];exact h1,h2⟩
theorem MapN.lt [Bd] {w:World} {r:Nat} {es:List (Int×Value)} (h:MapN w r es):r < w.heap.size:=by
 obtain ⟨a,c,h1,h2⟩:=h
 exact (Array.getElem?_eq_some_iff.1 h1).1
theorem MapN.keys [Bd] {a:Array MapEntry} {es:List (Int×Value)} (h:a.toList.map (fun e=>(e.key,e.val))=es.map fun p=>(Value.int .u64 p.1,p.2)): ∀ x∈a.toList, ∃ p∈es,x.key=.int .u64 p.1∧x.val=p.2:=fun x hx=>by
 have:(x.key,x.val)∈es.map fun p=>(Value.int .u64 p.1,p.2):=h ▸ List.mem_map_of_mem hx
 obtain ⟨p,hp,e⟩:=List.mem_map.1 this
 simp only [Prod.mk.injEq] at e
 exact ⟨p,hp,e.1.symm,e.2.symm⟩
theorem run_mapNew [Bd] {P:Program} {w:World} {t kt et:TypeId} {r:Nat} {es:List (Int×Value)} {k:Int} {v:Value} (ht:P.underlying t=some (.map kt et)) (hkt:P.underlying kt=some (.int .u64)) (h:MapN w r es) (hn: ∀ p∈es,p.1≠k):
  ∃ w',(Instr.mapUpdate t (.map (some r)) (.int .u64 k) v).run P w=.ok () w'∧MapN w' r (es++[(k,v)])∧w'.os=w.os∧w'.tape=w.tape∧w'.output=w.output∧w'.heap.size=w.heap.size∧ ∀ i,i≠r→w'.heap[i]? =w.heap[i]?:=by
 obtain ⟨a,c,h1,h2⟩:=h
 have hki:IsKey (.int .u64) (.int .u64 k):=by simp [IsKey]
 have hall: ∀ x∈a.toList,IsKey (.int .u64) x.key:=fun x hx=>by
  obtain ⟨p,_,e,_⟩:=MapN.keys h2 x hx
  rw [e];simp [IsKey]
 have hf:Instr.findNow (.int .u64) (.int .u64 k) a.toList 0=some none:=by
  rcases findNow_spec hki a.toList 0 hall with ⟨q,_⟩|⟨j,e,_,hj,he⟩
  ·exact q
  ·obtain ⟨p,hp,e1,_⟩:=MapN.keys h2 e (List.mem_of_getElem? hj)
   rw [e1] at he
   simp only [Value.int.injEq,true_and] at he
   exact absurd he (hn p hp)
 refine ⟨{ w with heap:=w.heap.setIfInBounds r (.map (a.push { key:=.int .u64 k,val:=v,born:=c }) (c+1)) },?_,⟨_,_,(heap_set h1).1,by simp [h2]⟩,rfl,rfl,rfl,by simp,fun i hi=>(heap_set h1).2 i hi⟩
 simp only [Instr.mapUpdate,Sem.run_bind,run_underlying ht,Go.MapKept.run_getObj_map h1,Go.MapKept.run_checkKey hkt hki,Go.MapKept.run_findKey hkt hf,Go.MapKept.run_setObj_map _ h1,Result.andThen]
theorem run_mapGet [Bd] {P:Program} {w:World} {t kt et:TypeId} {r:Nat} {es:List (Int×Value)} {k:Int} {v:Value} (ht:P.underlying t=some (.map kt et)) (hkt:P.underlying kt=some (.int .u64)) (h:MapN w r es) (hm:(k,v)∈es) (hd: ∀ v',(k,v')∈es→v'=v):
  (Instr.lookup t (.map (some r)) (.int .u64 k) false).run P w=.ok v w:=by
 obtain ⟨a,c,h1,h2⟩:=h
 have hki:IsKey (.int .u64) (.int .u64 k):=by simp [IsKey]
 have hall: ∀ x∈a.toList,IsKey (.int .u64) x.key:=fun x hx=>by
  obtain ⟨p,_,e,_⟩:=MapN.keys h2 x hx
  rw [e];simp [IsKey]
 have hf: ∃ i,Instr.findNow (.int .u64) (.int .u64 k) a.toList 0=some (some (i,v)):=by
  rcases findNow_spec hki a.toList 0 hall with ⟨_,q⟩|⟨j,e,q,hj,he⟩
  ·have:((Value.int .u64 k),v)∈a.toList.map (fun e=>(e.key,e.val)):=h2 ▸ List.mem_map.2 ⟨_,hm,rfl⟩
   obtain ⟨x,hx,e⟩:=List.mem_map.1 this
   simp only [Prod.mk.injEq] at e
   exact absurd e.1 (q x hx)
  ·obtain ⟨p,hp,e1,e2⟩:=MapN.keys h2 e (List.mem_of_getElem? hj)
   rw [e1] at he
   simp only [Value.int.injEq,true_and] at he
   exact ⟨0+j,by rw [q,e2,hd p.2 (by rw [←he];exact hp)]⟩
 obtain ⟨i,hf⟩:=hf
 simp only [Instr.lookup,Sem.run_bind,run_underlying ht,Go.MapKept.run_getObj_map h1,Go.MapKept.run_checkKey hkt hki,Go.MapKept.run_findKey hkt hf,Sem.run_pure,Result.andThen]
 simp [Sem.run_pure]
structure KeptM [Bd] (mb:Nat) (ts:List TypeId) (w w':World):Prop where
 os:w'.os=w.os
 tape:w'.tape=w.tape
 output:w'.output=w.output
 size:w.heap.size≤w'.heap.size
 block: ∀ k,k≠mb→solid w ts k→w'.heap[k]? =w.heap[k]?
 ty: ∀ (k:Nat) (c:Array Value) (t:TypeId) (f:Nat×Nat),w.heap[k]? =some (Obj.cells c t f)→ ∃ c':Array Value,w'.heap[k]? =some (Obj.cells c' t f)
theorem KeptM.of [Bd] {ts:List TypeId} {w w':World} (mb:Nat) (h:Kept ts w w'):KeptM mb ts w w':=⟨h.os,h.tape,h.output,h.size,fun k _ hs=>h.block k hs,h.ty⟩
theorem KeptM.new [Bd] {mb:Nat} {ts:List TypeId} {w0 w w':World} (h0:Kept ts w0 w) (h:KeptM mb ts w w') (hn:w0.heap.size≤mb):Kept ts w0 w':=by
 refine ⟨h.os.trans h0.os,h.tape.trans h0.tape,h.output.trans h0.output,Nat.le_trans h0.size h.size,fun k hk=>?_,fun k c t f hc=>?_⟩
 ·have hlt:=hk.lt
  exact (h.block k (by omega) (h0.solid hk)).trans (h0.block k hk)
 ·obtain ⟨c',h1⟩:=h0.ty k c t f hc
  exact h.ty k c' t f h1
end Go.Proofs.YtghppnklhbbffaaGreatDoor.X
namespace Go.Proofs.YtghppnklhbbffaaGreatDoor.X
open Go Go.RowKit Go.Proofs.YtghppnklhbbffaaGreatDoor.TL
def LB (f:Nat→Value) (n' pos cv:SV):List SV:=
 [.va (f 0),.va (f 1),.va (f 2),.va (f 3),.va (f 4),.va (f 5),.va (f 6),.va (f 7),.va (f 8),.va (f 9),.va (f 10),.va (f 11),.va (f 12),.va (f 13),.va (f 14),.va (f 15),.va (f 16),.va (f 17),.va (f 18),.va (f 19),.va (f 20),.va (f 21),.va (f 22),.va (f 23),.va (f 24),.va (f 25),.va (f 26),.va (f 27),.va (f 28),.va (f 29),.va (f 30),.p 1 0,n',pos,cv,.np,.it .i16 0,.np,.it .i16 0,.np,.it .i16 0,.it .i16 0,.ns,.np,.np,.it .i8 0,.va (f 46),.va (f 47),.va (f 48),.va (f 49),.va (f 50),.va (f 51)]
def nodeS (n:Nat) (fl:Nat→Nat):List SV:=
 [.it .i32 0,.si .i16 n,.bl true,.it .i64 n]++(List.range 31).map (itemS n (flA fl))++[.ns]++List.replicate 32 .np
def HL (f:Nat→Value) (n':SV) (pos:Int) (cv:V1) (n:Nat) (fl:Nat→Nat):List SB:=[⟨330,LB f n' (.si .i16 pos) (o1 cv)⟩,⟨360,nodeS n fl⟩]
theorem wrap16 [Bd] (x:Int) (h0: -32768≤x) (h1:x < 32768):IntKind.i16.wrap x=x:=by
 unfold IntKind.wrap
 simp only [IntKind.signed,IntKind.bits,Bool.true_and]
 show (if decide (x % 65536≥32768)=true then x % 65536 - 65536 else x % 65536)=x
 split<;>simp_all<;>omega
abbrev nbV (nb:Nat):V1:=⟨.pointer (some ⟨nb,0,none⟩),rfl⟩
theorem c185 [Bd] (f:Nat→Value) (nv:V1) (pos:Int) (cv:V1) (n:Nat) (fl:Nat→Nat) (lb nb:Nat) (w:World) (hs:Sat [lb,nb] (HL f (o1 nv) pos cv n fl) w):
  Calls Tryz.prog 185 #[.pointer (some ⟨lb,35,none⟩)] w fun e w'=>e=.returned (.tuple #[])∧Kept [330] w w'∧Sat [lb,nb] (HL f (o1 nv) pos cv n fl) w':=by
 refine gs (bs:=[lb,nb]) [.p 0 35] _ Tryz.func185 hs (fun hW=>?_)
 refine ga0 200 ⟨[330],2,[],[],0⟩ hW (Fr.refl _ _ _) fun w1 hF1 hW1=>?_
 exact gt (.tup []) hW1.sat ⟨rfl,hF1.kept,hW1.sq _⟩
theorem c167 [Bd] (f:Nat→Value) (nv:V1) (pos:Int) (cv:V1) (n:Nat) (fl:Nat→Nat) (lb nb:Nat) (w:World) (hs:Sat [lb,nb] (HL f (o1 nv) pos cv n fl) w):
  Calls Tryz.prog 167 #[.pointer (some ⟨lb,31,none⟩)] w fun e w'=>e=.returned (.tuple #[])∧Kept [330] w w'∧Sat [lb,nb] (HL f (.p 1 0) (-1) cv n fl) w':=by
 refine gs (bs:=[lb,nb]) [.p 0 31] _ Tryz.func167 hs (fun hW=>?_)
 refine ga0 200 ⟨[330],2,[],[],0⟩ hW (Fr.refl _ _ _) fun w1 hF1 hW1=>?_
 refine gc 185 [.p 0 35] hW1 ?_
 refine (c185 f (nbV nb) (-1) cv n fl lb nb w1 (hW1.sq _)).mono ?_
 rintro e w2 ⟨rfl,hK2,hs2⟩
 refine ⟨.tup [],[],HL f (.p 1 0) (-1) cv n fl,rfl,hs2.vals (by kernel_rfl),fun hW2=>?_⟩
 refine ga0 (bs:=[lb,nb]) 200 ⟨[330],2,[],[],0⟩ hW2 (hF1.call (nw:=[]) hK2) fun w3 hF3 hW3=>?_
 exact gt (.tup []) hW3.sat ⟨rfl,hF3.kept,hW3.sq _⟩
theorem c134 [Bd] (f:Nat→Value) (nv:V1) (pos:Int) (cv:V1) (n:Nat) (fl:Nat→Nat) (lb nb:Nat) (w:World) (hs:Sat [lb,nb] (HL f (o1 nv) pos cv n fl) w):
  Calls Tryz.prog 134 #[.pointer (some ⟨lb,31,none⟩)] w fun e w'=>e=.returned (.tuple #[])∧Kept [330] w w'∧Sat [lb,nb] (HL f (.p 1 0) 0 cv n fl) w':=by
 refine gs (bs:=[lb,nb]) [.p 0 31] _ Tryz.func134 hs (fun hW=>?_)
 refine ga0 200 ⟨[330],2,[],[],1⟩ hW (Fr.refl _ _ _) fun w1 hF1 hW1=>?_
 refine gc 167 [.p 0 31] hW1 ?_
 refine (c167 f nv pos cv n fl lb nb w1 (hW1.sq _)).mono ?_
 rintro e w2 ⟨rfl,hK2,hs2⟩
 refine ⟨.tup [],[],HL f (.p 1 0) (-1) cv n fl,rfl,hs2,fun hW2=>?_⟩
 refine ga0 (bs:=[lb,nb]) 200 ⟨[330],2,[],[],1⟩ hW2 (hF1.call (nw:=[]) hK2) fun w3 hF3 hW3=>?_
 exact gt (.tup []) hW3.sat ⟨rfl,hF3.kept,hW3.sq _⟩
theorem c262 [Bd] (f:Nat→Value) (nv:V1) (pos:Int) (cv:V1) (n:Nat) (hn:n≤10) (fl:Nat→Nat) (lb nb:Nat) (w:World) (hs:Sat [lb,nb] (HL f (o1 nv) pos cv n fl) w):
  Calls Tryz.prog 262 #[.pointer (some ⟨lb,31,none⟩)] w fun e w'=>e=.returned (.tuple #[])∧Kept [330] w w'∧Sat [lb,nb] (HL f (.p 1 0) ((n:Int) - 1) cv n fl) w':=by
 refine gs (bs:=[lb,nb]) [.p 0 31] _ Tryz.func262 hs (fun hW=>?_)
 refine ga0 200 ⟨[330],2,[],[],1⟩ hW (Fr.refl _ _ _) fun w1 hF1 hW1=>?_
 refine gc 167 [.p 0 31] hW1 ?_
 refine (c167 f nv pos cv n fl lb nb w1 (hW1.sq _)).mono ?_
 rintro e w2 ⟨rfl,hK2,hs2⟩
 refine ⟨.tup [],[],HL f (.p 1 0) (-1) cv n fl,rfl,hs2,fun hW2=>?_⟩
 refine ga0 (bs:=[lb,nb]) 200 ⟨[330],2,[],[],1⟩ hW2 (hF1.call (nw:=[]) hK2) fun w3 hF3 hW3=>?_
 have hs3:=hW3.satD (HL f (.p 1 0) (IntKind.i16.wrap ((n:Int) - 1)) cv n fl) (by kernel_rfl)
 rw [wrap16 _ (by omega) (by omega)] at hs3
 exact gt (.tup []) hW3.sat ⟨rfl,hF3.kept,hs3⟩
theorem c135_lo [Bd] (f:Nat→Value) (pos:Int) (h:pos < 0) (cv:V1) (n:Nat) (fl:Nat→Nat) (lb nb:Nat) (w:World) (hs:Sat [lb,nb] (HL f (.p 1 0) pos cv n fl) w):
  Calls Tryz.prog 135 #[.pointer (some ⟨lb,31,none⟩)] w fun e w'=>e=.returned (.bool false)∧Ext w w':=by
 refine gs (bs:=[lb,nb]) [.p 0 31] _ Tryz.func135 hs (fun hW=>?_)
 refine ga0 200 ⟨[],2,[],[],0⟩ hW (Fr.refl _ _ _) fun w1 hF1 hW1=>?_
 refine gd [] [] hW1 (fun hW2=>?_)
 refine go_runA (bs:=[lb,nb]) 200 ⟨[],2,[],[(13,false)],0⟩ (by kernel_rfl) hW2 hF1.drew rfl [(decide (pos≥0),false)] (by kernel_rfl) ⟨by simp;omega,trivial⟩ ?_
 intro nw w3 hF3 hW3
 exact gt (.bl false) hW3.sat ⟨rfl,hF3.kept⟩
theorem c135_t [Bd] (f:Nat→Value) (pos:Int) (n:Nat) (h:0≤pos) (h1:pos < n) (cv:V1) (fl:Nat→Nat) (lb nb:Nat) (w:World) (hs:Sat [lb,nb] (HL f (.p 1 0) pos cv n fl) w):
  Calls Tryz.prog 135 #[.pointer (some ⟨lb,31,none⟩)] w fun e w'=>e=.returned (.bool true)∧Ext w w':=by
 refine gs (bs:=[lb,nb]) [.p 0 31] _ Tryz.func135 hs (fun hW=>?_)
 refine ga0 200 ⟨[],2,[],[],0⟩ hW (Fr.refl _ _ _) fun w1 hF1 hW1=>?_
 refine gd [] [] hW1 (fun hW2=>?_)
 refine go_runA (bs:=[lb,nb]) 200 ⟨[],2,[],[(13,true),(28,true)],0⟩ (by kernel_rfl) hW2 hF1.drew rfl [(decide (pos≥0),true),(decide (pos < n),true)] (by kernel_rfl) ⟨by simp;omega,by simp;omega,trivial⟩ ?_
 intro nw w3 hF3 hW3
 exact gt (.bl true) hW3.sat ⟨rfl,hF3.kept⟩
theorem c135_hi [Bd] (f:Nat→Value) (pos:Int) (n:Nat) (h:0≤pos) (h1:n≤pos) (cv:V1) (fl:Nat→Nat) (lb nb:Nat) (w:World) (hs:Sat [lb,nb] (HL f (.p 1 0) pos cv n fl) w):
  Calls Tryz.prog 135 #[.pointer (some ⟨lb,31,none⟩)] w fun e w'=>e=.returned (.bool false)∧Ext w w':=by
 refine gs (bs:=[lb,nb]) [.p 0 31] _ Tryz.func135 hs (fun hW=>?_)
 refine ga0 200 ⟨[],2,[],[],0⟩ hW (Fr.refl _ _ _) fun w1 hF1 hW1=>?_
 refine gd [] [] hW1 (fun hW2=>?_)
 refine go_runA (bs:=[lb,nb]) 200 ⟨[],2,[],[(13,true),(28,false)],0⟩ (by kernel_rfl) hW2 hF1.drew rfl [(decide (pos≥0),true),(decide (pos < n),false)] (by kernel_rfl) ⟨by simp;omega,by simp;omega,trivial⟩ ?_
 intro nw w3 hF3 hW3
 exact gt (.bl false) hW3.sat ⟨rfl,hF3.kept⟩
def onB (pos:Int) (n:Nat):Bool:=decide (0≤pos)&&decide (pos < n)
theorem c135 [Bd] (f:Nat→Value) (pos:Int) (n:Nat) (cv:V1) (fl:Nat→Nat) (lb nb:Nat) (w:World) (hs:Sat [lb,nb] (HL f (.p 1 0) pos cv n fl) w):
  Calls Tryz.prog 135 #[.pointer (some ⟨lb,31,none⟩)] w fun e w'=>e=.returned (.bool (onB pos n))∧Ext w w':=by
 unfold onB
 by_cases h0:0≤pos
 ·by_cases h1:pos < n
  ·simp only [h0,h1,decide_true,Bool.and_true];exact c135_t f pos n h0 h1 cv fl lb nb w hs
  ·simp only [h0,h1,decide_true,decide_false,Bool.and_false];exact c135_hi f pos n h0 (by omega) cv fl lb nb w hs
 ·simp only [h0,decide_false,Bool.false_and];exact c135_lo f pos (by omega) cv n fl lb nb w hs
end Go.Proofs.YtghppnklhbbffaaGreatDoor.X
