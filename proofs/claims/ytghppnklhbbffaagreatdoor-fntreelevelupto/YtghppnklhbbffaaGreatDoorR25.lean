/- Part 25 of the proof that laws.FnTreeLevel answers true, for arguments of small bulk. -/
import Derived.Test.YtghppnklhbbffaaGreatDoorR05
import Derived.Test.YtghppnklhbbffaaGreatDoorR24
import Derived.Test.YtghppnklhbbffaaGreatDoorR11
set_option linter.all false
set_option maxHeartbeats 4000000
set_option maxRecDepth 100000
namespace Go.Proofs.YtghppnklhbbffaaGreatDoor.X
open Go Go.RowKit Go.MapKept Go.Proofs.YtghppnklhbbffaaGreatDoor.TL Go.Proofs.YtghppnklhbbffaaGreatDoor.PFnTreeLevel
abbrev files0:List SV:=[.ns,.ns,.ns,.ns,.ns,.ns,.ns]
def V46_1:List SV:=[.it .i32 0,.np,.ns,.it .i64 0,.it .u64 0,.it .u64 0,.it .u64 0,.np,.nf,.it .i64 0,.it .u64 0,.it .u64 0,.it .u64 0,.np,.nf,.it .i64 0,.it .u64 0,.it .u64 0,.it .u64 0,.np,.nf,.it .i64 0,.it .u64 0,.it .u64 0,.it .u64 0,.np,.nf,.it .i64 0,.it .u64 0,.it .u64 0,.it .u64 0,.np,.nf,.it .i64 0,.it .u64 0,.it .u64 0,.it .u64 0,.np,.nf,.it .i64 0,.it .u64 0,.it .u64 0,.it .u64 0,.np,.nf,.it .i64 0,.it .u64 0,.it .u64 0,.it .u64 0,.np,.nf,.it .i64 0,.it .u64 0,.it .u64 0,.it .u64 0,.np,.nf,.it .i64 0,.it .u64 0,.it .u64 0,.it .u64 0,.np,.nf,.it .i64 0,.it .u64 0,.it .u64 0,.it .u64 0,.np,.nf,.it .i64 0,.it .u64 0,.it .u64 0,.it .u64 0,.np,.nf,.it .i64 0,.it .u64 0,.it .u64 0,.it .u64 0,.np,.nf,.it .i64 0,.it .u64 0,.it .u64 0,.it .u64 0,.np,.nf,.nf,.it .i64 0,.np,.np,.np]
theorem c46_0 [Bd] (w:World) (hB0:autoParam (Bd.B≤w.heap.size) sz0._auto_1):
  Calls Tryz.prog 46 #[fnv 65,.nilFunc,.int .i64 0,.agg #[.slice none 0 0,.slice none 0 0,.slice none 0 0,.slice none 0 0,.slice none 0 0,.slice none 0 0,.slice none 0 0]] w fun e w'=> ∃ vb,e=.returned (.pointer (some ⟨vb,0,none⟩))∧Kept TS46 w w':=by
 refine gs (bs:=[]) [.fn 65 [],.nf,.it .i64 0,.agg (files0)] [] Tryz.func46 (sat0 w) (fun hW=>?_)
 refine gr2 200 ⟨[],0,[],[],9⟩ hW fun b7 vb w1 _ hK1 hW1=>?_
 have hs1:=hW1.sq ([⟨149,files0⟩,⟨286,V46_1⟩])
 refine gd [286] [] hW1 (fun hD=>?_)
 have hKd1:Kept [] w1 w1.drew:=(Kept.refl _ w1).drew
 refine gr0 (bs:=[b7,vb]) 200 ⟨[],2,[],[],1⟩ hD fun w2 hK2 hW2=>?_
 have hs2:=hW2.sq ([⟨149,files0⟩,⟨286,V46_1⟩])
 refine gcd 91 [.ns] [286] w1.drew hW2 (fun hC=>?_)
 refine (c91_0 w2).mono ?_
 rintro e w3 ⟨mb0,rfl,hE3⟩
 have hs3:=hs2.kq hE3
 refine ⟨.fn 120 [.ptr ⟨mb0,0,none⟩],[],_,rfl,hs3,hC.trans (hE3.mono (by simp)),fun hW3=>?_⟩
 refine gr0 (bs:=[b7,vb]) 200 ⟨[],2,[],[],1⟩ hW3 fun w4 hK4 hW4=>?_
 have hs4:=hW4.sq ([⟨149,files0⟩,⟨286,V46_1⟩])
 refine gcd 61 [.fn 120 [.ptr ⟨mb0,0,none⟩],.ns] [286] w1.drew hW4 (fun hC=>?_)
 refine (c61_0 120 #[.pointer (some ⟨mb0,0,none⟩)] w4).mono ?_
 rintro e w5 ⟨rfl,hE5⟩
 have hs5:=hs4.kq hE5
 refine ⟨.tup [.agg [.np,.fn 120 [.ptr ⟨mb0,0,none⟩]],.agg (sliceS .np 0 (.fn 120 [.ptr ⟨mb0,0,none⟩]))],[],_,rfl,hs5,hC.trans (hE5.mono (by simp)),fun hW5=>?_⟩
 refine gr0 (bs:=[b7,vb]) 200 ⟨[286],2,[],[],1⟩ hW5 fun w6 hK6 hW6=>?_
 have hsH:Sat [b7,vb] (HCl none (fun i=>(SV.denL [] V46_1).getD i .nilFunc)) w6:=hW6.sq _
 exact go_cut (ZL 1) 81 (keep46 ((1:Nat):Int)) _ (by kernel_rfl) (by kernel_rfl) (by kernel_rfl) hW6 hsH fun xs2 hcut=>lvls w b7 vb 1 (by decide) (by decide) _ _ xs2 w6 (fun _=>rfl) (hK1.tr (hKd1.tr (hK2.tr (hE3.tr (hK4.tr (hE5.tr hK6 (ts:=TS46)) (ts:=TS46)) (ts:=TS46)) (ts:=TS46)) (ts:=TS46)) (ts:=TS46)) hcut
end Go.Proofs.YtghppnklhbbffaaGreatDoor.X
namespace Go.Proofs.YtghppnklhbbffaaGreatDoor.X
open Go Go.RowKit Go.MapKept Go.Proofs.YtghppnklhbbffaaGreatDoor.TL Go.Proofs.YtghppnklhbbffaaGreatDoor.PFnTreeLevel Go.Proofs.YtghppnklhbbffaaGreatDoorW.PrintWords
theorem KeptM.trans [Bd] {mb:Nat} {ts:List TypeId} {a b c:World} (h:KeptM mb ts a b) (k:KeptM mb ts b c):KeptM mb ts a c:=by
 refine ⟨k.os.trans h.os,k.tape.trans h.tape,k.output.trans h.output,Nat.le_trans h.size k.size,fun i hi hs=>?_,fun i c t f hc=>?_⟩
 ·have hs':solid b ts i:=by
   obtain ⟨o,ho,hn⟩:=hs
   exact ⟨o,(h.block i hi ⟨o,ho,hn⟩).trans ho,hn⟩
  exact (k.block i hi hs').trans (h.block i hi hs)
 ·obtain ⟨c',h1⟩:=h.ty i c t f hc
  exact k.ty i c' t f h1
theorem KeptM.mono [Bd] {mb:Nat} {ts us:List TypeId} {a b:World} (h:KeptM mb ts a b) (hs: ∀ t∈ts,t∈us):KeptM mb us a b:=
 ⟨h.os,h.tape,h.output,h.size,fun k hk ⟨o,ho,hn⟩=>h.block k hk ⟨o,ho,fun hb c t f e hm=>hn hb c t f e (hs t hm)⟩,h.ty⟩
def CK (ts:List TypeId) (w w':World):Prop:= ∀ (k:Nat) (c:Array Value) (t:TypeId) (f:Nat×Nat),w.heap[k]? =some (Obj.cells c t f)→t∉ts→w'.heap[k]? =some (Obj.cells c t f)
theorem CK.of [Bd] {ts:List TypeId} {w w':World} (h:Kept ts w w'):CK ts w w':=fun k c t f hc ht=>(h.block k (solid_of hc ht)).trans hc
theorem CK.ofM [Bd] {ts:List TypeId} {w w':World} {r:Nat} {a:Array MapEntry} {c:Nat} (h:KeptM r ts w w') (hm:w.heap[r]? =some (.map a c)):CK ts w w':=fun k cs t f hc ht=>(h.block k (fun e=>by rw [e,hm] at hc;cases hc) (solid_of hc ht)).trans hc
theorem CK.tr [Bd] {us vs ts:List TypeId} {a b c:World} (h:CK us a b) (k:CK vs b c) (hu: ∀ t∈us,t∈ts:=by simp) (hv: ∀ t∈vs,t∈ts:=by simp):CK ts a c:=fun i cs t f hc ht=>k i cs t f (h i cs t f hc (fun hm=>ht (hu t hm))) (fun hm=>ht (hv t hm))
theorem RdS_ck [Bd] {ts:List TypeId} {w w':World} {v:Value} {s:List UInt8} (h:RdS w v s) (hk:CK ts w w') (ht:5∉ts:=by simp):RdS w' v s:=by
 obtain ⟨b,o,c,cs,f,hv,hb,hc⟩:=h
 have hb':=hk b cs 5 f hb ht
 refine ⟨b,o,c,cs,f,hv,hb',fun i hi=>?_⟩
 have:=hc i hi
 unfold World.cell? at this ⊢
 rw [hb']
 rw [hb] at this
 exact this
theorem own_ck [Bd] {ts:List TypeId} {w w':World} {e size n:Nat} {v:Value} {xs:List Value} (h:w.ownsRow Bd.B e size v n xs) (hk:CK ts w w') (he:e∉ts):w'.ownsRow Bd.B e size v n xs:=by
 refine ⟨h.1,?_⟩
 rcases h.2 with h0|⟨g,cap,cur,rfl,hb,hg,rest⟩
 ·exact .inl h0
 ·exact .inr ⟨g,cap,cur,rfl,hb,hk g _ _ _ hg he,rest⟩
def FOk [Bd] (w:World) (f:Nat) (id:Int) (pts:List S36):Prop:= ∃ (m:FM) (cs:Array Value),m.id=id∧w.heap[f]? =some (.cells (SV.denL [] (fmS m)).toArray 188 (0,0))∧w.heap[m.fb]? =some (.cells cs 311 (0,0))∧(∃ n:Int,cs[0]? =some (.int .i32 n))∧(Bd.B≤m.fb∧Bd.B≤f)∧
 ∀ h:0 < pts.length,RdS w m.u1 (TL.bs pts[0].f0)∧m.t1=pts[0].f1∧RdS w m.u2 (TL.bs pts[pts.length - 1].f0)∧m.t2=pts[pts.length - 1].f1
theorem FOk.ck [Bd] {ts:List TypeId} {w w':World} {f:Nat} {id:Int} {pts:List S36} (h:FOk w f id pts) (hk:CK ts w w') (h1:188∉ts:=by simp) (h2:311∉ts:=by simp) (h5:5∉ts:=by simp):FOk w' f id pts:=by
 obtain ⟨m,cs,q1,q2,q3,q4,q6,q5⟩:=h
 exact ⟨m,cs,q1,hk _ _ _ _ q2 h1,hk _ _ _ _ q3 h2,q4,q6,fun h=>⟨RdS_ck (q5 h).1 hk h5,(q5 h).2.1,RdS_ck (q5 h).2.2.1 hk h5,(q5 h).2.2.2⟩⟩
theorem FOk.fb [Bd] {w:World} {f:Nat} {id:Int} {pts:List S36} (h:FOk w f id pts):FB w f:=by
 obtain ⟨m,cs,_,q2,q3,⟨n,q4⟩,q5,_⟩:=h
 exact ⟨_,m.fb,cs,n,q2,rfl,q3,q4,q5.1⟩
theorem FOk.of21 [Bd] {id:Int} {pts:List S36} {w w':World} {e:Ending} (h:Post21 id pts w e w'): ∃ f,w.heap.size≤f∧e=.returned (fV f)∧Ext w w'∧FOk w' f id pts:=by
 obtain ⟨f,fb,m,h1,h2,h3,h4,h5,h6,h7,h8⟩:=h
 have hb:=h7.mem 1 _ rfl
 have e1:nmB [f,fb] 1=fb:=rfl
 rw [e1] at hb
 exact ⟨f,h1,h3,h6,m,_,h4,blk_any (h7.mem 0 _ rfl) (by kernel_rfl),by rw [h5];exact hb,⟨0,rfl⟩,⟨by rw [h5];exact h7.lo fb (by simp),h7.lo f (by simp)⟩,h8⟩
def TabsR (w:World) (A:Addr) (n:Nat) (num:Nat→Int) (pv:Nat→Value) (P:Nat→List S36):Prop:=
 (∃ cs f,w.heap[A.block]? =some (.cells cs 43 f))∧ ∀ i,i < n→w.cell? (A.add (i*3))=some (.int .u64 (num i))∧w.cell? ((A.add (i*3)).add 1)=some (pv i)∧w.cell? ((A.add (i*3)).add 2)=some (.slice none 0 0)∧RK k36 36 w (pv i) (P i)∧1≤(P i).length∧(P i).length < 2^30
theorem RK_ck [Bd] {α:Type} {d:Kd α} {e:Nat} {w w':World} {v:Value} {xs:List α} {ts:List TypeId} (h:RK d e w v xs) (hk:CK ts w w') (ht: ∀ q∈e::d.E,q∉ts):RK d e w' v xs:=by
 obtain ⟨base,h⟩:=h
 refine ⟨base,Kd.R_mono (Kd.R_move (Kd.R_bound h) fun k hk'=>?_) (fun _ _=>trivial)⟩
 obtain ⟨_,_,_,q,hq,cells,hc⟩:=hk'
 exact (hk k _ _ _ hc (ht q hq)).trans hc.symm
theorem cell_ck [Bd] {ts:List TypeId} {w w':World} {a:Addr} {cs:Array Value} {t:TypeId} {f:Nat×Nat} {v:Value} (hb:w.heap[a.block]? =some (.cells cs t f)) (hk:CK ts w w') (ht:t∉ts) (hc:w.cell? a=some v):w'.cell? a=some v:=by
 have hb':=hk _ _ _ _ hb ht
 unfold World.cell? at hc ⊢
 rw [hb']
 rw [hb] at hc
 exact hc
theorem TabsR.ck [Bd] {ts:List TypeId} {w w':World} {A:Addr} {n:Nat} {num:Nat→Int} {pv:Nat→Value} {P:Nat→List S36} (h:TabsR w A n num pv P) (hk:CK ts w w') (h1:43∉ts:=by simp) (h2: ∀ q∈36::k36.E,q∉ts:=by decide):TabsR w' A n num pv P:=by
 obtain ⟨⟨cs,f,hb⟩,h⟩:=h
 refine ⟨⟨cs,f,hk _ _ _ _ hb h1⟩,fun i hi=>?_⟩
 obtain ⟨q1,q2,q3,q4,q5,q6⟩:=h i hi
 have eb: ∀ a:Addr, ∀ k,(a.add k).block=a.block:=fun a k=>by unfold Addr.add;split<;>rfl
 exact ⟨cell_ck (by rw [eb];exact hb) hk h1 q1,cell_ck (by rw [eb,eb];exact hb) hk h1 q2,cell_ck (by rw [eb,eb];exact hb) hk h1 q3,RK_ck q4 hk h2,q5,q6⟩
theorem go_putN [Bd] {P:Program} {Q:Exit→Act→World→Prop} {bs:List Nat} {w:World} {s:ST} (t kt et:TypeId) (x1 x2 x3:Operand) (r:Nat) (key:Int) (v:Value) (es:List (Int×Value)) (H:List SB) (h:curOp s=some (.mapUpdate t x1 x2 x3)) (h1:(evS s.T x1).den bs=.map (some r)) (h2:(evS s.T x2).den bs=.int .u64 key) (h3:(evS s.T x3).den bs=v) (ht:P.underlying t=some (.map kt et)) (hkt:P.underlying kt=some (.int .u64)) (hs:Wk bs s w) (hH:s.H=H) (hM:MapN w r es) (hn: ∀ p∈es,p.1≠key)
  (hk: ∀ w',MapN w' r (es++[(key,v)])→KeptM r [] w w'→(∀ i,i≠r→w'.heap[i]? =w.heap[i]?)→Wk bs (afterC s .un H) w'→kx P Q (afterC s .un H).K .normal (actS bs (afterC s .un H).T) w'):kx P Q s.K .normal (actS bs s.T) w:=by
 obtain ⟨w',hr,q1,q2,q3,q4,q5,q6⟩:=run_mapNew (v:=v) ht hkt hM hn
 obtain ⟨a,c,hm,_⟩:=hM
 refine go_op (.mapUpdate t x1 x2 x3) h hs w' .un [] H .skip (fun o ho=>?_) (.inr ⟨rfl,rfl⟩) (by rw [List.append_nil];exact (hs.satE H hH).callMap hm q6 q5) (fun hW=>?_)
 ·have e1:(actS bs s.T).eval x1=.map (some r):=by rw [ev_den,h1]
  have e2:(actS bs s.T).eval x2=.int .u64 key:=by rw [ev_den,h2]
  have e3:(actS bs s.T).eval x3=v:=by rw [ev_den,h3]
  simp only [execOp,ho,e1,e2,e3,Sem.run_bind,hr,Result.andThen,Sem.run_pure]
 ·rw [List.append_nil] at hW ⊢
  exact hk w' q1 ⟨q2,q3,q4,by omega,fun k hk' _=>q6 k hk',fun k c' t' f hc=>⟨c',(q6 k (fun e=>by rw [e,hm] at hc;cases hc)).trans hc⟩⟩ q6 hW
def T37 (A:Addr) (n c:Nat) (j:Int) (xs:Nat→Value):List SV:=[.it .i64 1,.sl A n c,.p 0 0,.p 1 0,.un,.un,.un,.va (xs 7),.sl A n c,.si .i64 n,.si .i64 j,.va (xs 11),.va (xs 12),.va (xs 13),.va (xs 14),.va (xs 15),.va (xs 16),.va (xs 17),.va (xs 18),.va (xs 19),.va (xs 20),.va (xs 21),.va (xs 22),.va (xs 23),.va (xs 24),.va (xs 25),.va (xs 26),.va (xs 27)]
def H37 (r:Nat) (fv:V1):List SB:=[⟨148,[.oc (.map (some r)) rfl]⟩,⟨149,[.ns,o1 fv,.ns,.ns,.ns,.ns,.ns]⟩]
noncomputable def S37 (A:Addr) (n c r:Nat):ST:=runS Tryz.prog ⟨[],2,[],[],0⟩ 200 (startS Tryz.f37 [.it .i64 1,.sl A n c,.p 0 0,.p 1 0] (H37 r nilV))
def tabE (num:Nat→Int) (pv:Nat→Value) (j:Nat):List (Int×Value):=(List.range j).map fun i=>(num i,tabV (num i) (pv i) (.slice none 0 0))
theorem tabE_succ [Bd] (num:Nat→Int) (pv:Nat→Value) (j:Nat):tabE num pv (j+1)=tabE num pv j++[(num j,tabV (num j) (pv j) (.slice none 0 0))]:=by
 unfold tabE;rw [List.range_succ,List.map_append];rfl
def I37 [Bd] (num:Nat→Int) (pv:Nat→Value) (P:Nat→List S36) (r:Nat) (fv:V1) (j:Nat) (fls:List Nat) (w:World):Prop:=
 fls.length=j∧w.ownsRow Bd.B 79 1 fv.1 j (fls.map fV)∧MapN w r (tabE num pv j)∧(∀ i (h:i < fls.length),FOk w fls[i] (num i) (P i))∧fls.Nodup
theorem I37.kept [Bd] {ts:List TypeId} {num:Nat→Int} {pv:Nat→Value} {P:Nat→List S36} {r:Nat} {fv:V1} {j:Nat} {fls:List Nat} {w w':World} (h:I37 num pv P r fv j fls w) (hk:Kept ts w w') (h1:188∉ts:=by simp) (h2:311∉ts:=by simp) (h5:5∉ts:=by simp) (h79:79∉ts:=by simp):I37 num pv P r fv j fls w':=by
 obtain ⟨q1,q2,q3,q4,q5⟩:=h
 exact ⟨q1,own_kept q2 hk h79,q3.kept hk,fun i hi=>(q4 i hi).ck (CK.of hk) h1 h2 h5,q5⟩
def J37 [Bd] (A:Addr) (n c r tb fb:Nat) (num:Nat→Int) (pv:Nat→Value) (P:Nat→List S36) (w0:World) (m:Nat) (bs:List Nat) (T:List SV) (H:List SB) (w:World):Prop:=
 ∃ (j:Nat) (xs:Nat→Value) (fv:V1) (fls:List Nat),j≤n∧m+j=n∧bs=[tb,fb]∧T=T37 A n c j xs∧H=H37 r fv∧I37 num pv P r fv j fls w∧TabsR w A n num pv P∧KeptM r [149,79] w0 w
theorem c37 [Bd] (A:Addr) (n c r tb fb:Nat) (num:Nat→Int) (pv:Nat→Value) (P:Nat→List S36) (w:World) (hn:n≤10) (hnum: ∀ i j,i < n→j < n→num i=num j→i=j) (hs:Sat [tb,fb] (H37 r nilV) w) (hM:MapN w r []) (hT:TabsR w A n num pv P):
  Calls Tryz.prog 37 #[.int .i64 1,.slice (some A) n c,.pointer (some ⟨tb,0,none⟩),.pointer (some ⟨fb,0,none⟩)] w fun e w'=>e=.returned (.tuple #[])∧KeptM r [149,79] w w'∧ ∃ (fv:V1) (fls:List Nat),Sat [tb,fb] (H37 r fv) w'∧I37 num pv P r fv n fls w'∧TabsR w' A n num pv P:=by
 refine gs (bs:=[tb,fb]) [.it .i64 1,.sl A n c,.p 0 0,.p 1 0] (H37 r nilV) Tryz.func37 hs (fun hW=>?_)
 refine gr0 200 ⟨[],2,[],[],0⟩ hW fun w1 hE1 hW1=>?_
 have hI0:I37 num pv P r nilV 0 [] w1:=⟨rfl,World.ownsRow_nil _ _ _ _,hM.kept hE1,fun i h=>absurd h (by simp),List.nodup_nil⟩
 refine go_loop (s:=S37 A n c r) (bs:=[tb,fb]) (J37 A n c r tb fb num pv P w) n (by kernel_rfl) hW1 (fun xs=>T37 A n c 0 xs) (H37 r nilV) (by kernel_rfl) (by kernel_rfl)
  (fun xs=>⟨0,xs,nilV,[],by omega,by omega,rfl,rfl,rfl,hI0,hT.ck (CK.of hE1),KeptM.of r (hE1.mono (by simp))⟩) ?_ ?_
 ·rintro m bs' T H w' ⟨j,xs,fv,fls,_,_,rfl,_⟩
  exact ⟨[],rfl⟩
 ·rintro m bs' T H w' ⟨j,xs,fv,fls,hj,hm,rfl,rfl,rfl,hI,hTa,hKM⟩ hW'
  by_cases hlt:j < n
  ·refine go_run (s:=bodyS (S37 A n c r) (Hand (J37 A n c r tb fb num pv P w) m) (T37 A n c j xs) (H37 r fv)) (bs:=[tb,fb]) 200 ⟨[],2,[],[(11,true)],0⟩ (by kernel_rfl) hW' rfl [(decide ((j:Int) < n),true),(decide ((0:Int)≤j),true),(decide ((j:Int) < n),true)] (by kernel_rfl) ⟨by simpa using hlt,by simp,by simpa using hlt,trivial⟩ ?_
   intro nw v1 _ hG1 hV1
   obtain rfl:=nw0 (hV1.num 2 (by kernel_rfl)) rfl
   have hT1:=hTa.ck (CK.of hG1)
   have hI1:=hI.kept hG1
   obtain ⟨p1,p2,p3,p4,p5,p6⟩:=hT1.2 j hlt
   obtain ⟨Av,cv,hpv,_,_⟩:=p4.at36
   have hpv1:(pv j).oneCell'=true:=by rw [hpv];rfl
   refine go_loadA 43 (.tmp 12) (A.add ((j:Int).toNat*3)) [.si .u64 (num j),.oc (pv j) hpv1,.ns] (H37 r fv) (by kernel_rfl) (by kernel_rfl) (by kernel_rfl) (by kernel_rfl) hV1 (by kernel_rfl) ?_ (fun hV2=>?_)
   ·intro i y hy
    rw [Int.toNat_natCast]
    match i,hy with
    |0,hy=>cases hy;rw [show (A.add (j*3)).add 0=A.add (j*3) by simp [Addr.add]];exact p1
    |1,hy=>cases hy;exact p2
    |2,hy=>cases hy;exact p3
   refine gr1 (bs:=[tb,fb]) 200 ⟨[],2,[],[],0⟩ hV2 fun xb v3 _ hG3 hV3=>?_
   have hI3:=hI1.kept hG3
   have hT3:=hT1.ck (CK.of hG3)
   refine go_putN 148 150 43 (.tmp 14) (.tmp 16) (.tmp 17) r (num j) (tabV (num j) (pv j) (.slice none 0 0)) (tabE num pv j) (H37 r fv++[⟨43,[.si .u64 (num j),.oc (pv j) hpv1,.ns]⟩]) (by kernel_rfl) (by kernel_rfl) (by kernel_rfl) (by kernel_rfl) (by kernel_rfl) (by kernel_rfl) hV3 (by kernel_rfl) hI3.2.2.1 (fun p hp=>?_) (fun v4 hM4 hKM4 hb4 hV4=>?_)
   ·obtain ⟨i,hi,rfl⟩:=List.mem_map.1 hp
    have hi:=List.mem_range.1 hi
    intro he
    have:=hnum i j (by omega) hlt he
    omega
   obtain ⟨a3,c3,hm3,_⟩:=hI3.2.2.1
   have hck4:=CK.ofM hKM4 hm3
   have hA4:KeptM r [149,79] w v4:=(hKM.trans (KeptM.of r ((hG1.trans hG3).mono (by simp)))).trans (hKM4.mono (by simp))
   have hown4:=own_ck hI3.2.1 hck4 (by simp)
   have hT4:=hT3.ck hck4
   have hfo4: ∀ i (h:i < fls.length),FOk v4 fls[i] (num i) (P i):=fun i h=>(hI3.2.2.2.1 i h).ck hck4
   refine gr0 (bs:=[tb,fb,xb]) 200 ⟨[],3,[],[],0⟩ hV4 fun v5 hG5 hV5=>?_
   refine gd [79] [] hV5 (fun hD=>?_)
   refine gr0 (bs:=[tb,fb,xb]) 200 ⟨[],3,[],[],0⟩ hD fun v6 hG6 hV6=>?_
   have hX6:Ext v4 v6:=hG5.trans (((Kept.refl [] v5).drew).trans hG6)
   have hs6:=hV6.sq (H37 r fv++[⟨43,[.si .u64 (num j),.oc (pv j) hpv1,.ns]⟩])
   obtain ⟨_,_,_,p4',_,_⟩:=(hT4.ck (CK.of hX6)).2 j hlt
   refine gcd 21 [.agg [.si .u64 (num j),.oc (pv j) hpv1,.ns]] [79] v5.drew hV6 (fun hC=>?_)
   refine (c21 (num j) (pv j) (P j) v6 p4' p5 p6).mono ?_
   intro e v7 hP7
   obtain ⟨f,hfn,rfl,hE7,hfo⟩:=FOk.of21 hP7
   have hs7:=hs6.kq hE7
   refine ⟨.ptr ⟨f,0,none⟩,[],_,rfl,hs7,hC.trans (hE7.mono (by simp)),fun hV7=>?_⟩
   refine go_bsliceD 78 79 1 [79] v5.drew (.tmp 23) [.ptr ⟨f,0,none⟩] (H37 r fv++[⟨43,[.si .u64 (num j),.oc (pv j) hpv1,.ns]⟩]) (by kernel_rfl) (by kernel_rfl) (by kernel_rfl) (by kernel_rfl) (by kernel_rfl) rfl (by omega) (by omega) hV7 (by kernel_rfl) (by kernel_rfl) (by kernel_rfl) (fun sb v8 hsb hE8 hV8=>?_)
   have hs8:=hV8.sq (H37 r fv++[⟨43,[.si .u64 (num j),.oc (pv j) hpv1,.ns]⟩]++[⟨79,[.ptr ⟨f,0,none⟩]⟩])
   have hX8:Ext v4 v8:=hX6.trans (hE7.trans hE8)
   have hown8:=own_kept hown4 hX8 (by simp)
   refine go_appendD 78 79 1 8 [79] v5.drew (.pointer none) (.tmp 21) (.tmp 24) fv.1 j (fls.map fV) ⟨sb,0,none⟩ 1 1 [fV f] (H37 r fv++[⟨43,[.si .u64 (num j),.oc (pv j) hpv1,.ns]⟩]++[⟨79,[.ptr ⟨f,0,none⟩]⟩]) (by kernel_rfl) (by kernel_rfl) (by simp) (by kernel_rfl) (by kernel_rfl) (by kernel_rfl) (by kernel_rfl) rfl (by omega) hV8 (by kernel_rfl) hown8 rfl ?_ ?_ ?_ ?_ ?_ ?_
   ·intro i u hu
    match i,hu with
    |0,hu=>cases hu;exact hs8.cell 3 79 [.ptr ⟨f,0,none⟩] rfl 0 (.ptr ⟨f,0,none⟩) rfl
   ·intro u hu;simp only [List.mem_singleton] at hu;subst hu;rfl
   ·simp only [maxLen];omega
   ·omega
   ·intro b hb he
    have hb3:b∈[tb,fb,xb,sb]:=hb
    simp only [List.mem_cons,List.not_mem_nil,or_false] at hb3
    rcases hb3 with rfl|rfl|rfl|rfl
    ·exact own_ne_ty hown8 he.symm (hs8.mem 0 _ rfl) (by simp)
    ·exact own_ne_ty hown8 he.symm (hs8.mem 1 _ rfl) (by simp)
    ·exact own_ne_ty hown8 he.symm (hs8.mem 2 _ rfl) (by simp)
    ·have hlt':=own_lt' hown4 _ he.symm
     have h9:=(hX6.trans hE7).size
     omega
   ·intro v' v9 ho hown9 hK9 _ hor hV9
    refine gr0 (bs:=[tb,fb,xb,sb]) 200 ⟨[149],4,[],[],0⟩ hV9 fun v10 hK10 hV10=>?_
    have hs10:=hV10.sq (H37 r ⟨v',ho⟩++[⟨43,[.si .u64 (num j),.oc (pv j) hpv1,.ns]⟩]++[⟨79,[.ptr ⟨f,0,none⟩]⟩])
    have hs11:Sat [tb,fb] (H37 r ⟨v',ho⟩) v10:=hs10.sub [0,1] (by decide) (by simp) rfl ⟨hs10.memC 0 rfl (by kernel_rfl),hs10.memC 1 rfl (by kernel_rfl),trivial⟩
    have hB:Kept [149,79] v4 v10:=hX8.tr (hK9.tr hK10 (ts:=[149,79])) (ts:=[149,79])
    have hB7:Kept [149,79] v7 v10:=hE8.tr (hK9.tr hK10 (ts:=[149,79])) (ts:=[149,79])
    have hfin:KeptM r [149,79] w v10:=hA4.trans (KeptM.of r hB)
    have hlen:=hI.1
    have hI10:I37 num pv P r ⟨v',ho⟩ (j+1) (fls++[f]) v10:=by
     refine ⟨by simp [hlen],?_,?_,fun i hi=>?_,?_⟩
     ·rw [List.map_append];exact own_kept hown9 hK10 (by simp)
     ·rw [tabE_succ];exact hM4.kept hB
     ·by_cases hi':i < fls.length
      ·rw [List.getElem_append_left hi']
       exact (hfo4 i hi').ck (CK.of hB)
      ·simp only [List.length_append,List.length_singleton] at hi
       obtain rfl:i=j:=by omega
       rw [List.getElem_append_right (by omega)]
       simp only [hlen,Nat.sub_self,List.getElem_singleton]
       exact hfo.ck (CK.of hB7)
     ·rw [List.nodup_append]
      refine ⟨hI.2.2.2.2,by simp,fun a ha b hb=>?_⟩
      simp only [List.mem_singleton] at hb
      subst hb
      obtain ⟨i,hi,rfl⟩:=List.getElem_of_mem ha
      obtain ⟨m',_,_,q2,_⟩:=hfo4 i hi
      have h1:=(Array.getElem?_eq_some_iff.1 q2).1
      have h2:=hX6.size
      intro he
      omega
    refine go_fin (Hand (J37 A n c r tb fb num pv P w) m) (by kernel_rfl) (fun xs=>T37 A n c (IntKind.i64.wrap ((j:Int)+1)) xs) (by kernel_rfl) (fun xs=>?_)
    rw [wrap_succ j (by omega)]
    refine ⟨m - 1,by omega,[tb,fb],T37 A n c ((j+1:Nat):Int) xs,H37 r ⟨v',ho⟩,?_,hs11,?_⟩
    ·exact actS_cut [tb,fb] [xb,sb] _ (by kernel_rfl)
    ·exact ⟨j+1,xs,⟨v',ho⟩,fls++[f],by omega,by omega,rfl,rfl,rfl,hI10,hT4.ck (CK.of hB),hfin⟩
  ·obtain rfl:n=j:=by omega
   refine go_run (s:=bodyS (S37 A n c r) (Hand (J37 A n c r tb fb num pv P w) m) (T37 A n c n xs) (H37 r fv)) (bs:=[tb,fb]) 200 ⟨[],2,[],[(11,false)],0⟩ (by kernel_rfl) hW' rfl [(decide ((n:Int) < n),false)] (by kernel_rfl) ⟨by simp,trivial⟩ ?_
   intro nw v1 _ hG1 hV1
   obtain rfl:=nw0 (hV1.num 2 (by kernel_rfl)) rfl
   have hs1:=hV1.sq (H37 r fv)
   exact gt (.tup []) hV1.sat ⟨rfl,hKM.trans (KeptM.of r (hG1.mono (by simp))),fv,fls,hs1,hI.kept hG1,hTa.ck (CK.of hG1)⟩
theorem c37_0 [Bd] (l:Int) (tb fb:Nat) (w:World) (hB0:autoParam (Bd.B≤w.heap.size) sz0._auto_1):Calls Tryz.prog 37 #[.int .i64 l,.slice none 0 0,.pointer (some ⟨tb,0,none⟩),.pointer (some ⟨fb,0,none⟩)] w fun e w'=>e=.returned (.tuple #[])∧Ext w w':=by
 refine gs (bs:=[]) [.si .i64 l,.ns,.ptr ⟨tb,0,none⟩,.ptr ⟨fb,0,none⟩] [] Tryz.func37 (sat0 w) (fun hW=>?_)
 refine go_run 200 ⟨[],0,[],[],1⟩ (by kernel_rfl) hW rfl [] (by kernel_rfl) trivial ?_
 intro nw w1 _ hE1 hW1
 exact gt (.tup []) hW1.sat ⟨rfl,hE1⟩
end Go.Proofs.YtghppnklhbbffaaGreatDoor.X
namespace Go.Proofs.YtghppnklhbbffaaGreatDoor.X
open Go Go.RowKit Go.Proofs.YtghppnklhbbffaaGreatDoor.TL
theorem wpF_monoC [Bd] {P:Program} {md:Region.Mode} {ops:Array Oper} {Ls:List Nat} {C C':World→Prop} {Qn:Act→World→Prop} (hC: ∀ w,C' w→C w): ∀ (f:Nat) (listed:Array Bool) (a:Act) (w:World),
  wpF P md ops Ls C' Qn f listed a w→wpF P md ops Ls C Qn f listed a w
 |0,_,_,_,h=>h
 |f+1,_,_,_,h=>⟨h.1,fun i hi=>okOp_mono (fun _ _ hk=>⟨hk.1.imp id (hC _),wpF_monoC hC f _ _ _ hk.2⟩) (h.2 i hi)⟩
def rebB (s:ST):Bool:=match s.K with
 | .dr _ _ _ _ _ _ fz _ _::_=>!fz
 |_=>false
def rebS (s:ST) (H:List SB) (bs:List Nat) (w:World):ST:=match s.K with
 | .dr ops Ls us _ _ _ fz f listed::k=>⟨.dr ops Ls us H bs w fz f listed::k,s.T,H,s.ob⟩
 |_=>s
theorem go_rebase [Bd] {P:Program} {Q:Exit→Act→World→Prop} {bs:List Nat} {w:World} {s:ST} (H:List SB) (h:rebB s=true) (hs:Wk bs s w) (hH:s.H=H)
  (hk:Wk bs (rebS s H bs w) w→kx P Q (rebS s H bs w).K .normal (actS bs (rebS s H bs w).T) w):kx P Q s.K .normal (actS bs s.T) w:=by
 have hsat:=hs.satE H hH
 have hpre:=hs.pre
 clear hs
 obtain ⟨K,T,H0,ob⟩:=s
 unfold rebB at h
 simp only at h hsat hpre hH ⊢
 split at h
 ·rename_i ops Ls us Hr bsr wr fz f listed k
  obtain rfl:fz=false:=by simpa using h
  have hk':=hk ⟨hsat,⟨⟨⟨[],by simp⟩,hsat⟩,hpre.2⟩⟩
  simp only [rebS,kx] at hk' ⊢
  intro hsr hC
  have hC:=hC trivial
  exact wpF_monoC (fun x hx=>hC.trans hx) _ _ _ _ (hk' hsat (fun _=>Kept.refl _ _))
 ·cases h
end Go.Proofs.YtghppnklhbbffaaGreatDoor.X
namespace Go.Proofs.YtghppnklhbbffaaGreatDoor.X
open Go Go.RowKit Go.MapKept Go.Proofs.YtghppnklhbbffaaGreatDoor.TL Go.Proofs.YtghppnklhbbffaaGreatDoor.PFnTreeLevel Go.Proofs.YtghppnklhbbffaaGreatDoorW.PrintWords
abbrev TS19:List TypeId:=[149,79,286,214,360,311]
abbrev k43_1 (A:Addr) (n:Nat) (c:Nat) (r:Nat) (fv:V1):List SB:=[⟨73,[.ns,.ns,.sl A n c,.ns,.ns,.ns,.ns,.ns]⟩,⟨113,cmpS⟩,⟨114,[.p 1 0]⟩,⟨148,[.oc (.map (some r)) rfl]⟩,⟨149,[.ns,o1 fv,.ns,.ns,.ns,.ns,.ns]⟩]
abbrev k43_2 (A:Addr) (n:Nat) (c:Nat):List SV:=[.ns,.ns,.sl A n c,.ns,.ns,.ns,.ns,.ns]
theorem c19 [Bd] (A:Addr) (n c:Nat) (num:Nat→Int) (pv:Nat→Value) (P:Nat→List S36) (w:World) (hn1:1≤n) (hn:n≤10) (hnum: ∀ i j,i < n→j < n→num i=num j→i=j) (hT:TabsR w A n num pv P) (hB0:autoParam (Bd.B≤w.heap.size) sz0._auto_1):
  Calls Tryz.prog 19 #[.agg #[.slice none 0 0,.slice none 0 0,.slice (some A) n c,.slice none 0 0,.slice none 0 0,.slice none 0 0,.slice none 0 0,.slice none 0 0]] w fun e w'=>
   ∃ (sb xb cb tb ob r:Nat) (ca:Addr) (mg vp:V1),e=.returned (.pointer (some ⟨sb,0,none⟩))∧Sat [sb] [⟨243,zzS cb mg nilV vp xb⟩] w'∧Sat [cb] [⟨113,cmpS⟩] w'∧
    Sat [tb,ob] [⟨148,[.oc (.map (some r)) rfl]⟩,⟨162,[.fn 39 [.ptr ca]]⟩] w'∧w'.heap[xb]? =some (.cells #[.func (.func 47) #[] #[.pointer (some ⟨tb,0,none⟩),.pointer (some ⟨ob,0,none⟩)]] 191 (0,0))∧MapN w' r (tabE num pv n)∧TabsR w' A n num pv P∧Kept TS19 w w'∧Bd.B≤xb:=by
 refine gs (bs:=[]) [.agg (k43_2 A n c)] [] Tryz.func19 (sat0 w) (fun hW=>?_)
 refine gr1 200 ⟨[],0,[],[],7⟩ hW fun xt w1 _ hE1 hW1=>?_
 have hs1:=hW1.sq [⟨73,(k43_2 A n c)⟩]
 refine gc 23 [] hW1 ?_
 refine (c23 w1).mono ?_
 rintro e w2 ⟨cb,rfl,hcb,hcx,hE2⟩
 refine ⟨.p 1 0,[cb],[⟨73,(k43_2 A n c)⟩,⟨113,cmpS⟩],rfl,hs1.ext hcb rfl ⟨hs1.kp hE2 0 _ rfl rfl,hcx,trivial⟩,fun hW2=>?_⟩
 refine gr1 (bs:=[xt,cb]) 200 ⟨[],2,[],[],7⟩ hW2 fun b3 w3 _ hE3 hW3=>?_
 refine go_map0 148 [⟨73,(k43_2 A n c)⟩,⟨113,cmpS⟩,⟨114,[.p 1 0]⟩] (by kernel_rfl) hW3 (by kernel_rfl) (fun r w4 hr hE4 hm4 hW4=>?_)
 refine gr2 (bs:=[xt,cb,b3]) 200 ⟨[],3,[],[],7⟩ hW4 fun tb fb w5 _ hE5 hW5=>?_
 have hs5:=hW5.sq [⟨73,(k43_2 A n c)⟩,⟨113,cmpS⟩,⟨114,[.p 1 0]⟩,⟨148,[.oc (.map (some r)) rfl]⟩,⟨149,[.ns,.ns,.ns,.ns,.ns,.ns,.ns]⟩]
 have hA5:Ext w w5:=hE1.trans (hE2.trans (hE3.trans (hE4.trans hE5)))
 have hr5:w.heap.size≤r:=by
  have h:=(hE1.trans (hE2.trans hE3)).size
  omega
 have hM5:MapN w5 r []:=(show MapN w4 r [] from ⟨#[],0,hm4,rfl⟩).kept hE5
 refine go_callV (.fn 37 [.p 3 0,.p 4 0]) [.it .i64 0,.ns] 37 #[.pointer (some ⟨tb,0,none⟩),.pointer (some ⟨fb,0,none⟩)] (by kernel_rfl) (by kernel_rfl) (by kernel_rfl) hW5 ?_
 refine (c37_0 0 tb fb w5).mono ?_
 rintro e w6 ⟨rfl,hE6⟩
 refine ⟨.tup [],[],[⟨73,(k43_2 A n c)⟩,⟨113,cmpS⟩,⟨114,[.p 1 0]⟩,⟨148,[.oc (.map (some r)) rfl]⟩,⟨149,[.ns,.ns,.ns,.ns,.ns,.ns,.ns]⟩],rfl,hs5.kq hE6,fun hW6=>?_⟩
 refine gr0 (bs:=[xt,cb,b3,tb,fb]) 200 ⟨[],5,[],[],7⟩ hW6 fun w7 hE7 hW7=>?_
 have hs7:=hW7.sq [⟨73,(k43_2 A n c)⟩,⟨113,cmpS⟩,⟨114,[.p 1 0]⟩,⟨148,[.oc (.map (some r)) rfl]⟩,⟨149,[.ns,.ns,.ns,.ns,.ns,.ns,.ns]⟩]
 refine gc 38 [.ns] hW7 ?_
 refine (c38 w7).mono ?_
 rintro e w8 ⟨rfl,hE8⟩
 refine ⟨.tup [],[],[⟨73,(k43_2 A n c)⟩,⟨113,cmpS⟩,⟨114,[.p 1 0]⟩,⟨148,[.oc (.map (some r)) rfl]⟩,⟨149,[.ns,.ns,.ns,.ns,.ns,.ns,.ns]⟩],rfl,hs7.kq hE8,fun hW8=>?_⟩
 refine gr0 (bs:=[xt,cb,b3,tb,fb]) 200 ⟨[],5,[],[],7⟩ hW8 fun w9 hE9 hW9=>?_
 have hs9:=hW9.sq [⟨73,(k43_2 A n c)⟩,⟨113,cmpS⟩,⟨114,[.p 1 0]⟩,⟨148,[.oc (.map (some r)) rfl]⟩,⟨149,[.ns,.ns,.ns,.ns,.ns,.ns,.ns]⟩]
 have hB9:Ext w5 w9:=hE6.trans (hE7.trans (hE8.trans hE9))
 refine go_callV (.fn 37 [.p 3 0,.p 4 0]) [.it .i64 1,.sl A n c] 37 #[.pointer (some ⟨tb,0,none⟩),.pointer (some ⟨fb,0,none⟩)] (by kernel_rfl) (by kernel_rfl) (by kernel_rfl) hW9 ?_
 have hs37:Sat [tb,fb] (H37 r nilV) w9:=hs9.sub [3,4] (by decide) (by simp) rfl ⟨hs9.memC 3 rfl (by kernel_rfl),hs9.memC 4 rfl (by kernel_rfl),trivial⟩
 have hM9:=hM5.kept hB9
 refine (c37 A n c r tb fb num pv P w9 hn hnum hs37 hM9 (hT.ck (CK.of (hA5.trans hB9)))).mono ?_
 rintro e w10 ⟨rfl,hKM10,fv,fls,hs37',hI10,hT10⟩
 obtain ⟨a9,c9,hm9,_⟩:=hM9
 have hck10:=CK.ofM hKM10 hm9
 have hK10:Kept [149,79] w w10:=KeptM.new ((hA5.trans hB9).mono (by simp)) hKM10 hr5
 have hs10:Sat ([xt,cb,b3,tb,fb]++[]) (k43_1 A n c r fv) w10:=hs9.re rfl ⟨hck10 _ _ _ _ (hs9.mem 0 _ rfl) (by simp),hck10 _ _ _ _ (hs9.mem 1 _ rfl) (by simp),hck10 _ _ _ _ (hs9.mem 2 _ rfl) (by simp),hs37'.memC 0 rfl (by kernel_rfl),hs37'.memC 1 rfl (by kernel_rfl),trivial⟩
 refine ⟨.tup [],[],_,rfl,hs10,fun hW10=>?_⟩
 refine gr0 (bs:=[xt,cb,b3,tb,fb]) 200 ⟨[],5,[],[],7⟩ hW10 fun w11 hE11 hW11=>?_
 have hs11:=hW11.sq (k43_1 A n c r fv)
 refine go_callV (.fn 37 [.p 3 0,.p 4 0]) [.it .i64 2,.ns] 37 #[.pointer (some ⟨tb,0,none⟩),.pointer (some ⟨fb,0,none⟩)] (by kernel_rfl) (by kernel_rfl) (by kernel_rfl) hW11 ?_
 refine (c37_0 2 tb fb w11).mono ?_
 rintro e w12 ⟨rfl,hE12⟩
 have hs12:=hs11.kq hE12
 refine ⟨.tup [],[],(k43_1 A n c r fv),rfl,hs12,fun hW12=>?_⟩
 refine gr0 (bs:=[xt,cb,b3,tb,fb]) 200 ⟨[],5,[],[],7⟩ hW12 fun w13 hE13 hW13=>?_
 have hs13:=hW13.sq (k43_1 A n c r fv)
 refine go_callV (.fn 37 [.p 3 0,.p 4 0]) [.it .i64 3,.ns] 37 #[.pointer (some ⟨tb,0,none⟩),.pointer (some ⟨fb,0,none⟩)] (by kernel_rfl) (by kernel_rfl) (by kernel_rfl) hW13 ?_
 refine (c37_0 3 tb fb w13).mono ?_
 rintro e w14 ⟨rfl,hE14⟩
 have hs14:=hs13.kq hE14
 refine ⟨.tup [],[],(k43_1 A n c r fv),rfl,hs14,fun hW14=>?_⟩
 refine gr0 (bs:=[xt,cb,b3,tb,fb]) 200 ⟨[],5,[],[],7⟩ hW14 fun w15 hE15 hW15=>?_
 have hs15:=hW15.sq (k43_1 A n c r fv)
 refine go_callV (.fn 37 [.p 3 0,.p 4 0]) [.it .i64 4,.ns] 37 #[.pointer (some ⟨tb,0,none⟩),.pointer (some ⟨fb,0,none⟩)] (by kernel_rfl) (by kernel_rfl) (by kernel_rfl) hW15 ?_
 refine (c37_0 4 tb fb w15).mono ?_
 rintro e w16 ⟨rfl,hE16⟩
 have hs16:=hs15.kq hE16
 refine ⟨.tup [],[],(k43_1 A n c r fv),rfl,hs16,fun hW16=>?_⟩
 refine gr0 (bs:=[xt,cb,b3,tb,fb]) 200 ⟨[],5,[],[],7⟩ hW16 fun w17 hE17 hW17=>?_
 have hs17:=hW17.sq (k43_1 A n c r fv)
 refine go_callV (.fn 37 [.p 3 0,.p 4 0]) [.it .i64 5,.ns] 37 #[.pointer (some ⟨tb,0,none⟩),.pointer (some ⟨fb,0,none⟩)] (by kernel_rfl) (by kernel_rfl) (by kernel_rfl) hW17 ?_
 refine (c37_0 5 tb fb w17).mono ?_
 rintro e w18 ⟨rfl,hE18⟩
 have hs18:=hs17.kq hE18
 refine ⟨.tup [],[],(k43_1 A n c r fv),rfl,hs18,fun hW18=>?_⟩
 refine gr0 (bs:=[xt,cb,b3,tb,fb]) 200 ⟨[],5,[],[],7⟩ hW18 fun w19 hE19 hW19=>?_
 have hs19:=hW19.sq (k43_1 A n c r fv)
 refine go_callV (.fn 37 [.p 3 0,.p 4 0]) [.it .i64 6,.ns] 37 #[.pointer (some ⟨tb,0,none⟩),.pointer (some ⟨fb,0,none⟩)] (by kernel_rfl) (by kernel_rfl) (by kernel_rfl) hW19 ?_
 refine (c37_0 6 tb fb w19).mono ?_
 rintro e w20 ⟨rfl,hE20⟩
 have hs20:=hs19.kq hE20
 refine ⟨.tup [],[],(k43_1 A n c r fv),rfl,hs20,fun hW20=>?_⟩
 refine gr1 (bs:=[xt,cb,b3,tb,fb]) 200 ⟨[],5,[],[],7⟩ hW20 fun ob v1 _ hEv1 hV1=>?_
 have hsv1:=hV1.sq [⟨73,(k43_2 A n c)⟩,⟨113,cmpS⟩,⟨114,[.p 1 0]⟩,⟨148,[.oc (.map (some r)) rfl]⟩,⟨149,[.ns,o1 fv,.ns,.ns,.ns,.ns,.ns]⟩,⟨162,[.fn 39 [.p 2 0]]⟩]
 refine gd TS46 [] hV1 (fun hD=>?_)
 refine gr0 (bs:=[xt,cb,b3,tb,fb,ob]) 200 ⟨[],6,[],[],7⟩ hD fun v2 hEv2 hV2=>?_
 have hsv2:=hV2.sq [⟨73,(k43_2 A n c)⟩,⟨113,cmpS⟩,⟨114,[.p 1 0]⟩,⟨148,[.oc (.map (some r)) rfl]⟩,⟨149,[.ns,o1 fv,.ns,.ns,.ns,.ns,.ns]⟩,⟨162,[.fn 39 [.p 2 0]]⟩]
 refine gcd 45 [] TS46 v1.drew hV2 (fun hC=>?_)
 refine (c45 v2).mono ?_
 rintro e v3 ⟨mb,rfl,hmb,hmx,hEv3⟩
 refine ⟨.p 6 0, [mb], [⟨73, (k43_2 A n c)⟩, ⟨113, cmpS⟩, ⟨114, [.p 1 0]⟩, ⟨148, [.oc (.map (some r)) rfl]⟩, ⟨149, [.ns, o1 fv, .ns, .ns, .ns, .ns, .ns]⟩, ⟨162, [.fn 39 [.p 2 0]]⟩, ⟨167, [.fn 90 [], .str "pebble.concatenate".toUTF8]⟩], rfl, hsv2.ext hmb rfl ⟨hsv2.kp hEv3 0 _ rfl rfl, hsv2.kp hEv3 1 _ rfl rfl, hsv2.kp hEv3 2 _ rfl rfl, hsv2.kp hEv3 3 _ rfl rfl, hsv2.kp hEv3 4 _ rfl rfl, hsv2.kp hEv3 5 _ rfl rfl, hmx, trivial⟩, hC.trans (hEv3.mono (by simp)), fun hV3 => ?_⟩
 refine go_rebase [⟨73, (k43_2 A n c)⟩, ⟨113, cmpS⟩, ⟨114, [.p 1 0]⟩, ⟨148, [.oc (.map (some r)) rfl]⟩, ⟨149, [.ns, o1 fv, .ns, .ns, .ns, .ns, .ns]⟩, ⟨162, [.fn 39 [.p 2 0]]⟩, ⟨167, [.fn 90 [], .str "pebble.concatenate".toUTF8]⟩] (by kernel_rfl) hV3 (by kernel_rfl) (fun hV3' => ?_)
 refine gr0 (bs:=[xt,cb,b3,tb,fb,ob,mb]) 200 ⟨[],7,[],[],7⟩ hV3' fun v4 hEv4 hV4=>?_
 have hsv4 := hV4.sq [⟨73, (k43_2 A n c)⟩, ⟨113, cmpS⟩, ⟨114, [.p 1 0]⟩, ⟨148, [.oc (.map (some r)) rfl]⟩, ⟨149, [.ns, o1 fv, .ns, .ns, .ns, .ns, .ns]⟩, ⟨162, [.fn 39 [.p 2 0]]⟩, ⟨167, [.fn 90 [], .str "pebble.concatenate".toUTF8]⟩]
 have hEv:Ext w10 v4:=hE11.trans (hE12.trans (hE13.trans (hE14.trans (hE15.trans (hE16.trans (hE17.trans (hE18.trans (hE19.trans (hE20.trans (hEv1.trans (((Kept.refl [] v1).drew).trans (hEv2.trans (hEv3.trans (hEv4))))))))))))))
 have hfo4: ∀ i (h:i < fls.length),FOk v4 fls[i] (num i) (P i):=fun i h=>(hI10.2.2.2.1 i h).ck (CK.of hEv)
 have hlen:=hI10.1
 obtain ⟨g,cap,cur,hfv,_,hg,_⟩:=own_cell hI10.2.1 (j:=0) (u:=fV fls[0]) (by simp [hlen])
 have hget: ∀ i (h:i < n),fls.getD i 0=fls[i]:=fun i h=>by simp [List.getD_eq_getElem?_getD,show i < fls.length by omega]
 have h46:Calls Tryz.prog 46 #[fnv 65,.nilFunc,.int .i64 0,.agg #[.slice none 0 0,fv.1,.slice none 0 0,.slice none 0 0,.slice none 0 0,.slice none 0 0,.slice none 0 0]] v4 fun e w'=> ∃ vb,e=.returned (.pointer (some ⟨vb,0,none⟩))∧Kept TS46 v4 w':=by
  rw [hfv]
  refine c46 ⟨g,0,none⟩ n cap (fun i=>fls.getD i 0) v4 hn1 hn ?_ ?_ ?_ ?_
  ·intro i j hi hj he
   have he':fls[i]=fls[j]:=by rw [←hget i hi, ←hget j hj];exact he
   exact (List.getElem_inj hI10.2.2.2.2).1 he'
  ·refine ⟨cur,_,hEv.blk hg,fun i hi=>?_⟩
   obtain ⟨g',cap',cur',hfv',_,hg',hcell⟩:=own_cell (own_kept hI10.2.1 hEv (by simp)) (j:=i) (u:=fV (fls.getD i 0)) (by rw [hget i hi];simp [show i < fls.length by omega])
   rw [hfv] at hfv'
   cases hfv'
   rw [show (⟨g,0,none⟩:Addr).add i=⟨g,i,none⟩ by unfold Addr.add;split<;>simp_all]
   exact hcell
  ·intro i hi
   obtain ⟨m,_,_,q,_⟩:=hfo4 i (by omega)
   rw [←hget i hi] at q
   exact ⟨m,q⟩
  ·intro i hi
   have q:=(hfo4 i (by omega)).fb
   rw [←hget i hi] at q
   exact q
 refine gcd 46 [.fn 65 [],.nf,.it .i64 0,.agg [.ns,o1 fv,.ns,.ns,.ns,.ns,.ns]] TS46 v3 hV4 (fun hC=>?_)
 refine h46.mono ?_
 rintro e v5 ⟨vb,rfl,hKv5⟩
 have hsv5:=hsv4.kq hKv5
 refine ⟨.ptr ⟨vb,0,none⟩,[],_,rfl,hsv5,hC.trans hKv5,fun hV5=>?_⟩
 refine gr0 (bs:=[xt,cb,b3,tb,fb,ob,mb]) 200 ⟨[],7,[],[],7⟩ hV5 fun v6 hEv6 hV6=>?_
 have hsv6 := hV6.sq [⟨73, (k43_2 A n c)⟩, ⟨113, cmpS⟩, ⟨114, [.p 1 0]⟩, ⟨148, [.oc (.map (some r)) rfl]⟩, ⟨149, [.ns, o1 fv, .ns, .ns, .ns, .ns, .ns]⟩, ⟨162, [.fn 39 [.p 2 0]]⟩, ⟨167, [.fn 90 [], .str "pebble.concatenate".toUTF8]⟩]
 refine gcd 44 [.p 1 0,.fn 90 [],.ptr ⟨vb,0,none⟩,.fn 47 [.p 3 0,.p 5 0]] TS46 v3 hV6 (fun hC=>?_)
 refine (c44 cb tb ob ⟨fnv 90,rfl⟩ ⟨.pointer (some ⟨vb,0,none⟩),rfl⟩ v6).mono ?_
 rintro e v7 ⟨sb,xb,rfl,hsb,hxb,hsx,hxx,hEv7⟩
 have hzsb:Bd.B≤sb:=Nat.le_trans hV6.sz hsb
 have hzxb:Bd.B≤xb:=Nat.le_trans hV6.sz hxb
 have hsv7:=hsv6.kq hEv7
 refine ⟨.ptr ⟨sb,0,none⟩,[],_,rfl,hsv7,hC.trans (hEv7.mono (by simp)),fun hV7=>?_⟩
 refine gr0 (bs:=[xt,cb,b3,tb,fb,ob,mb]) 200 ⟨[],7,[],[],7⟩ hV7 fun v8 hEv8 hV8=>?_
 have hsv8 := hV8.sq [⟨73, (k43_2 A n c)⟩, ⟨113, cmpS⟩, ⟨114, [.p 1 0]⟩, ⟨148, [.oc (.map (some r)) rfl]⟩, ⟨149, [.ns, o1 fv, .ns, .ns, .ns, .ns, .ns]⟩, ⟨162, [.fn 39 [.p 2 0]]⟩, ⟨167, [.fn 90 [], .str "pebble.concatenate".toUTF8]⟩]
 have hZ:Kept TS46 w10 v8:=hEv.tr (hKv5.tr (hEv6.tr (hEv7.tr hEv8 (ts:=TS46)) (ts:=TS46)) (ts:=TS46)) (ts:=TS46)
 have hS:Sat [sb] [⟨243,zzS cb ⟨fnv 90,rfl⟩ nilV ⟨.pointer (some ⟨vb,0,none⟩),rfl⟩ xb⟩] v8:=Sat.add0 243 _ (hEv8.blk hsx) hzsb
 have hCb:Sat [cb] [⟨113,cmpS⟩] v8:=hsv8.sub [1] (by decide) (by simp) rfl ⟨hsv8.memC 1 rfl (by kernel_rfl),trivial⟩
 have hTO:Sat [tb,ob] [⟨148,[.oc (.map (some r)) rfl]⟩,⟨162,[.fn 39 [.ptr ⟨b3,0,none⟩]]⟩] v8:=hsv8.sub [3,5] (by decide) (by simp) rfl ⟨hsv8.memC 3 rfl (by kernel_rfl),hsv8.memC 5 rfl (by kernel_rfl),trivial⟩
 exact gt (.ptr ⟨sb,0,none⟩) hV8.sat ⟨sb,xb,cb,tb,ob,r,⟨b3,0,none⟩,⟨fnv 90,rfl⟩,⟨.pointer (some ⟨vb,0,none⟩),rfl⟩,rfl,hS,hCb,hTO,hEv8.blk hxx,hI10.2.2.1.kept hZ,hT10.ck (CK.of hZ),hK10.tr hZ (ts:=TS19),hzxb⟩
abbrev k43_0 (r:Nat):List SB:=[⟨73,[.ns,.ns,.ns,.ns,.ns,.ns,.ns,.ns]⟩,⟨113,cmpS⟩,⟨114,[.p 1 0]⟩,⟨148,[.oc (.map (some r)) rfl]⟩,⟨149,[.ns,.ns,.ns,.ns,.ns,.ns,.ns]⟩]
abbrev k43_3 (r:Nat):List SB:=[⟨73,[.ns,.ns,.ns,.ns,.ns,.ns,.ns,.ns]⟩,⟨113,cmpS⟩,⟨114,[.p 1 0]⟩,⟨148,[.oc (.map (some r)) rfl]⟩,⟨149,[.ns,.ns,.ns,.ns,.ns,.ns,.ns]⟩,⟨162,[.fn 39 [.p 2 0]]⟩]
theorem c19_0 [Bd] (w:World) (hB0:autoParam (Bd.B≤w.heap.size) sz0._auto_1):
  Calls Tryz.prog 19 #[.agg #[.slice none 0 0,.slice none 0 0,.slice none 0 0,.slice none 0 0,.slice none 0 0,.slice none 0 0,.slice none 0 0,.slice none 0 0]] w fun e w'=>
   ∃ (sb xb cb:Nat) (mg vp:V1),e=.returned (.pointer (some ⟨sb,0,none⟩))∧Sat [sb] [⟨243,zzS cb mg nilV vp xb⟩] w'∧Sat [cb] [⟨113,cmpS⟩] w'∧Kept TS19 w w':=by
 refine gs (bs:=[]) [.agg [.ns,.ns,.ns,.ns,.ns,.ns,.ns,.ns]] [] Tryz.func19 (sat0 w) (fun hW=>?_)
 refine gr1 200 ⟨[],0,[],[],7⟩ hW fun xt w1 _ hE1 hW1=>?_
 have hs1:=hW1.sq [⟨73,[.ns,.ns,.ns,.ns,.ns,.ns,.ns,.ns]⟩]
 refine gc 23 [] hW1 ?_
 refine (c23 w1).mono ?_
 rintro e w2 ⟨cb,rfl,hcb,hcx,hE2⟩
 refine ⟨.p 1 0,[cb],[⟨73,[.ns,.ns,.ns,.ns,.ns,.ns,.ns,.ns]⟩,⟨113,cmpS⟩],rfl,hs1.ext hcb rfl ⟨hs1.kp hE2 0 _ rfl rfl,hcx,trivial⟩,fun hW2=>?_⟩
 refine gr1 (bs:=[xt,cb]) 200 ⟨[],2,[],[],7⟩ hW2 fun b3 w3 _ hE3 hW3=>?_
 refine go_map0 148 [⟨73,[.ns,.ns,.ns,.ns,.ns,.ns,.ns,.ns]⟩,⟨113,cmpS⟩,⟨114,[.p 1 0]⟩] (by kernel_rfl) hW3 (by kernel_rfl) (fun r w4 hr hE4 hm4 hW4=>?_)
 refine gr2 (bs:=[xt,cb,b3]) 200 ⟨[],3,[],[],7⟩ hW4 fun tb fb w5 _ hE5 hW5=>?_
 have hs5:=hW5.sq (k43_0 r)
 have hA5:Ext w w5:=hE1.trans (hE2.trans (hE3.trans (hE4.trans hE5)))
 have hr5:w.heap.size≤r:=by
  have h:=(hE1.trans (hE2.trans hE3)).size
  omega
 have hM5:MapN w5 r []:=(show MapN w4 r [] from ⟨#[],0,hm4,rfl⟩).kept hE5
 refine go_callV (.fn 37 [.p 3 0,.p 4 0]) [.it .i64 0,.ns] 37 #[.pointer (some ⟨tb,0,none⟩),.pointer (some ⟨fb,0,none⟩)] (by kernel_rfl) (by kernel_rfl) (by kernel_rfl) hW5 ?_
 refine (c37_0 0 tb fb w5).mono ?_
 rintro e w6 ⟨rfl,hE6⟩
 refine ⟨.tup [],[],(k43_0 r),rfl,hs5.kq hE6,fun hW6=>?_⟩
 refine gr0 (bs:=[xt,cb,b3,tb,fb]) 200 ⟨[],5,[],[],7⟩ hW6 fun w7 hE7 hW7=>?_
 have hs7:=hW7.sq (k43_0 r)
 refine gc 38 [.ns] hW7 ?_
 refine (c38 w7).mono ?_
 rintro e w8 ⟨rfl,hE8⟩
 refine ⟨.tup [],[],(k43_0 r),rfl,hs7.kq hE8,fun hW8=>?_⟩
 refine gr0 (bs:=[xt,cb,b3,tb,fb]) 200 ⟨[],5,[],[],7⟩ hW8 fun w9 hE9 hW9=>?_
 have hs9:=hW9.sq (k43_0 r)
 have hB9:Ext w5 w9:=hE6.trans (hE7.trans (hE8.trans hE9))
 refine go_callV (.fn 37 [.p 3 0,.p 4 0]) [.it .i64 1,.ns] 37 #[.pointer (some ⟨tb,0,none⟩),.pointer (some ⟨fb,0,none⟩)] (by kernel_rfl) (by kernel_rfl) (by kernel_rfl) hW9 ?_
 refine (c37_0 1 tb fb w9).mono ?_
 rintro e w10 ⟨rfl,hE10⟩
 have hs10:=hs9.kq hE10
 refine ⟨.tup [],[],(k43_0 r),rfl,hs10,fun hW10=>?_⟩
 refine gr0 (bs:=[xt,cb,b3,tb,fb]) 200 ⟨[],5,[],[],7⟩ hW10 fun w11 hE11 hW11=>?_
 have hs11:=hW11.sq (k43_0 r)
 refine go_callV (.fn 37 [.p 3 0,.p 4 0]) [.it .i64 2,.ns] 37 #[.pointer (some ⟨tb,0,none⟩),.pointer (some ⟨fb,0,none⟩)] (by kernel_rfl) (by kernel_rfl) (by kernel_rfl) hW11 ?_
 refine (c37_0 2 tb fb w11).mono ?_
 rintro e w12 ⟨rfl,hE12⟩
 have hs12:=hs11.kq hE12
 refine ⟨.tup [],[],(k43_0 r),rfl,hs12,fun hW12=>?_⟩
 refine gr0 (bs:=[xt,cb,b3,tb,fb]) 200 ⟨[],5,[],[],7⟩ hW12 fun w13 hE13 hW13=>?_
 have hs13:=hW13.sq (k43_0 r)
 refine go_callV (.fn 37 [.p 3 0,.p 4 0]) [.it .i64 3,.ns] 37 #[.pointer (some ⟨tb,0,none⟩),.pointer (some ⟨fb,0,none⟩)] (by kernel_rfl) (by kernel_rfl) (by kernel_rfl) hW13 ?_
 refine (c37_0 3 tb fb w13).mono ?_
 rintro e w14 ⟨rfl,hE14⟩
 have hs14:=hs13.kq hE14
 refine ⟨.tup [],[],(k43_0 r),rfl,hs14,fun hW14=>?_⟩
 refine gr0 (bs:=[xt,cb,b3,tb,fb]) 200 ⟨[],5,[],[],7⟩ hW14 fun w15 hE15 hW15=>?_
 have hs15:=hW15.sq (k43_0 r)
 refine go_callV (.fn 37 [.p 3 0,.p 4 0]) [.it .i64 4,.ns] 37 #[.pointer (some ⟨tb,0,none⟩),.pointer (some ⟨fb,0,none⟩)] (by kernel_rfl) (by kernel_rfl) (by kernel_rfl) hW15 ?_
 refine (c37_0 4 tb fb w15).mono ?_
 rintro e w16 ⟨rfl,hE16⟩
 have hs16:=hs15.kq hE16
 refine ⟨.tup [],[],(k43_0 r),rfl,hs16,fun hW16=>?_⟩
 refine gr0 (bs:=[xt,cb,b3,tb,fb]) 200 ⟨[],5,[],[],7⟩ hW16 fun w17 hE17 hW17=>?_
 have hs17:=hW17.sq (k43_0 r)
 refine go_callV (.fn 37 [.p 3 0,.p 4 0]) [.it .i64 5,.ns] 37 #[.pointer (some ⟨tb,0,none⟩),.pointer (some ⟨fb,0,none⟩)] (by kernel_rfl) (by kernel_rfl) (by kernel_rfl) hW17 ?_
 refine (c37_0 5 tb fb w17).mono ?_
 rintro e w18 ⟨rfl,hE18⟩
 have hs18:=hs17.kq hE18
 refine ⟨.tup [],[],(k43_0 r),rfl,hs18,fun hW18=>?_⟩
 refine gr0 (bs:=[xt,cb,b3,tb,fb]) 200 ⟨[],5,[],[],7⟩ hW18 fun w19 hE19 hW19=>?_
 have hs19:=hW19.sq (k43_0 r)
 refine go_callV (.fn 37 [.p 3 0,.p 4 0]) [.it .i64 6,.ns] 37 #[.pointer (some ⟨tb,0,none⟩),.pointer (some ⟨fb,0,none⟩)] (by kernel_rfl) (by kernel_rfl) (by kernel_rfl) hW19 ?_
 refine (c37_0 6 tb fb w19).mono ?_
 rintro e w20 ⟨rfl,hE20⟩
 have hs20:=hs19.kq hE20
 refine ⟨.tup [],[],(k43_0 r),rfl,hs20,fun hW20=>?_⟩
 refine gr1 (bs:=[xt,cb,b3,tb,fb]) 200 ⟨[],5,[],[],7⟩ hW20 fun ob v1 _ hEv1 hV1=>?_
 have hsv1:=hV1.sq (k43_3 r)
 refine gd TS46 [] hV1 (fun hD=>?_)
 refine gr0 (bs:=[xt,cb,b3,tb,fb,ob]) 200 ⟨[],6,[],[],7⟩ hD fun v2 hEv2 hV2=>?_
 have hsv2:=hV2.sq (k43_3 r)
 refine gcd 45 [] TS46 v1.drew hV2 (fun hC=>?_)
 refine (c45 v2).mono ?_
 rintro e v3 ⟨mb,rfl,hmb,hmx,hEv3⟩
 refine ⟨.p 6 0, [mb], [⟨73, [.ns, .ns, .ns, .ns, .ns, .ns, .ns, .ns]⟩, ⟨113, cmpS⟩, ⟨114, [.p 1 0]⟩, ⟨148, [.oc (.map (some r)) rfl]⟩, ⟨149, [.ns, .ns, .ns, .ns, .ns, .ns, .ns]⟩, ⟨162, [.fn 39 [.p 2 0]]⟩, ⟨167, [.fn 90 [], .str "pebble.concatenate".toUTF8]⟩], rfl, hsv2.ext hmb rfl ⟨hsv2.kp hEv3 0 _ rfl rfl, hsv2.kp hEv3 1 _ rfl rfl, hsv2.kp hEv3 2 _ rfl rfl, hsv2.kp hEv3 3 _ rfl rfl, hsv2.kp hEv3 4 _ rfl rfl, hsv2.kp hEv3 5 _ rfl rfl, hmx, trivial⟩, hC.trans (hEv3.mono (by simp)), fun hV3 => ?_⟩
 refine go_rebase [⟨73, [.ns, .ns, .ns, .ns, .ns, .ns, .ns, .ns]⟩, ⟨113, cmpS⟩, ⟨114, [.p 1 0]⟩, ⟨148, [.oc (.map (some r)) rfl]⟩, ⟨149, [.ns, .ns, .ns, .ns, .ns, .ns, .ns]⟩, ⟨162, [.fn 39 [.p 2 0]]⟩, ⟨167, [.fn 90 [], .str "pebble.concatenate".toUTF8]⟩] (by kernel_rfl) hV3 (by kernel_rfl) (fun hV3' => ?_)
 refine gr0 (bs:=[xt,cb,b3,tb,fb,ob,mb]) 200 ⟨[],7,[],[],7⟩ hV3' fun v4 hEv4 hV4=>?_
 have hsv4 := hV4.sq [⟨73, [.ns, .ns, .ns, .ns, .ns, .ns, .ns, .ns]⟩, ⟨113, cmpS⟩, ⟨114, [.p 1 0]⟩, ⟨148, [.oc (.map (some r)) rfl]⟩, ⟨149, [.ns, .ns, .ns, .ns, .ns, .ns, .ns]⟩, ⟨162, [.fn 39 [.p 2 0]]⟩, ⟨167, [.fn 90 [], .str "pebble.concatenate".toUTF8]⟩]
 have hEv:Ext w9 v4:=hE10.trans (hE11.trans (hE12.trans (hE13.trans (hE14.trans (hE15.trans (hE16.trans (hE17.trans (hE18.trans (hE19.trans (hE20.trans (hEv1.trans (((Kept.refl [] v1).drew).trans (hEv2.trans (hEv3.trans (hEv4)))))))))))))))
 refine gcd 46 [.fn 65 [],.nf,.it .i64 0,.agg [.ns,.ns,.ns,.ns,.ns,.ns,.ns]] TS46 v3 hV4 (fun hC=>?_)
 refine (c46_0 v4).mono ?_
 rintro e v5 ⟨vb,rfl,hKv5⟩
 have hsv5:=hsv4.kq hKv5
 refine ⟨.ptr ⟨vb,0,none⟩,[],_,rfl,hsv5,hC.trans hKv5,fun hV5=>?_⟩
 refine gr0 (bs:=[xt,cb,b3,tb,fb,ob,mb]) 200 ⟨[],7,[],[],7⟩ hV5 fun v6 hEv6 hV6=>?_
 have hsv6 := hV6.sq [⟨73, [.ns, .ns, .ns, .ns, .ns, .ns, .ns, .ns]⟩, ⟨113, cmpS⟩, ⟨114, [.p 1 0]⟩, ⟨148, [.oc (.map (some r)) rfl]⟩, ⟨149, [.ns, .ns, .ns, .ns, .ns, .ns, .ns]⟩, ⟨162, [.fn 39 [.p 2 0]]⟩, ⟨167, [.fn 90 [], .str "pebble.concatenate".toUTF8]⟩]
 refine gcd 44 [.p 1 0,.fn 90 [],.ptr ⟨vb,0,none⟩,.fn 47 [.p 3 0,.p 5 0]] TS46 v3 hV6 (fun hC=>?_)
 refine (c44 cb tb ob ⟨fnv 90,rfl⟩ ⟨.pointer (some ⟨vb,0,none⟩),rfl⟩ v6).mono ?_
 rintro e v7 ⟨sb,xb,rfl,hsb,hxb,hsx,hxx,hEv7⟩
 have hzsb:Bd.B≤sb:=Nat.le_trans hV6.sz hsb
 have hzxb:Bd.B≤xb:=Nat.le_trans hV6.sz hxb
 have hsv7:=hsv6.kq hEv7
 refine ⟨.ptr ⟨sb,0,none⟩,[],_,rfl,hsv7,hC.trans (hEv7.mono (by simp)),fun hV7=>?_⟩
 refine gr0 (bs:=[xt,cb,b3,tb,fb,ob,mb]) 200 ⟨[],7,[],[],7⟩ hV7 fun v8 hEv8 hV8=>?_
 have hsv8 := hV8.sq [⟨73, [.ns, .ns, .ns, .ns, .ns, .ns, .ns, .ns]⟩, ⟨113, cmpS⟩, ⟨114, [.p 1 0]⟩, ⟨148, [.oc (.map (some r)) rfl]⟩, ⟨149, [.ns, .ns, .ns, .ns, .ns, .ns, .ns]⟩, ⟨162, [.fn 39 [.p 2 0]]⟩, ⟨167, [.fn 90 [], .str "pebble.concatenate".toUTF8]⟩]
 have hZ:Kept TS46 w9 v8:=hEv.tr (hKv5.tr (hEv6.tr (hEv7.tr hEv8 (ts:=TS46)) (ts:=TS46)) (ts:=TS46)) (ts:=TS46)
 have hS:Sat [sb] [⟨243,zzS cb ⟨fnv 90,rfl⟩ nilV ⟨.pointer (some ⟨vb,0,none⟩),rfl⟩ xb⟩] v8:=Sat.add0 243 _ (hEv8.blk hsx) hzsb
 have hCb:Sat [cb] [⟨113,cmpS⟩] v8:=hsv8.sub [1] (by decide) (by simp) rfl ⟨hsv8.memC 1 rfl (by kernel_rfl),trivial⟩
 exact gt (.ptr ⟨sb,0,none⟩) hV8.sat ⟨sb,xb,cb,⟨fnv 90,rfl⟩,⟨.pointer (some ⟨vb,0,none⟩),rfl⟩,rfl,hS,hCb,(hA5.trans hB9).tr hZ (ts:=TS19)⟩
end Go.Proofs.YtghppnklhbbffaaGreatDoor.X
namespace Go.Proofs.YtghppnklhbbffaaGreatDoor.TL
open Go Go.RowKit Go.Proofs.YtghppnklhbbffaaGreatDoor.PFnTreeLevel Go.Proofs.YtghppnklhbbffaaGreatDoorW.PrintWords Go.Proofs.YtghppnklhbbffaaGreatDoorW.PrintLast
def opt (b:Bool) (s:ByteArray):Option (List UInt8):=if b then some (bs s) else none
theorem c20 [Bd] (lo up:ByteArray) (hl hu:Bool) (w:World):Calls Tryz.prog 20 #[.agg #[.string lo,.bool hl,.string up,.bool hu]] w fun e w'=> ∃ v1 v2,e=.returned (.tuple #[v1,v2])∧RdO w' v1 (opt hl lo)∧RdO w' v2 (opt hu up)∧Ext w w':=by
 have hu45:=Tryz.underlying45
 have hu75:=Tryz.underlying75
 cases hl<;>cases hu
 ·go_enter Tryz.func20,Tryz.ntmps20
  go_wp2
  go_ret2
  exact ⟨_,_,rfl,rfl,rfl,by (repeat (first|exact Kept.refl _ _|apply Kept.ktr|apply Kept.kt0|apply Kept.alloc|apply Kept.drew|apply Kept.drewN))⟩
 ·go_enter Tryz.func20,Tryz.ntmps20
  go_wp2_with ((with_reducible refine gate_dst (N:=13) rfl ?_);go_loud (refine conv_ev (N:=13) rfl rfl _ up rfl (by first|rfl|(go_simp;done)) ?_;rintro g n w1 hr hk;have HR:=Aside0.mk hr;have HE:=Aside0.mk (((Kept.refl [] w).alloc _).trans hk:Ext w w1);clear hr hk))
  go_ret2
  exact ⟨_,_,rfl,rfl,HR.out,HE.out⟩
 ·go_enter Tryz.func20,Tryz.ntmps20
  go_wp2_with ((with_reducible refine gate_dst (N:=8) rfl ?_);go_loud (refine conv_ev (N:=8) rfl rfl _ lo rfl (by first|rfl|(go_simp;done)) ?_;rintro g n w1 hr hk;have q3:=hk.cell (p:=⟨w.heap.size,3,none⟩) (v:=.bool false) (by go_simp);have HR:=Aside0.mk hr;have HE:=Aside0.mk (((Kept.refl [] w).alloc _).trans hk:Ext w w1);clear hr hk))
  go_ret2
  exact ⟨_,_,rfl,HR.out,rfl,HE.out⟩
 ·go_enter Tryz.func20,Tryz.ntmps20
  go_wp2_with (first
   |((with_reducible refine gate_dst (N:=8) rfl ?_);go_loud (refine conv_ev (N:=8) rfl rfl _ lo rfl (by first|rfl|(go_simp;done)) ?_;rintro g n w1 hr hk;have q2:=hk.cell (p:=⟨w.heap.size,2,none⟩) (v:=.string up) (by go_simp);have q3:=hk.cell (p:=⟨w.heap.size,3,none⟩) (v:=.bool true) (by go_simp);have HR:=Aside0.mk hr;have HE:=Aside0.mk (((Kept.refl [] w).alloc _).trans hk:Ext w w1);clear hr hk))
   |((with_reducible refine gate_dst (N:=13) rfl ?_);go_loud (refine conv_ev (N:=13) rfl rfl _ up rfl (by first|rfl|(go_simp;done)) ?_;rintro g2 n2 w2 hr hk;have HR2:=Aside0.mk hr;have HR1:=Aside0.mk (HR.out.kept hk (by simp));have HE2:=Aside0.mk (HE.out.trans hk);clear hr hk HR HE q2 q3)))
  go_ret2
  exact ⟨_,_,rfl,HR1.out,HR2.out,HE2.out⟩
end Go.Proofs.YtghppnklhbbffaaGreatDoor.TL
