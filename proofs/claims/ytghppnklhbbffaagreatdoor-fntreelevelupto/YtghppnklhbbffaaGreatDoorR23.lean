/- Part 23 of the proof that laws.FnTreeLevel answers true, for arguments of small bulk. -/
import Derived.Test.YtghppnklhbbffaaGreatDoorR05
import Derived.Test.YtghppnklhbbffaaGreatDoorR22
set_option linter.all false
set_option maxHeartbeats 4000000
set_option maxRecDepth 100000
namespace Go.Proofs.YtghppnklhbbffaaGreatDoor.X
open Go Go.RowKit Go.Proofs.YtghppnklhbbffaaGreatDoor.TL Go.Proofs.YtghppnklhbbffaaGreatDoor.PFnTreeLevel
theorem Fr.callOwn [Bd] {ts us ns:List TypeId} {w0 w w':World} {bs:List Nat} (h:Fr ts w0 [] bs w) (hk:Kept us w w') (hf:Far ns w w') (hns: ∀ b∈ns,w0.heap.size≤b) (hus: ∀ t∈us,t∈ts:=by simp):Fr ts w0 [] bs w':=by
 obtain ⟨n0,e,hb⟩:=h.pre
 exact ⟨⟨n0,e,hb⟩,h.kept.trans (hk.mono hus),fun hm k hlt hn=>(hf k (Nat.lt_of_lt_of_le hlt h.kept.size) (fun hm'=>by have:=hns k hm';omega)).trans (h.far hm k hlt hn)⟩
theorem own_cell [Bd] {w:World} {e size n:Nat} {v:Value} {xs:List Value} (h:w.ownsRow Bd.B e size v n xs) {j:Nat} {u:Value} (hu:xs[j]? =some u): ∃ g cap cur,v=.slice (some ⟨g,0,none⟩) n cap∧n≤cap∧w.heap[g]? =some (.cells cur e (0,0))∧w.cell? ⟨g,j,none⟩=some u:=by
 obtain ⟨hl,h2⟩:=h
 have hj:=(List.getElem?_eq_some_iff.1 hu).1
 rcases h2 with ⟨rfl,rfl⟩|⟨g,cap,cur,rfl,_,hg,hnc,_,_,ht⟩
 ·omega
 ·refine ⟨g,cap,cur,rfl,hnc,hg,cell_of_heap hg ?_⟩
  rw [←ht,List.getElem?_take,if_pos (by omega)] at hu
  simpa using hu
theorem own_ne_ty [Bd] {w:World} {e size n:Nat} {v:Value} {xs:List Value} (h:w.ownsRow Bd.B e size v n xs) {b:Nat} (hb:v.ownBlock=some b) {c:Array Value} {t:TypeId} {f:Nat×Nat} (hc:w.heap[b]? =some (.cells c t f)) (hne:t≠e):False:=by
 rcases h.2 with ⟨rfl,_⟩|⟨g,cap,cur,rfl,_,hg,_⟩
 ·simp [Value.ownBlock] at hb
 ·simp only [Value.ownBlock,Option.some.injEq] at hb
  subst hb
  rw [hc] at hg
  simp only [Option.some.injEq,Obj.cells.injEq] at hg
  exact hne hg.2.1
theorem outH_nil [Bd]: ∀ H:List SB,outH [] H=true
 |[]=>rfl
 |o::r=>by simp [outH,outH_nil r]
section
variable {Q:Exit→Act→World→Prop} {bs:List Nat} {w:World}
theorem go_convD [Bd] {s:ST} (us:List TypeId) (wr:World) (x:Operand) (str:ByteArray) (H:List SB) (h:curD s=some (.convert 9 75 x,us)) (hwr:drW s=some wr) (hx:(evS s.T x).den bs=.string str) (hs:Wk bs s w) (hH:s.H=H)
  (hk: ∀ (v:Value) (w':World) (ho:v.oneCell'=true),RdS w' v (TL.bs str)→Ext w w'→Wk bs (afterC s (.oc v ho) H) w'→kx Tryz.prog Q (afterC s (.oc v ho) H).K .normal (actS bs (afterC s (.oc v ho) H).T) w'):kx Tryz.prog Q s.K .normal (actS bs s.T) w:=by
 obtain ⟨gn,w1,hr,hrv,hE⟩:=run_conv w str
 refine go_opD (.convert 9 75 x) us wr h hwr hs w1 (.oc _ (RdS.one hrv)) [] H (.value (.slice (some ⟨w.heap.size,0,none⟩) str.size gn)) (fun o ho=>?_) (.inl (by simp only [SV.den])) (by rw [List.append_nil];exact (hs.satE H hH).keep hE (outH_nil H)) (fun hC=>hC.trans (hE.mono (by simp))) (fun hW=>?_)
 ·have e1:(actS bs s.T).eval x=.string str:=by rw [ev_den,hx]
  simp only [execOp,ho,e1,Sem.run_bind,hr,Result.andThen,Sem.run_pure]
 ·rw [List.append_nil] at hW ⊢
  exact hk _ w1 (RdS.one hrv) hrv hE hW
end
noncomputable def S40 (A:Addr) (n c:Nat):ST:=runS Tryz.prog ⟨[266,4000000],0,[],[],0⟩ 200 (startS Tryz.f40 [.sl A n c] [])
def T40 (A:Addr) (n c:Nat) (j:Int) (xs:Nat→Value):List SV:=[.sl A n c,.un,.np,.p 0 0,.un,.va (xs 5),.agg [.ns,.ns,.it .i64 (-1),.ns,.ns],.p 0 0,.sl A n c,.si .i64 n,.si .i64 j,.va (xs 11),.va (xs 12),.va (xs 13),.va (xs 14),.va (xs 15),.va (xs 16),.va (xs 17),.va (xs 18),.va (xs 19),.va (xs 20),.va (xs 21),.va (xs 22),.va (xs 23),.va (xs 24),.va (xs 25),.va (xs 26),.va (xs 27),.va (xs 28),.va (xs 29),.va (xs 30),.va (xs 31),.va (xs 32),.va (xs 33),.va (xs 34),.va (xs 35),.va (xs 36),.va (xs 37),.un]
def H40 (kv vv:V1):List SB:=[⟨266,[o1 kv,o1 vv,.it .i64 (-1),.ns,.ns]⟩]
abbrev E40 (x:S36):List SB:=[⟨36,[.oc (.string x.f0) rfl,.si .u64 x.f1,.oc (.string x.f2) rfl]⟩]
abbrev K40 (ku:V1) (t:Int):List SB:=[⟨182,[o1 ku,.si .u64 t]⟩]
abbrev U40 (vu:V1):List SB:=[⟨75,[o1 vu]⟩]
def F40 (w:World) (pts:List S36) (j:Nat) (ks vs:List Value):Prop:= ∀ i (hi:i < pts.length),i < j→ ∃ ku vu,ks[i*2]? =some ku∧ks[i*2+1]? =some (.int .u64 pts[i].f1)∧vs[i]? =some vu∧RdS w ku (bs pts[i].f0)∧RdS w vu (bs pts[i].f2)
theorem F40.kept [Bd] {w w':World} {pts:List S36} {j:Nat} {ks vs:List Value} {ts:List TypeId} (h:F40 w pts j ks vs) (hk:Kept ts w w') (h5:5∉ts:=by simp):F40 w' pts j ks vs:=fun i hi hj=>by
 obtain ⟨ku,vu,q1,q2,q3,q4,q5⟩:=h i hi hj
 exact ⟨ku,vu,q1,q2,q3,q4.kept hk h5,q5.kept hk h5⟩
def newB (w0:World) (v:Value):Prop:= ∀ b,v.ownBlock=some b→w0.heap.size≤b
def J40 [Bd] (A:Addr) (n c:Nat) (pts:List S36) (b0:Nat) (w0:World) (m:Nat) (bs:List Nat) (T:List SV) (H:List SB) (w:World):Prop:=
 ∃ (j:Nat) (xs:Nat→Value) (kv vv:V1) (ks vs:List Value),j≤n∧m+j=n∧bs=[b0]∧T=T40 A n c j xs∧H=H40 kv vv∧w.ownsRow Bd.B 182 2 kv.1 j ks∧w.ownsRow Bd.B 75 1 vv.1 j vs∧newB w0 kv.1∧newB w0 vv.1∧(∀ b,kv.1.ownBlock=some b→b≠b0)∧(∀ b,vv.1.ownBlock=some b→b≠b0)∧F40 w pts j ks vs∧Fr [266,182,75,4000000] w0 [] bs w
noncomputable def S40' (A:Addr) (n c:Nat):ST:=⟨(S40 A n c).K,(S40 A n c).T,H40 nilV nilV,[]⟩
theorem newB.or [Bd] {w0 w:World} {v v':Value} (h:newB w0 v) (ho:v'.ownBlock=v.ownBlock∨v'.ownBlock=some w.heap.size) (hk:w0.heap.size≤w.heap.size):newB w0 v':=fun b hb=>by
 rcases ho with h1|h1
 ·exact h b (h1 ▸ hb)
 ·rw [h1] at hb;simp only [Option.some.injEq] at hb;omega
theorem neB_or [Bd] {w:World} {v v':Value} {b0:Nat} (h: ∀ b,v.ownBlock=some b→b≠b0) (ho:v'.ownBlock=v.ownBlock∨v'.ownBlock=some w.heap.size) (hb0:b0 < w.heap.size): ∀ b,v'.ownBlock=some b→b≠b0:=fun b hb=>by
 rcases ho with h1|h1
 ·exact h b (h1 ▸ hb)
 ·rw [h1] at hb;simp only [Option.some.injEq] at hb;omega
theorem c40 [Bd] (v:Value) (pts:List S36) (w:World) (hp:RK k36 36 w v pts) (hn1:1≤pts.length) (hn:pts.length < 2^30) (hB0:autoParam (Bd.B≤w.heap.size) sz0._auto_1):
  Calls Tryz.prog 40 #[v] w fun e w'=> ∃ b vk vv,e=.returned (.pointer (some ⟨b,0,none⟩))∧w.heap.size≤b∧w'.heap[b]? =some (.cells #[vk,vv,.int .i64 (-1),.slice none 0 0,.slice none 0 0] 266 (0,0))∧LstC w' vk vv (.slice none 0 0) (.slice none 0 0) pts none none∧Ext w w':=by
 obtain ⟨A0,c,rfl,hc,hat⟩:=hp.at36
 obtain ⟨A,hA,_⟩:=hat 0 (by omega)
 subst hA
 have hrow: ∀ (w':World),Kept [266,182,75,4000000] w w'→ ∀ i (hi:i < pts.length),w'.cell? (A.add (i*3))=some (.string pts[i].f0)∧w'.cell? ((A.add (i*3)).add 1)=some (.int .u64 pts[i].f1)∧w'.cell? ((A.add (i*3)).add 2)=some (.string pts[i].f2):=fun w' hk i hi=>by
  have hp':=hp.kept hk (by decide)
  obtain ⟨A1,c1,e1,_,hat1⟩:=hp'.at36
  simp only [Value.slice.injEq] at e1
  obtain ⟨e1,_,_⟩:=e1
  obtain ⟨ad,hA1,q⟩:=hat1 i hi
  rw [←e1] at hA1
  simp only [Option.some.injEq] at hA1
  subst hA1
  exact q
 obtain ⟨n,hnn⟩: ∃ n,n=pts.length:=⟨_,rfl⟩
 rw [←hnn]
 refine gs (bs:=[]) [.sl A n c] [] Tryz.func40 (sat0 w) (fun hW=>?_)
 refine go_runF 200 ⟨[266,4000000],0,[],[],0⟩ (by kernel_rfl) hW (Fr.refl [266,182,75,4000000] w []) rfl [] (by kernel_rfl) trivial ?_
 intro nw w1 hK1 hF1 hW1
 obtain ⟨b0,rfl⟩:=nw1 (hW1.num 1 (by kernel_rfl)) rfl
 have hb0:w.heap.size≤b0:=hF1.lo (nw:=[b0]) b0 (by simp)
 refine go_loop (s:=S40' A n c) (bs:=[b0]) (J40 A n c pts b0 w) n (by kernel_rfl) ⟨hW1.sq (H40 nilV nilV),hW1.pre⟩ (fun xs=>T40 A n c 0 xs) (H40 nilV nilV) (by kernel_rfl) (by kernel_rfl)
  (fun xs=>⟨0,xs,nilV,nilV,[],[],by omega,by omega,rfl,rfl,rfl,World.ownsRow_nil _ _ _ _,World.ownsRow_nil _ _ _ _,fun b hb=>by simp [Value.ownBlock,nilV] at hb,fun b hb=>by simp [Value.ownBlock,nilV] at hb,fun b hb=>by simp [Value.ownBlock,nilV] at hb,fun b hb=>by simp [Value.ownBlock,nilV] at hb,fun i hi hj=>absurd hj (by omega),hF1⟩) ?_ ?_
 ·rintro m bs' T H w' ⟨j,xs,kv,vv,ks,vs,_,_,rfl,_⟩
  exact ⟨[],rfl⟩
 ·rintro m bs' T H w' ⟨j,xs,kv,vv,ks,vs,hj,hm,rfl,rfl,rfl,hok,hov,hnk,hnv,hbk,hbv,hfa,hF⟩ hW'
  by_cases hlt:j < n
  ·obtain ⟨q1,q2,q3⟩:=hrow w' hF.kept j (by omega)
   refine go_runF (s:=bodyS (S40' A n c) (Hand (J40 A n c pts b0 w) m) (T40 A n c j xs) (H40 kv vv)) (bs:=[b0]) 200 ⟨[266,4000000],1,[],[(11,true)],0⟩ (by kernel_rfl) hW' hF rfl [(decide ((j:Int) < n),true),(decide ((0:Int)≤j),true),(decide ((j:Int) < n),true)] (by kernel_rfl) ⟨by simpa using hlt,by simp,by simpa using hlt,trivial⟩ ?_
   intro nw w2 hK2 hF2 hW2
   obtain rfl:=nw0 (hW2.num 1 (by kernel_rfl)) rfl
   obtain ⟨q1,q2,q3⟩:=hrow w2 hF2.kept j (by omega)
   have hjp:j < pts.length:=by omega
   refine go_loadA 36 (.tmp 12) (A.add ((j:Int).toNat*3)) [.oc (.string pts[j].f0) rfl,.si .u64 pts[j].f1,.oc (.string pts[j].f2) rfl] (H40 kv vv) (by kernel_rfl) (by kernel_rfl) (by kernel_rfl) (by kernel_rfl) hW2 (by kernel_rfl) ?_ (fun hW3=>?_)
   ·intro i y hy
    rw [Int.toNat_natCast]
    match i,hy with
    |0,hy=>cases hy;rw [show (A.add (j*3)).add 0=A.add (j*3) by simp [Addr.add]];exact q1
    |1,hy=>cases hy;exact q2
    |2,hy=>cases hy;exact q3
   refine go_runF (bs:=[b0]) 200 ⟨[266,4000000],1,[],[],0⟩ (by kernel_rfl) hW3 hF2 rfl [] (by kernel_rfl) trivial ?_
   intro nw w4 hK4 hF4 hW4
   obtain ⟨e1,rfl⟩:=nw1 (hW4.num 2 (by kernel_rfl)) rfl
   have hs4:=hW4.sq (H40 kv vv++E40 pts[j])
   refine gd [182] [] hW4 (fun hW5=>?_)
   refine gf0 (bs:=[b0,e1]) 200 ⟨[266,4000000],2,[],[],0⟩ hW5 hF4.drew fun w6 hK6 hF6 hW6=>?_
   have hs6:=hW6.sq (H40 kv vv++E40 pts[j])
   refine gcd 56 [.agg [.oc (.string pts[j].f0) rfl,.si .u64 pts[j].f1,.oc (.string pts[j].f2) rfl]] [182] w4.drew hW6 (fun hC=>?_)
   refine (TL.c56 pts[j] w6).mono ?_
   rintro e w7 ⟨ku,rfl,hru,hE7⟩
   have hs7:=hs6.kq hE7
   refine ⟨.agg [.oc ku (RdS.one hru),.si .u64 pts[j].f1],[],_,rfl,hs7,hC.trans (hE7.mono (by simp)),fun hW7=>?_⟩
   have hF7:Fr [266,182,75,4000000] w [] [b0,e1] w7:=hF6.callF (nw:=[]) hE7 (Far.of_ext hE7 [])
   refine go_bsliceD 263 182 2 [182] w4.drew (.tmp 20) [.oc ku (RdS.one hru),.si .u64 pts[j].f1] (H40 kv vv++E40 pts[j]) (by kernel_rfl) (by kernel_rfl) (by kernel_rfl) (by kernel_rfl) (by kernel_rfl) rfl (by omega) (by omega) hW7 (by kernel_rfl) (by kernel_rfl) (by kernel_rfl) (fun sb w8 hsb hE8 hW8=>?_)
   have hs8:=hW8.sq (H40 kv vv++E40 pts[j]++K40 ⟨ku,RdS.one hru⟩ pts[j].f1)
   have hF8:Fr [266,182,75,4000000] w [] [b0,e1,sb] w8:=hF7.callF (nw:=[sb]) hE8 (Far.of_ext hE8 []) (by simp) (by simp) (by simp [hsb])
   have hX28:Kept [266,4000000] w' w8:=hK2.tr (hK4.tr (((Kept.refl [] w4).drew).tr (hK6.tr (hE7.tr hE8 (ts:=[266,4000000])) (ts:=[266,4000000])) (ts:=[266,4000000])) (ts:=[266,4000000]))
   have hok8:=own_kept hok hX28 (by simp)
   have hov8:=own_kept hov hX28 (by simp)
   have hru8:=hru.kept hE8 (by simp)
   have hb08:b0 < w8.heap.size:=hs8.old_lt b0 (by simp)
   refine go_appendD 263 182 2 32 [182] w4.drew (.agg #[.slice none 0 0,.int .u64 0]) (.tmp 18) (.tmp 21) kv.1 j ks ⟨sb,0,none⟩ 1 1 [ku,.int .u64 pts[j].f1] (H40 kv vv++E40 pts[j]++K40 ⟨ku,RdS.one hru⟩ pts[j].f1) (by kernel_rfl) (by kernel_rfl) (by simp) (by kernel_rfl) (by kernel_rfl) (by kernel_rfl) (by kernel_rfl) rfl (by omega) hW8 (by kernel_rfl) hok8 rfl ?_ ?_ ?_ ?_ ?_ ?_
   ·intro i u hu
    match i,hu with
    |0,hu=>cases hu;exact hs8.cell 2 182 [o1 ⟨ku,RdS.one hru⟩,.si .u64 pts[j].f1] rfl 0 (o1 ⟨ku,RdS.one hru⟩) rfl
    |1,hu=>cases hu;exact hs8.cell 2 182 [o1 ⟨ku,RdS.one hru⟩,.si .u64 pts[j].f1] rfl 1 (.si .u64 pts[j].f1) rfl
   ·intro u hu
    simp only [List.mem_cons,List.not_mem_nil,or_false] at hu
    rcases hu with rfl|rfl
    ·exact RdS.one hru
    ·rfl
   ·simp only [maxLen];omega
   ·omega
   ·intro b hb he
    have hlt':=own_lt' hok b he.symm
    have hb3:b∈[b0,e1,sb]:=hb
    simp only [List.mem_cons,List.not_mem_nil,or_false] at hb3
    rcases hb3 with rfl|rfl|rfl
    ·exact hbk _ he.symm rfl
    ·exact own_ne_ty hok8 he.symm (hs8.mem 1 _ rfl) (by simp)
    ·have h9:w'.heap.size≤w7.heap.size:=(hK2.tr (hK4.tr (((Kept.refl [] w4).drew).tr (hK6.tr hE7 (ts:=[266,4000000])) (ts:=[266,4000000])) (ts:=[266,4000000])) (ts:=[266,4000000]):Kept [266,4000000] w' w7).size
     omega
   ·intro v' w9 ho hok9 hK9 hN9 hor9 hW9
    have hF9:Fr [266,182,75,4000000] w [] [b0,e1,sb] w9:=hF8.callOwn hK9 hN9 (fun b hb=>hnk b (by simpa using hb))
    refine gf0 (bs:=[b0,e1,sb]) 200 ⟨[266,4000000],3,[],[],0⟩ hW9 hF9 fun w10 hK10 hF10 hW10=>?_
    have hs10:=hW10.sq (H40 ⟨v',ho⟩ vv++E40 pts[j]++K40 ⟨ku,RdS.one hru⟩ pts[j].f1)
    refine gd [75] [] hW10 (fun hW11=>?_)
    refine gf0 (bs:=[b0,e1,sb]) 200 ⟨[266,4000000],3,[],[],0⟩ hW11 hF10.drew fun w12 hK12 hF12 hW12=>?_
    have hs12:=hW12.sq (H40 ⟨v',ho⟩ vv++E40 pts[j]++K40 ⟨ku,RdS.one hru⟩ pts[j].f1)
    refine go_convD [75] w10.drew (.tmp 31) pts[j].f2 (H40 ⟨v',ho⟩ vv++E40 pts[j]++K40 ⟨ku,RdS.one hru⟩ pts[j].f1) (by kernel_rfl) (by kernel_rfl) (by kernel_rfl) hW12 (by kernel_rfl) (fun vu w13 hov1 hrv hE13 hW13=>?_)
    have hs13:=hW13.sq (H40 ⟨v',ho⟩ vv++E40 pts[j]++K40 ⟨ku,RdS.one hru⟩ pts[j].f1)
    have hF13:Fr [266,182,75,4000000] w [] [b0,e1,sb] w13:=hF12.callF (nw:=[]) hE13 (Far.of_ext hE13 [])
    refine go_bsliceD 264 75 1 [75] w10.drew (.tmp 32) [.oc vu hov1] (H40 ⟨v',ho⟩ vv++E40 pts[j]++K40 ⟨ku,RdS.one hru⟩ pts[j].f1) (by kernel_rfl) (by kernel_rfl) (by kernel_rfl) (by kernel_rfl) (by kernel_rfl) rfl (by omega) (by omega) hW13 (by kernel_rfl) (by kernel_rfl) (by kernel_rfl) (fun sb2 w14 hsb2 hE14 hW14=>?_)
    have hs14:=hW14.sq (H40 ⟨v',ho⟩ vv++E40 pts[j]++K40 ⟨ku,RdS.one hru⟩ pts[j].f1++U40 ⟨vu,hov1⟩)
    have hF14:Fr [266,182,75,4000000] w [] [b0,e1,sb,sb2] w14:=hF13.callF (nw:=[sb2]) hE14 (Far.of_ext hE14 []) (by simp) (by simp) (by simp [hsb2])
    have hX9:Kept [266,4000000] w9 w14:=hK10.tr (((Kept.refl [] w10).drew).tr (hK12.tr (hE13.tr hE14 (ts:=[266,4000000])) (ts:=[266,4000000])) (ts:=[266,4000000])) (ts:=[266,4000000])
    have hov14:=own_kept (own_kept hov8 hK9 (by simp)) hX9 (by simp)
    refine go_appendD 264 75 1 24 [75] w10.drew (.slice none 0 0) (.tmp 29) (.tmp 33) vv.1 j vs ⟨sb2,0,none⟩ 1 1 [vu] (H40 ⟨v',ho⟩ vv++E40 pts[j]++K40 ⟨ku,RdS.one hru⟩ pts[j].f1++U40 ⟨vu,hov1⟩) (by kernel_rfl) (by kernel_rfl) (by simp) (by kernel_rfl) (by kernel_rfl) (by kernel_rfl) (by kernel_rfl) rfl (by omega) hW14 (by kernel_rfl) hov14 rfl ?_ ?_ ?_ ?_ ?_ ?_
    ·intro i u hu
     match i,hu with
     |0,hu=>cases hu;exact hs14.cell 3 75 [.oc vu hov1] rfl 0 (.oc vu hov1) rfl
    ·intro u hu;simp only [List.mem_singleton] at hu;subst hu;exact hov1
    ·simp only [maxLen];omega
    ·omega
    ·intro b hb he
     have hb3:b∈[b0,e1,sb,sb2]:=hb
     simp only [List.mem_cons,List.not_mem_nil,or_false] at hb3
     rcases hb3 with rfl|rfl|rfl|rfl
     ·exact hbv _ he.symm rfl
     ·exact own_ne_ty hov14 he.symm (hs14.mem 1 _ rfl) (by simp)
     ·exact own_ne_ty hov14 he.symm (hs14.mem 2 _ rfl) (by simp)
     ·have hlt':=own_lt' hov _ he.symm
      have h9:w'.heap.size≤w13.heap.size:=Nat.le_trans hX28.size (Nat.le_trans hK9.size (hK10.tr (((Kept.refl [] w10).drew).tr (hK12.tr hE13 (ts:=[266,4000000])) (ts:=[266,4000000])) (ts:=[266,4000000]):Kept [266,4000000] w9 w13).size)
      omega
    ·intro v2 w15 ho2 hov15 hK15 hN15 hor15 hW15
     have hF15:Fr [266,182,75,4000000] w [] [b0,e1,sb,sb2] w15:=hF14.callOwn hK15 hN15 (fun b hb=>hnv b (by simpa using hb))
     refine gf0 (bs:=[b0,e1,sb,sb2]) 200 ⟨[266,4000000],4,[],[],0⟩ hW15 hF15 fun w16 hK16 hF16 hW16=>?_
     have hs16:=hW16.sq (H40 ⟨v',ho⟩ ⟨v2,ho2⟩++E40 pts[j]++K40 ⟨ku,RdS.one hru⟩ pts[j].f1++U40 ⟨vu,hov1⟩)
     have hs17:Sat [b0] (H40 ⟨v',ho⟩ ⟨v2,ho2⟩) w16:=hs16.sub [0] (by decide) (by simp) rfl ⟨hs16.memC 0 rfl (by kernel_rfl),trivial⟩
     have hX14:Kept [266,75,4000000] w14 w16:=hK15.tr hK16 (ts:=[266,75,4000000])
     have hX9':Kept [266,75,4000000] w9 w16:=hX9.tr hX14 (ts:=[266,75,4000000])
     have hX8':Kept [266,182,75,4000000] w8 w16:=hK9.tr hX9' (ts:=[266,182,75,4000000])
     have hX':Kept [266,182,75,4000000] w' w16:=hX28.tr hX8' (ts:=[266,182,75,4000000])
     have hok16:=own_kept hok9 hX9' (by simp)
     have hov16:=own_kept hov15 hK16 (by simp)
     have hlk:ks.length=j*2:=hok.1
     have hlv:vs.length=j*1:=hov.1
     have hfa16:F40 w16 pts (j+1) (ks++[ku,.int .u64 pts[j].f1]) (vs++[vu]):=by
      intro i hi hij
      by_cases hlast:i=j
      ·subst hlast
       refine ⟨ku,vu,?_,?_,?_,hru8.kept hX8' (by simp),(hrv.kept hE14 (by simp)).kept hX14 (by simp)⟩
       ·rw [List.getElem?_append_right (by omega),hlk];simp
       ·rw [List.getElem?_append_right (by omega),hlk,show i*2+1 - i*2=1 by omega];rfl
       ·rw [List.getElem?_append_right (by omega),hlv];simp
      ·obtain ⟨ku',vu',r1,r2,r3,r4,r5⟩:=hfa i hi (by omega)
       exact ⟨ku',vu',by rw [List.getElem?_append_left (by omega)];exact r1,by rw [List.getElem?_append_left (by omega)];exact r2,by rw [List.getElem?_append_left (by omega)];exact r3,r4.kept hX' (by simp),r5.kept hX' (by simp)⟩
     refine go_fin (Hand (J40 A n c pts b0 w) m) (by kernel_rfl) (fun xs=>T40 A n c (IntKind.i64.wrap ((j:Int)+1)) xs) (by kernel_rfl) (fun xs=>?_)
     rw [wrap_succ j (by omega)]
     exact ⟨m - 1,by omega,[b0],_,_,actS_cut [b0] [e1,sb,sb2] _ (by kernel_rfl),hs17,j+1,xs,⟨v',ho⟩,⟨v2,ho2⟩,_,_,by omega,by omega,rfl,rfl,rfl,hok16,hov16,hnk.or hor9 hF8.kept.size,hnv.or hor15 hF14.kept.size,neB_or hbk hor9 hb08,neB_or hbv hor15 (hs14.old_lt b0 (by simp)),hfa16,hF16.drop (bs':=[b0]) (by simp)⟩
  ·obtain rfl:j=n:=by omega
   refine go_runF (s:=bodyS (S40' A j c) (Hand (J40 A j c pts b0 w) m) (T40 A j c j xs) (H40 kv vv)) (bs:=[b0]) 200 ⟨[266,4000000],1,[],[(11,false)],0⟩ (by kernel_rfl) hW' hF rfl [(decide ((j:Int) < j),false)] (by kernel_rfl) ⟨by simp,trivial⟩ ?_
   intro nw w2 hK2 hF2 hW2
   obtain rfl:=nw0 (hW2.num 1 (by kernel_rfl)) rfl
   have hs2:=hW2.sq (H40 kv vv)
   have hok2:=own_kept hok hK2 (by simp)
   have hov2:=own_kept hov hK2 (by simp)
   have hfa2:=hfa.kept hK2
   refine gt (.p 0 0) hW2.sat ⟨b0,kv.1,vv.1,rfl,hb0,hs2.mem 0 _ rfl,?_,(hF2.farE).ext hF2.kept⟩
   have hk0:=hfa2 0 (by omega) (by omega)
   obtain ⟨ku0,vu0,r1,r2,r3,_,_⟩:=hk0
   obtain ⟨g,cap,cur,e1,hcap,hg,_⟩:=own_cell hok2 r1
   obtain ⟨g',cap',cur',e1',hcap',hg',_⟩:=own_cell hov2 r3
   refine ⟨⟨some ⟨g,0,none⟩,cap,by rw [e1,hnn],by omega,by omega,fun _=>⟨g,cur,(0,0),rfl,hg,fun i hi=>?_⟩⟩,⟨some ⟨g',0,none⟩,cap',by rw [e1',hnn],by omega,fun _=>⟨g',cur',(0,0),rfl,hg',fun i hi=>?_⟩⟩,rfl,rfl⟩
   ·obtain ⟨ku,vu,q1,q2,q3,q4,q5⟩:=hfa2 i hi (by omega)
    obtain ⟨g2,cap2,cur2,e2,_,_,hc2⟩:=own_cell hok2 q1
    obtain ⟨g3,cap3,cur3,e3,_,_,hc3⟩:=own_cell hok2 q2
    rw [e1] at e2 e3
    simp only [Value.slice.injEq,Option.some.injEq,Addr.mk.injEq,and_true,true_and] at e2 e3
    obtain ⟨rfl,_⟩:=e2
    obtain ⟨rfl,_⟩:=e3
    exact ⟨ku,hc2,hc3,q4⟩
   ·obtain ⟨ku,vu,q1,q2,q3,q4,q5⟩:=hfa2 i hi (by omega)
    obtain ⟨g2,cap2,cur2,e2,_,_,hc2⟩:=own_cell hov2 q3
    rw [e1'] at e2
    simp only [Value.slice.injEq,Option.some.injEq,Addr.mk.injEq,and_true,true_and] at e2
    obtain ⟨rfl,_⟩:=e2
    exact ⟨vu,hc2,q5⟩
def lenC (t:TypeId) (x:Operand):Call:=⟨.builtin .len, #[x], #[t]⟩
theorem go_len [Bd] {P:Program} {Q:Exit→Act→World→Prop} {bs:List Nat} {w:World} {s:ST} (t e:TypeId) (x:Operand) (A:Option Addr) (n c:Nat) (H:List SB) (h:curOp s=some (.call (lenC t x))) (hx:(evS s.T x).den bs=.slice A n c) (hu:P.underlying t=some (.slice e)) (hs:Wk bs s w) (hH:s.H=H)
  (hk:Wk bs (afterC s (.it .i64 n) H) w→kx P Q (afterC s (.it .i64 n) H).K .normal (actS bs (afterC s (.it .i64 n) H).T) w):kx P Q s.K .normal (actS bs s.T) w:=by
 refine go_op (.call (lenC t x)) h hs w (.it .i64 n) [] H (.value (.int .i64 n)) (fun o ho=>?_) (.inl (by simp only [SV.den])) (by rw [List.append_nil];exact hs.satE H hH) (fun hW=>?_)
 ·simp only [execOp,ho,Sem.run_bind,resolve_builtin (show (lenC t x).callee=.builtin .len from rfl),Result.andThen,invoke,builtin]
  rw [show (lenC t x).args.map (actS bs s.T).eval= #[.slice A n c] by simp [lenC,ev_den,hx]]
  simp only [Builtin.len_,show (lenC t x).argTypes[0]? =some t from rfl,List.getElem?_toArray,List.getElem?_cons_zero,Sem.run_bind,run_underlying hu,Result.andThen,Sem.run_pure,goInt]
 ·rw [List.append_nil] at hW ⊢
  exact hk hW
theorem c41e [Bd] (lb:Nat) (vk vv va v1 v2 lo up:V1) (w:World) (hs:Sat [lb] [⟨266,[o1 vk,o1 vv,o1 va,o1 v1,o1 v2]⟩] w):
  Calls Tryz.prog 41 #[.pointer (some ⟨lb,0,none⟩),lo.1,up.1] w fun e w'=>e=.returned (.tuple #[])∧Kept [266,4000000] w w'∧Far [lb] w w'∧Sat [lb] [⟨266,[o1 vk,o1 vv,o1 va,o1 lo,o1 up]⟩] w':=by
 refine gs (bs:=[lb]) [.p 0 0,o1 lo,o1 up] _ Tryz.func41 hs (fun hW=>?_)
 refine gg0 200 ⟨[266,4000000],1,[],[],0⟩ hW fun w1 hK1 hN1 hW1=>?_
 exact gt (.tup []) hW1.sat ⟨rfl,hK1,hN1,hW1.sq _⟩
def Post39 [Bd] (pts:List S36) (lo up:V1) (lo' up':Option (List UInt8)) (w:World) (e:Ending) (w':World):Prop:=
 ∃ b vk vv,e=.returned (.tuple #[.iface 155 (.pointer (some ⟨b,0,none⟩)),.nilIface])∧w.heap.size≤b∧w'.heap[b]? =some (.cells #[vk,vv,.int .i64 (-1),lo.1,up.1] 266 (0,0))∧LstC w' vk vv lo.1 up.1 pts lo' up'∧Ext w w'
theorem c39 [Bd] (v:Value) (pts:List S36) (A:Option Addr) (c:Nat) (lo up cp:V1) (lo' up':Option (List UInt8)) (w:World) (hp:RK k36 36 w v pts) (hn1:1≤pts.length) (hn:pts.length < 2^30) (hlo:RdO w lo.1 lo') (hup:RdO w up.1 up') (hB0:autoParam (Bd.B≤w.heap.size) sz0._auto_1):
  Calls Tryz.prog 39 #[v,.slice A 0 c,lo.1,up.1,cp.1] w (Post39 pts lo up lo' up' w):=by
 obtain ⟨Av,cv,rfl,_,_⟩:=hp.at36
 refine gs (bs:=[]) [.oc (.slice Av pts.length cv) rfl,.oc (.slice A 0 c) rfl,o1 lo,o1 up,o1 cp] [] Tryz.func39 (sat0 w) (fun hW=>?_)
 refine gf0 200 ⟨[266,4000000],0,[],[],0⟩ hW (Fr.refl [266,4000000] w []) fun w1 hK1 hF1 hW1=>?_
 refine gc 40 [.oc (.slice Av pts.length cv) rfl] hW1 ?_
 refine (c40 _ pts w1 (hp.kept hK1 (by decide)) hn1 hn).mono ?_
 rintro e w2 ⟨b,vk,vv,rfl,hbn,hbb,hL,hE2⟩
 obtain ⟨⟨Ak,ck,rfl,_⟩,⟨Aw,cw,rfl,_⟩,_,_⟩:=id hL
 have hs2:Sat [b] [⟨266,[.oc (.slice Ak pts.length ck) rfl,.oc (.slice Aw pts.length cw) rfl,.it .i64 (-1),.ns,.ns]⟩] w2:=Sat.add0 266 _ hbb
 refine ⟨.p 0 0,[b],_,rfl,hs2,fun hW2=>?_⟩
 have hF2:Fr [266,4000000] w [] [b] w2:=hF1.callF (nw:=[b]) hE2 (Far.of_ext hE2 []) (by simp) (by simp) (by simpa using hbn)
 refine gf0 (bs:=[b]) 200 ⟨[266,4000000],1,[],[],0⟩ hW2 hF2 fun w3 hK3 hF3 hW3=>?_
 have hs3:=hW3.sq [⟨266,[o1 ⟨.slice Ak pts.length ck,rfl⟩,o1 ⟨.slice Aw pts.length cw,rfl⟩,o1 ⟨.int .i64 (-1),rfl⟩,o1 nilV,o1 nilV]⟩]
 have hL3:=hL.kept hK3 (by simp) (by simp) (by simp)
 refine gc 41 [.p 0 0,o1 lo,o1 up] hW3 ?_
 refine (c41e b _ _ _ _ _ lo up w3 hs3).mono ?_
 rintro e w4 ⟨rfl,hK4,hN4,hs4⟩
 have hL4:=hL3.kept hK4 (by simp) (by simp) (by simp)
 refine ⟨.tup [],[],_,rfl,hs4,fun hW4=>?_⟩
 have hF4:Fr [266,4000000] w [] [b] w4:=hF3.callF (nw:=[]) hK4 hN4
 refine gf0 (bs:=[b]) 200 ⟨[266,4000000],1,[],[],0⟩ hW4 hF4 fun w5 hK5 hF5 hW5=>?_
 refine go_len 41 203 (.tmp 18) A 0 c [⟨266,[o1 ⟨.slice Ak pts.length ck,rfl⟩,o1 ⟨.slice Aw pts.length cw,rfl⟩,o1 ⟨.int .i64 (-1),rfl⟩,o1 lo,o1 up]⟩] (by kernel_rfl) (by kernel_rfl) (by kernel_rfl) hW5 (by kernel_rfl) (fun hW6=>?_)
 refine gf0 (bs:=[b]) 200 ⟨[266,4000000],1,[],[],0⟩ hW6 hF5 fun w7 hK7 hF7 hW7=>?_
 have hs7:=hW7.sq [⟨266,[o1 ⟨.slice Ak pts.length ck,rfl⟩,o1 ⟨.slice Aw pts.length cw,rfl⟩,o1 ⟨.int .i64 (-1),rfl⟩,o1 lo,o1 up]⟩]
 have hE7:Ext w w7:=(hF7.farE).ext hF7.kept
 have hL7:=(hL4.kept hK5 (by simp) (by simp) (by simp)).kept hK7 (by simp) (by simp) (by simp)
 exact gt (.tup [.ifc 155 (.p 0 0),.ni]) hW7.sat ⟨b,_,_,rfl,hF7.lo (nw:=[b]) b (by simp),hs7.mem 0 _ rfl,⟨hL7.keys,hL7.vals,hlo.kept hE7 (by simp),hup.kept hE7 (by simp)⟩,hE7⟩
section
variable {P:Program} {Q:Exit→Act→World→Prop} {bs:List Nat} {w:World}
theorem go_hlookup [Bd] {s:ST} (i:Nat) (us:List TypeId) (wr:World) (t kt et:TypeId) (m k:Operand) (r:Nat) (es:List (Int×Value)) (key:Int) (x:SV) (H:List SB) (h:hoistI P s i=some (.lookup t m k false,us)) (hwr:drW s=some wr) (hm:(evS s.T m).den bs=.map (some r)) (hkk:(evS s.T k).den bs=.int .u64 key)
  (ht:P.underlying t=some (.map kt et)) (hkt:P.underlying kt=some (.int .u64)) (hs:Wk bs s w) (hH:s.H=H) (hM:MapN wr r es) (hmem:(key,x.den bs)∈es) (hd: ∀ v',(key,v')∈es→v'=x.den bs)
  (hk:Wk bs (afterH s i x) w→kx P Q (afterH s i x).K .normal (actS bs (afterH s i x).T) w):kx P Q s.K .normal (actS bs s.T) w:=by
 refine go_hoist i (.lookup t m k false) us wr x H h hwr hs hH (fun w' hC o ho=>?_) hk
 have e1:(actS bs s.T).eval m=.map (some r):=by rw [ev_den,hm]
 have e2:(actS bs s.T).eval k=.int .u64 key:=by rw [ev_den,hkk]
 simp only [execOp,ho,e1,e2,Sem.run_bind,run_mapGet ht hkt (hM.kept hC) hmem hd,Result.andThen,Sem.run_pure]
end
abbrev tabV (num:Int) (pv tv:Value):Value:=.agg #[.int .u64 num,pv,tv]
def H47 (r:Nat) (ca:Addr) (m:FM):List SB:=[⟨148,[.oc (.map (some r)) rfl]⟩,⟨162,[.fn 39 [.ptr ca]]⟩,⟨188,fmS m⟩]
theorem c47 [Bd] (tb ob fb lb r:Nat) (ca:Addr) (m:FM) (es:List (Int×Value)) (Av:Option Addr) (cv:Nat) (A:Option Addr) (c:Nat) (pts:List S36) (tl tu:V1) (lo' up':Option (List UInt8)) (w:World) (hs:Sat [tb,ob,fb] (H47 r ca m) w) (hM:MapN w r es)
  (hmem:(m.id,tabV m.id (.slice Av pts.length cv) (.slice A 0 c))∈es) (hd: ∀ v',(m.id,v')∈es→v'=tabV m.id (.slice Av pts.length cv) (.slice A 0 c))
  (h5:w.cell? ⟨lb,5,none⟩=some tl.1) (h6:w.cell? ⟨lb,6,none⟩=some tu.1) (hp:RK k36 36 w (.slice Av pts.length cv) pts) (hn1:1≤pts.length) (hn:pts.length < 2^30) (hlo:RdO w tl.1 lo') (hup:RdO w tu.1 up'):
  Calls Tryz.prog 47 #[.pointer (some ⟨fb,0,none⟩),.pointer (some ⟨lb,5,none⟩),.pointer (some ⟨tb,0,none⟩),.pointer (some ⟨ob,0,none⟩)] w (Post39 pts tl tu lo' up' w):=by
 refine gs (bs:=[tb,ob,fb]) [.p 2 0,.ptr ⟨lb,5,none⟩,.p 0 0,.p 1 0] _ Tryz.func47 hs (fun hW=>?_)
 refine gr0 200 ⟨[],3,[],[],0⟩ hW fun w1 hE1 hW1=>?_
 refine gd [] [] hW1 (fun hD=>?_)
 refine gr0 (bs:=[tb,ob,fb]) 200 ⟨[],3,[],[],0⟩ hD fun w2 hE2 hW2=>?_
 have hX2:Ext w w2:=hE1.trans (((Kept.refl [] w1).drew).trans hE2)
 refine go_hlookup 5 [] w1.drew 148 150 43 (.tmp 9) (.tmp 13) r es m.id (.agg [.si .u64 m.id,.oc (.slice Av pts.length cv) rfl,.oc (.slice A 0 c) rfl]) (H47 r ca m) (by kernel_rfl) (by kernel_rfl) (by kernel_rfl) (by kernel_rfl) (by kernel_rfl) (by kernel_rfl) hW2 (by kernel_rfl) (hM.kept (hE1.trans ((Kept.refl [] w1).drew))) hmem hd (fun hW3=>?_)
 refine gr1 (bs:=[tb,ob,fb]) 200 ⟨[],3,[],[],0⟩ hW3 fun b8 w4 _ hE4 hW4=>?_
 refine gd [] [] hW4 (fun hD=>?_)
 refine gr0 (bs:=[tb,ob,fb,b8]) 200 ⟨[],4,[],[],0⟩ hD fun w5 hE5 hW5=>?_
 have hX5:Ext w w5:=hX2.trans (hE4.trans (((Kept.refl [] w4).drew).trans hE5))
 have hs5:=hW5.sq (H47 r ca m++[⟨43,[.si .u64 m.id,.oc (.slice Av pts.length cv) rfl,.oc (.slice A 0 c) rfl]⟩])
 refine gcd 48 [.ptr ⟨lb,5,none⟩] [] w4.drew hW5 (fun hC=>?_)
 refine (c48 ⟨lb,5,none⟩ tl.1 w5 (Ext.cell hX5 h5)).mono ?_
 rintro e w6 ⟨rfl,rfl⟩
 refine ⟨o1 tl,[],_,rfl,hs5,hC,fun hW6=>?_⟩
 refine gr0 (bs:=[tb,ob,fb,b8]) 200 ⟨[],4,[],[],0⟩ hW6 fun w7 hE7 hW7=>?_
 have hX7:Ext w w7:=hX5.trans hE7
 have hs7:=hW7.sq (H47 r ca m++[⟨43,[.si .u64 m.id,.oc (.slice Av pts.length cv) rfl,.oc (.slice A 0 c) rfl]⟩])
 refine gcd 49 [.ptr ⟨lb,5,none⟩] [] w4.drew hW7 (fun hC=>?_)
 refine (c49 ⟨lb,5,none⟩ tu.1 w7 (Ext.cell hX7 h6)).mono ?_
 rintro e w8 ⟨rfl,rfl⟩
 refine ⟨o1 tu,[],_,rfl,hs7,hC,fun hW8=>?_⟩
 refine gr0 (bs:=[tb,ob,fb,b8]) 200 ⟨[],4,[],[],0⟩ hW8 fun w9 hE9 hW9=>?_
 have hX9:Ext w w9:=hX7.trans hE9
 have hs9:=hW9.sq (H47 r ca m++[⟨43,[.si .u64 m.id,.oc (.slice Av pts.length cv) rfl,.oc (.slice A 0 c) rfl]⟩])
 refine gcd 39 [.oc (.slice Av pts.length cv) rfl,.oc (.slice A 0 c) rfl,o1 tl,o1 tu,.ptr ca] [] w4.drew hW9 (fun hC=>?_)
 refine (c39 _ pts A c tl tu ⟨.pointer (some ca),rfl⟩ lo' up' w9 (hp.kept hX9 (by decide)) hn1 hn (hlo.kept hX9 (by simp)) (hup.kept hX9 (by simp))).mono ?_
 rintro e w10 ⟨b,vk,vv,rfl,hbn,hbb,hL,hE10⟩
 refine ⟨.tup [.ifc 155 (.ptr ⟨b,0,none⟩),.ni],[],_,rfl,hs9.kq hE10,hC.trans hE10,fun hW10=>?_⟩
 refine gr0 (bs:=[tb,ob,fb,b8]) 200 ⟨[],4,[],[],0⟩ hW10 fun w11 hE11 hW11=>?_
 exact gt (.tup [.ifc 155 (.ptr ⟨b,0,none⟩),.ni]) hW11.sat ⟨b,vk,vv,rfl,Nat.le_trans hX9.size hbn,(hE11.block b (solid_of hbb (by simp))).trans hbb,hL.kept hE11 (by simp) (by simp) (by simp),hX9.trans (hE10.trans hE11)⟩
theorem c89 [Bd] (xb tb ob fb lb r:Nat) (ca:Addr) (m:FM) (es:List (Int×Value)) (Av:Option Addr) (cv:Nat) (A:Option Addr) (c:Nat) (pts:List S36) (tl tu:V1) (f8 f9:Value) (lo' up':Option (List UInt8)) (w:World) (hs:Sat [tb,ob,fb] (H47 r ca m) w) (hx:w.heap[xb]? =some (.cells #[.func (.func 47) #[] #[.pointer (some ⟨tb,0,none⟩),.pointer (some ⟨ob,0,none⟩)]] 191 (0,0))) (hBx:Bd.B≤xb) (hM:MapN w r es)
  (hmem:(m.id,tabV m.id (.slice Av pts.length cv) (.slice A 0 c))∈es) (hd: ∀ v',(m.id,v')∈es→v'=tabV m.id (.slice Av pts.length cv) (.slice A 0 c))
  (h5:w.cell? ⟨lb,5,none⟩=some tl.1) (h6:w.cell? ⟨lb,6,none⟩=some tu.1) (hp:RK k36 36 w (.slice Av pts.length cv) pts) (hn1:1≤pts.length) (hn:pts.length < 2^30) (hlo:RdO w tl.1 lo') (hup:RdO w tu.1 up'):
  Calls Tryz.prog 89 #[.pointer (some ⟨fb,0,none⟩),.pointer (some ⟨lb,5,none⟩),.agg #[f8,f9],.pointer (some ⟨xb,0,none⟩)] w fun e w'=> ∃ b vk vv,e=.returned (.tuple #[.iface 155 (.pointer (some ⟨b,0,none⟩)),.nilIface,.nilIface])∧w.heap.size≤b∧w'.heap[b]? =some (.cells #[vk,vv,.int .i64 (-1),tl.1,tu.1] 266 (0,0))∧LstC w' vk vv tl.1 tu.1 pts lo' up'∧Ext w w':=by
 have hsx:Sat [xb] [⟨191,[.fn 47 [.ptr ⟨tb,0,none⟩,.ptr ⟨ob,0,none⟩]]⟩] w:=Sat.add0 191 _ hx hBx
 refine gs (bs:=[xb]) [.ptr ⟨fb,0,none⟩,.ptr ⟨lb,5,none⟩,.agg [.va f8,.va f9],.p 0 0] _ Tryz.func89 hsx (fun hW=>?_)
 refine gr1 200 ⟨[],1,[],[],0⟩ hW fun b6 w1 _ hE1 hW1=>?_
 have hs1:=hW1.sq ([⟨191,[.fn 47 [.ptr ⟨tb,0,none⟩,.ptr ⟨ob,0,none⟩]]⟩,⟨247,[.va f8,.va f9]⟩])
 refine gc 47 [.ptr ⟨fb,0,none⟩,.ptr ⟨lb,5,none⟩,.ptr ⟨tb,0,none⟩,.ptr ⟨ob,0,none⟩] hW1 ?_
 refine (c47 tb ob fb lb r ca m es Av cv A c pts tl tu lo' up' w1 (hs.kq hE1) (hM.kept hE1) hmem hd (Ext.cell hE1 h5) (Ext.cell hE1 h6) (hp.kept hE1 (by decide)) hn1 hn (hlo.kept hE1 (by simp)) (hup.kept hE1 (by simp))).mono ?_
 rintro e w2 ⟨b,vk,vv,rfl,hbn,hbb,hL,hE2⟩
 refine ⟨.tup [.ifc 155 (.ptr ⟨b,0,none⟩),.ni],[],_,rfl,hs1.kq hE2,fun hW2=>?_⟩
 refine gr0 (bs:=[xb,b6]) 200 ⟨[],2,[],[],0⟩ hW2 fun w3 hE3 hW3=>?_
 exact gt (.tup [.ifc 155 (.ptr ⟨b,0,none⟩),.ni,.ni]) hW3.sat ⟨b,vk,vv,rfl,Nat.le_trans hE1.size hbn,(hE3.block b (solid_of hbb (by simp))).trans hbb,hL.kept hE3 (by simp) (by simp) (by simp),hE1.trans (hE2.trans hE3)⟩
theorem _root_.Go.Proofs.YtghppnklhbbffaaGreatDoor.TL.Kept.fin' [Bd] {us vs:List TypeId} {w a b:World} {bs:List Nat} (h:Kept us w a) (k:Kept vs a b) (f:Far bs a b) (hb: ∀ x∈bs,w.heap.size≤x∨ ∃ c t g,a.heap[x]? =some (.cells c t g)∧t∉vs):Kept us w b:=by
 refine ⟨k.os.trans h.os,k.tape.trans h.tape,k.output.trans h.output,Nat.le_trans h.size k.size,fun i hi=>?_,fun i c t g hc=>?_⟩
 ·have hlt:=hi.lt
  refine Eq.trans ?_ (h.block i hi)
  by_cases hm:i∈bs
  ·rcases hb i hm with h1|⟨c,t,g,h1,h2⟩
   ·omega
   ·exact k.block i (solid_of h1 h2)
  ·exact f i (Nat.lt_of_lt_of_le hlt h.size) hm
 ·obtain ⟨c',h1⟩:=h.ty i c t g hc
  exact k.ty i c' t g h1
def optS (lo up:SV):List SV:=[lo,up,.nf,.nf,.ns,.ns,.it .i8 0,.ns,.nf,.bl false,.bl false,.it .u32 0,.bl false,.it .u64 0]
def zS:List SV:=[.np,.nf,.nf,.ns,.ns,.ns,.ns,.nf,.nf,.ns,.ns,.it .i8 0,.ns,.nf,.bl false,.bl false,.it .u32 0,.bl false,.it .u64 0,.it .u32 0,.np,.np,.np,.ns,.it .u64 0,.ni,.np,.ni,.nf,.np,.ni,.np,.np,.it .i16 0,.nf,.np,.it .i16 0,.np,.it .i16 0,.np,.it .i16 0,.it .i16 0,.ns,.np,.np,.it .i8 0,.ni,.np,.np,.np,.ni,.bl false]
def IC (cb lb:Nat) (lo up:V1) (nf:Addr) (rv cv:V1):List SV:=[.ptr ⟨cb,0,none⟩,.fn 65 [],.nf,o1 lo,o1 up,.ns,.ns,.nf,.nf,.sl ⟨lb,50,none⟩ 0 1,.ns,.it .i8 0,.ns,.nf,.bl false,.bl false,.it .u32 1,.bl false,.it .u64 0,.it .u32 1,.np,.np,.np,.ns,.it .u64 0,.ni,.np,.ni,.fn 89 [.ptr nf],.np,.ni,o1 rv,.np,.it .i16 (-1),o1 cv,.np,.it .i16 0,.np,.it .i16 0,.np,.it .i16 0,.it .i16 0,.ns,.np,.np,.it .i8 0,.ni,.np,.np,.np,.ni,.bl false]
def filesS (rv cv:V1):List SV:=iterQ (o1 rv) .np (.it .i16 (-1)) (o1 cv)++[.np,.np,.it .i8 0]
theorem run_slice328 [Bd] {T:List SV} (bs:List Nat) (lb:Nat) (w:World) (h1:(evS T (.tmp 50)).den bs=.pointer (some ⟨lb,50,none⟩)) (o:Oper) (ho:o.op=.slice 328 (.tmp 50) none (some (.const (.int .i64 0))) (some (.const (.int .i64 1)))):
  (execOp (actS bs T).eval o).run Tryz.prog w=.ok (.value (.slice (some ⟨lb,50,none⟩) 0 1)) w:=by
 have hu:=Tryz.underlying328
 have e1:(actS bs T).eval (.tmp 50)=.pointer (some ⟨lb,50,none⟩):=by rw [ev_den,h1]
 have hr:(Instr.sliceAt 328 (.pointer (some ⟨lb,50,none⟩)) none (some (.int .i64 0)) (some (.int .i64 1))).run Tryz.prog w=.ok (.slice (some ⟨lb,50,none⟩) 0 1) w:=by
  simp [Instr.sliceAt,run_underlying hu,Instr.sureAddr,Instr.sliceBounds,Instr.sliceBound,Result.andThen]
  rfl
 have e2:(actS bs T).eval (.const (.int .i64 0))=.int .i64 0:=rfl
 have e3:(actS bs T).eval (.const (.int .i64 1))=.int .i64 1:=rfl
 simp only [execOp,ho,e1,e2,e3,Option.map_none,Option.map_some,Sem.run_bind,hr,Result.andThen,Sem.run_pure]
theorem c111 [Bd] (lo up:V1) (nf:Addr) (rv cv:V1) (lb cb:Nat) (w:World) (hs:Sat [lb,cb] [⟨330,zS⟩,⟨113,cmpS⟩] w):
  Calls Tryz.prog 111 (#[.pointer (some ⟨lb,0,none⟩),.agg (SV.denL [] (optS (o1 lo) (o1 up))).toArray,.pointer (some ⟨cb,0,none⟩),.func (.func 89) #[] #[.pointer (some nf)],.agg (SV.denL [] (filesS rv cv)).toArray,.int .u32 1,.agg #[.pointer none,.pointer none]]) w fun e w'=>e=.returned (.tuple #[])∧Kept [330] w w'∧Far [lb,cb] w w'∧w'.heap[lb]? =some (.cells (SV.denL [lb,cb] (IC cb lb lo up nf rv cv)).toArray 330 (0,0)):=by
 refine gs (bs:=[lb,cb]) [.p 0 0,.agg (optS (o1 lo) (o1 up)),.p 1 0,.fn 89 [.ptr nf],.agg (filesS rv cv),.it .u32 1,.agg [.np,.np]] _ Tryz.func111 hs (fun hW=>?_)
 refine go_runF 200 ⟨[330,4000000],2,[],[],0⟩ (by kernel_rfl) hW (Fr.refl [330,4000000] w [lb,cb]) rfl [] (by kernel_rfl) trivial ?_
 intro nw w1 hK1 hF1 hW1
 obtain ⟨b8,b11,b13,rfl⟩:=nw3 (hW1.num 5 (by kernel_rfl)) rfl
 have hs1:=hW1.sat
 refine go_op (.slice 328 (.tmp 50) none (some (.const (.int .i64 0))) (some (.const (.int .i64 1)))) (by kernel_rfl) hW1 w1 (.sl ⟨lb,50,none⟩ 0 1) [] _ (.value (.slice (some ⟨lb,50,none⟩) 0 1)) (fun o ho=>run_slice328 _ lb w1 (by kernel_rfl) o ho) (.inl rfl) (by rw [List.append_nil];exact hs1) (fun hW2=>?_)
 refine gf0 (bs:=[lb,cb,b8,b11,b13]) 300 ⟨[330,4000000],5,[],[],0⟩ hW2 hF1 fun w3 hK3 hF3 hW3=>?_
 have hs3:=hW3.sq ([⟨330,IC cb lb lo up nf rv cv⟩,⟨113,cmpS⟩,⟨131,optS (o1 lo) (o1 up)⟩,⟨134,filesS rv cv⟩,⟨247,[.np,.np]⟩])
 obtain ⟨hk,hf⟩:=hF3.kf hs [330] (by kernel_rfl)
 exact gt (.tup []) hW3.sat ⟨rfl,hk,hf,hs3.memC 0 rfl (by kernel_rfl)⟩
theorem c76 [Bd] (lo up:V1) (nf:Addr) (rv cv:V1) (cb:Nat) (w:World) (hs:Sat [cb] [⟨113,cmpS⟩] w):
  Calls Tryz.prog 76 (#[.agg (SV.denL [] (optS (o1 lo) (o1 up))).toArray,.pointer (some ⟨cb,0,none⟩),.func (.func 89) #[] #[.pointer (some nf)],.agg (SV.denL [] (filesS rv cv)).toArray,.int .u32 1,.agg #[.pointer none,.pointer none]]) w fun e w'=> ∃ lb,e=.returned (.pointer (some ⟨lb,0,none⟩))∧w.heap.size≤lb∧Ext w w'∧w'.heap[lb]? =some (.cells (SV.denL [lb,cb] (IC cb lb lo up nf rv cv)).toArray 330 (0,0)):=by
 refine gs (bs:=[cb]) [.agg (optS (o1 lo) (o1 up)),.p 0 0,.fn 89 [.ptr nf],.agg (filesS rv cv),.it .u32 1,.agg [.np,.np]] _ Tryz.func76 hs (fun hW=>?_)
 refine go_run 200 ⟨[],1,[],[],0⟩ (by kernel_rfl) hW rfl [] (by kernel_rfl) trivial ?_
 intro nw w1 hfr hE1 hW1
 obtain ⟨b6,b9,b11,lb,rfl⟩: ∃ b6 b9 b11 lb,nw=[b6,b9,b11,lb]:=by
  have h:=hW1.num 5 (by kernel_rfl)
  match nw,h with
  |[a,b,c,d],_=>exact ⟨a,b,c,d,rfl⟩
 have hs1:=hW1.sq ([⟨113,cmpS⟩,⟨131,optS (o1 lo) (o1 up)⟩,⟨134,filesS rv cv⟩,⟨247,[.np,.np]⟩,⟨330,zS⟩])
 refine gc 111 [.p 4 0,.agg (optS (o1 lo) (o1 up)),.p 0 0,.fn 89 [.ptr nf],.agg (filesS rv cv),.it .u32 1,.agg [.np,.np]] hW1 ?_
 refine (c111 lo up nf rv cv lb cb w1 (hs1.sub [4,0] (by decide) (by simp) rfl ⟨hs1.memC 4 rfl (by kernel_rfl),hs1.memC 0 rfl (by kernel_rfl),trivial⟩)).mono ?_
 rintro e w2 ⟨rfl,hK2,hN2,hlb2⟩
 have hlbn:=hfr lb (by simp)
 have hE2:Ext w w2:=hE1.fin' hK2 hN2 (by
  intro x hx
  simp only [List.mem_cons,List.not_mem_nil,or_false] at hx
  rcases hx with rfl|rfl
  ·exact .inl hlbn
  ·exact .inr ⟨_,_,_,hs1.mem 0 _ rfl,by simp⟩)
 have hs2:Sat ([cb]++[b6,b9,b11,lb]) [⟨113,cmpS⟩,⟨131,optS (o1 lo) (o1 up)⟩,⟨134,filesS rv cv⟩,⟨247,[.np,.np]⟩,⟨330,IC cb lb lo up nf rv cv⟩] w2:=hs1.re rfl ⟨hs1.kp hK2 0 _ rfl rfl,hs1.kp hK2 1 _ rfl rfl,hs1.kp hK2 2 _ rfl rfl,hs1.kp hK2 3 _ rfl rfl,blk_any hlb2 (by kernel_rfl),trivial⟩
 refine ⟨.tup [],[],_,rfl,hs2,fun hW2=>?_⟩
 refine gr0 (bs:=[cb,b6,b9,b11,lb]) 200 ⟨[],5,[],[],0⟩ hW2 fun w3 hE3 hW3=>?_
 exact gt (.p 4 0) hW3.sat ⟨lb,rfl,hlbn,hE2.trans hE3,(hE3.block lb (solid_of hlb2 (by simp))).trans hlb2⟩
def zzS (cb:Nat) (mg mm vp:V1) (xb:Nat):List SV:=[.ptr ⟨cb,0,none⟩,o1 mg,o1 mm,o1 vp,.fn 89 [.ptr ⟨xb,0,none⟩]]
theorem c25 [Bd] (lo up:V1) (mg mm vp rv cv:V1) (sb cb xb:Nat) (w:World) (hs:Sat [sb] [⟨243,zzS cb mg mm vp xb⟩] w) (hc:Sat [cb] [⟨113,cmpS⟩] w):
  Calls Tryz.prog 25 (#[.pointer (some ⟨sb,0,none⟩),.agg (SV.denL [] (optS (o1 lo) (o1 up))).toArray,.agg (SV.denL [] (filesS rv cv)).toArray,.int .i64 1]) w fun e w'=> ∃ lb,e=.returned (.iface 236 (.pointer (some ⟨lb,0,none⟩)))∧w.heap.size≤lb∧Ext w w'∧w'.heap[lb]? =some (.cells (SV.denL [lb,cb] (IC cb lb lo up ⟨xb,0,none⟩ rv cv)).toArray 330 (0,0)):=by
 refine gs (bs:=[sb]) [.p 0 0,.agg (optS (o1 lo) (o1 up)),.agg (filesS rv cv),.it .i64 1] _ Tryz.func25 hs (fun hW=>?_)
 refine gr2 200 ⟨[],1,[],[],0⟩ hW fun b5 b6 w1 _ hE1 hW1=>?_
 refine gd [] [] hW1 (fun hD=>?_)
 refine gr0 (bs:=[sb,b5,b6]) 200 ⟨[],3,[],[],0⟩ hD fun w2 hE2 hW2=>?_
 have hX2:Ext w w2:=hE1.trans (((Kept.refl [] w1).drew).trans hE2)
 have hs2:=hW2.sq ([⟨243,zzS cb mg mm vp xb⟩,⟨131,optS (o1 lo) (o1 up)⟩,⟨134,filesS rv cv⟩])
 refine gcd 76 [.agg (optS (o1 lo) (o1 up)),.ptr ⟨cb,0,none⟩,.fn 89 [.ptr ⟨xb,0,none⟩],.agg (filesS rv cv),.it .u32 1,.agg [.np,.np]] [] w1.drew hW2 (fun hC=>?_)
 refine (c76 lo up ⟨xb,0,none⟩ rv cv cb w2 (hc.kq hX2)).mono ?_
 rintro e w3 ⟨lb,rfl,hlbn,hE3,hlb⟩
 refine ⟨.ptr ⟨lb,0,none⟩,[],_,rfl,hs2.kq hE3,hC.trans hE3,fun hW3=>?_⟩
 refine gr0 (bs:=[sb,b5,b6]) 200 ⟨[],3,[],[],0⟩ hW3 fun w4 hE4 hW4=>?_
 exact gt (.ifc 236 (.ptr ⟨lb,0,none⟩)) hW4.sat ⟨lb,rfl,Nat.le_trans hX2.size hlbn,hX2.trans (hE3.trans hE4),(hE4.block lb (solid_of hlb (by simp))).trans hlb⟩
theorem c87 [Bd] (w:World):Calls Tryz.prog 87 #[.iface 262 (.slice none 0 0)] w fun e w'=>e=.returned (.tuple #[])∧Ext w w':=by
 have hm : (method 622 262 (.slice none 0 0) "Len").run Tryz.prog w = .ok (277, .slice none 0 0) w := by
  have hti:(typeInfo 262).run Tryz.prog w=.ok ((Tryz.prog.info? 262).get (by kernel_rfl)) w:=by
   have:Tryz.prog.info? 262=some ((Tryz.prog.info? 262).get (by kernel_rfl)):=(Option.some_get _).symm
   generalize (Tryz.prog.info? 262).get (by kernel_rfl)=i at *
   simp [typeInfo,this,Result.andThen]
  unfold method
  simp only [Sem.run_bind,hti,Result.andThen]
  have hf : (((Tryz.prog.info? 262).get (by kernel_rfl)).methods.find? (·.name == "Len")).map (fun m => (m.path.toList, m.func)) = some ([], some (277, false)) := by kernel_rfl
  cases hq : (((Tryz.prog.info? 262).get (by kernel_rfl)).methods.find? (·.name == "Len")) with
  |none=>rw [hq] at hf;cases hf
  |some m=>
   rw [hq] at hf
   simp only [Option.map_some,Option.some.injEq,Prod.mk.injEq] at hf
   simp only [hf.1,follow,Sem.run_pure,Result.andThen,hf.2,receiverAt,run_underlying Tryz.underlying262,Sem.run_bind,Place.get]
 have hcf:(callFunc 277 #[.slice none 0 0]).run Tryz.prog w=.ok (.enter 277 #[.slice none 0 0]) w:=bodyB_run (by kernel_rfl) _
 go_enter Tryz.func87,Tryz.ntmps87
 go_wp2
 refine bodyPost_ret (v:=.tuple #[]) ?_ rfl ⟨rfl,Kept.refl _ _⟩
 exact results_none rfl _ _ _
theorem c38 [Bd] (w:World) (hB0:autoParam (Bd.B≤w.heap.size) sz0._auto_1):Calls Tryz.prog 38 #[.slice none 0 0] w fun e w'=>e=.returned (.tuple #[])∧Ext w w':=by
 refine gs (bs:=[]) [.ns] _ Tryz.func38 (sat0 w) (fun hW=>?_)
 refine gr0 200 ⟨[],0,[],[],0⟩ hW fun w1 hE1 hW1=>?_
 refine gc 87 [.ifc 262 .ns] hW1 ?_
 refine (c87 w1).mono ?_
 rintro e w2 ⟨rfl,hE2⟩
 refine ⟨.tup [],[],[],rfl,sat0 w2,fun hW2=>?_⟩
 refine go_run (bs:=[]) 200 ⟨[],0,[],[],0⟩ (by kernel_rfl) hW2 rfl [] (by kernel_rfl) trivial ?_
 intro nw w3 _ hE3 hW3
 exact gt (.tup []) hW3.sat ⟨rfl,hE1.trans (hE2.trans hE3)⟩
def VS (f:Nat→Value) (cv:V1):List SV:=[.va (f 0),.va (f 1),.va (f 2),.va (f 3),.va (f 4),.va (f 5),.va (f 6),.np,o1 cv,.va (f 9),.va (f 10),.va (f 11),.va (f 12),.va (f 13),.va (f 14),.va (f 15),.va (f 16),.va (f 17),.va (f 18),.va (f 19),.va (f 20),.va (f 21),.va (f 22),.va (f 23),.va (f 24),.va (f 25),.va (f 26),.va (f 27),.va (f 28),.va (f 29),.va (f 30),.va (f 31),.va (f 32),.va (f 33),.va (f 34),.va (f 35),.va (f 36),.va (f 37),.va (f 38),.va (f 39),.va (f 40),.va (f 41),.va (f 42),.va (f 43),.va (f 44),.va (f 45),.va (f 46),.va (f 47),.va (f 48),.va (f 49),.va (f 50),.va (f 51),.va (f 52),.va (f 53),.va (f 54),.va (f 55),.va (f 56),.va (f 57),.va (f 58),.va (f 59),.va (f 60),.va (f 61),.va (f 62),.va (f 63),.va (f 64),.va (f 65),.va (f 66),.va (f 67),.va (f 68),.va (f 69),.va (f 70),.va (f 71),.va (f 72),.va (f 73),.va (f 74),.va (f 75),.va (f 76),.va (f 77),.va (f 78),.va (f 79),.va (f 80),.va (f 81),.va (f 82),.va (f 83),.va (f 84),.va (f 85),.va (f 86),.va (f 87),.va (f 88),.va (f 89),.va (f 90),.va (f 91)]
theorem c178 [Bd] (f:Nat→Value) (cv:V1) (vb:Nat) (w:World) (hs:Sat [vb] [⟨286,VS f cv⟩] w):Calls Tryz.prog 178 #[.pointer (some ⟨vb,7,none⟩)] w fun e w'=>e=.returned (.int .i64 0)∧Ext w w':=by
 refine gs (bs:=[vb]) [.p 0 7] _ Tryz.func178 hs (fun hW=>?_)
 refine go_run 200 ⟨[],1,[],[],0⟩ (by kernel_rfl) hW rfl [] (by kernel_rfl) trivial ?_
 intro nw w1 _ hE1 hW1
 exact gt (.it .i64 0) hW1.sat ⟨rfl,hE1⟩
theorem c153 [Bd] (f:Nat→Value) (cv:V1) (vb:Nat) (w:World) (hs:Sat [vb] [⟨286,VS f cv⟩] w):Calls Tryz.prog 153 #[.pointer (some ⟨vb,3,none⟩)] w fun e w'=>e=.returned (.int .i64 0)∧Ext w w':=by
 refine gs (bs:=[vb]) [.p 0 3] _ Tryz.func153 hs (fun hW=>?_)
 refine gr0 200 ⟨[],1,[],[],0⟩ hW fun w1 hE1 hW1=>?_
 have hs1:=hW1.sq [⟨286,VS f cv⟩]
 refine gc 178 [.p 0 7] hW1 ?_
 refine (c178 f cv vb w1 hs1).mono ?_
 rintro e w2 ⟨rfl,hE2⟩
 refine ⟨.it .i64 0,[],_,rfl,hs1.kq hE2,fun hW2=>?_⟩
 refine go_run (bs:=[vb]) 200 ⟨[],1,[],[],0⟩ (by kernel_rfl) hW2 rfl [] (by kernel_rfl) trivial ?_
 intro nw w3 _ hE3 hW3
 exact gt (.it .i64 0) hW3.sat ⟨rfl,hE1.trans (hE2.trans hE3)⟩
theorem c102v [Bd] (f:Nat→Value) (cv:V1) (vb:Nat) (w:World) (hs:Sat [vb] [⟨286,VS f cv⟩] w):Calls Tryz.prog 102 #[.pointer (some ⟨vb,7,none⟩)] w fun e w'=>e=.returned (.agg (iterV (.pointer none) (.pointer none) (-1) cv.1))∧Ext w w':=by
 refine gs (bs:=[vb]) [.p 0 7] _ Tryz.func102 hs (fun hW=>?_)
 refine go_run 200 ⟨[],1,[],[],0⟩ (by kernel_rfl) hW rfl [] (by kernel_rfl) trivial ?_
 intro nw w1 _ hE1 hW1
 exact gt (.agg (iterS .np .np (-1) (o1 cv))) hW1.sat ⟨rfl,hE1⟩
abbrev it0S (cv:V1):List SV:=iterS .np .np (-1) (o1 cv)++[.np,.np,.it .i8 0]
theorem c154 [Bd] (f:Nat→Value) (cv:V1) (vb:Nat) (w:World) (hs:Sat [vb] [⟨286,VS f cv⟩] w):Calls Tryz.prog 154 #[.pointer (some ⟨vb,3,none⟩)] w fun e w'=>e=.returned (.agg (SV.denL [] (it0S cv)).toArray)∧Ext w w':=by
 refine gs (bs:=[vb]) [.p 0 3] _ Tryz.func154 hs (fun hW=>?_)
 refine go_runA 200 ⟨[],1,[],[],0⟩ (by kernel_rfl) hW (Fr.refl _ _ _) rfl [] (by kernel_rfl) trivial ?_
 intro nw w1 hF1 hW1
 obtain ⟨b2,rfl⟩:=nw1 (hW1.num 2 (by kernel_rfl)) rfl
 have hs1:=hW1.sq ([⟨286,VS f cv⟩,⟨134,iterS .np .np 0 .nf++[.np,.np,.it .i8 0]⟩])
 refine gc 102 [.p 0 7] hW1 ?_
 refine (c102v f cv vb w1 (hs.keep hF1.kept (by kernel_rfl))).mono ?_
 rintro e w2 ⟨rfl,hE2⟩
 refine ⟨.agg (iterS .np .np (-1) (o1 cv)),[],_,rfl,hs1.kq hE2,fun hW2=>?_⟩
 refine go_runA (bs:=[vb,b2]) 200 ⟨[],1,[],[],0⟩ (by kernel_rfl) hW2 (hF1.call (nw:=[]) hE2) rfl [] (by kernel_rfl) trivial ?_
 intro nw w3 hF3 hW3
 exact gt (.agg (it0S cv)) hW3.sat ⟨rfl,hF3.kept⟩
theorem c166n [Bd] (cv:V1) (w:World) (hB0:autoParam (Bd.B≤w.heap.size) sz0._auto_1):Calls Tryz.prog 166 #[.agg (iterV (.pointer none) (.pointer none) (-1) cv.1),.pointer none,.pointer none] w fun e w'=>e=.returned (.bool true)∧Ext w w':=by
 refine gs (bs:=[]) [.agg (iterS .np .np (-1) (o1 cv)),.np,.np] _ Tryz.func166 (sat0 w) (fun hW=>?_)
 refine go_runA 200 ⟨[],0,[],[],0⟩ (by kernel_rfl) hW (Fr.refl _ _ _) rfl [] (by kernel_rfl) trivial ?_
 intro nw w1 hF1 hW1
 exact gt (.bl true) hW1.sat ⟨rfl,hF1.kept⟩
theorem c133n [Bd] (cv:V1) (ib:Nat) (w:World) (hs:Sat [ib] [⟨134,it0S cv⟩] w):Calls Tryz.prog 133 #[.pointer (some ⟨ib,0,none⟩)] w fun e w'=>e=.returned (.bool true)∧Ext w w':=by
 refine gs (bs:=[ib]) [.p 0 0] _ Tryz.func133 hs (fun hW=>?_)
 refine gr0 200 ⟨[],1,[],[],0⟩ hW fun w1 hE1 hW1=>?_
 refine gd [] [] hW1 (fun hW2=>?_)
 refine gr0 (bs:=[ib]) 200 ⟨[],1,[],[],0⟩ hW2 fun w3 hE3 hW3=>?_
 have hs3:=hW3.sq [⟨134,it0S cv⟩]
 refine gcd 166 [.agg (iterS .np .np (-1) (o1 cv)),.np,.np] [] w1.drew hW3 (fun hC=>?_)
 refine (c166n cv w3).mono ?_
 rintro e w4 ⟨rfl,hE4⟩
 refine ⟨.bl true,[],_,rfl,hs3.kq hE4,hC.trans hE4,fun hW4=>?_⟩
 refine go_run (bs:=[ib]) 200 ⟨[],1,[],[],0⟩ (by kernel_rfl) hW4 rfl [] (by kernel_rfl) trivial ?_
 intro nw w5 _ hE5 hW5
 exact gt (.bl true) hW5.sat ⟨rfl,hE1.trans (((Kept.refl [] w1).drew).trans (hE3.trans (hE4.trans hE5)))⟩
theorem c106n [Bd] (cv:V1) (ib:Nat) (w:World) (hs:Sat [ib] [⟨134,it0S cv⟩] w):Calls Tryz.prog 106 #[.pointer (some ⟨ib,0,none⟩)] w fun e w'=>e=.returned (.pointer none)∧Ext w w':=by
 refine gs (bs:=[ib]) [.p 0 0] _ Tryz.func106 hs (fun hW=>?_)
 refine gr0 200 ⟨[],1,[],[],0⟩ hW fun w1 hE1 hW1=>?_
 have hs1:=hW1.sq [⟨134,it0S cv⟩]
 refine gc 133 [.p 0 0] hW1 ?_
 refine (c133n cv ib w1 hs1).mono ?_
 rintro e w2 ⟨rfl,hE2⟩
 refine ⟨.bl true,[],_,rfl,hs1.kq hE2,fun hW2=>?_⟩
 refine go_run (bs:=[ib]) 200 ⟨[],1,[],[],0⟩ (by kernel_rfl) hW2 rfl [] (by kernel_rfl) trivial ?_
 intro nw w3 _ hE3 hW3
 exact gt .np hW3.sat ⟨rfl,hE1.trans (hE2.trans hE3)⟩
theorem c156 [Bd] (A:Addr) (c:Nat) (cmp:V1) (w:World) (hB0:autoParam (Bd.B≤w.heap.size) sz0._auto_1):Calls Tryz.prog 156 #[.slice (some A) 0 c,cmp.1] w fun e w'=>e=.returned (.slice none 0 0)∧Ext w w':=by
 refine gs (bs:=[]) [.sl A 0 c,o1 cmp] _ Tryz.func156 (sat0 w) (fun hW=>?_)
 refine gr0 200 ⟨[],0,[],[(11,true)],0⟩ hW (fun w1 hE1 hW1=>?_) [((0:Int)==0,true)] ⟨rfl,trivial⟩
 exact gt .ns hW1.sat ⟨rfl,hE1⟩
def SubS (cmp fmt:V1) (lv:SV) (ks:SV):List SV:=[.ns,.ns,o1 cmp,o1 fmt,.it .u64 0,lv,ks,.ns,.bl false]
theorem c158 [Bd] (cmp fmt lv:V1) (A:Addr) (c sb:Nat) (w:World) (hs:Sat [sb] [⟨352,SubS cmp fmt (o1 lv) (.sl A 0 c)⟩] w):Calls Tryz.prog 158 #[.pointer (some ⟨sb,0,none⟩),.int .i64 0] w fun e w'=>e=.returned (.tuple #[])∧Ext w w':=by
 refine gs (bs:=[sb]) [.p 0 0,.it .i64 0] _ Tryz.func158 hs (fun hW=>?_)
 refine go_run 200 ⟨[],1,[],[(20,false)],1⟩ (by kernel_rfl) hW rfl [(decide ((0:Int) < 0),false)] (by kernel_rfl) ⟨by decide,trivial⟩ ?_
 intro nw w1 _ hE1 hW1
 exact gt (.tup []) hW1.sat ⟨rfl,hE1⟩
end Go.Proofs.YtghppnklhbbffaaGreatDoor.X
