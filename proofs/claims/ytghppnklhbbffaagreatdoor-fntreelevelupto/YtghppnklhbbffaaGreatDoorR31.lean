/- Part 31 of the proof that laws.FnTreeLevel answers true, for arguments of small bulk. -/
import Derived.Test.YtghppnklhbbffaaGreatDoorR05
import Derived.Test.YtghppnklhbbffaaGreatDoorR30
set_option linter.all false
set_option maxHeartbeats 4000000
set_option maxRecDepth 100000
namespace Go.Proofs.YtghppnklhbbffaaGreatDoor.X
open Go Go.RowKit Go.MapKept Go.Proofs.YtghppnklhbbffaaGreatDoor.TL Go.Proofs.YtghppnklhbbffaaGreatDoor.PFnTreeLevel Go.Proofs.YtghppnklhbbffaaGreatDoorW.PrintWords
abbrev KTL:List TypeId:=[149,79,286,214,360,311,218,180,330,266,224,50]
theorem cmp_files [Bd] {f1 f2 gb:Nat} {m1 m2:FM} {s1 s2:List UInt8} {w:World} (h1:RdS w m1.u1 s1) (h2:RdS w m2.u1 s2) (hb1:w.heap[f1]? =some (.cells (SV.denL [] (fmS m1)).toArray 188 (0,0))) (hb2:w.heap[f2]? =some (.cells (SV.denL [] (fmS m2)).toArray 188 (0,0))) (hg:w.heap[gb]? =some (.cells #[fnv 65] 98 (0,0))) (hne:f1≠f2) (hlt:cb s2 s1 < 0) (hB1:Bd.B≤f1) (hB2:Bd.B≤f2) (hB3:Bd.B≤gb):
  Calls Tryz.prog 103 #[.pointer (some ⟨f1,0,none⟩),.pointer (some ⟨f2,0,none⟩),.pointer (some ⟨gb,0,none⟩)] w fun e w'=> ∃ r:Int,0 < r∧e=.returned (.int .i64 r)∧Ext w w':=by
 have hg1:f1≠gb:=fun e=>by rw [e,hg] at hb1;cases hb1
 have hg2:f2≠gb:=fun e=>by rw [e,hg] at hb2;cases hb2
 have hs:Sat [f1,f2,gb] [⟨188,fmS m1⟩,⟨188,fmS m2⟩,⟨98,[.fn 65 []]⟩] w:=by
  refine ⟨rfl,fun i j hi hj he=>?_,fun i ob hi=>?_,fun x hx=>?_,Nat.le_trans hB1 (Nat.le_of_lt (Array.getElem?_eq_some_iff.1 hb1).1)⟩
  rotate_left 2
  ·simp only [List.mem_cons,List.not_mem_nil,or_false] at hx
   rcases hx with rfl|rfl|rfl
   ·exact hB1
   ·exact hB2
   ·exact hB3
  ·match i,j,hi,hj,he with
   |0,0,_,_,_=>rfl
   |1,1,_,_,_=>rfl
   |2,2,_,_,_=>rfl
   |0,1,_,_,he=>exact absurd he hne
   |1,0,_,_,he=>exact absurd he.symm hne
   |0,2,_,_,he=>exact absurd he hg1
   |2,0,_,_,he=>exact absurd he.symm hg1
   |1,2,_,_,he=>exact absurd he hg2
   |2,1,_,_,he=>exact absurd he.symm hg2
  ·match i,hi with
   |0,hi=>cases hi;exact blk_any (bs:=[]) hb1 (by kernel_rfl)
   |1,hi=>cases hi;exact blk_any (bs:=[]) hb2 (by kernel_rfl)
   |2,hi=>cases hi;exact hg
 refine (c103 f1 f2 gb m1 m2 s1 s2 w h1 h2 hs).mono fun e w' ⟨h3,h4⟩=>⟨_,?_,h3,h4⟩
 have h5:=cb_anti s1 s2
 have h6:Lib.compareBytes s2 s1 < 0:=hlt
 unfold icmp
 rw [if_pos (by omega)]
 omega
theorem c9 [Bd] (lo up:ByteArray) (hl hu:Bool) (A:Addr) (n c:Nat) (num:Nat→Int) (pv:Nat→Value) (P:Nat→List S36) (stv:V1) (steps:List S47) (w:World) (hn1:1≤n) (hn:n≤10) (hnum: ∀ i j,i < n→j < n→num i=num j→i=j) (hT:TabsR w A n num pv P) (hst:RK k47 47 w stv.1 steps) (hns:steps.length < 2^30) (hop0: ∀ s∈steps,0≤s.f0)
  (L:Lay n P (smP P) (lgP P) (opt hl lo) (opt hu up)) (hstr: ∀ i j,i < j→j < n→cb (smP P i) (smP P j) < 0) (hkd: ∀ i,i < n→ ∀ x∈P i, ∃ t:Nat,x.f1=t∧t < 18446744073709551616∧(t % 256≠15∧t % 256≠19∧t % 256≠20∧t % 256≠21)) (hB0:autoParam (Bd.B≤w.heap.size) sz0._auto_1):
  Calls Tryz.prog 9 #[.slice (some A) n c,.agg #[.string lo,.bool hl,.string up,.bool hu],stv.1] w fun e w'=> ∃ v,e=.returned (.tuple #[v,.bool true])∧w'.ownsRow Bd.B 50 4 v steps.length ((walkP (cutG (flatP n P) (opt hl lo) (opt hu up)) none steps).flatMap cells50)∧Kept KTL w w':=by
 refine gs (bs:=[]) [.sl A n c,.agg (B45 lo up hl hu),o1 stv] [] Tryz.func9 (sat0 w) (fun hW=>?_)
 refine gr1 200 ⟨[],0,[],[],0⟩ hW fun bb w1 _ hE1 hW1=>?_
 have hs1:=hW1.sq [⟨45,B45 lo up hl hu⟩]
 refine go_op (.build 70 #[(0,.tmp 15)]) (by kernel_rfl) hW1 w1 (.agg [.sl A n c,.ns,.ns,.ns,.ns,.ns]) [] [⟨45,B45 lo up hl hu⟩] _ (fun o ho=>run_b70 [bb] (.slice (some A) n c) w1 (by kernel_rfl) rfl (by kernel_rfl) o ho) (.inl rfl) hs1 (fun hW1b=>?_)
 refine gr0 (bs:=[bb]) 200 ⟨[],1,[],[],0⟩ hW1b fun w1c hE1c hW1=>?_
 clear hW1b
 replace hE1:=hE1.trans hE1c
 clear hE1c hs1
 generalize w1c=w1 at *
 have hs1:=hW1.sq [⟨45,B45 lo up hl hu⟩]
 refine gc 19 [.agg [.ns,.ns,.sl A n c,.ns,.ns,.ns,.ns,.ns]] hW1 ?_
 refine (c19 A n c num pv P w1 hn1 hn hnum (hT.ck (CK.of hE1))).mono ?_
 rintro e w2 ⟨sb,xb,cb0,tb,ob,r,ca,mg,vp,rfl,hS2,hC2,hTO2,hx2,hM2,hT2,hK2,hzxb⟩
 have hs2:=hs1.kq hK2
 refine ⟨.ptr ⟨sb,0,none⟩,[],[⟨45,B45 lo up hl hu⟩],rfl,hs2,fun hW2=>?_⟩
 refine gr0 (bs:=[bb]) 200 ⟨[],1,[],[],0⟩ hW2 fun w3 hE3 hW3=>?_
 have hs3:=hW3.sq [⟨45,B45 lo up hl hu⟩]
 refine gc 20 [.agg (B45 lo up hl hu)] hW3 ?_
 refine (c20 lo up hl hu w3).mono ?_
 rintro e w4 ⟨v1,v2,rfl,hr1,hr2,hE4⟩
 refine ⟨.tup [o1 ⟨v1,rdO_one hr1⟩,o1 ⟨v2,rdO_one hr2⟩],[],[⟨45,B45 lo up hl hu⟩],rfl,hs3.kq hE4,fun hW4=>?_⟩
 refine gr0 (bs:=[bb]) 200 ⟨[],1,[],[],0⟩ hW4 fun w5 hE5 hW5=>?_
 generalize hlv:(⟨v1,rdO_one hr1⟩:V1)=lv at *
 generalize huv:(⟨v2,rdO_one hr2⟩:V1)=uv at *
 have hr1':RdO w5 lv.1 (opt hl lo):=by rw [←hlv];exact hr1.kept hE5 (by simp)
 have hr2':RdO w5 uv.1 (opt hu up):=by rw [←huv];exact hr2.kept hE5 (by simp)
 clear hr1 hr2 hlv huv
 have hE25:Ext w2 w5:=hE3.trans (hE4.trans hE5)
 have hT5:=hT2.ck (CK.of hE25)
 refine lp9 lo up hl hu A n c stv sb lv uv bb num pv P hn w5 hT5 hW5 ?_
 intro xs fv fls w6 hI6 hK6 hW6
 have hlen:=hI6.1
 have hget: ∀ i (h:i < n),fls.getD i 0=fls[i]:=fun i h=>by simp [List.getD_eq_getElem?_getD,show i < fls.length by omega]
 have hinj: ∀ i j,i < n→j < n→fls.getD i 0=fls.getD j 0→i=j:=fun i j hi hj he=>by
  rw [hget i hi,hget j hj] at he
  exact (List.getElem_inj hI6.2.2.2).1 he
 have hH6:StH A n num pv P tb ob xb r ca (fun i=>fls.getD i 0) w6:=by
  refine ⟨(hTO2.kq hE25).kq hK6,(hK6.block _ (solid_of (hE25.blk hx2) (by simp))).trans (hE25.blk hx2),(hM2.kept hE25).kept hK6,hT5.ck (CK.of hK6),hnum,fun i hi=>?_,hinj,hzxb,fun i hi=>by rw [hget i hi];obtain ⟨_,_,_,_,_,_,q6,_⟩:=hI6.2.2.1 i (by omega);exact q6.2⟩
  obtain ⟨m,_,q1,q2,_,_,_,q5⟩:=hI6.2.2.1 i (by omega)
  rw [←hget i hi] at q2
  exact ⟨m,q1,q2,q5⟩
 refine go_run (s:=bodyS (S9 lo up hl hu A n c (o1 stv) sb lv uv) (Hand (J9 lo up hl hu A n c (o1 stv) sb lv uv bb num pv P w5) 0) (T9 A n c (o1 stv) sb lv uv fv n xs) [⟨45,B45 lo up hl hu⟩]) (bs:=[bb]) 200 ⟨[],1,[],[(27,false)],0⟩ (by kernel_rfl) hW6 rfl [(decide ((n:Int) < n),false)] (by kernel_rfl) ⟨by simp,trivial⟩ ?_
 intro nw w7 _ hE7 hW7
 obtain rfl:=nw0 (hW7.num 1 (by kernel_rfl)) rfl
 have hs7:=hW7.sq [⟨45,B45 lo up hl hu⟩]
 refine gc 23 [] hW7 ?_
 refine (c23 w7).mono ?_
 rintro e w8 ⟨cb2,rfl,hcb,hcx,hE8⟩
 refine ⟨.p 1 0,[cb2],[⟨45,B45 lo up hl hu⟩,⟨113,cmpS⟩],rfl,hs7.ext hcb rfl ⟨hs7.kp hE8 0 _ rfl rfl,hcx,trivial⟩,fun hW8=>?_⟩
 refine gr0 (bs:=[bb,cb2]) 200 ⟨[],2,[],[],0⟩ hW8 fun w9 hE9 hW9=>?_
 have hs9:=hW9.sq [⟨45,B45 lo up hl hu⟩,⟨113,cmpS⟩]
 have hE69:Ext w6 w9:=hE7.trans (hE8.trans hE9)
 have hI9:=hI6.kept hE69
 have hH9:=hH6.kept hE69
 obtain ⟨g,cap,cur,hfv,_,hg,_⟩:=own_cell hI9.2.1 (j:=0) (u:=fV fls[0]) (by simp [hlen])
 have h22:Calls Tryz.prog 22 #[fnv 65,fv.1] w9 (Post22 n (fun i=>fls.getD i 0) w9):=by
  rw [hfv]
  refine c22 ⟨g,0,none⟩ n cap (fun i=>fls.getD i 0) w9 hn1 hn (fun i hi w' hk=>?_) (fun i hi=>?_) (fun i j hij hj gb w' hk hgb hzgb=>?_)
  ·obtain ⟨g',cap',cur',hfv',_,hg',hcell⟩:=own_cell (own_kept hI9.2.1 hk (by simp)) (j:=i) (u:=fV (fls.getD i 0)) (by rw [hget i hi];simp [show i < fls.length by omega])
   rw [hfv] at hfv'
   cases hfv'
   rw [show (⟨g,0,none⟩:Addr).add i=⟨g,i,none⟩ by unfold Addr.add;split<;>simp_all]
   exact hcell
  ·have q:=(hI9.2.2.1 i (by omega)).fb
   rw [←hget i hi] at q
   exact q
  ·have h':=hH9.kept hk
   obtain ⟨mi,_,q2,q3⟩:=h'.fil i (by omega)
   obtain ⟨mj,_,r2,r3⟩:=h'.fil j hj
   have hpi:=L.pos i (by omega)
   have hpj:=L.pos j hj
   have e1:smP P i=Ky (P i)[0]:=by unfold smP;rw [List.getElem?_eq_getElem hpi]
   have e2:smP P j=Ky (P j)[0]:=by unfold smP;rw [List.getElem?_eq_getElem hpj]
   have hs:=hstr i j hij hj
   rw [e1,e2] at hs
   exact cmp_files (r3 hpj).1 (q3 hpi).1 r2 q2 hgb (fun e=>by have:=hinj j i hj (by omega) e;omega) hs (h'.flo j hj) (h'.flo i (by omega)) hzgb
 refine gc 22 [.fn 65 [],o1 fv] hW9 ?_
 refine h22.mono ?_
 rintro e w10 ⟨nb,gb,hnb,hgb,rfl,hnb10,hK10,_⟩
 have hs10:=hs9.kq hK10
 refine ⟨.agg (sliceS (.ptr ⟨nb,0,none⟩) n (.fn 103 [.ptr ⟨gb,0,none⟩])),[],[⟨45,B45 lo up hl hu⟩,⟨113,cmpS⟩],rfl,hs10,fun hW10=>?_⟩
 refine gr1 (bs:=[bb,cb2]) 200 ⟨[],2,[],[],0⟩ hW10 fun sl w11 _ hE11 hW11=>?_
 have hs11:=hW11.sq [⟨45,B45 lo up hl hu⟩,⟨113,cmpS⟩,⟨95,sliceS (.ptr ⟨nb,0,none⟩) n (.fn 103 [.ptr ⟨gb,0,none⟩])⟩]
 refine gd [330,266,224,50] [] hW11 (fun hD=>?_)
 refine gr0 (bs:=[bb,cb2,sl]) 200 ⟨[],3,[],[],0⟩ hD fun w12 hE12 hW12=>?_
 have hs12:=hW12.sq [⟨45,B45 lo up hl hu⟩,⟨113,cmpS⟩,⟨95,sliceS (.ptr ⟨nb,0,none⟩) n (.fn 103 [.ptr ⟨gb,0,none⟩])⟩]
 refine gcd 26 [.p 2 0] [330,266,224,50] w11.drew hW12 (fun hC=>?_)
 have hsl:Sat [sl] [⟨95,sliceS (o1 (nbV nb)) n (o1 ⟨.func (.func 103) #[] #[.pointer (some ⟨gb,0,none⟩)],rfl⟩)⟩] w12:=hs12.sub [2] (by decide) (by simp) rfl ⟨hs12.memC 2 rfl (by kernel_rfl),trivial⟩
 refine (c26 sl (nbV nb) ⟨.func (.func 103) #[] #[.pointer (some ⟨gb,0,none⟩)],rfl⟩ n w12 hsl).mono ?_
 rintro e w13 ⟨rfl,hE13⟩
 refine ⟨.agg (filesS (nbV nb) ⟨.func (.func 103) #[] #[.pointer (some ⟨gb,0,none⟩)],rfl⟩),[],_,rfl,hs12.kq hE13,hC.trans (hE13.mono (by simp)),fun hW13=>?_⟩
 refine gr0 (bs:=[bb,cb2,sl]) 200 ⟨[],3,[],[],0⟩ hW13 fun w14 hE14 hW14=>?_
 have hs14:=hW14.sq [⟨45,B45 lo up hl hu⟩,⟨113,cmpS⟩,⟨95,sliceS (.ptr ⟨nb,0,none⟩) n (.fn 103 [.ptr ⟨gb,0,none⟩])⟩]
 have hE1014:Ext w10 w14:=hE11.trans (((Kept.refl [] w11).drew).trans (hE12.trans (hE13.trans hE14)))
 have hK614:Kept [214,360,218,180,311] w6 w14:=hE69.tr (hK10.tr hE1014 (ts:=[214,360,218,180,311])) (ts:=[214,360,218,180,311])
 have hK214:Kept [79,214,360,218,180,311] w2 w14:=hE25.tr (hK6.tr hK614 (ts:=[79,214,360,218,180,311])) (ts:=[79,214,360,218,180,311])
 refine gcd 25 [.ptr ⟨sb,0,none⟩,.agg (optS (o1 lv) (o1 uv)),.agg (filesS (nbV nb) ⟨.func (.func 103) #[] #[.pointer (some ⟨gb,0,none⟩)],rfl⟩),.it .i64 1] [330,266,224,50] w11.drew hW14 (fun hC=>?_)
 refine (c25 lv uv mg nilV vp (nbV nb) ⟨.func (.func 103) #[] #[.pointer (some ⟨gb,0,none⟩)],rfl⟩ sb cb0 xb w14 (hS2.kq hK214) (hC2.kq hK214)).mono ?_
 rintro e w15 ⟨lb,rfl,hlb,hE15,hlbx⟩
 refine ⟨.ifc 236 (.ptr ⟨lb,0,none⟩),[],_,rfl,hs14.kq hE15,hC.trans (hE15.mono (by simp)),fun hW15=>?_⟩
 refine gr0 (bs:=[bb,cb2,sl]) 200 ⟨[],3,[],[],0⟩ hW15 fun w16 hE16 hW16=>?_
 have hs16:=hW16.sq [⟨45,B45 lo up hl hu⟩,⟨113,cmpS⟩,⟨95,sliceS (.ptr ⟨nb,0,none⟩) n (.fn 103 [.ptr ⟨gb,0,none⟩])⟩]
 have hE1016:Ext w10 w16:=hE1014.trans (hE15.trans hE16)
 have hK616:Kept [214,360,218,180,311] w6 w16:=hK614.tr (hE15.tr hE16 (ts:=[214,360,218,180,311])) (ts:=[214,360,218,180,311])
 have hK516:Kept [79,214,360,218,180,311] w5 w16:=hK6.tr hK616 (ts:=[79,214,360,218,180,311])
 have hH16:=hH6.kept hK616
 have hlo16:=hr1'.kept hK516 (by simp)
 have hup16:=hr2'.kept hK516 (by simp)
 have hnbx:=(hnb10.kq hE1016).mem 0 _ rfl
 have hne:nb≠lb:=fun e=>by
  have h1:=(Array.getElem?_eq_some_iff.1 (hnb10.mem 0 _ rfl)).1
  have h2:=hE1014.size
  have h3:nmB [nb] 0=nb:=rfl
  omega
 have hshut:=start_of cb0 lb nb xb n (fun i=>fls.getD i 0) lv uv ⟨.func (.func 103) #[] #[.pointer (some ⟨gb,0,none⟩)],rfl⟩ w16 hne (hE16.blk hlbx) hnbx (Nat.le_trans hs14.sz hlb) (Nat.le_trans hs9.sz hnb)
 obtain ⟨fm,henv⟩:=lenv_of hH16 hkd (newF cb0 lb nb lv uv ⟨xb,0,none⟩ ⟨.func (.func 103) #[] #[.pointer (some ⟨gb,0,none⟩)],rfl⟩) lv uv ⟨.func (.func 103) #[] #[.pointer (some ⟨gb,0,none⟩)],rfl⟩ (opt hl lo) (opt hu up) hlo16 hup16 lb nb
 have hPn: ∀ i,i < n→(P i).length≤2^31:=fun i hi=>by have:=(hT.2 i hi).2.2.2.2.2;omega
 have hit:=it_ok ⟨newF cb0 lb nb lv uv ⟨xb,0,none⟩ ⟨.func (.func 103) #[] #[.pointer (some ⟨gb,0,none⟩)],rfl⟩,lv,uv,⟨xb,0,none⟩,⟨.func (.func 103) #[] #[.pointer (some ⟨gb,0,none⟩)],rfl⟩,n,fun i=>fls.getD i 0⟩ hn1 hn lb nb P fm (opt hl lo) (opt hu up) (smP P) (lgP P) L hPn
 have hKw5:Kept TS19 w w5:=hE1.tr (hK2.tr hE25 (ts:=TS19)) (ts:=TS19)
 have hKw16:Kept KTL w w16:=hKw5.tr hK516 (ts:=KTL)
 have hst16:=hst.kept hKw16 (by decide)
 obtain ⟨A2,c2,hsv,_,_⟩:=hst16.at47
 have h24:Calls Tryz.prog 24 #[.iface 236 (.pointer (some ⟨lb,0,none⟩)),.agg #[.string lo,.bool hl,.string up,.bool hu],.bool true,stv.1] w16 fun e w'=> ∃ v,e=.returned (.tuple #[v,.bool true])∧w'.ownsRow Bd.B 50 4 v steps.length ((walkP (cutG (flatP n P) (opt hl lo) (opt hu up)) none steps).flatMap cells50)∧Kept [330,266,224,50] w16 w':=by
  rw [hsv] at hst16 ⊢
  cases A2 with
  |some a=>exact c24 lb lo up hl hu a steps.length c2 steps _ _ hit w16 (bnds_ok lo up hl hu L) hop0 ⟨henv,_,_,.inl hshut⟩ hst16 rfl hns
  |none=>
   obtain ⟨h1,_,h2⟩:=sl_none hst16
   subst h1 h2
   refine (c24_0 lb lo up hl hu _ _ hit w16 ⟨henv,_,_,.inl hshut⟩).mono fun e w' ⟨h1,h2⟩=>⟨_,h1,World.ownsRow_nil _ _ _ _,h2.mono (by simp)⟩
 refine gcd 24 [.ifc 236 (.ptr ⟨lb,0,none⟩),.agg (B45 lo up hl hu),.bl true,o1 stv] [330,266,224,50] w11.drew hW16 (fun hC=>?_)
 refine h24.mono ?_
 rintro e w17 ⟨v,rfl,hown17,hK17⟩
 refine ⟨.tup [.oc v (own_one hown17),.bl true],[],_,rfl,hs16.kq hK17,hC.trans hK17,fun hW17=>?_⟩
 refine gr0 (bs:=[bb,cb2,sl]) 200 ⟨[],3,[],[],0⟩ hW17 fun w18 hE18 hW18=>?_
 exact gt (.tup [.oc v (own_one hown17),.bl true]) hW18.sat ⟨v,rfl,own_kept hown17 hE18 (by simp),hKw16.tr (hK17.tr hE18 (ts:=KTL)) (ts:=KTL)⟩
theorem c63_0 [Bd] (tb:Nat) (cv:V1) (w:World) (hs:Sat [tb] [⟨214,[.np,o1 cv]⟩] w):Calls Tryz.prog 63 #[.pointer (some ⟨tb,0,none⟩)] w fun e w'=>e=.returned (.slice none 0 0)∧Ext w w':=by
 refine gs (bs:=[tb]) [.p 0 0] _ Tryz.func63 hs (fun hW=>?_)
 refine go_run 200 ⟨[],1,[],[],0⟩ (by kernel_rfl) hW rfl [] (by kernel_rfl) trivial ?_
 intro nw w1 _ hE1 hW1
 exact gt .ns hW1.sat ⟨rfl,hE1⟩
theorem c22_0 [Bd] (w:World) (hB0:autoParam (Bd.B≤w.heap.size) sz0._auto_1):Calls Tryz.prog 22 #[fnv 65,.slice none 0 0] w fun e w'=> ∃ gb,e=.returned (.agg (sliceV (.pointer none) 0 (.func (.func 103) #[] #[.pointer (some ⟨gb,0,none⟩)])))∧Ext w w':=by
 refine gs (bs:=[]) [.fn 65 [],.ns] [] Tryz.func22 (sat0 w) (fun hW=>?_)
 refine gr1 200 ⟨[],0,[],[],0⟩ hW fun b1 w1 hfr1 hE1 hW1=>?_
 have hs1:=hW1.sq [⟨95,iterS .np .np 0 .nf++[.it .i64 0,.np,.np]⟩]
 refine gc 62 [.fn 65 []] hW1 ?_
 refine (c62 (fnv 65) rfl w1).mono ?_
 rintro e w2 ⟨gb,rfl,_,_,hE2⟩
 have hs2:=hs1.kq hE2
 refine ⟨.fn 103 [.ptr ⟨gb,0,none⟩],[],_,rfl,hs2,fun hW2=>?_⟩
 refine gr0 (bs:=[b1]) 200 ⟨[],1,[],[],0⟩ hW2 fun w3 hE3 hW3=>?_
 have hs3:=hW3.sq [⟨95,iterS .np .np 0 .nf++[.it .i64 0,.np,.np]⟩]
 refine gc 61 [.fn 103 [.ptr ⟨gb,0,none⟩],.ns] hW3 ?_
 refine (c61_0 103 #[.pointer (some ⟨gb,0,none⟩)] w3).mono ?_
 rintro e w4 ⟨rfl,hE4⟩
 have hs4:=hs3.kq hE4
 refine ⟨.tup [.agg [.np,.fn 103 [.ptr ⟨gb,0,none⟩]],.agg (sliceS .np 0 (.fn 103 [.ptr ⟨gb,0,none⟩]))],[],_,rfl,hs4,fun hW4=>?_⟩
 refine gr2 (bs:=[b1]) 200 ⟨[],1,[],[],0⟩ hW4 fun b2 b3 w5 hfr5 hE5 hW5=>?_
 have hs5:=hW5.sq [⟨95,iterS .np .np 0 .nf++[.it .i64 0,.np,.np]⟩,⟨214,[.np,.fn 103 [.ptr ⟨gb,0,none⟩]]⟩,⟨95,sliceS .np 0 (.fn 103 [.ptr ⟨gb,0,none⟩])⟩]
 refine gc 63 [.p 1 0] hW5 ?_
 refine (c63_0 b2 ⟨.func (.func 103) #[] #[.pointer (some ⟨gb,0,none⟩)],rfl⟩ w5 (hs5.sub [1] (by decide) (by simp) rfl ⟨hs5.memC 1 rfl (by kernel_rfl),trivial⟩)).mono ?_
 rintro e w6 ⟨rfl,hE6⟩
 have hs6:=hs5.kq hE6
 refine ⟨.ns,[],_,rfl,hs6,fun hW6=>?_⟩
 refine gr0 (bs:=[b1,b2,b3]) 200 ⟨[],3,[],[],0⟩ hW6 fun w7 hE7 hW7=>?_
 have hs7:=hW7.sq [⟨95,iterS .np .np 0 .nf++[.it .i64 0,.np,.np]⟩,⟨214,[.np,.fn 103 [.ptr ⟨gb,0,none⟩]]⟩,⟨95,sliceS .np 0 (.fn 103 [.ptr ⟨gb,0,none⟩])⟩]
 refine gc 64 [.agg (sliceS .np 0 (.fn 103 [.ptr ⟨gb,0,none⟩]))] hW7 ?_
 refine (c64 (SV.denL [b1,b2,b3] (sliceS .np 0 (.fn 103 [.ptr ⟨gb,0,none⟩]))) rfl w7).mono ?_
 rintro e w8 ⟨rfl,hE8⟩
 have hs8:=hs7.kq hE8
 refine ⟨.tup [],[],_,rfl,hs8,fun hW8=>?_⟩
 refine gg0 (bs:=[b1,b2,b3]) 200 ⟨[95,4000000],3,[],[],0⟩ hW8 fun w9 hK9 hN9 hW9=>?_
 have hA8:Ext w w8:=hE1.trans (hE2.trans (hE3.trans (hE4.trans (hE5.trans (hE6.trans (hE7.trans hE8))))))
 have hA9:Ext w w9:=hA8.finT hK9 hN9 (fun x hx=>by
  simp only [List.mem_cons,List.not_mem_nil,or_false] at hx
  have h1:=hfr1 b1 (by simp)
  have h2:=hfr5 b2 (by simp)
  have h3:=hfr5 b3 (by simp)
  have h4:=(hE1.trans (hE2.trans (hE3.trans hE4))).size
  rcases hx with rfl|rfl|rfl<;>exact .inl (by omega))
 exact gt (.agg (sliceS .np 0 (.fn 103 [.ptr ⟨gb,0,none⟩]))) hW9.sat ⟨gb,rfl,hA9⟩
def HE (f:Nat→Value) (lo up:V1) (nf:Addr) (cv:V1):List SB:=[⟨330,[.va (f 0),.fn 65 [],.va (f 2),o1 lo,o1 up,.ns,.ns,.va (f 7),.va (f 8),.va (f 9),.va (f 10),.va (f 11),.va (f 12),.va (f 13),.va (f 14),.va (f 15),.va (f 16),.va (f 17),.va (f 18),.va (f 19),.np,.np,.np,.va (f 23),.va (f 24),.ni,.np,.ni,.fn 89 [.ptr nf],.np,.ni,.np,.np,.it .i16 (-1),o1 cv,.np,.it .i16 0,.np,.it .i16 0,.np,.it .i16 0,.it .i16 0,.ns,.np,.np,.it .i8 0,.ni,.np,.va (f 48),.va (f 49),.va (f 50),.va (f 51)]⟩]
theorem c133e [Bd] (f:Nat→Value) (lo up:V1) (nf:Addr) (cv:V1) (lb:Nat) (w:World) (hs:Sat [lb] (HE f lo up nf cv) w):Calls Tryz.prog 133 #[.pointer (some ⟨lb,31,none⟩)] w fun e w'=>e=.returned (.bool true)∧Ext w w':=by
 refine gs (bs:=[lb]) [.p 0 31] _ Tryz.func133 hs (fun hW=>?_)
 refine gr0 200 ⟨[],1,[],[],0⟩ hW fun w1 hE1 hW1=>?_
 refine gd [] [] hW1 (fun hW2=>?_)
 refine gr0 (bs:=[lb]) 200 ⟨[],1,[],[],0⟩ hW2 fun w3 hE3 hW3=>?_
 have hs3:=hW3.sq (HE f lo up nf cv)
 refine gcd 166 [.agg (iterS .np .np (-1) (o1 cv)),.np,.np] [] w1.drew hW3 (fun hC=>?_)
 refine (c166n cv w3).mono ?_
 rintro e w4 ⟨rfl,hE4⟩
 refine ⟨.bl true,[],_,rfl,hs3.kq hE4,hC.trans hE4,fun hW4=>?_⟩
 refine go_run (bs:=[lb]) 200 ⟨[],1,[],[],0⟩ (by kernel_rfl) hW4 rfl [] (by kernel_rfl) trivial ?_
 intro nw w5 _ hE5 hW5
 exact gt (.bl true) hW5.sat ⟨rfl,hE1.trans (((Kept.refl [] w1).drew).trans (hE3.trans (hE4.trans hE5)))⟩
theorem c106e [Bd] (f:Nat→Value) (lo up:V1) (nf:Addr) (cv:V1) (lb:Nat) (w:World) (hs:Sat [lb] (HE f lo up nf cv) w):Calls Tryz.prog 106 #[.pointer (some ⟨lb,31,none⟩)] w fun e w'=>e=.returned (.pointer none)∧Ext w w':=by
 refine gs (bs:=[lb]) [.p 0 31] _ Tryz.func106 hs (fun hW=>?_)
 refine gr0 200 ⟨[],1,[],[],0⟩ hW fun w1 hE1 hW1=>?_
 have hs1:=hW1.sq (HE f lo up nf cv)
 refine gc 133 [.p 0 31] hW1 ?_
 refine (c133e f lo up nf cv lb w1 hs1).mono ?_
 rintro e w2 ⟨rfl,hE2⟩
 refine ⟨.bl true,[],_,rfl,hs1.kq hE2,fun hW2=>?_⟩
 refine go_run (bs:=[lb]) 200 ⟨[],1,[],[],0⟩ (by kernel_rfl) hW2 rfl [] (by kernel_rfl) trivial ?_
 intro nw w3 _ hE3 hW3
 exact gt .np hW3.sat ⟨rfl,hE1.trans (hE2.trans hE3)⟩
theorem c253e [Bd] (f:Nat→Value) (lo up:V1) (nf:Addr) (cv:V1) (lb:Nat) (w:World) (hs:Sat [lb] (HE f lo up nf cv) w):Calls Tryz.prog 253 #[.pointer (some ⟨lb,31,none⟩)] w fun e w'=>e=.returned (.pointer none)∧Ext w w':=by
 refine gs (bs:=[lb]) [.p 0 31] _ Tryz.func253 hs (fun hW=>?_)
 refine gr0 200 ⟨[],1,[],[],0⟩ hW fun w1 hE1 hW1=>?_
 have hs1:=hW1.sq (HE f lo up nf cv)
 refine gc 133 [.p 0 31] hW1 ?_
 refine (c133e f lo up nf cv lb w1 hs1).mono ?_
 rintro e w2 ⟨rfl,hE2⟩
 refine ⟨.bl true,[],_,rfl,hs1.kq hE2,fun hW2=>?_⟩
 refine go_run (bs:=[lb]) 200 ⟨[],1,[],[],0⟩ (by kernel_rfl) hW2 rfl [] (by kernel_rfl) trivial ?_
 intro nw w3 _ hE3 hW3
 exact gt .np hW3.sat ⟨rfl,hE1.trans (hE2.trans hE3)⟩
theorem c266e [Bd] (f:Nat→Value) (lo up:V1) (nf:Addr) (cv:V1) (lb:Nat) (kv:V1) (w:World) (hs:Sat [lb] (HE f lo up nf cv) w):Calls Tryz.prog 266 #[.pointer (some ⟨lb,31,none⟩),fnv 65,kv.1] w fun e w'=>e=.returned (.pointer none)∧Ext w w':=by
 refine gs (bs:=[lb]) [.p 0 31,.fn 65 [],o1 kv] _ Tryz.func266 hs (fun hW=>?_)
 refine go_run 200 ⟨[],1,[],[],0⟩ (by kernel_rfl) hW rfl [] (by kernel_rfl) trivial ?_
 intro nw w1 _ hE1 hW1
 exact gt .np hW1.sat ⟨rfl,hE1⟩
theorem c267e [Bd] (f:Nat→Value) (lo up:V1) (nf:Addr) (cv:V1) (lb:Nat) (kv:V1) (w:World) (hs:Sat [lb] (HE f lo up nf cv) w):Calls Tryz.prog 267 #[.pointer (some ⟨lb,31,none⟩),fnv 65,kv.1] w fun e w'=>e=.returned (.pointer none)∧Ext w w':=by
 refine gs (bs:=[lb]) [.p 0 31,.fn 65 [],o1 kv] _ Tryz.func267 hs (fun hW=>?_)
 refine go_run 200 ⟨[],1,[],[],0⟩ (by kernel_rfl) hW rfl [] (by kernel_rfl) trivial ?_
 intro nw w1 _ hE1 hW1
 exact gt .np hW1.sat ⟨rfl,hE1⟩
theorem c256e [Bd] (f:Nat→Value) (lo up:V1) (nf:Addr) (cv:V1) (lb:Nat) (kv:V1) (w:World) (hs:Sat [lb] (HE f lo up nf cv) w):Calls Tryz.prog 256 #[.pointer (some ⟨lb,0,none⟩),kv.1,.int .u8 0] w fun e w'=>e=.returned (.pointer none)∧Ext w w':=by
 refine gs (bs:=[lb]) [.p 0 0,o1 kv,.it .u8 0] _ Tryz.func256 hs (fun hW=>?_)
 refine gr0 200 ⟨[],1,[],[],0⟩ hW fun w1 hE1 hW1=>?_
 have hs1:=hW1.sq (HE f lo up nf cv)
 refine gc 224 [.it .u8 0] hW1 ?_
 refine (c224 w1).mono ?_
 rintro e w2 ⟨rfl,hE2⟩
 have hs2:=hs1.kq hE2
 refine ⟨.bl false,[],HE f lo up nf cv,rfl,hs2,fun hW2=>?_⟩
 refine gr0 (bs:=[lb]) 200 ⟨[],1,[],[],0⟩ hW2 fun w3 hE3 hW3=>?_
 have hs3:=hW3.sq (HE f lo up nf cv)
 refine gc 265 [.it .u8 0] hW3 ?_
 refine (c265 w3).mono ?_
 rintro e w4 ⟨rfl,rfl⟩
 have hs4:=hs3
 refine ⟨.bl false,[],HE f lo up nf cv,rfl,hs4,fun hW4=>?_⟩
 refine gr0 (bs:=[lb]) 200 ⟨[],1,[],[],0⟩ hW4 fun w5 hE5 hW5=>?_
 have hs5:=hW5.sq (HE f lo up nf cv)
 refine gd [] [8] hW5 (fun hD=>?_)
 refine gr0 (bs:=[lb]) 200 ⟨[],1,[],[],0⟩ hD fun w6 hE6 hW6=>?_
 have hs6:=hW6.sq (HE f lo up nf cv)
 have hX:Ext w w6:=(((hE1.trans hE2).trans hE3).trans hE5).drew.trans hE6
 refine go_callE 266 [.p 0 31,.fn 65 [],o1 kv] (by kernel_rfl) hW6 ?_
 refine (c266e f lo up nf cv lb kv w6 hs6).mono ?_
 rintro e w7 ⟨rfl,hE7⟩
 refine ⟨.np,[],HE f lo up nf cv,rfl,hs6.kq hE7,fun hV=>?_⟩
 refine go_run (bs:=[lb]) 200 ⟨[],1,[],[],1⟩ (by kernel_rfl) hV rfl [] (by kernel_rfl) trivial ?_
 intro nw v1 _ hG1 hV1
 exact gt .np hV1.sat ⟨rfl,hX.trans (hE7.trans hG1)⟩
theorem c258e [Bd] (f:Nat→Value) (lo up:V1) (nf:Addr) (cv:V1) (lb:Nat) (kv:V1) (w:World) (hs:Sat [lb] (HE f lo up nf cv) w):Calls Tryz.prog 258 #[.pointer (some ⟨lb,0,none⟩),kv.1,.int .u8 0] w fun e w'=>e=.returned (.pointer none)∧Ext w w':=by
 refine gs (bs:=[lb]) [.p 0 0,o1 kv,.it .u8 0] _ Tryz.func258 hs (fun hW=>?_)
 refine gr0 200 ⟨[],1,[],[],0⟩ hW fun w1 hE1 hW1=>?_
 have hs1:=hW1.sq (HE f lo up nf cv)
 refine gc 237 [.it .u8 0] hW1 ?_
 refine (c237 w1).mono ?_
 rintro e w2 ⟨rfl,rfl⟩
 have hs2:=hs1
 refine ⟨.bl false,[],HE f lo up nf cv,rfl,hs2,fun hW2=>?_⟩
 refine gr0 (bs:=[lb]) 200 ⟨[],1,[],[],0⟩ hW2 fun w3 hE3 hW3=>?_
 have hs3:=hW3.sq (HE f lo up nf cv)
 refine gd [] [8] hW3 (fun hD=>?_)
 refine gr0 (bs:=[lb]) 200 ⟨[],1,[],[],0⟩ hD fun w4 hE4 hW4=>?_
 have hs4:=hW4.sq (HE f lo up nf cv)
 have hX:Ext w w4:=(hE1.trans hE3).drew.trans hE4
 refine go_callE 267 [.p 0 31,.fn 65 [],o1 kv] (by kernel_rfl) hW4 ?_
 refine (c267e f lo up nf cv lb kv w4 hs4).mono ?_
 rintro e w5 ⟨rfl,hE5⟩
 refine ⟨.np,[],HE f lo up nf cv,rfl,hs4.kq hE5,fun hV=>?_⟩
 refine go_run (bs:=[lb]) 200 ⟨[],1,[],[],1⟩ (by kernel_rfl) hV rfl [] (by kernel_rfl) trivial ?_
 intro nw v1 _ hG1 hV1
 exact gt .np hV1.sat ⟨rfl,hX.trans (hE5.trans hG1)⟩
theorem c238e [Bd] (f:Nat→Value) (lo up:V1) (nf:Addr) (cv:V1) (lb:Nat) (w:World) (hs:Sat [lb] (HE f lo up nf cv) w):Calls Tryz.prog 238 #[.pointer (some ⟨lb,0,none⟩)] w fun e w'=>e=.returned .nilIface∧Kept [330] w w'∧Sat [lb] (HE f lo up nf cv) w':=by
 refine gs (bs:=[lb]) [.p 0 0] _ Tryz.func238 hs (fun hW=>?_)
 refine gr0 200 ⟨[330],1,[],[],0⟩ hW fun w1 hK1 hW1=>?_
 exact gt .ni hW1.sat ⟨rfl,hK1,hW1.sq _⟩
theorem c239e [Bd] (f:Nat→Value) (lo up:V1) (nf:Addr) (cv:V1) (lb:Nat) (w:World) (hs:Sat [lb] (HE f lo up nf cv) w):Calls Tryz.prog 239 #[.pointer (some ⟨lb,0,none⟩)] w fun e w'=>e=.returned .nilIface∧Ext w w':=by
 refine gs (bs:=[lb]) [.p 0 0] _ Tryz.func239 hs (fun hW=>?_)
 refine go_run 200 ⟨[],1,[],[],0⟩ (by kernel_rfl) hW rfl [] (by kernel_rfl) trivial ?_
 intro nw w1 _ hE1 hW1
 exact gt .ni hW1.sat ⟨rfl,hE1⟩
theorem c250e [Bd] (f:Nat→Value) (lo up:V1) (nf:Addr) (cv:V1) (lb:Nat) (d:V1) (w:World) (hs:Sat [lb] (HE f lo up nf cv) w):Calls Tryz.prog 250 #[.pointer (some ⟨lb,0,none⟩),.pointer none,d.1] w fun e w'=>e=.returned (.int .i8 0)∧Kept [330] w w'∧Sat [lb] (HE f lo up nf cv) w':=by
 refine gs (bs:=[lb]) [.p 0 0,.np,o1 d] _ Tryz.func250 hs (fun hW=>?_)
 refine gr0 200 ⟨[330],1,[],[],0⟩ hW fun w1 hK1 hW1=>?_
 have hs1:=hW1.sq (HE f lo up nf cv)
 refine gc 238 [.p 0 0] hW1 ?_
 refine (c238e f lo up nf cv lb w1 hs1).mono ?_
 rintro e w2 ⟨rfl,hK2,hs2⟩
 refine ⟨.ni,[],HE f lo up nf cv,rfl,hs2,fun hW2=>?_⟩
 refine gr0 (bs:=[lb]) 200 ⟨[330],1,[],[],1⟩ hW2 fun w3 hK3 hW3=>?_
 exact gt (.it .i8 0) hW3.sat ⟨rfl,hK1.trans (hK2.trans hK3),hW3.sq _⟩
def RE [Bd] (f:Nat→Value) (lo up:V1) (nf:Addr) (cv:V1) (lb:Nat) (p:Option Nat) (w:World):Prop:=p=none∧Sat [lb] (HE f lo up nf cv) w
theorem c240e [Bd] (f:Nat→Value) (lo up:V1) (nf:Addr) (cv:V1) (lb:Nat) (w:World) (hs:Sat [lb] (HE f lo up nf cv) w):Calls Tryz.prog 240 #[.pointer (some ⟨lb,0,none⟩)] w (ARes (RE f lo up nf cv lb) [] none w):=by
 refine gs (bs:=[lb]) [.p 0 0] _ Tryz.func240 hs (fun hW=>?_)
 refine gr1 (bs:=[lb]) 200 ⟨[330],1,[],[],0⟩ hW fun b3 w1 hfr1 hK1 hW1=>?_
 have hs1:=hW1.sq (HE f lo up nf cv++Z1)
 have hq1:Sat [lb] (HE f lo up nf cv) w1:=hs1.sub [0] (by decide) (by simp) rfl ⟨hs1.memC 0 rfl (by kernel_rfl),trivial⟩
 refine gc 106 [.p 0 31] hW1 ?_
 refine (c106e f lo up nf cv lb w1 hq1).mono ?_
 rintro e w2 ⟨rfl,hE2⟩
 have hs2:=hs1.kq hE2
 refine ⟨.np,[],HE f lo up nf cv++Z1,rfl,hs2,fun hW2=>?_⟩
 refine gr0 (bs:=[lb,b3]) 200 ⟨[],2,[],[],0⟩ hW2 fun w3 hE3 hW3=>?_
 have hs3:=hW3.sq (HE f lo up nf cv++Z1)
 have hq3:Sat [lb] (HE f lo up nf cv) w3:=hs3.sub [0] (by decide) (by simp) rfl ⟨hs3.memC 0 rfl (by kernel_rfl),trivial⟩
 refine gc 250 [.p 0 0,.np,.it .i64 (1)] hW3 ?_
 refine (c250e f lo up nf cv lb ⟨.int .i64 (1),rfl⟩ w3 hq3).mono ?_
 rintro e w4 ⟨rfl,hK4,hq4⟩
 have hs4:Sat [lb,b3] (HE f lo up nf cv++Z1) w4:=hs3.re rfl ⟨hq4.memC 0 rfl (by kernel_rfl),hs3.kp hK4 1 _ rfl rfl,trivial⟩
 refine ⟨.it .i8 0,[],HE f lo up nf cv++Z1,rfl,hs4,fun hW4=>?_⟩
 refine gg0 (bs:=[lb,b3]) 200 ⟨[224,4000000],2,[],[],0⟩ hW4 fun w5 hK5 hN5 hW5=>?_
 have hs5:=hW5.sq (HE f lo up nf cv++Z1)
 have hfin:Kept KT w w5:=(hK1.tr (hE2.tr (hE3.tr hK4 (ts:=KT)) (ts:=KT)) (ts:=KT):Kept KT w w4).finT hK5 hN5 (fun x hx=>by
  simp only [List.mem_cons,List.not_mem_nil,or_false] at hx
  rcases hx with rfl|rfl
  ·exact .inr ⟨_,_,_,hs4.mem 0 _ rfl,by simp⟩
  ·exact .inl (hfr1 _ (by simp)))
 exact gt (.tup [.np,.agg [.ns,.np]]) hW5.sat ⟨⟨_,rfl,rfl⟩,hfin,rfl,hs5.sub [0] (by decide) (by simp) rfl ⟨hs5.memC 0 rfl (by kernel_rfl),trivial⟩⟩
theorem c241e [Bd] (f:Nat→Value) (lo up:V1) (nf:Addr) (cv:V1) (lb:Nat) (w:World) (hs:Sat [lb] (HE f lo up nf cv) w):Calls Tryz.prog 241 #[.pointer (some ⟨lb,0,none⟩)] w (ARes (RE f lo up nf cv lb) [] none w):=by
 refine gs (bs:=[lb]) [.p 0 0] _ Tryz.func241 hs (fun hW=>?_)
 refine gr1 (bs:=[lb]) 200 ⟨[330],1,[],[],0⟩ hW fun b3 w1 hfr1 hK1 hW1=>?_
 have hs1:=hW1.sq (HE f lo up nf cv++Z1)
 have hq1:Sat [lb] (HE f lo up nf cv) w1:=hs1.sub [0] (by decide) (by simp) rfl ⟨hs1.memC 0 rfl (by kernel_rfl),trivial⟩
 refine gc 253 [.p 0 31] hW1 ?_
 refine (c253e f lo up nf cv lb w1 hq1).mono ?_
 rintro e w2 ⟨rfl,hE2⟩
 have hs2:=hs1.kq hE2
 refine ⟨.np,[],HE f lo up nf cv++Z1,rfl,hs2,fun hW2=>?_⟩
 refine gr0 (bs:=[lb,b3]) 200 ⟨[],2,[],[],0⟩ hW2 fun w3 hE3 hW3=>?_
 have hs3:=hW3.sq (HE f lo up nf cv++Z1)
 have hq3:Sat [lb] (HE f lo up nf cv) w3:=hs3.sub [0] (by decide) (by simp) rfl ⟨hs3.memC 0 rfl (by kernel_rfl),trivial⟩
 refine gc 250 [.p 0 0,.np,.it .i64 (-1)] hW3 ?_
 refine (c250e f lo up nf cv lb ⟨.int .i64 (-1),rfl⟩ w3 hq3).mono ?_
 rintro e w4 ⟨rfl,hK4,hq4⟩
 have hs4:Sat [lb,b3] (HE f lo up nf cv++Z1) w4:=hs3.re rfl ⟨hq4.memC 0 rfl (by kernel_rfl),hs3.kp hK4 1 _ rfl rfl,trivial⟩
 refine ⟨.it .i8 0,[],HE f lo up nf cv++Z1,rfl,hs4,fun hW4=>?_⟩
 refine gg0 (bs:=[lb,b3]) 200 ⟨[224,4000000],2,[],[],0⟩ hW4 fun w5 hK5 hN5 hW5=>?_
 have hs5:=hW5.sq (HE f lo up nf cv++Z1)
 have hfin:Kept KT w w5:=(hK1.tr (hE2.tr (hE3.tr hK4 (ts:=KT)) (ts:=KT)) (ts:=KT):Kept KT w w4).finT hK5 hN5 (fun x hx=>by
  simp only [List.mem_cons,List.not_mem_nil,or_false] at hx
  rcases hx with rfl|rfl
  ·exact .inr ⟨_,_,_,hs4.mem 0 _ rfl,by simp⟩
  ·exact .inl (hfr1 _ (by simp)))
 exact gt (.tup [.np,.agg [.ns,.np]]) hW5.sat ⟨⟨_,rfl,rfl⟩,hfin,rfl,hs5.sub [0] (by decide) (by simp) rfl ⟨hs5.memC 0 rfl (by kernel_rfl),trivial⟩⟩
theorem c245e [Bd] (f:Nat→Value) (lo up:V1) (nf:Addr) (cv:V1) (lb:Nat) (kv:V1) (w:World) (hs:Sat [lb] (HE f lo up nf cv) w):Calls Tryz.prog 245 #[.pointer (some ⟨lb,0,none⟩),kv.1,.int .u8 0] w (ARes (RE f lo up nf cv lb) [] none w):=by
 refine gs (bs:=[lb]) [.p 0 0,o1 kv,.it .u8 0] _ Tryz.func245 hs (fun hW=>?_)
 refine gr1 (bs:=[lb]) 200 ⟨[330],1,[],[],0⟩ hW fun b3 w1 hfr1 hK1 hW1=>?_
 have hs1:=hW1.sq (HE f lo up nf cv++Z1)
 have hq1:Sat [lb] (HE f lo up nf cv) w1:=hs1.sub [0] (by decide) (by simp) rfl ⟨hs1.memC 0 rfl (by kernel_rfl),trivial⟩
 refine gc 256 [.p 0 0,o1 kv,.it .u8 0] hW1 ?_
 refine (c256e f lo up nf cv lb kv w1 hq1).mono ?_
 rintro e w2 ⟨rfl,hE2⟩
 have hs2:=hs1.kq hE2
 refine ⟨.np,[],HE f lo up nf cv++Z1,rfl,hs2,fun hW2=>?_⟩
 refine gr0 (bs:=[lb,b3]) 200 ⟨[],2,[],[],0⟩ hW2 fun w3 hE3 hW3=>?_
 have hs3:=hW3.sq (HE f lo up nf cv++Z1)
 have hq3:Sat [lb] (HE f lo up nf cv) w3:=hs3.sub [0] (by decide) (by simp) rfl ⟨hs3.memC 0 rfl (by kernel_rfl),trivial⟩
 refine gc 250 [.p 0 0,.np,.it .i64 (1)] hW3 ?_
 refine (c250e f lo up nf cv lb ⟨.int .i64 (1),rfl⟩ w3 hq3).mono ?_
 rintro e w4 ⟨rfl,hK4,hq4⟩
 have hs4:Sat [lb,b3] (HE f lo up nf cv++Z1) w4:=hs3.re rfl ⟨hq4.memC 0 rfl (by kernel_rfl),hs3.kp hK4 1 _ rfl rfl,trivial⟩
 refine ⟨.it .i8 0,[],HE f lo up nf cv++Z1,rfl,hs4,fun hW4=>?_⟩
 refine gg0 (bs:=[lb,b3]) 200 ⟨[224,4000000],2,[],[],0⟩ hW4 fun w5 hK5 hN5 hW5=>?_
 have hs5:=hW5.sq (HE f lo up nf cv++Z1)
 have hfin:Kept KT w w5:=(hK1.tr (hE2.tr (hE3.tr hK4 (ts:=KT)) (ts:=KT)) (ts:=KT):Kept KT w w4).finT hK5 hN5 (fun x hx=>by
  simp only [List.mem_cons,List.not_mem_nil,or_false] at hx
  rcases hx with rfl|rfl
  ·exact .inr ⟨_,_,_,hs4.mem 0 _ rfl,by simp⟩
  ·exact .inl (hfr1 _ (by simp)))
 exact gt (.tup [.np,.agg [.ns,.np]]) hW5.sat ⟨⟨_,rfl,rfl⟩,hfin,rfl,hs5.sub [0] (by decide) (by simp) rfl ⟨hs5.memC 0 rfl (by kernel_rfl),trivial⟩⟩
theorem c246e [Bd] (f:Nat→Value) (lo up:V1) (nf:Addr) (cv:V1) (lb:Nat) (kv:V1) (w:World) (hs:Sat [lb] (HE f lo up nf cv) w):Calls Tryz.prog 246 #[.pointer (some ⟨lb,0,none⟩),kv.1,.int .u8 0] w (ARes (RE f lo up nf cv lb) [] none w):=by
 refine gs (bs:=[lb]) [.p 0 0,o1 kv,.it .u8 0] _ Tryz.func246 hs (fun hW=>?_)
 refine gr1 (bs:=[lb]) 200 ⟨[330],1,[],[],0⟩ hW fun b3 w1 hfr1 hK1 hW1=>?_
 have hs1:=hW1.sq (HE f lo up nf cv++Z1)
 have hq1:Sat [lb] (HE f lo up nf cv) w1:=hs1.sub [0] (by decide) (by simp) rfl ⟨hs1.memC 0 rfl (by kernel_rfl),trivial⟩
 refine gc 258 [.p 0 0,o1 kv,.it .u8 0] hW1 ?_
 refine (c258e f lo up nf cv lb kv w1 hq1).mono ?_
 rintro e w2 ⟨rfl,hE2⟩
 have hs2:=hs1.kq hE2
 refine ⟨.np,[],HE f lo up nf cv++Z1,rfl,hs2,fun hW2=>?_⟩
 refine gr0 (bs:=[lb,b3]) 200 ⟨[],2,[],[],0⟩ hW2 fun w3 hE3 hW3=>?_
 have hs3:=hW3.sq (HE f lo up nf cv++Z1)
 have hq3:Sat [lb] (HE f lo up nf cv) w3:=hs3.sub [0] (by decide) (by simp) rfl ⟨hs3.memC 0 rfl (by kernel_rfl),trivial⟩
 refine gc 250 [.p 0 0,.np,.it .i64 (-1)] hW3 ?_
 refine (c250e f lo up nf cv lb ⟨.int .i64 (-1),rfl⟩ w3 hq3).mono ?_
 rintro e w4 ⟨rfl,hK4,hq4⟩
 have hs4:Sat [lb,b3] (HE f lo up nf cv++Z1) w4:=hs3.re rfl ⟨hq4.memC 0 rfl (by kernel_rfl),hs3.kp hK4 1 _ rfl rfl,trivial⟩
 refine ⟨.it .i8 0,[],HE f lo up nf cv++Z1,rfl,hs4,fun hW4=>?_⟩
 refine gg0 (bs:=[lb,b3]) 200 ⟨[224,4000000],2,[],[],0⟩ hW4 fun w5 hK5 hN5 hW5=>?_
 have hs5:=hW5.sq (HE f lo up nf cv++Z1)
 have hfin:Kept KT w w5:=(hK1.tr (hE2.tr (hE3.tr hK4 (ts:=KT)) (ts:=KT)) (ts:=KT):Kept KT w w4).finT hK5 hN5 (fun x hx=>by
  simp only [List.mem_cons,List.not_mem_nil,or_false] at hx
  rcases hx with rfl|rfl
  ·exact .inr ⟨_,_,_,hs4.mem 0 _ rfl,by simp⟩
  ·exact .inl (hfr1 _ (by simp)))
 exact gt (.tup [.np,.agg [.ns,.np]]) hW5.sat ⟨⟨_,rfl,rfl⟩,hfin,rfl,hs5.sub [0] (by decide) (by simp) rfl ⟨hs5.memC 0 rfl (by kernel_rfl),trivial⟩⟩
theorem it_ok0 [Bd] (f:Nat→Value) (lo up:V1) (nf:Addr) (cv:V1) (lb:Nat) (lo' up':Option (List UInt8)):ItOK lb [] lo' up' (RE f lo up nf cv lb) where
 kept:=fun p w w' h hk=>⟨h.1,h.2.kq hk⟩
 fst:=fun _ p w h=>c240e f lo up nf cv lb w h.2
 lst:=fun _ p w h=>c241e f lo up nf cv lb w h.2
 ge:=fun p w kv key h _ _=>c245e f lo up nf cv lb kv w h.2
 lt:=fun p w kv key h _ _=>c246e f lo up nf cv lb kv w h.2
 nxt:=fun i w h=>by cases h.1
 prv:=fun i w h=>by cases h.1
 err:=fun p w h=>c239e f lo up nf cv lb w h.2
theorem c9_0 [Bd] (lo up:ByteArray) (hl hu:Bool) (stv:V1) (steps:List S47) (w:World) (hst:RK k47 47 w stv.1 steps) (hns:steps.length < 2^30) (hop0: ∀ s∈steps,0≤s.f0) (hbn:Bnds lo up hl hu []) (hB0:autoParam (Bd.B≤w.heap.size) sz0._auto_1):
  Calls Tryz.prog 9 #[.slice none 0 0,.agg #[.string lo,.bool hl,.string up,.bool hu],stv.1] w fun e w'=> ∃ v,e=.returned (.tuple #[v,.bool true])∧w'.ownsRow Bd.B 50 4 v steps.length ((walkP [] none steps).flatMap cells50)∧Kept KTL w w':=by
 refine gs (bs:=[]) [.ns,.agg (B45 lo up hl hu),o1 stv] [] Tryz.func9 (sat0 w) (fun hW=>?_)
 refine gr1 200 ⟨[],0,[],[],1⟩ hW fun bb w1 _ hE1 hW1=>?_
 have hs1:=hW1.sq [⟨45,B45 lo up hl hu⟩]
 refine go_op (.build 70 #[(0,.tmp 15)]) (by kernel_rfl) hW1 w1 (.agg [.ns,.ns,.ns,.ns,.ns,.ns]) [] [⟨45,B45 lo up hl hu⟩] _ (fun o ho=>run_b70 [bb] (.slice none 0 0) w1 (by kernel_rfl) rfl (by kernel_rfl) o ho) (.inl rfl) hs1 (fun hW1b=>?_)
 refine gr0 (bs:=[bb]) 200 ⟨[],1,[],[],1⟩ hW1b fun w1c hE1c hW1=>?_
 clear hW1b
 replace hE1:=hE1.trans hE1c
 clear hE1c hs1
 generalize w1c=w1 at *
 have hs1:=hW1.sq [⟨45,B45 lo up hl hu⟩]
 refine gc 19 [.agg [.ns,.ns,.ns,.ns,.ns,.ns,.ns,.ns]] hW1 ?_
 refine (c19_0 w1).mono ?_
 rintro e w2 ⟨sb,xb,cb0,mg,vp,rfl,hS2,hC2,hK2⟩
 have hs2:=hs1.kq hK2
 refine ⟨.ptr ⟨sb,0,none⟩,[],[⟨45,B45 lo up hl hu⟩],rfl,hs2,fun hW2=>?_⟩
 refine gr0 (bs:=[bb]) 200 ⟨[],1,[],[],1⟩ hW2 fun w3 hE3 hW3=>?_
 have hs3:=hW3.sq [⟨45,B45 lo up hl hu⟩]
 refine gc 20 [.agg (B45 lo up hl hu)] hW3 ?_
 refine (c20 lo up hl hu w3).mono ?_
 rintro e w4 ⟨v1,v2,rfl,hr1,hr2,hE4⟩
 refine ⟨.tup [o1 ⟨v1,rdO_one hr1⟩,o1 ⟨v2,rdO_one hr2⟩],[],[⟨45,B45 lo up hl hu⟩],rfl,hs3.kq hE4,fun hW4=>?_⟩
 refine gr0 (bs:=[bb]) 200 ⟨[],1,[],[],1⟩ hW4 fun w7 hE5 hW7=>?_
 generalize hlv:(⟨v1,rdO_one hr1⟩:V1)=lv at *
 generalize huv:(⟨v2,rdO_one hr2⟩:V1)=uv at *
 have hE27:Ext w2 w7:=hE3.trans (hE4.trans hE5)
 have hs7:=hW7.sq [⟨45,B45 lo up hl hu⟩]
 refine gc 23 [] hW7 ?_
 refine (c23 w7).mono ?_
 rintro e w8 ⟨cb2,rfl,hcb,hcx,hE8⟩
 refine ⟨.p 1 0,[cb2],[⟨45,B45 lo up hl hu⟩,⟨113,cmpS⟩],rfl,hs7.ext hcb rfl ⟨hs7.kp hE8 0 _ rfl rfl,hcx,trivial⟩,fun hW8=>?_⟩
 refine gr0 (bs:=[bb,cb2]) 200 ⟨[],2,[],[],0⟩ hW8 fun w9 hE9 hW9=>?_
 have hs9:=hW9.sq [⟨45,B45 lo up hl hu⟩,⟨113,cmpS⟩]
 refine gc 22 [.fn 65 [],.ns] hW9 ?_
 refine (c22_0 w9).mono ?_
 rintro e w10 ⟨gb,rfl,hE10⟩
 have hs10:=hs9.kq hE10
 refine ⟨.agg (sliceS .np 0 (.fn 103 [.ptr ⟨gb,0,none⟩])),[],[⟨45,B45 lo up hl hu⟩,⟨113,cmpS⟩],rfl,hs10,fun hW10=>?_⟩
 refine gr1 (bs:=[bb,cb2]) 200 ⟨[],2,[],[],0⟩ hW10 fun sl w11 _ hE11 hW11=>?_
 refine gd [330,266,224,50] [] hW11 (fun hD=>?_)
 refine gr0 (bs:=[bb,cb2,sl]) 200 ⟨[],3,[],[],0⟩ hD fun w12 hE12 hW12=>?_
 have hs12:=hW12.sq [⟨45,B45 lo up hl hu⟩,⟨113,cmpS⟩,⟨95,sliceS .np 0 (.fn 103 [.ptr ⟨gb,0,none⟩])⟩]
 refine gcd 26 [.p 2 0] [330,266,224,50] w11.drew hW12 (fun hC=>?_)
 have hsl:Sat [sl] [⟨95,sliceS (o1 npV) 0 (o1 ⟨.func (.func 103) #[] #[.pointer (some ⟨gb,0,none⟩)],rfl⟩)⟩] w12:=hs12.sub [2] (by decide) (by simp) rfl ⟨hs12.memC 2 rfl (by kernel_rfl),trivial⟩
 refine (c26 sl npV ⟨.func (.func 103) #[] #[.pointer (some ⟨gb,0,none⟩)],rfl⟩ 0 w12 hsl).mono ?_
 rintro e w13 ⟨rfl,hE13⟩
 refine ⟨.agg (filesS npV ⟨.func (.func 103) #[] #[.pointer (some ⟨gb,0,none⟩)],rfl⟩),[],_,rfl,hs12.kq hE13,hC.trans (hE13.mono (by simp)),fun hW13=>?_⟩
 refine gr0 (bs:=[bb,cb2,sl]) 200 ⟨[],3,[],[],0⟩ hW13 fun w14 hE14 hW14=>?_
 have hs14:=hW14.sq [⟨45,B45 lo up hl hu⟩,⟨113,cmpS⟩,⟨95,sliceS .np 0 (.fn 103 [.ptr ⟨gb,0,none⟩])⟩]
 have hE214:Ext w2 w14:=hE27.trans (hE8.trans (hE9.trans (hE10.trans (hE11.trans (((Kept.refl [] w11).drew).trans (hE12.trans (hE13.trans hE14)))))))
 refine gcd 25 [.ptr ⟨sb,0,none⟩,.agg (optS (o1 lv) (o1 uv)),.agg (filesS npV ⟨.func (.func 103) #[] #[.pointer (some ⟨gb,0,none⟩)],rfl⟩),.it .i64 1] [330,266,224,50] w11.drew hW14 (fun hC=>?_)
 refine (c25 lv uv mg nilV vp npV ⟨.func (.func 103) #[] #[.pointer (some ⟨gb,0,none⟩)],rfl⟩ sb cb0 xb w14 (hS2.kq hE214) (hC2.kq hE214)).mono ?_
 rintro e w15 ⟨lb,rfl,hlb,hE15,hlbx⟩
 refine ⟨.ifc 236 (.ptr ⟨lb,0,none⟩),[],_,rfl,hs14.kq hE15,hC.trans (hE15.mono (by simp)),fun hW15=>?_⟩
 refine gr0 (bs:=[bb,cb2,sl]) 200 ⟨[],3,[],[],0⟩ hW15 fun w16 hE16 hW16=>?_
 have hs16:=hW16.sq [⟨45,B45 lo up hl hu⟩,⟨113,cmpS⟩,⟨95,sliceS .np 0 (.fn 103 [.ptr ⟨gb,0,none⟩])⟩]
 have hE216:Ext w2 w16:=hE214.trans (hE15.trans hE16)
 have hhe:Sat [lb] (HE (newF cb0 lb 0 lv uv ⟨xb,0,none⟩ ⟨.func (.func 103) #[] #[.pointer (some ⟨gb,0,none⟩)],rfl⟩) lv uv ⟨xb,0,none⟩ ⟨.func (.func 103) #[] #[.pointer (some ⟨gb,0,none⟩)],rfl⟩) w16:=by
  refine ⟨rfl,fun i j hi hj he=>?_,fun i ob hi=>?_,fun x hx=>?_,hs16.sz⟩
  rotate_left 2
  ·simp only [List.mem_cons,List.not_mem_nil,or_false] at hx
   subst hx
   exact Nat.le_trans hs14.sz hlb
  ·match i,j,hi,hj with
   |0,0,_,_=>rfl
  ·match i,hi with
   |0,hi=>
    cases hi
    show w16.heap[lb]? =_
    rw [hE16.blk hlbx]
    kernel_rfl
 have hit:=it_ok0 (newF cb0 lb 0 lv uv ⟨xb,0,none⟩ ⟨.func (.func 103) #[] #[.pointer (some ⟨gb,0,none⟩)],rfl⟩) lv uv ⟨xb,0,none⟩ ⟨.func (.func 103) #[] #[.pointer (some ⟨gb,0,none⟩)],rfl⟩ lb (opt hl lo) (opt hu up)
 have hKw16:Kept KTL w w16:=hE1.tr (hK2.tr hE216 (ts:=KTL)) (ts:=KTL)
 have hst16:=hst.kept hKw16 (by decide)
 obtain ⟨A2,c2,hsv,_,_⟩:=hst16.at47
 have h24:Calls Tryz.prog 24 #[.iface 236 (.pointer (some ⟨lb,0,none⟩)),.agg #[.string lo,.bool hl,.string up,.bool hu],.bool true,stv.1] w16 fun e w'=> ∃ v,e=.returned (.tuple #[v,.bool true])∧w'.ownsRow Bd.B 50 4 v steps.length ((walkP [] none steps).flatMap cells50)∧Kept [330,266,224,50] w16 w':=by
  rw [hsv] at hst16 ⊢
  cases A2 with
  |some a=>exact c24 lb lo up hl hu a steps.length c2 steps _ _ hit w16 hbn hop0 ⟨rfl,hhe⟩ hst16 rfl hns
  |none=>
   obtain ⟨h1,_,h2⟩:=sl_none hst16
   subst h1 h2
   refine (c24_0 lb lo up hl hu _ _ hit w16 ⟨rfl,hhe⟩).mono fun e w' ⟨h1,h2⟩=>⟨_,h1,World.ownsRow_nil _ _ _ _,h2.mono (by simp)⟩
 refine gcd 24 [.ifc 236 (.ptr ⟨lb,0,none⟩),.agg (B45 lo up hl hu),.bl true,o1 stv] [330,266,224,50] w11.drew hW16 (fun hC=>?_)
 refine h24.mono ?_
 rintro e w17 ⟨v,rfl,hown17,hK17⟩
 refine ⟨.tup [.oc v (own_one hown17),.bl true],[],_,rfl,hs16.kq hK17,hC.trans hK17,fun hW17=>?_⟩
 refine gr0 (bs:=[bb,cb2,sl]) 200 ⟨[],3,[],[],0⟩ hW17 fun w18 hE18 hW18=>?_
 exact gt (.tup [.oc v (own_one hown17),.bl true]) hW18.sat ⟨v,rfl,own_kept hown17 hE18 (by simp),hKw16.tr (hK17.tr hE18 (ts:=KTL)) (ts:=KTL)⟩
theorem RK.one [Bd] {α:Type} {d:Kd α} {e:Nat} {w:World} {b:Nat} {x:α} {cs:List Value} (hb:w.heap[b]? =some (.cells cs.toArray e (0,0))) (hl:cs.length=d.sz) (hM: ∀ ok:Nat→Prop,d.M w 0 ok x cs):RK d e w (.slice (some ⟨b,0,none⟩) 1 1) [x]:=by
 refine ⟨0,fun _ _=>trivial,cs,⟨by simp [hl],.inr ⟨b,1,cs.toArray,rfl,Nat.zero_le _,hb,Nat.le_refl _,by decide,by simp [hl],by simp [←hl]⟩⟩,?_⟩
 have:=Reps.snoc (Reps.none (d.M w 0 (fun k=>True∧some k≠(Value.slice (some ⟨b,0,none⟩) 1 1).ownBlock)) d.sz) (hM _) hl
 simpa using this
abbrev kA : ByteArray := "a".toUTF8
abbrev vA : ByteArray := "v".toUTF8
abbrev xA:S36:=⟨kA,1281,vA⟩
abbrev cA:List SV:=[.str kA,.it .u64 1281,.str vA]
theorem c8 [Bd] (w:World):Calls Tryz.prog 8 #[.int .u64 5,.int .u8 1] w fun e w'=>e=.returned (.int .u64 1281)∧Ext w w':=by
 go_enter Tryz.func8,Tryz.ntmps8
 go_wp2
 go_ret
 exact ⟨by kernel_rfl,by (repeat (first|exact Kept.refl _ _|apply Kept.ktr|apply Kept.kt0|apply Kept.alloc|apply Kept.drew|apply Kept.drewN))⟩
theorem run_eq50 [Bd] {T:List SV} (bs:List Nat) (w:World) (h1:(evS T (.tmp 26)).den bs=.agg #[.string kA,.int .u64 1281,.string vA,.bool true]) (h2:(evS T (.tmp 28)).den bs=.agg #[.string kA,.int .u64 1281,.string vA,.bool true]) (o:Oper) (ho:o.op=.binOp .eql 50 (.tmp 26) (.tmp 28) 50):
  (execOp (actS bs T).eval o).run Tryz.prog w=.ok (.value (.bool true)) w:=by
 have e1:(actS bs T).eval (.tmp 26)=.agg #[.string kA,.int .u64 1281,.string vA,.bool true]:=by rw [ev_den,h1]
 have e2:(actS bs T).eval (.tmp 28)=.agg #[.string kA,.int .u64 1281,.string vA,.bool true]:=by rw [ev_den,h2]
 have hg:(eqGuard .eql 50 (.tmp 26) (.tmp 28) (.agg #[.string kA,.int .u64 1281,.string vA,.bool true]) (.agg #[.string kA,.int .u64 1281,.string vA,.bool true])).run Tryz.prog w=.ok () w:=by kernel_rfl
 have hb:(binOp .eql 50 (.agg #[.string kA,.int .u64 1281,.string vA,.bool true]) (.agg #[.string kA,.int .u64 1281,.string vA,.bool true])).run Tryz.prog w=.ok (.bool true) w:=by kernel_rfl
 simp only [execOp,ho,e1,e2,Sem.run_bind,hg,hb,Result.andThen,Sem.run_pure]
theorem c7 [Bd] (w:World) (hB0:autoParam (Bd.B≤w.heap.size) sz0._auto_1):Calls Tryz.prog 7 #[] w fun e w'=>e=.returned (.bool true)∧Kept KTL w w':=by
 refine gs (bs:=[]) [] [] Tryz.func7 (sat0 w) (fun hW=>?_)
 refine gr0 200 ⟨[],0,[],[],0⟩ hW fun w1 hE1 hW1=>?_
 refine gc 8 [.it .u64 5,.it .u8 1] hW1 ?_
 refine (c8 w1).mono ?_
 rintro e w2 ⟨rfl,hE2⟩
 refine ⟨.it .u64 1281,[],[],rfl,sat0 w2,fun hW2=>?_⟩
 refine gr1 (bs:=[]) 200 ⟨[],0,[],[],0⟩ hW2 fun ab w3 _ hE3 hW3=>?_
 have hs3:=hW3.sq [⟨36,cA⟩]
 refine go_bslice 40 36 3 (.tmp 7) cA [⟨36,cA⟩] (by kernel_rfl) (by kernel_rfl) (by kernel_rfl) (by kernel_rfl) rfl (by omega) (by omega) hW3 (by kernel_rfl) (by kernel_rfl) (by kernel_rfl) (fun rb w4 hrb hE4 hW4=>?_)
 refine gr0 (bs:=[ab,rb]) 200 ⟨[],2,[],[],0⟩ hW4 fun w5 hE5 hW5=>?_
 refine go_bslice 44 43 3 (.tmp 9) [.it .u64 7,.sl ⟨rb,0,none⟩ 1 1,.ns] [⟨36,cA⟩,⟨36,cA⟩] (by kernel_rfl) (by kernel_rfl) (by kernel_rfl) (by kernel_rfl) rfl (by omega) (by omega) hW5 (by kernel_rfl) (by kernel_rfl) (by kernel_rfl) (fun tb w6 htb hE6 hW6=>?_)
 refine gr0 (bs:=[ab,rb,tb]) 200 ⟨[],3,[],[],0⟩ hW6 fun w7 hE7 hW7=>?_
 refine go_bslice 48 47 2 (.tmp 12) [.it .u8 0,.str ⟨#[]⟩] [⟨36,cA⟩,⟨36,cA⟩,⟨43,[.it .u64 7,.sl ⟨rb,0,none⟩ 1 1,.ns]⟩] (by kernel_rfl) (by kernel_rfl) (by kernel_rfl) (by kernel_rfl) rfl (by omega) (by omega) hW7 (by kernel_rfl) (by kernel_rfl) (by kernel_rfl) (fun sb w8 hsb hE8 hW8=>?_)
 refine gr0 (bs:=[ab,rb,tb,sb]) 200 ⟨[],4,[],[],0⟩ hW8 fun w9 hE9 hW9=>?_
 have hs9:=hW9.sq [⟨36,cA⟩,⟨36,cA⟩,⟨43,[.it .u64 7,.sl ⟨rb,0,none⟩ 1 1,.ns]⟩,⟨47,[.it .u8 0,.str ⟨#[]⟩]⟩]
 have hX9:Ext w w9:=hE1.trans (hE2.trans (hE3.trans (hE4.trans (hE5.trans (hE6.trans (hE7.trans (hE8.trans hE9)))))))
 refine gc 9 [.sl ⟨tb,0,none⟩ 1 1,.agg [.str ⟨#[]⟩,.bl false,.str ⟨#[]⟩,.bl false],.sl ⟨sb,0,none⟩ 1 1] hW9 ?_
 have hT9:TabsR w9 ⟨tb,0,none⟩ 1 (fun _=>7) (fun _=>.slice (some ⟨rb,0,none⟩) 1 1) (fun _=>[xA]):=by
  refine ⟨⟨_,_,hs9.mem 2 _ rfl⟩,fun i hi=>?_⟩
  obtain rfl:i=0:=by omega
  refine ⟨hs9.cell 2 43 _ rfl 0 (.it .u64 7) rfl,hs9.cell 2 43 _ rfl 1 (.sl ⟨rb,0,none⟩ 1 1) rfl,hs9.cell 2 43 _ rfl 2 .ns rfl,?_,by simp,by simp⟩
  exact RK.one (hs9.mem 1 _ rfl) rfl (fun ok=>k36_mkM _ _ _ xA)
 have hst:RK k47 47 w9 (.slice (some ⟨sb,0,none⟩) 1 1) [⟨0,⟨#[]⟩⟩]:=RK.one (hs9.mem 3 _ rfl) rfl (fun ok=>k47_mkM _ _ _ ⟨0,⟨#[]⟩⟩)
 have L:Lay 1 (fun _=>[xA]) (smP (fun _=>[xA])) (lgP (fun _=>[xA])) (opt false ⟨#[]⟩) (opt false ⟨#[]⟩):=by
  refine ⟨fun i hi=>by simp,fun i hi=>⟨xA,rfl,rfl⟩,fun i hi=>⟨xA,rfl,rfl⟩,fun i j x y hij h1 h2=>?_,fun l u h=>by cases h⟩
  have e:flatP 1 (fun _=>[xA])=[xA]:=rfl
  rw [e] at h1 h2
  have hi:=(List.getElem?_eq_some_iff.1 h1).1
  have hj:=(List.getElem?_eq_some_iff.1 h2).1
  simp only [List.length_singleton] at hi hj
  obtain rfl:i=0:=by omega
  obtain rfl:j=0:=by omega
  cases h1
  cases h2
  have:=cb_refl (Ky xA)
  show cb _ _≤0
  unfold cb
  omega
 refine (c9 ⟨#[]⟩ ⟨#[]⟩ false false ⟨tb,0,none⟩ 1 1 (fun _=>7) (fun _=>.slice (some ⟨rb,0,none⟩) 1 1) (fun _=>[xA]) ⟨.slice (some ⟨sb,0,none⟩) 1 1,rfl⟩ [⟨0,⟨#[]⟩⟩] w9 (by omega) (by omega) (fun i j hi hj _=>by omega) hT9 hst (by simp) (by simp) L (fun i j h1 h2=>by omega) (fun i hi x hx=>⟨1281,by simp only [List.mem_singleton] at hx;subst hx;rfl,by decide,by decide⟩)).mono ?_
 rintro e w10 ⟨v,rfl,hown,hK10⟩
 have hcs:(walkP (cutG (flatP 1 (fun _=>[xA])) (opt false ⟨#[]⟩) (opt false ⟨#[]⟩)) none [⟨0,⟨#[]⟩⟩]).flatMap cells50=[.string kA,.int .u64 1281,.string vA,.bool true]:=rfl
 rw [hcs] at hown
 rcases hown.2 with ⟨_,h⟩|⟨g,cap,cur,rfl,hbg,hg,hnc,_⟩
 ·exact absurd h (by decide)
 have hcell:=hown.cells (g:=g) rfl
 have hs10:=hs9.kq hK10
 refine ⟨.tup [.sl ⟨g,0,none⟩ 1 cap,.bl true],[],_,rfl,hs10,fun hW10=>?_⟩
 refine gr0 (bs:=[ab,rb,tb,sb]) 200 ⟨[],4,[],[],0⟩ hW10 fun w11 hE11 hW11=>?_
 refine gd [] [] hW11 (fun hD=>?_)
 refine gr0 (bs:=[ab,rb,tb,sb]) 200 ⟨[],4,[],[(21,true)],0⟩ hD (fun w12 hE12 hW12=>?_) [(true,true),(true,true),(true,true)] ⟨rfl,rfl,rfl,trivial⟩
 refine go_hloadA 9 50 (.tmp 25) [] w11.drew ⟨g,0,none⟩ [.str kA,.it .u64 1281,.str vA,.bl true] [⟨36,cA⟩,⟨36,cA⟩,⟨43,[.it .u64 7,.sl ⟨rb,0,none⟩ 1 1,.ns]⟩,⟨47,[.it .u8 0,.str ⟨#[]⟩]⟩] (by kernel_rfl) (by kernel_rfl) (by kernel_rfl) (by kernel_rfl) (by kernel_rfl) hW12 (by kernel_rfl) (fun w' hC=>?_) (fun hW12b=>?_)
 ·have hx:Ext w10 w':=hE11.trans (((Kept.refl [] w11).drew).trans hC)
  intro k y hk
  match k,hk with
  |0,hk=>cases hk;exact hx.cell (hcell 0 (.string kA) rfl)
  |1,hk=>cases hk;exact hx.cell (hcell 1 (.int .u64 1281) rfl)
  |2,hk=>cases hk;exact hx.cell (hcell 2 (.string vA) rfl)
  |3,hk=>cases hk;exact hx.cell (hcell 3 (.bool true) rfl)
 refine gr0 (bs:=[ab,rb,tb,sb]) 200 ⟨[],4,[],[],0⟩ hW12b fun w13 hE13 hW13=>?_
 clear hW12b hW12
 have hs13:=hW13.sq [⟨36,cA⟩,⟨36,cA⟩,⟨43,[.it .u64 7,.sl ⟨rb,0,none⟩ 1 1,.ns]⟩,⟨47,[.it .u8 0,.str ⟨#[]⟩]⟩]
 refine go_opD (.binOp .eql 50 (.tmp 26) (.tmp 28) 50) [] w11.drew (by kernel_rfl) (by kernel_rfl) hW13 w13 (.bl true) [] [⟨36,cA⟩,⟨36,cA⟩,⟨43,[.it .u64 7,.sl ⟨rb,0,none⟩ 1 1,.ns]⟩,⟨47,[.it .u8 0,.str ⟨#[]⟩]⟩] _ (fun o ho=>run_eq50 [ab,rb,tb,sb] w13 (by kernel_rfl) (by kernel_rfl) o ho) (.inl rfl) hs13 (fun h=>h) (fun hW13b=>?_)
 refine gr0 (bs:=[ab,rb,tb,sb]) 200 ⟨[],4,[],[],0⟩ hW13b fun w14 hE14 hW14=>?_
 clear hW13b
 exact gt (.bl true) hW14.sat ⟨rfl,hX9.tr (hK10.tr (hE11.trans (((Kept.refl [] w11).drew).trans (hE12.trans (hE13.trans hE14)))) (ts:=KTL)) (ts:=KTL)⟩
end Go.Proofs.YtghppnklhbbffaaGreatDoor.X
