/- Part 11 of the proof that laws.FnTreeLevel answers true, for arguments of small bulk. -/
import Derived.Test.YtghppnklhbbffaaGreatDoorR05
import Derived.Test.YtghppnklhbbffaaGreatDoorR10
import Derived.Test.YtghppnklhbbffaaGreatDoorR04
import Derived.Test.YtghppnklhbbffaaGreatDoorR01
import Derived.Laws.IdiomStrings
set_option linter.all false
set_option maxHeartbeats 4000000
set_option maxRecDepth 100000
namespace Go.Proofs.YtghppnklhbbffaaGreatDoor.X
open Go Go.RowKit Go.Proofs.YtghppnklhbbffaaGreatDoor.TL
abbrev k7_0 (g:FuncId) (capv:Array Value):List SB:=[⟨214,[.np,.nf]⟩,⟨95,iterS .np .np 0 .nf++[.it .i64 0,.np,.np]⟩,⟨214,[.np,.oc (.func (.func g) #[] capv) rfl]⟩]
theorem c61_0 [Bd] (g:FuncId) (capv:Array Value) (w:World) (hB0:autoParam (Bd.B≤w.heap.size) sz0._auto_1):Calls Tryz.prog 61 #[.func (.func g) #[] capv,.slice none 0 0] w fun e w'=>e=.returned (.tuple #[.agg #[.pointer none,.func (.func g) #[] capv],.agg (sliceV (.pointer none) 0 (.func (.func g) #[] capv))])∧Ext w w':=by
 refine gs (bs:=[]) [.oc (.func (.func g) #[] capv) rfl,.ns] [] Tryz.func61 (sat0 w) (fun hW=>?_)
 refine go_runA 200 ⟨[],0,[],[],2⟩ (by kernel_rfl) hW (Fr.refl _ _ _) rfl [] (by kernel_rfl) trivial ?_
 intro nw w1 hF hW1
 obtain ⟨b1,b2,b3,rfl⟩:=nw3 (hW1.num 3 (by kernel_rfl)) rfl
 refine gd [] [3] hW1 (fun hW2=>?_)
 refine ga0 200 ⟨[],0,[],[],0⟩ hW2 hF.drew fun w3 hF3 hW3=>?_
 have hs3:=hW3.satE (k7_0 g capv) (by kernel_rfl)
 refine gcd 102 [.p 2 0] [] w1.drew hW3 (fun hC3=>?_)
 refine (c102 b3 (.pointer none) (.func (.func g) #[] capv) rfl rfl w3 (Sat.add0 214 _ (hs3.mem 2 _ rfl))).mono ?_
 rintro e w4 ⟨rfl,hE4⟩
 have hs4:=hs3.kq hE4
 refine ⟨.agg (iterS .np .np (-1) (.oc (.func (.func g) #[] capv) rfl)),[],_,rfl,hs4,?_,fun hW4=>?_⟩
 ·exact hC3.trans hE4
 refine ga0 200 ⟨[],0,[],[],0⟩ hW4 (hF3.call hE4) fun w5 hF5 hW5=>?_
 have hs5:=hW5.satE (k7_0 g capv) (by kernel_rfl)
 refine gcd 101 [.agg (iterS .np .np (-1) (.oc (.func (.func g) #[] capv) rfl))] [] w1.drew hW5 (fun hC5=>?_)
 refine (c101_0 (.func (.func g) #[] capv) rfl w5).mono ?_
 rintro e w6 ⟨rfl,hE6⟩
 refine ⟨.agg (sliceS .np 0 (.oc (.func (.func g) #[] capv) rfl)),[],_,rfl,hs5.kq hE6,hC5.trans hE6,fun hW6=>?_⟩
 refine ga0 200 ⟨[],0,[],[],0⟩ hW6 (hF5.call hE6) fun w7 hF7 hW7=>?_
 exact gt (.tup [.agg [.np,.oc (.func (.func g) #[] capv) rfl],.agg (sliceS .np 0 (.oc (.func (.func g) #[] capv) rfl))]) hW7.sat ⟨rfl,hF7.kept⟩
theorem wrap_succ [Bd] (j:Nat) (h:j < 2^62):IntKind.i64.wrap ((j:Int)+1)=((j+1:Nat):Int):=
 (IntWalk.i64_in _ (by omega)).trans (by omega)
theorem updF_self [Bd] (fm:Nat→Addr) (j:Nat):updF fm j (fm j)=fm:=by
 funext i
 unfold updF
 cases h:Nat.beq i j
 ·rfl
 ·obtain rfl:=Nat.eq_of_beq_eq_true h;rfl
abbrev flA (fl:Nat→Nat):Nat→Addr:=fun i=>⟨fl i,0,none⟩
abbrev fnS (g:FuncId) (capv:Array Value):SV:=.oc (.func (.func g) #[] capv) rfl
noncomputable def S61 (g:FuncId) (capv:Array Value) (A:Addr) (n c:Nat):ST:=runS Tryz.prog ⟨[],0,[],[],0⟩ 200 (startS Tryz.f61 [fnS g capv,.sl A n c] [])
noncomputable def T61 (g:FuncId) (capv:Array Value) (A:Addr) (n c:Nat) (j:Int) (xs:Nat→Value):List SV:=hav [8,14,15,16,17,18,19] xs ((S61 g capv A n c).T.set 13 (.si .i64 j))
def H61a (g:FuncId) (capv:Array Value):List SB:=[⟨214,[.np,.nf]⟩,⟨95,iterS .np .np 0 .nf++[.it .i64 0,.np,.np]⟩,⟨214,[.np,fnS g capv]⟩]
def H61b (g:FuncId) (capv:Array Value) (fl:Nat→Nat) (j:Nat):List SB:=[⟨214,[.np,.nf]⟩,⟨95,iterS .np .np 0 .nf++[.it .i64 0,.np,.np]⟩,⟨214,[.p 3 0,fnS g capv]⟩,⟨360,nodeC j (flA fl)⟩]
def J61 [Bd] (g:FuncId) (capv:Array Value) (A:Addr) (n c:Nat) (fl:Nat→Nat) (w0:World) (b1 b2 b3:Nat) (m:Nat) (bs:List Nat) (T:List SV) (H:List SB) (w:World):Prop:=
 ∃ (j:Nat) (xs:Nat→Value),j≤n∧m+j=n∧T=T61 g capv A n c j xs∧Fr [214,360,311] w0 [] bs w∧Rb w0 w∧((j=0∧bs=[b1,b2,b3]∧H=H61a g capv)∨(1≤j∧ ∃ nb,bs=[b1,b2,b3,nb]∧H=H61b g capv fl j))
def Post61 [Bd] (g:FuncId) (capv:Array Value) (n:Nat) (fl:Nat→Nat) (w:World) (e:Ending) (w':World):Prop:=
 ∃ nb,w.heap.size≤nb∧e=.returned (.tuple #[.agg #[.pointer (some ⟨nb,0,none⟩),.func (.func g) #[] capv],.agg (sliceV (.pointer (some ⟨nb,0,none⟩)) n (.func (.func g) #[] capv))])∧Sat [nb] [⟨360,nodeC n (flA fl)⟩] w'∧Kept [214,360,311] w w'∧Rb w w'
theorem c61 [Bd] (g:FuncId) (capv:Array Value) (A:Addr) (n c:Nat) (fl:Nat→Nat) (w:World) (hg:bodyB Tryz.prog g=true) (hn1:1≤n) (hn:n≤10)
  (hfiles: ∀ i,i < n→ ∀ w',Kept [214,360,311] w w'→w'.cell? (A.add i)=some (.pointer (some ⟨fl i,0,none⟩))) (hfb: ∀ i,i < n→FB w (fl i))
  (hcmp: ∀ i j,i < j→j < n→ ∀ w',Kept [214,360,311] w w'→Calls Tryz.prog g (#[.pointer (some ⟨fl j,0,none⟩),.pointer (some ⟨fl i,0,none⟩)]++capv) w' fun e w''=> ∃ r:Int,0 < r∧e=.returned (.int .i64 r)∧Ext w' w'') (hB0:autoParam (Bd.B≤w.heap.size) sz0._auto_1):
  Calls Tryz.prog 61 #[.func (.func g) #[] capv,.slice (some A) n c] w (Post61 g capv n fl w):=by
 refine gs (bs:=[]) [fnS g capv,.sl A n c] [] Tryz.func61 (sat0 w) (fun hW=>?_)
 refine go_runA 200 ⟨[],0,[],[],0⟩ (by kernel_rfl) hW (Fr.refl _ _ _) rfl [] (by kernel_rfl) trivial ?_
 intro nw w1 hF hW1
 obtain ⟨b1,b2,b3,rfl⟩:=nw3 (hW1.num 3 (by kernel_rfl)) rfl
 refine go_loop (s:=S61 g capv A n c) (bs:=[b1,b2,b3]) (J61 g capv A n c fl w b1 b2 b3) n (by kernel_rfl) hW1 (fun xs=>T61 g capv A n c 0 xs) (H61a g capv) (by kernel_rfl) (by kernel_rfl) (fun xs=>⟨0,xs,by omega,by omega,rfl,hF.mono,Rb.of_kept hF.kept,.inl ⟨rfl,rfl,rfl⟩⟩) ?_ ?_
 ·rintro m bs' T H w' ⟨j,xs,_,_,_,_,_,(⟨_,rfl,_⟩|⟨_,nb,rfl,_⟩)⟩
  ·exact ⟨[],rfl⟩
  ·exact ⟨[nb],rfl⟩
 ·rintro m bs' T H w' ⟨j,xs,hj,hm,rfl,hF',hR',hcase⟩ hW'
  by_cases hlt:j < n
  ·rcases hcase with ⟨rfl,rfl,rfl⟩|⟨hj1,nb,rfl,rfl⟩
   ·
    refine go_run (s:=bodyS (S61 g capv A n c) (Hand (J61 g capv A n c fl w b1 b2 b3) m) (T61 g capv A n c 0 xs) (H61a g capv)) (bs:=[b1,b2,b3]) 200 ⟨[],3,[],[(14,true)],0⟩ (by kernel_rfl) hW' rfl [(decide (((0:Nat):Int) < n),true),(decide ((0:Int)≤((0:Nat):Int)),true),(decide (((0:Nat):Int) < n),true)] (by kernel_rfl) ⟨by simpa using hlt,by simp,by simpa using hlt,trivial⟩ ?_
    intro nw w2 _ hK2 hW2
    obtain rfl:=nw0 (hW2.num 3 (by kernel_rfl)) rfl
    have hF2:=hF'.call (nw:=[]) hK2
    refine go_load 79 (.tmp 15) (A.add (((0:Nat):Int).toNat*1)) (.ptr ⟨fl 0,0,none⟩) (H61a g capv) (by kernel_rfl) (by kernel_rfl) (by kernel_rfl) hW2 (by kernel_rfl) (by have:=hfiles 0 hlt w2 hF2.kept;simpa [SV.den] using this) (fun hW3=>?_)
    refine gr0 (bs:=[b1,b2,b3]) 200 ⟨[],3,[],[],0⟩ hW3 fun w3 hK3 hW3=>?_
    have hF3:=hF2.call (nw:=[]) hK3
    have hR3:Rb w w3:=hR'.trans ((Rb.of_kept hK2).trans (Rb.of_kept hK3))
    have hs3:=hW3.satE (H61a g capv) (by kernel_rfl)
    refine gc 100 [.p 2 0,.ptr ⟨fl 0,0,none⟩] hW3 ?_
    refine (c100_0 g capv (fl 0) (flA fl) b3 b1 (.pointer none) .nilFunc rfl rfl w3 hg (hs3.two 2 0 (by decide) (by simp) (by simp) 214 [.np,fnS g capv] 214 [.oc (.pointer none) rfl,.oc .nilFunc rfl] (hs3.mem 2 _ rfl) (hs3.mem 0 _ rfl)) (hR3 _ (hfb 0 hlt)) (fun i hi=>absurd hi (by omega))).mono ?_
    rintro e w4 ⟨nb,hnb,rfl,hs4,hK4,hR4⟩
    rw [updF_self (flA fl) 0] at hs4
    have hs4':Sat [b1,b2,b3,nb] (H61b g capv fl 1) w4:=by
     have hb2:w4.heap[b2]? =_:=(hK4.block b2 (solid_of (hs3.mem 1 _ rfl) (by decide))).trans (hs3.mem 1 ⟨95,iterS .np .np 0 .nf++[.it .i64 0,.np,.np]⟩ rfl)
     exact hs3.ext hnb rfl ⟨hs4.mem 1 _ rfl,hb2,hs4.mem 0 _ rfl,blk_any (hs4.mem 2 _ rfl) (by kernel_rfl),trivial⟩
    refine ⟨.ni,[nb],_,rfl,hs4',fun hW4=>?_⟩
    refine gr0 (bs:=[b1,b2,b3,nb]) 200 ⟨[],4,[],[],0⟩ hW4 fun w5 hK5 hW5=>?_
    have hF5:=(hF3.call (nw:=[nb]) hK4 (by simp) (by simpa using hnb)).call (nw:=[]) hK5
    have hs5:=hW5.satE (H61b g capv fl (0+1)) (by kernel_rfl)
    refine go_fin (Hand (J61 g capv A n c fl w b1 b2 b3) m) (by kernel_rfl) (fun xs=>T61 g capv A n c ((0+1:Nat):Int) xs) (by kernel_rfl) (fun xs=>?_)
    exact ⟨m - 1,by omega,_,_,_,rfl,hs5,0+1,xs,by omega,by omega,rfl,hF5,hR3.trans (hR4.trans (Rb.of_kept hK5)),.inr ⟨by omega,nb,rfl,rfl⟩⟩
   ·
    refine go_run (s:=bodyS (S61 g capv A n c) (Hand (J61 g capv A n c fl w b1 b2 b3) m) (T61 g capv A n c j xs) (H61b g capv fl j)) (bs:=[b1,b2,b3,nb]) 200 ⟨[],4,[],[(14,true)],0⟩ (by kernel_rfl) hW' rfl [(decide (((j:Nat):Int) < n),true),(decide ((0:Int)≤((j:Nat):Int)),true),(decide (((j:Nat):Int) < n),true)] (by kernel_rfl) ⟨by simpa using hlt,by simp,by simpa using hlt,trivial⟩ ?_
    intro nw w2 _ hK2 hW2
    obtain rfl:=nw0 (hW2.num 4 (by kernel_rfl)) rfl
    have hF2:=hF'.call (nw:=[]) hK2
    refine go_load 79 (.tmp 15) (A.add (((j:Nat):Int).toNat*1)) (.ptr ⟨fl j,0,none⟩) (H61b g capv fl j) (by kernel_rfl) (by kernel_rfl) (by kernel_rfl) hW2 (by kernel_rfl) (by have:=hfiles j hlt w2 hF2.kept;simpa [SV.den] using this) (fun hW3=>?_)
    refine gr0 (bs:=[b1,b2,b3,nb]) 200 ⟨[],4,[],[],0⟩ hW3 fun w3 hK3 hW3=>?_
    have hF3:=hF2.call (nw:=[]) hK3
    have hR3:Rb w w3:=hR'.trans ((Rb.of_kept hK2).trans (Rb.of_kept hK3))
    have hs3:=hW3.satE (H61b g capv fl j) (by kernel_rfl)
    refine gc 100 [.p 2 0,.ptr ⟨fl j,0,none⟩] hW3 ?_
    refine (c100 j hj1 (by omega) g capv (fl j) (flA fl) b3 b1 nb (.pointer none) .nilFunc rfl rfl w3 hg (hs3.sub [2,0,3] (by decide) (by simp) rfl ⟨hs3.mem 2 _ rfl,hs3.mem 0 _ rfl,blk_any (hs3.mem 3 ⟨360,nodeC j (flA fl)⟩ rfl) (by kernel_rfl),trivial⟩) (hR3 _ (hfb j hlt)) (fun i hi w5 h5=>hcmp i j hi hlt w5 (hF3.kept.trans h5))).mono ?_
    rintro e w4 ⟨rfl,hs4,hK4,hR4⟩
    rw [updF_self (flA fl) j] at hs4
    have hs4':Sat [b1,b2,b3,nb] (H61b g capv fl (j+1)) w4:=by
     have hb2:w4.heap[b2]? =_:=(hK4.block b2 (solid_of (hs3.mem 1 _ rfl) (by decide))).trans (hs3.mem 1 ⟨95,iterS .np .np 0 .nf++[.it .i64 0,.np,.np]⟩ rfl)
     exact hs3.re rfl ⟨hs4.mem 1 _ rfl,hb2,hs4.mem 0 _ rfl,blk_any (hs4.mem 2 _ rfl) (by kernel_rfl),trivial⟩
    refine ⟨.ni,[],_,rfl,hs4',fun hW4=>?_⟩
    refine gr0 (bs:=[b1,b2,b3,nb]) 200 ⟨[],4,[],[],0⟩ hW4 fun w5 hK5 hW5=>?_
    have hF5:=(hF3.call (nw:=[]) hK4).call (nw:=[]) hK5
    have hs5:=hW5.satE (H61b g capv fl (j+1)) (by kernel_rfl)
    refine go_fin (Hand (J61 g capv A n c fl w b1 b2 b3) m) (by kernel_rfl) (fun xs=>T61 g capv A n c (IntKind.i64.wrap ((j:Int)+1)) xs) (by kernel_rfl) (fun xs=>?_)
    rw [wrap_succ j (by omega)]
    exact ⟨m - 1,by omega,_,_,_,rfl,hs5,j+1,xs,by omega,by omega,rfl,hF5,hR3.trans (hR4.trans (Rb.of_kept hK5)),.inr ⟨by omega,nb,rfl,rfl⟩⟩
  ·obtain rfl:j=n:=by omega
   rcases hcase with ⟨h0,_,_⟩|⟨hj1,nb,rfl,rfl⟩
   ·omega
   refine go_run (s:=bodyS (S61 g capv A j c) (Hand (J61 g capv A j c fl w b1 b2 b3) m) (T61 g capv A j c j xs) (H61b g capv fl j)) (bs:=[b1,b2,b3,nb]) 200 ⟨[],4,[],[(14,false)],0⟩ (by kernel_rfl) hW' rfl [(decide ((j:Int) < j),false)] (by kernel_rfl) ⟨by simp,trivial⟩ ?_
   intro nw w2 _ hK2 hW2
   obtain rfl:=nw0 (hW2.num 4 (by kernel_rfl)) rfl
   have hF2:=hF'.call (nw:=[]) hK2
   refine gd [] [3] hW2 (fun hW3=>?_)
   refine gr0 (bs:=[b1,b2,b3,nb]) 200 ⟨[],4,[],[],0⟩ hW3 fun w3 hK3 hW3=>?_
   have hs3:=hW3.satE (H61b g capv fl j) (by kernel_rfl)
   refine gcd 102 [.p 2 0] [] w2.drew hW3 (fun hC3=>?_)
   refine (c102 b3 (.pointer (some ⟨nb,0,none⟩)) (.func (.func g) #[] capv) rfl rfl w3 (Sat.add0 214 _ (hs3.mem 2 _ rfl))).mono ?_
   rintro e w4 ⟨rfl,hE4⟩
   have hs4:=hs3.kq hE4
   refine ⟨.agg (iterS (.p 3 0) .np (-1) (fnS g capv)),[],_,rfl,hs4,hC3.trans hE4,fun hW4=>?_⟩
   refine gr0 (bs:=[b1,b2,b3,nb]) 200 ⟨[],4,[],[],0⟩ hW4 fun w5 hK5 hW5=>?_
   have hs5:=hW5.satE (H61b g capv fl j) (by kernel_rfl)
   refine gcd 101 [.agg (iterS (.p 3 0) .np (-1) (fnS g capv))] [] w2.drew hW5 (fun hC5=>?_)
   refine (c101 j nb (flA fl) (.func (.func g) #[] capv) rfl w5 (Sat.add0 360 _ (blk_any (hs5.mem 3 _ rfl) (by kernel_rfl)))).mono ?_
   rintro e w6 ⟨rfl,hE6⟩
   refine ⟨.agg (sliceS (.p 3 0) j (fnS g capv)),[],_,rfl,hs5.kq hE6,hC5.trans hE6,fun hW6=>?_⟩
   have hE26:Ext w2 w6:=(((Kept.refl [] w2).drew.trans hK3).trans hE4).trans (hK5.trans hE6)
   have hF6:Fr [214,360,311] w [] [b1,b2,b3,nb] w6:=hF2.call (nw:=[]) hE26
   refine gg0 (bs:=[b1,b2,b3,nb]) 200 ⟨[95,214,4000000],4,[],[],0⟩ hW6 fun w7 hK7 hN7 hW7=>?_
   have hs7:=hW7.satE [⟨214,[.p 3 0,fnS g capv]⟩,⟨95,sliceS (.p 3 0) j (fnS g capv)⟩,⟨214,[.p 3 0,fnS g capv]⟩,⟨360,nodeC j (flA fl)⟩] (by kernel_rfl)
   refine gt (.tup [.agg [.p 3 0,fnS g capv],.agg (sliceS (.p 3 0) j (fnS g capv))]) hW7.sat ?_
   refine ⟨nb,hF6.lo (nw:=[b1,b2,b3,nb]) nb (by simp),rfl,Sat.add0 360 _ (blk_any (hs7.mem 3 _ rfl) (by kernel_rfl)),(hF6.callNew hK7 hN7).kept,hR'.trans ((Rb.of_kept hK2).trans ((Rb.of_kept hE26).trans (Rb.of_kept hK7)))⟩
theorem RdS.one [Bd] {w:World} {v:Value} {s:List UInt8} (h:RdS w v s):v.oneCell'=true:=by
 obtain ⟨b,o,c,cs,f,rfl,_⟩:=h;rfl
def icmp (s1:List UInt8) (t1:Int) (s2:List UInt8) (t2:Int):Int:=if Lib.compareBytes s1 s2≠0 then Lib.compareBytes s1 s2 else if t1>t2 then -1 else if t1 < t2 then 1 else 0
theorem c94 [Bd] (u1 u2:Value) (s1 s2:List UInt8) (t1 t2:Int) (w:World) (h1:RdS w u1 s1) (h2:RdS w u2 s2) (hB0:autoParam (Bd.B≤w.heap.size) sz0._auto_1):
  Calls Tryz.prog 94 #[fnv 65,.agg #[u1,.int .u64 t1],.agg #[u2,.int .u64 t2]] w fun e w'=>e=.returned (.int .i64 (icmp s1 t1 s2 t2))∧Ext w w':=by
 refine gs (bs:=[]) [.fn 65 [],.agg [.oc u1 (RdS.one h1),.si .u64 t1],.agg [.oc u2 (RdS.one h2),.si .u64 t2]] [] Tryz.func94 (sat0 w) (fun hW=>?_)
 refine go_runA 200 ⟨[],0,[],[],0⟩ (by kernel_rfl) hW (Fr.refl _ _ _) rfl [] (by kernel_rfl) trivial ?_
 intro nw w1 hF hW1
 obtain ⟨b1,b2,rfl⟩:=nw2 (hW1.num 2 (by kernel_rfl)) rfl
 refine gc 65 [.oc u1 (RdS.one h1),.oc u2 (RdS.one h2)] hW1 ?_
 refine (compare_any u1 u2 s1 s2 w1 (h1.kept hF.kept (by simp)) (h2.kept hF.kept (by simp))).mono ?_
 rintro e w2 ⟨rfl,rfl⟩
 refine ⟨.si .i64 (Lib.compareBytes s1 s2),[],[⟨182,[.oc u1 (RdS.one h1),.si .u64 t1]⟩,⟨182,[.oc u2 (RdS.one h2),.si .u64 t2]⟩],rfl,hW1.satE _ (by kernel_rfl),fun hW2=>?_⟩
 by_cases hc:Lib.compareBytes s1 s2=0
 ·by_cases hg:t1>t2
  ·refine go_runA (bs:=[b1,b2]) 200 ⟨[],0,[],[(15,false),(21,true)],0⟩ (by kernel_rfl) hW2 hF rfl [(Lib.compareBytes s1 s2 !=0,false),(decide (t1>t2),true)] (by kernel_rfl) ⟨by simp [hc],by simp [hg],trivial⟩ ?_
   intro nw w3 hF3 hW3
   refine gt (.it .i64 (-1)) hW3.sat ⟨?_,hF3.kept⟩
   rw [icmp,if_neg (by simp [hc]),if_pos hg];rfl
  ·by_cases hl:t1 < t2
   ·refine go_runA (bs:=[b1,b2]) 200 ⟨[],0,[],[(15,false),(21,false),(26,true)],0⟩ (by kernel_rfl) hW2 hF rfl [(Lib.compareBytes s1 s2 !=0,false),(decide (t1>t2),false),(decide (t1 < t2),true)] (by kernel_rfl) ⟨by simp [hc],by simp [hg],by simp [hl],trivial⟩ ?_
    intro nw w3 hF3 hW3
    refine gt (.it .i64 1) hW3.sat ⟨?_,hF3.kept⟩
    rw [icmp,if_neg (by simp [hc]),if_neg hg,if_pos hl];rfl
   ·refine go_runA (bs:=[b1,b2]) 200 ⟨[],0,[],[(15,false),(21,false),(26,false)],0⟩ (by kernel_rfl) hW2 hF rfl [(Lib.compareBytes s1 s2 !=0,false),(decide (t1>t2),false),(decide (t1 < t2),false)] (by kernel_rfl) ⟨by simp [hc],by simp [hg],by simp [hl],trivial⟩ ?_
    intro nw w3 hF3 hW3
    refine gt (.it .i64 0) hW3.sat ⟨?_,hF3.kept⟩
    rw [icmp,if_neg (by simp [hc]),if_neg hg,if_neg hl];rfl
 ·refine go_runA (bs:=[b1,b2]) 200 ⟨[],0,[],[(15,true)],0⟩ (by kernel_rfl) hW2 hF rfl [(Lib.compareBytes s1 s2 !=0,true)] (by kernel_rfl) ⟨by simp [hc],trivial⟩ ?_
  intro nw w3 hF3 hW3
  refine gt (.si .i64 (Lib.compareBytes s1 s2)) hW3.sat ⟨?_,hF3.kept⟩
  rw [icmp,if_pos hc];rfl
structure FM where
 id:Int
 lo:Int
 hi:Int
 fb:Nat
 u1:Value
 u2:Value
 h1:u1.oneCell'=true
 h2:u2.oneCell'=true
 t1:Int
 t2:Int
abbrev z64:SV:=.it .u64 0
abbrev zi:SV:=.it .i64 0
def fmG (id lo hi fb u1 t1 u2 t2 v1 s1 v2 s2:SV) (p b:Bool) (k:Int):List SV:=
 [zi,.it .u32 0,fb,zi,id,.it .u64 1,zi,lo,hi,u1,t1,u2,t2,.ns,z64,.ns,z64,v1,s1,v2,s2,z64,z64,z64,z64,z64,z64,zi,zi,zi,zi,.bl false,.it .u8 0,.bl false,.bl p,.bl false,.bl b,.it .u8 k,.it .u8 k,.bl false]
def FM.k1 (m:FM):List SV:=[.oc m.u1 m.h1,.si .u64 m.t1]
def fmS (m:FM):List SV:=fmG (.si .u64 m.id) (.si .u64 m.lo) (.si .u64 m.hi) (.ptr ⟨m.fb,0,none⟩) (.oc m.u1 m.h1) (.si .u64 m.t1) (.oc m.u2 m.h2) (.si .u64 m.t2) (.oc m.u1 m.h1) (.si .u64 m.t1) (.oc m.u2 m.h2) (.si .u64 m.t2) true true 1
theorem c104 [Bd] (f1 f2:Nat) (m1 m2:FM) (s1 s2:List UInt8) (w:World) (h1:RdS w m1.u1 s1) (h2:RdS w m2.u1 s2) (hs:Sat [f1,f2] [⟨188,fmS m1⟩,⟨188,fmS m2⟩] w):
  Calls Tryz.prog 104 #[.pointer (some ⟨f1,0,none⟩),.pointer (some ⟨f2,0,none⟩),fnv 65] w fun e w'=>e=.returned (.int .i64 (icmp s1 m1.t1 s2 m2.t1))∧Ext w w':=by
 refine gs (bs:=[f1,f2]) [.p 0 0,.p 1 0,.fn 65 []] _ Tryz.func104 hs (fun hW=>?_)
 refine ga0 200 ⟨[],2,[],[],0⟩ hW (Fr.refl _ _ _) fun w1 hF hW1=>?_
 refine gd [] [] hW1 (fun hW2=>?_)
 refine ga0 (bs:=[f1,f2]) 200 ⟨[],2,[],[],0⟩ hW2 hF.drew fun w3 hF3 hW3=>?_
 refine gcd 94 [.fn 65 [],.agg m1.k1,.agg m2.k1] [] w1.drew hW3 (fun hC=>?_)
 refine (c94 m1.u1 m2.u1 s1 s2 m1.t1 m2.t1 w3 (h1.kept hF3.kept (by simp)) (h2.kept hF3.kept (by simp))).mono ?_
 rintro e w4 ⟨rfl,hE4⟩
 refine ⟨.si .i64 (icmp s1 m1.t1 s2 m2.t1),[],_,rfl,hs.kq (hF3.kept.trans hE4),hC.trans hE4,fun hW4=>?_⟩
 refine go_runA (bs:=[f1,f2]) 200 ⟨[],2,[],[],0⟩ (by kernel_rfl) hW4 (hF3.call (nw:=[]) hE4) rfl [] (by kernel_rfl) trivial ?_
 intro nw w5 hF5 hW5
 exact gt (.si .i64 (icmp s1 m1.t1 s2 m2.t1)) hW5.sat ⟨rfl,hF5.kept⟩
theorem c103 [Bd] (f1 f2 gb:Nat) (m1 m2:FM) (s1 s2:List UInt8) (w:World) (h1:RdS w m1.u1 s1) (h2:RdS w m2.u1 s2) (hs:Sat [f1,f2,gb] [⟨188,fmS m1⟩,⟨188,fmS m2⟩,⟨98,[.fn 65 []]⟩] w):
  Calls Tryz.prog 103 #[.pointer (some ⟨f1,0,none⟩),.pointer (some ⟨f2,0,none⟩),.pointer (some ⟨gb,0,none⟩)] w fun e w'=>e=.returned (.int .i64 (icmp s1 m1.t1 s2 m2.t1))∧Ext w w':=by
 refine gs (bs:=[f1,f2,gb]) [.p 0 0,.p 1 0,.p 2 0] _ Tryz.func103 hs (fun hW=>?_)
 refine ga0 200 ⟨[],3,[],[],0⟩ hW (Fr.refl _ _ _) fun w1 hF hW1=>?_
 have hs1:=hs.keep hF.kept (by kernel_rfl)
 refine gc 104 [.p 0 0,.p 1 0,.fn 65 []] hW1 ?_
 refine (c104 f1 f2 m1 m2 s1 s2 w1 (h1.kept hF.kept (by simp)) (h2.kept hF.kept (by simp)) (hs1.sub [0,1] (by decide) (by simp) rfl ⟨blk_any (hs1.mem 0 _ rfl) (by kernel_rfl),blk_any (hs1.mem 1 _ rfl) (by kernel_rfl),trivial⟩)).mono ?_
 rintro e w2 ⟨rfl,hE2⟩
 refine ⟨.si .i64 (icmp s1 m1.t1 s2 m2.t1),[],_,rfl,hs1.kq hE2,fun hW2=>?_⟩
 refine go_runA (bs:=[f1,f2,gb]) 200 ⟨[],3,[],[],0⟩ (by kernel_rfl) hW2 (hF.call (nw:=[]) hE2) rfl [] (by kernel_rfl) trivial ?_
 intro nw w3 hF3 hW3
 exact gt (.si .i64 (icmp s1 m1.t1 s2 m2.t1)) hW3.sat ⟨rfl,hF3.kept⟩
theorem Fr.kf [Bd] {ts:List TypeId} {w0 w:World} {bs0 bs:List Nat} {H:List SB} (h:Fr ts w0 bs0 bs w) (hs:Sat bs0 H w0) (us:List TypeId) (hH:outH [4000000] H=true) (hts: ∀ t∈ts,t∈us∨t=4000000:=by simp) (hm:4000000∈ts:=by simp):Kept us w0 w∧Far bs0 w0 w:=by
 refine ⟨⟨h.kept.os,h.kept.tape,h.kept.output,h.kept.size,fun k hk=>?_,h.kept.ty⟩,h.far hm⟩
 by_cases hb:k∈bs0
 ·refine h.kept.block k ?_
  obtain ⟨i,hi,rfl⟩:=List.getElem_of_mem hb
  obtain ⟨ob,ho⟩:=hs.lt hi
  have hmm:=hs.mem i ob ho
  rw [nmB_get hi] at hmm
  refine solid_of hmm fun ht=>?_
  obtain ⟨o,ho',hn⟩:=hk
  rw [hmm] at ho'
  cases ho'
  rcases hts _ ht with h1|h1
  ·exact hn (hs.lo _ (List.getElem_mem hi)) _ _ _ rfl h1
  ·exact outH_get hH ho (by simp [h1])
 ·exact h.far hm k hk.lt hb
abbrev V1:={ v:Value // v.oneCell'=true }
abbrev o1 (v:V1):SV:=.oc v.1 v.2
theorem c95 [Bd] (f:Nat) (id lo hi fb u1 u2 v1 s1 v2 s2:V1) (t1 t2:Int) (w:World)
  (hs:Sat [f] [⟨188,fmG (o1 id) (o1 lo) (o1 hi) (o1 fb) (o1 v1) (o1 s1) (o1 v2) (o1 s2) .ns z64 .ns z64 true false 0⟩] w):
  Calls Tryz.prog 95 #[.pointer (some ⟨f,0,none⟩),fnv 65,.agg #[u1.1,.int .u64 t1],.agg #[u2.1,.int .u64 t2],.int .u8 1] w fun e w'=>e=.returned (.tuple #[])∧(Kept [188] w w'∧Far [f] w w')∧
   Sat [f] [⟨188,fmG (o1 id) (o1 lo) (o1 hi) (o1 fb) (o1 v1) (o1 s1) (o1 v2) (o1 s2) (o1 u1) (.si .u64 t1) (o1 u2) (.si .u64 t2) true true 1⟩] w':=by
 refine gs (bs:=[f]) [.p 0 0,.fn 65 [],.agg [o1 u1,.si .u64 t1],.agg [o1 u2,.si .u64 t2],.it .u8 1] _ Tryz.func95 hs (fun hW=>?_)
 refine go_runA 200 ⟨[188,4000000],1,[(2,([188],[]))],[],0⟩ (by kernel_rfl) hW (Fr.refl _ _ _) rfl [] (by kernel_rfl) trivial ?_
 intro nw w1 hF hW1
 obtain ⟨b1,b2,rfl⟩:=nw2 (hW1.num 3 (by kernel_rfl)) rfl
 have hs1:=hW1.satE [⟨188,fmG (o1 id) (o1 lo) (o1 hi) (o1 fb) (o1 v1) (o1 s1) (o1 v2) (o1 s2) (o1 u1) (.si .u64 t1) (o1 u2) (.si .u64 t2) true true 1⟩,⟨182,[o1 u1,.si .u64 t1]⟩,⟨182,[o1 u2,.si .u64 t2]⟩] (by kernel_rfl)
 refine gt (.tup []) hW1.sat ⟨rfl,hF.kf hs [188] (by kernel_rfl),Sat.add0 188 _ (blk_any (hs1.mem 0 _ rfl) (by kernel_rfl))⟩
theorem c55 [Bd] (f:Nat) (id lo hi fb u1 u2:V1) (t1 t2:Int) (w:World)
  (hs:Sat [f] [⟨188,fmG (o1 id) (o1 lo) (o1 hi) (o1 fb) .ns z64 .ns z64 .ns z64 .ns z64 false false 0⟩] w):
  Calls Tryz.prog 55 #[.pointer (some ⟨f,0,none⟩),fnv 65,.agg #[u1.1,.int .u64 t1],.agg #[u2.1,.int .u64 t2]] w fun e w'=>e=.returned (.pointer (some ⟨f,0,none⟩))∧(Kept [188] w w'∧Far [f] w w')∧
   Sat [f] [⟨188,fmG (o1 id) (o1 lo) (o1 hi) (o1 fb) (o1 u1) (.si .u64 t1) (o1 u2) (.si .u64 t2) (o1 u1) (.si .u64 t1) (o1 u2) (.si .u64 t2) true true 1⟩] w':=by
 refine gs (bs:=[f]) [.p 0 0,.fn 65 [],.agg [o1 u1,.si .u64 t1],.agg [o1 u2,.si .u64 t2]] _ Tryz.func55 hs (fun hW=>?_)
 refine go_runA 200 ⟨[188,4000000],1,[(2,([188],[]))],[],0⟩ (by kernel_rfl) hW (Fr.refl _ _ _) rfl [] (by kernel_rfl) trivial ?_
 intro nw w1 hF hW1
 obtain ⟨b1,b2,rfl⟩:=nw2 (hW1.num 3 (by kernel_rfl)) rfl
 refine gd [] [] hW1 (fun hW2=>?_)
 refine ga0 (bs:=[f,b1,b2]) 200 ⟨[188,4000000],1,[],[],0⟩ hW2 hF.drew fun w3 hF3 hW3=>?_
 have hs3:=hW3.satE [⟨188,fmG (o1 id) (o1 lo) (o1 hi) (o1 fb) (o1 u1) (.si .u64 t1) (o1 u2) (.si .u64 t2) .ns z64 .ns z64 true false 0⟩,⟨182,[o1 u1,.si .u64 t1]⟩,⟨182,[o1 u2,.si .u64 t2]⟩] (by kernel_rfl)
 refine go_callE 95 [.p 0 0,.fn 65 [],.agg [o1 u1,.si .u64 t1],.agg [o1 u2,.si .u64 t2],.it .u8 1] (by kernel_rfl) hW3 ?_
 refine (c95 f id lo hi fb u1 u2 u1 ⟨.int .u64 t1,rfl⟩ u2 ⟨.int .u64 t2,rfl⟩ t1 t2 w3 (Sat.add0 188 _ (blk_any (hs3.mem 0 _ rfl) (by kernel_rfl)))).mono ?_
 rintro e w4 ⟨rfl,⟨hK4,hN4⟩,hs4⟩
 refine ⟨.tup [],[],_,rfl,hs3.keep1 hK4 0 188 _ (.inl (by kernel_rfl)) rfl (blk_any (hs4.mem 0 _ rfl) (by kernel_rfl)),fun hW4=>?_⟩
 refine ga0 (bs:=[f,b1,b2]) 200 ⟨[188,4000000],1,[],[],0⟩ hW4 (hF3.callF (nw:=[]) hK4 hN4) fun w5 hF5 hW5=>?_
 have hs5:=hW5.sq [⟨188,fmG (o1 id) (o1 lo) (o1 hi) (o1 fb) (o1 u1) (.si .u64 t1) (o1 u2) (.si .u64 t2) (o1 u1) (.si .u64 t1) (o1 u2) (.si .u64 t2) true true 1⟩,⟨182,[o1 u1,.si .u64 t1]⟩,⟨182,[o1 u2,.si .u64 t2]⟩]
 refine gt (.p 0 0) hW5.sat ⟨rfl,hF5.kf hs [188] (by kernel_rfl),Sat.add0 188 _ (blk_any (hs5.mem 0 _ rfl) (by kernel_rfl))⟩
abbrev k10_0 (id:V1) (lo:V1) (hi:V1) (u1:V1) (t1:Int) (u2:V1) (t2:Int):List SB:=[⟨188,fmG (o1 id) (o1 lo) (o1 hi) (.p 1 0) (o1 u1) (.si .u64 t1) (o1 u2) (.si .u64 t2) (o1 u1) (.si .u64 t1) (o1 u2) (.si .u64 t2) true true 1⟩,⟨311,[.it .i32 0,.it .i32 0,z64,o1 id,.it .u64 1]⟩]
theorem c60 [Bd] (f:Nat) (id lo hi u1 u2:V1) (t1 t2:Int) (w:World)
  (hs:Sat [f] [⟨188,fmG (o1 id) (o1 lo) (o1 hi) .np (o1 u1) (.si .u64 t1) (o1 u2) (.si .u64 t2) (o1 u1) (.si .u64 t1) (o1 u2) (.si .u64 t2) true true 1⟩] w):
  Calls Tryz.prog 60 #[.pointer (some ⟨f,0,none⟩)] w fun e w'=>e=.returned (.tuple #[])∧(Kept [188] w w'∧Far [f] w w')∧ ∃ fb,w.heap.size≤fb∧ 
   Sat [f,fb] (k10_0 id lo hi u1 t1 u2 t2) w':=by
 refine gs (bs:=[f]) [.p 0 0] _ Tryz.func60 hs (fun hW=>?_)
 refine ga0 200 ⟨[188,4000000],1,[],[],0⟩ hW (Fr.refl _ _ _) fun w1 hF hW1=>?_
 refine gd [] [] hW1 (fun hW2=>?_)
 refine ga0 (bs:=[f]) 200 ⟨[188,4000000],1,[],[],0⟩ hW2 hF.drew fun w3 hF3 hW3=>?_
 refine gcd 99 [o1 id] [] w1.drew hW3 (fun hC=>?_)
 refine (c99 id.1 id.2 w3).mono ?_
 rintro e w4 ⟨rfl,hE4⟩
 refine ⟨.agg [o1 id],[],_,rfl,hW3.sat.kq hE4,hC.trans hE4,fun hW4=>?_⟩
 refine go_runA (bs:=[f]) 200 ⟨[188,4000000],1,[],[],0⟩ (by kernel_rfl) hW4 (hF3.call (nw:=[]) hE4) rfl [] (by kernel_rfl) trivial ?_
 intro nw w5 hF5 hW5
 obtain ⟨fb,rfl⟩:=nw1 (hW5.num 2 (by kernel_rfl)) rfl
 have hs5:=hW5.sq (k10_0 id lo hi u1 t1 u2 t2)
 refine gt (.tup []) hW5.sat ⟨rfl,hF5.kf hs [188] (by kernel_rfl),fb,hF5.lo (nw:=[fb]) fb (by simp),hs5⟩
end Go.Proofs.YtghppnklhbbffaaGreatDoor.X
namespace Go.Proofs.YtghppnklhbbffaaGreatDoor.TL
open Go Go.RowKit Go.Proofs.YtghppnklhbbffaaGreatDoor.PFnTreeLevel Go.Proofs.YtghppnklhbbffaaGreatDoorW.PrintWords Go.Proofs.YtghppnklhbbffaaGreatDoorW.PrintLast
abbrev bs (s:ByteArray):List UInt8:=s.data.toList
theorem RdS_new [Bd] (w:World) (s:ByteArray) (n:Nat) (f:Nat×Nat):RdS (w.alloc (.cells (bytesRow s n) 5 f)) (.slice (some ⟨w.heap.size,0,none⟩) s.size n) (bs s):=by
 refine ⟨w.heap.size,0,n,_,f,rfl,heap_alloc_new _ _,fun i hi=>?_⟩
 have hi':i < s.data.size:=by simpa using hi
 rw [Nat.zero_add]
 unfold World.cell?
 rw [heap_alloc_new]
 simp only [bytesRow,Option.isSome_none,Bool.false_eq_true,if_false]
 rw [Array.getElem?_append_left (by simpa using hi'),Array.getElem?_map,Array.getElem?_eq_getElem hi']
 simp
theorem run_conv [Bd] (w:World) (s:ByteArray): ∃ n w1,(convert 9 75 (.string s)).run Tryz.prog w=.ok (.slice (some ⟨w.heap.size,0,none⟩) s.size n) w1∧RdS w1 (.slice (some ⟨w.heap.size,0,none⟩) s.size n) (bs s)∧Ext w w1:=by
 refine ⟨_,_,run_bytes_of_string w 9 75 5 s Tryz.underlying9 Tryz.underlying75 Tryz.underlying5,RdS_new w.drew s _ _,?_⟩
 exact ((Kept.refl [] w).drew).alloc _
section
variable {ops:Array Oper} {rest:List Oper} {o:Oper} {a:Act} {Q:Exit→Act→World→Prop} {W:World}
theorem conv_ev [Bd] {N:Tmp} (hgd:o.guard=none) (_hd:o.dst=some N) (x:Operand) (s:ByteArray) (ho:o.op=.convert 9 75 x) (hx:a.eval x=.string s)
  (h: ∀ g n w1,RdS w1 (.slice (some ⟨g,0,none⟩) s.size n) (bs s)→Ext W w1→wpList Tryz.prog ops Q rest (a.put o.dst (.slice (some ⟨g,0,none⟩) s.size n)) w1):wpList Tryz.prog ops Q (o::rest) a W:=by
 obtain ⟨n,w1,hr,h1,h2⟩:=run_conv W s
 refine Kd.event_run (v:=_) (w1:=w1) hgd ?_ (h _ n w1 h1 h2)
 unfold execOp
 simp only [ho,hx,Sem.run_bind,hr,Result.andThen_ok,Sem.run_pure]
end
theorem c56 [Bd] (a:S36) (w:World):Calls Tryz.prog 56 #[.agg #[.string a.f0,.int .u64 a.f1,.string a.f2]] w fun e w'=> ∃ ku,e=.returned (.agg #[ku,.int .u64 a.f1])∧RdS w' ku (bs a.f0)∧Ext w w':=by
 have hu36:=Tryz.underlying36
 have hu182:=Tryz.underlying182
 have hu75:=Tryz.underlying75
 go_enter Tryz.func56,Tryz.ntmps56
 go_wp2_with ((with_reducible refine gate_dst (N:=5) rfl ?_);go_loud (refine conv_ev (N:=5) rfl rfl _ a.f0 rfl (by first|rfl|(go_simp;done)) ?_;rintro g n w1 hr hk;have q1:=hk.cell (p:=⟨w.heap.size,1,none⟩) (v:=.int .u64 a.f1) (by go_simp);have qb:=hk.blk (heap_alloc_new (w.alloc (.cells #[.string a.f0,.int .u64 a.f1,.string a.f2] 36)) (.cells #[.slice none 0 0,.int .u64 0] 182));rw [alloc_size] at qb;have hE:=Aside0.mk ((((Kept.refl [] w).alloc _).alloc _).trans hk:Ext w w1);have HQ:=Aside0.mk qb;have HR:=Aside0.mk hr;clear hk qb hr;have k0:=blk_cell HQ.out 0;have k1:=blk_cell HQ.out 1;have f0:=blk_frozen HQ.out 0;have f1:=blk_frozen HQ.out 1;simp only [List.getElem?_toArray,List.getElem?_cons_zero,List.getElem?_cons_succ] at k0 k1))
 have hb1:=blk_put (cs':= #[.slice (some ⟨g,0,none⟩) a.f0.size n,.int .u64 0]) HQ.out 0 (.slice (some ⟨g,0,none⟩) a.f0.size n) rfl
 have hb2:=blk_put (cs':= #[.slice (some ⟨g,0,none⟩) a.f0.size n,.int .u64 a.f1]) hb1 1 (.int .u64 a.f1) rfl
 have hK:=(HR.out.setN (p:=⟨w.heap.size+1,0,none⟩) HQ.out (by decide) (.slice (some ⟨g,0,none⟩) a.f0.size n)).setN (p:=⟨w.heap.size+1,1,none⟩) hb1 (by decide) (.int .u64 a.f1)
 have hE2:=(hE.out.setNew (p:=⟨w.heap.size+1,0,none⟩) (Nat.le_succ _) (.slice (some ⟨g,0,none⟩) a.f0.size n)).setNew (p:=⟨w.heap.size+1,1,none⟩) (Nat.le_succ _) (.int .u64 a.f1)
 clear k0 k1 f0 f1 q1
 generalize ((w1.setCell ⟨w.heap.size+1,0,none⟩ (.slice (some ⟨g,0,none⟩) a.f0.size n)).setCell ⟨w.heap.size+1,1,none⟩ (.int .u64 a.f1))=w2 at *
 have k0:w2.cell? ⟨w.heap.size+1,0,none⟩=_:=blk_cell hb2 0
 have k1:w2.cell? ⟨w.heap.size+1,1,none⟩=_:=blk_cell hb2 1
 simp only [List.getElem?_toArray,List.getElem?_cons_zero,List.getElem?_cons_succ] at k0 k1
 refine bodyPost_ret (v:=.agg #[.slice (some ⟨g,0,none⟩) a.f0.size n,.int .u64 a.f1]) ?_ rfl ?_
 ·rw [results,show Tryz.f56.results= #[.cell 2 182] from rfl]
  clear hb1 hb2 hK hE2
  simp [go_sem,loadVar,asAddr,k0,k1]
  trace_state
 ·exact ⟨_,rfl,hK,hE2⟩
theorem c223 [Bd] (A:Option Addr) (n c:Nat) (w:World):Calls Tryz.prog 223 #[.slice A n c] w fun e w'=>e=.returned (.agg #[.slice A n c,.pointer none])∧Ext w w':=by
 have hu224:=Tryz.underlying224
 go_enter Tryz.func223,Tryz.ntmps223
 go_wp2
 refine bodyPost_ret (v:=.agg #[.slice A n c,.pointer none]) ?_ rfl ?_
 ·rw [results,show Tryz.f223.results= #[.cell 2 224] from rfl]
  go_simp
 ·exact ⟨rfl,by (repeat (first|exact Kept.refl _ _|apply Kept.ktr|apply Kept.kt0|apply Kept.alloc|apply Kept.drew|apply Kept.drewN))⟩
theorem c75 [Bd] (A:Option Addr) (n c:Nat) (p:Addr) (w:World) (h0:w.cell? p=some (.slice A n c)) (h1:w.cell? ⟨p.block,p.off+1,none⟩=some (.pointer none)):
  Calls Tryz.prog 75 #[.pointer (some p)] w fun e w'=>e=.returned (.slice A n c)∧Ext w w':=by
 have hu224:=Tryz.underlying224
 go_enter Tryz.func75,Tryz.ntmps75
 go_wp2
 go_ret
 exact ⟨rfl,by (repeat (first|exact Kept.refl _ _|apply Kept.ktr|apply Kept.kt0|apply Kept.alloc|apply Kept.drew|apply Kept.drewN))⟩
structure LstC (w:World) (vk vv vlo vup:Value) (xs:List S36) (lo up:Option (List UInt8)):Prop where
 keys: ∃ A c,vk=.slice A xs.length c∧xs.length≤c∧xs.length≤2^31∧(0 < xs.length→ ∃ g cs f,A=some ⟨g,0,none⟩∧w.heap[g]? =some (.cells cs 182 f)∧ ∀ i (h:i < xs.length), ∃ ku,w.cell? ⟨g,i*2,none⟩=some ku∧w.cell? ⟨g,i*2+1,none⟩=some (.int .u64 xs[i].f1)∧RdS w ku (bs xs[i].f0))
 vals: ∃ A c,vv=.slice A xs.length c∧xs.length≤c∧(0 < xs.length→ ∃ g cs f,A=some ⟨g,0,none⟩∧w.heap[g]? =some (.cells cs 75 f)∧ ∀ i (h:i < xs.length), ∃ vu,w.cell? ⟨g,i,none⟩=some vu∧RdS w vu (bs xs[i].f2))
 low:RdO w vlo lo
 high:RdO w vup up
theorem LstC.kept [Bd] {ts:List TypeId} {w w':World} {vk vv vlo vup:Value} {xs:List S36} {lo up:Option (List UInt8)} (h:LstC w vk vv vlo vup xs lo up) (he:Kept ts w w') (h5:5∉ts) (h75:75∉ts) (h182:182∉ts):LstC w' vk vv vlo vup xs lo up:=by
 obtain ⟨⟨A,c,e1,h1,h2,h3⟩,⟨A',c',e1',h1',h3'⟩,h4,h6⟩:=h
 refine ⟨⟨A,c,e1,h1,h2,fun hn=>?_⟩,⟨A',c',e1',h1',fun hn=>?_⟩,h4.kept he h5,h6.kept he h5⟩
 ·obtain ⟨g,cs,f,e2,hb,hc⟩:=h3 hn
  have hs:=solid_of hb h182
  refine ⟨g,cs,f,e2,by rw [he.block g hs];exact hb,fun i hi=>?_⟩
  obtain ⟨ku,q1,q2,q3⟩:=hc i hi
  exact ⟨ku,he.cell (p:=⟨g,i*2,none⟩) hs q1,he.cell (p:=⟨g,i*2+1,none⟩) hs q2,q3.kept he h5⟩
 ·obtain ⟨g,cs,f,e2,hb,hc⟩:=h3' hn
  have hs:=solid_of hb h75
  refine ⟨g,cs,f,e2,by rw [he.block g hs];exact hb,fun i hi=>?_⟩
  obtain ⟨vu,q1,q3⟩:=hc i hi
  exact ⟨vu,he.cell (p:=⟨g,i,none⟩) hs q1,q3.kept he h5⟩
def lBehind (xs:List S36) (up:Option (List UInt8)) (at_:Int):Bool:=decide ((xs.length:Int)≤at_)||(decide (0≤at_)&&(match up with|none=>false|some u=>decide (0≤Lib.compareBytes (bs (xs.getD at_.toNat z36).f0) u)))
def lAhead (xs:List S36) (lo:Option (List UInt8)) (at_:Int):Bool:=decide (at_ < 0)||(decide (at_ < xs.length)&&(match lo with|none=>false|some l=>decide (Lib.compareBytes (bs (xs.getD at_.toNat z36).f0) l < 0)))
theorem c220 [Bd] (lb:Nat) (vk vv vlo vup:Value) (at_:Int) (xs:List S36) (lo up:Option (List UInt8)) (w:World) (hb:w.heap[lb]? =some (.cells #[vk,vv,.int .i64 at_,vlo,vup] 266 (0,0))) (hL:LstC w vk vv vlo vup xs lo up) (h0: -1≤at_) (h1:at_≤xs.length):
  Calls Tryz.prog 220 #[.pointer (some ⟨lb,0,none⟩)] w fun e w'=>e=.returned (.bool (lAhead xs lo at_))∧Ext w w':=by
 have hu266:=Tryz.underlying266
 have hu182:=Tryz.underlying182
 have k0:=blk_cell hb 0
 have k2:=blk_cell hb 2
 have k3:=blk_cell hb 3
 have bl:=blk_lt hb
 simp only [List.getElem?_toArray,List.getElem?_cons_zero,List.getElem?_cons_succ] at k0 k2 k3
 obtain ⟨⟨A,c,rfl,hc,hn,hkeys⟩,hvals,hlo,hup⟩:=hL
 have HC:=Lib.hid hc
 have HN:=Lib.hid hn
 clear hvals hup hb hc hn
 by_cases ha:at_ < 0
 ·have HR:lAhead xs lo at_=true:=by simp [lAhead,ha]
  rw [HR]
  have d1:decide (at_ < 0)=true:=decide_eq_true ha
  clear ha HR hkeys hlo h0 h1
  go_enter Tryz.func220,Tryz.ntmps220
  go_wp2
  (refine wp_region_kt [] (by kernel_rfl) (lexB_of (by kernel_rfl)) ?_;(repeat (any_goals (first|go_big_quiet_step (fail)|(refine wpQuiet_split _ rfl rfl (fun hsp=>?_) (fun hsp=>?_)<;>simp only [hsp]))));all_goals (refine wpQuiet_nil ?_;rintro wq ⟨y,hy⟩;have hk:=kept_kt y;rw [←hy] at hk;clear hy y))
  go_wp2
  go_ret
  exact ⟨rfl,hk⟩
 ·by_cases hz:(xs.length:Int)≤at_
  ·have HR:lAhead xs lo at_=false:=by unfold lAhead;rw [decide_eq_false ha,decide_eq_false (by omega: ¬ at_ < (xs.length:Int))];rfl
   rw [HR]
   have d1:decide (at_ < 0)=false:=decide_eq_false ha
   have d2:decide (at_ < (xs.length:Int))=false:=by simp;omega
   clear ha HR hkeys hlo h0 h1 hz
   go_enter Tryz.func220,Tryz.ntmps220
   go_wp2
   (refine wp_region_kt [] (by kernel_rfl) (lexB_of (by kernel_rfl)) ?_;(repeat (any_goals (first|go_big_quiet_step (fail)|(refine wpQuiet_split _ rfl rfl (fun hsp=>?_) (fun hsp=>?_)<;>simp only [hsp]))));all_goals (refine wpQuiet_nil ?_;rintro wq ⟨y,hy⟩;have hk:=kept_kt y;rw [←hy] at hk;clear hy y))
   go_wp2
   go_ret
   exact ⟨rfl,hk⟩
  ·obtain ⟨i,rfl⟩: ∃ i:Nat,at_=i:=⟨at_.toNat,by omega⟩
   have hi:i < xs.length:=by omega
   have d1:decide (i < xs.length)=true:=decide_eq_true hi
   have dz:decide ((i:Int) < 0)=false:=decide_eq_false (by omega)
   have dz':((i:Int) < 0)=False:=eq_false (by omega)
   have hxi:xs.getD i z36=xs[i]:=by simp [List.getD_eq_getElem?_getD,hi]
   obtain ⟨g,cs,f,rfl,hbk,hkc⟩:=hkeys (by omega)
   obtain ⟨ku,q1,q2,q3⟩:=hkc i hi
   have bg:=blk_lt hbk
   clear hkeys hkc ha h0 h1 hz hbk
   cases lo with
   |none=>
    have HR:lAhead xs none (i:Int)=false:=by unfold lAhead;rw [decide_eq_false (by omega: ¬ (i:Int) < 0)];simp
    rw [HR]
    obtain rfl:=hlo
    clear HR hxi q2 q3
    go_enter Tryz.func220,Tryz.ntmps220
    go_wp2
    (refine wp_region_kt [] (by kernel_rfl) (lexB_of (by kernel_rfl)) ?_;(repeat (any_goals (first|go_big_quiet_step (fail)|(refine wpQuiet_split _ rfl rfl (fun hsp=>?_) (fun hsp=>?_)<;>simp only [hsp]))));all_goals (refine wpQuiet_nil ?_;rintro wq ⟨y,hy⟩;have hk:=kept_kt y;rw [←hy] at hk;clear hy y))
    go_wp2
    go_ret
    exact ⟨rfl,hk⟩
   |some u=>
    have HU:=Lib.hid (show RdS w vlo u from hlo)
    obtain ⟨ub,uo,uc,_,_,rfl, -, -⟩:=hlo
    have HK:=Lib.hid q3
    obtain ⟨kb,ko,kc,_,_,rfl, -, -⟩:=q3
    have hnn:=fun (w:World) (a:Option Addr) (n c:Nat)=>run_neq_slice_nil_any (P:=Tryz.prog) w 75 5 a n c 0 0 Tryz.underlying75
    have hcmp: ∀ x:Nx [] w,Calls Tryz.prog 65 #[.slice (some ⟨kb,ko,none⟩) (bs xs[i].f0).length kc,.slice (some ⟨ub,uo,none⟩) u.length uc] (w.kt [] x) fun e w'=>e=.returned (.int .i64 (Lib.compareBytes (bs xs[i].f0) u))∧w.kt [] x=w':=
     fun x=>compare_any _ _ _ _ _ (HK.out.kept x.ok (by simp)) (HU.out.kept x.ok (by simp))
    have HR:lAhead xs (some u) (i:Int)=decide (Lib.compareBytes (bs xs[i].f0) u < 0):=by
     unfold lAhead
     rw [decide_eq_false (by omega: ¬ (i:Int) < 0),decide_eq_true (by omega:(i:Int) < (xs.length:Int))]
     show (false||(true&&decide (Lib.compareBytes (bs (xs.getD (i:Int).toNat z36).f0) u < 0)))=_
     rw [Int.toNat_natCast,hxi]
     rfl
    rw [HR]
    have HCM:=Lib.hid hcmp
    clear HR hxi q2 hcmp
    clear HU HK
    generalize (bs xs[i].f0).length=kl at *
    generalize u.length=ul at *
    generalize Lib.compareBytes (bs xs[i].f0) u=cv at *
    go_enter Tryz.func220,Tryz.ntmps220
    go_wp2
    (refine wp_region_kt [] (by kernel_rfl) (lexB_of (by kernel_rfl)) ?_;(repeat (any_goals (first|go_big_quiet_step (exact quiet_same (HCM.out _))|(refine wpQuiet_split _ rfl rfl (fun hsp=>?_) (fun hsp=>?_)<;>simp only [hsp]))));all_goals (refine wpQuiet_nil ?_;rintro wq ⟨y,hy⟩;have hk:=kept_kt y;rw [←hy] at hk;clear hy y))
    go_wp2
    go_ret
    exact ⟨rfl,hk⟩
theorem c219 [Bd] (lb:Nat) (vk vv vlo vup:Value) (at_:Int) (xs:List S36) (lo up:Option (List UInt8)) (w:World) (hb:w.heap[lb]? =some (.cells #[vk,vv,.int .i64 at_,vlo,vup] 266 (0,0))) (hL:LstC w vk vv vlo vup xs lo up) (h0: -1≤at_) (h1:at_≤xs.length):
  Calls Tryz.prog 219 #[.pointer (some ⟨lb,0,none⟩)] w fun e w'=>e=.returned (.bool (lBehind xs up at_))∧Ext w w':=by
 have hu266:=Tryz.underlying266
 have hu182:=Tryz.underlying182
 have k0:=blk_cell hb 0
 have k2:=blk_cell hb 2
 have k4:=blk_cell hb 4
 have bl:=blk_lt hb
 simp only [List.getElem?_toArray,List.getElem?_cons_zero,List.getElem?_cons_succ] at k0 k2 k4
 obtain ⟨⟨A,c,rfl,hc,hn,hkeys⟩,hvals,hlo,hup⟩:=hL
 have HC:=Lib.hid hc
 have HN:=Lib.hid hn
 clear hvals hlo hb hc hn
 by_cases ha:(xs.length:Int)≤at_
 ·have HR:lBehind xs up at_=true:=by simp [lBehind,ha]
  rw [HR]
  have d1:decide ((xs.length:Int)≤at_)=true:=decide_eq_true ha
  clear ha HR hkeys hup h0 h1
  go_enter Tryz.func219,Tryz.ntmps219
  go_wp2
  (refine wp_region_kt [] (by kernel_rfl) (lexB_of (by kernel_rfl)) ?_;(repeat (any_goals (first|go_big_quiet_step (fail)|(refine wpQuiet_split _ rfl rfl (fun hsp=>?_) (fun hsp=>?_)<;>simp only [hsp]))));all_goals (refine wpQuiet_nil ?_;rintro wq ⟨y,hy⟩;have hk:=kept_kt y;rw [←hy] at hk;clear hy y))
  go_wp2
  go_ret
  exact ⟨rfl,hk⟩
 ·by_cases hz:at_ < 0
  ·have HR:lBehind xs up at_=false:=by unfold lBehind;rw [decide_eq_false ha,decide_eq_false (by omega: ¬ 0≤at_)];rfl
   rw [HR]
   have d1:decide ((xs.length:Int)≤at_)=false:=decide_eq_false ha
   have d2:decide (0≤at_)=false:=by simp;omega
   clear ha HR hkeys hup h0 h1 hz
   go_enter Tryz.func219,Tryz.ntmps219
   go_wp2
   (refine wp_region_kt [] (by kernel_rfl) (lexB_of (by kernel_rfl)) ?_;(repeat (any_goals (first|go_big_quiet_step (fail)|(refine wpQuiet_split _ rfl rfl (fun hsp=>?_) (fun hsp=>?_)<;>simp only [hsp]))));all_goals (refine wpQuiet_nil ?_;rintro wq ⟨y,hy⟩;have hk:=kept_kt y;rw [←hy] at hk;clear hy y))
   go_wp2
   go_ret
   exact ⟨rfl,hk⟩
  ·obtain ⟨i,rfl⟩: ∃ i:Nat,at_=i:=⟨at_.toNat,by omega⟩
   have hi:i < xs.length:=by omega
   have d1:decide (xs.length≤i)=false:=by simp;omega
   have hxi:xs.getD i z36=xs[i]:=by simp [List.getD_eq_getElem?_getD,hi]
   obtain ⟨g,cs,f,rfl,hbk,hkc⟩:=hkeys (by omega)
   obtain ⟨ku,q1,q2,q3⟩:=hkc i hi
   have bg:=blk_lt hbk
   clear hkeys hkc ha h0 h1 hz hbk
   cases up with
   |none=>
    have HR:lBehind xs none (i:Int)=false:=by simp [lBehind];omega
    rw [HR]
    obtain rfl:=hup
    clear HR hxi q2 q3
    go_enter Tryz.func219,Tryz.ntmps219
    go_wp2
    (refine wp_region_kt [] (by kernel_rfl) (lexB_of (by kernel_rfl)) ?_;(repeat (any_goals (first|go_big_quiet_step (fail)|(refine wpQuiet_split _ rfl rfl (fun hsp=>?_) (fun hsp=>?_)<;>simp only [hsp]))));all_goals (refine wpQuiet_nil ?_;rintro wq ⟨y,hy⟩;have hk:=kept_kt y;rw [←hy] at hk;clear hy y))
    go_wp2
    go_ret
    exact ⟨rfl,hk⟩
   |some u=>
    have HU:=Lib.hid (show RdS w vup u from hup)
    obtain ⟨ub,uo,uc,_,_,rfl, -, -⟩:=hup
    have HK:=Lib.hid q3
    obtain ⟨kb,ko,kc,_,_,rfl, -, -⟩:=q3
    have hnn:=fun (w:World) (a:Option Addr) (n c:Nat)=>run_neq_slice_nil_any (P:=Tryz.prog) w 75 5 a n c 0 0 Tryz.underlying75
    have hcmp: ∀ x:Nx [] w,Calls Tryz.prog 65 #[.slice (some ⟨kb,ko,none⟩) (bs xs[i].f0).length kc,.slice (some ⟨ub,uo,none⟩) u.length uc] (w.kt [] x) fun e w'=>e=.returned (.int .i64 (Lib.compareBytes (bs xs[i].f0) u))∧w.kt [] x=w':=
     fun x=>compare_any _ _ _ _ _ (HK.out.kept x.ok (by simp)) (HU.out.kept x.ok (by simp))
    have HR:lBehind xs (some u) (i:Int)=decide (0≤Lib.compareBytes (bs xs[i].f0) u):=by
     unfold lBehind
     rw [decide_eq_false (by omega: ¬ (xs.length:Int)≤(i:Int)),decide_eq_true (by omega:(0:Int)≤(i:Int))]
     show (false||(true&&decide (0≤Lib.compareBytes (bs (xs.getD (i:Int).toNat z36).f0) u)))=_
     rw [Int.toNat_natCast,hxi]
     rfl
    rw [HR]
    have HCM:=Lib.hid hcmp
    clear HR hxi q2 hcmp
    clear HU HK
    generalize (bs xs[i].f0).length=kl at *
    generalize u.length=ul at *
    generalize Lib.compareBytes (bs xs[i].f0) u=cv at *
    go_enter Tryz.func219,Tryz.ntmps219
    go_wp2
    (refine wp_region_kt [] (by kernel_rfl) (lexB_of (by kernel_rfl)) ?_;(repeat (any_goals (first|go_big_quiet_step (exact quiet_same (HCM.out _))|(refine wpQuiet_split _ rfl rfl (fun hsp=>?_) (fun hsp=>?_)<;>simp only [hsp]))));all_goals (refine wpQuiet_nil ?_;rintro wq ⟨y,hy⟩;have hk:=kept_kt y;rw [←hy] at hk;clear hy y))
    go_wp2
    go_ret
    exact ⟨rfl,hk⟩
end Go.Proofs.YtghppnklhbbffaaGreatDoor.TL
