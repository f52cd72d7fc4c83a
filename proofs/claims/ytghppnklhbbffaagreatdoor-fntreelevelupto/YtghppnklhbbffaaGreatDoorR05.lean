/- Part 5 of the proof that laws.FnTreeLevel answers true, for arguments of small bulk. -/
import Derived.Test.YtghppnklhbbffaaGreatDoorR04
set_option linter.all false
set_option maxHeartbeats 4000000
set_option maxRecDepth 100000
namespace Go.Proofs.YtghppnklhbbffaaGreatDoor.X
open Go Go.RowKit Go.Proofs.YtghppnklhbbffaaGreatDoor.TL
section
variable {P:Program} {Q:Exit→Act→World→Prop} {bs:List Nat} {w:World}
theorem go_runG [Bd] (n:Nat) (cf:Cfg) {s:ST} (hm:P.follows .mixedOrders=true) (hs:Wk bs s w) (hn:cf.n0=bs.length) (hmk:4000000∈cf.ts) (ob:List (Bool×Bool)) (ho:(runS P cf n s).ob=ob) (he:AllEq ob)
  (hk: ∀ nw w',(∀ b∈nw,w.heap.size≤b)→Kept cf.ts w w'→Far bs w w'→Wk (bs++nw) (runS P cf n s) w'→kx P Q (runS P cf n s).K .normal (actS (bs++nw) (runS P cf n s).T) w'):kx P Q s.K .normal (actS bs s.T) w:=
 runS_sound hm hn n s bs w (ho ▸ he) (At.refl hs.sat) hs.pre (fun nw w' hat hp=>hk nw w' (by
  obtain ⟨nw2,e,hb⟩:=hat.pre
  obtain rfl:=List.append_cancel_left e
  exact hb) hat.kept (hat.far hmk) ⟨hat.sat,hp⟩)
end
theorem Fr.callNew [Bd] {ts us:List TypeId} {w0 w w':World} {bs:List Nat} (h:Fr ts w0 [] bs w) (hk:Kept us w w') (hf:Far bs w w'):Fr ts w0 [] bs w':=by
 obtain ⟨nw,e,hb⟩:=h.pre
 rw [List.nil_append] at e
 subst e
 have hsame: ∀ k,k < w0.heap.size→w'.heap[k]? =w.heap[k]?:=fun k hlt=>hf k (Nat.lt_of_lt_of_le hlt h.kept.size) (fun hm=>by have:=hb k hm;omega)
 refine ⟨⟨bs,by simp,hb⟩,⟨hk.os.trans h.kept.os,hk.tape.trans h.kept.tape,hk.output.trans h.kept.output,Nat.le_trans h.kept.size hk.size,fun k hs=>(hsame k hs.lt).trans (h.kept.block k hs),fun k c t f hc=>?_⟩,fun hm k hlt hn=>(hsame k hlt).trans (h.far hm k hlt hn)⟩
 obtain ⟨c',h1⟩:=h.kept.ty k c t f hc
 exact ⟨c',by rw [hsame k (Array.getElem?_eq_some_iff.1 hc).1];exact h1⟩
def skK (lp:Nat):Nat→List Bool→List KI→List KI
 |0,_,K=>K
 |n+1,cs,K=>match K with
  | .code .skip::k=>skK lp n cs k
  | .code (.region _ _ _)::k=>skK lp n cs k
  | .code (.seq a b)::k=>skK lp n cs (.code a::.code b::k)
  | .code (.cond _ t e)::k=>match cs with
    |c::cs=>skK lp n cs (.code (cond c t e)::k)
    |[]=>K
  | .code (.block id b)::k=>skK lp n cs (.code b::.blk id::k)
  | .code (.exit id)::k=>match popTo id k with
    |some k'=>skK lp n cs k'
    |none=>K
  | .code (.loop b)::k=>skK lp n cs (.code b::.lp b lp::k)
  | .lp b (m+1)::k=>skK lp n cs (.code b::.lp b m::k)
  | .blk _::k=>skK lp n cs k
  |_=>K
def mkT (N:Nat) (keep:List (Nat×SV)) (xs:Nat→Value):List SV:=(List.range N).map fun i=>match keep.lookup i with|some v=>v|none=>.va (xs i)
theorem lookup_mem [Bd]: ∀ {keep:List (Nat×SV)} {i:Nat} {v:SV},keep.lookup i=some v→(i,v)∈keep
 |[],_,_,h=>by cases h
 |(j,u)::r,i,v,h=>by
  simp only [List.lookup_cons] at h
  split at h
  ·rename_i he
   have he:i=j:=by simpa using he
   simp only [Option.some.injEq] at h
   subst h he
   exact .head _
  ·exact .tail _ (lookup_mem h)
theorem mkT_den [Bd] {bs:List Nat} {T:List SV} {N:Nat} {keep:List (Nat×SV)} (hl:T.length=N) (hk:keep.map (fun p=>T.getD p.1 .un)=keep.map (·.2)):
  SV.denL bs T=SV.denL bs (mkT N keep (fun i=>(T.getD i .un).den bs)):=by
 apply List.ext_getElem?
 intro i
 rw [denL_get,denL_get]
 unfold mkT
 rw [List.getElem?_map]
 by_cases hi:i < N
 ·rw [List.getElem?_range hi]
  have hT:T[i]? =some (T.getD i .un):=by
   rw [List.getD_eq_getElem?_getD,List.getElem?_eq_getElem (by omega)];rfl
  rw [hT]
  simp only [Option.map_some]
  cases hq:keep.lookup i with
  |none=>simp only [SV.den]
  |some v=>
   have hm:=lookup_mem hq
   have:T.getD i .un=v:=by
      have:=List.map_inj_left.1 hk (i,v) hm
      exact this
   simp only [this]
 ·rw [List.getElem?_eq_none (by omega),List.getElem?_eq_none (by simp;omega)]
  rfl
theorem go_cut [Bd] {P:Program} {Q:Exit→Act→World→Prop} {bs:List Nat} {w:World} {s:ST} (K':List KI) (N:Nat) (keep:List (Nat×SV)) (H':List SB) (hK:s.K=K') (hl:s.T.length=N) (hkeep:keep.map (fun p=>s.T.getD p.1 .un)=keep.map (·.2)) (hs:Wk bs s w) (hsat:Sat bs H' w)
  (hk: ∀ xs,Wk bs ⟨K',mkT N keep xs,H',[]⟩ w→kx P Q (⟨K',mkT N keep xs,H',[]⟩:ST).K .normal (actS bs (⟨K',mkT N keep xs,H',[]⟩:ST).T) w):kx P Q s.K .normal (actS bs s.T) w:=by
 have hp:PreK bs K':=hK ▸ hs.pre
 have e:actS bs s.T=actS bs (mkT N keep (fun i=>(s.T.getD i .un).den bs)):=by unfold actS;rw [mkT_den hl hkeep]
 rw [e,hK]
 exact hk _ ⟨hsat,hp⟩
end Go.Proofs.YtghppnklhbbffaaGreatDoor.X
namespace Go.Proofs.YtghppnklhbbffaaGreatDoor.X
open Go Go.RowKit Go.MapKept Go.Proofs.YtghppnklhbbffaaGreatDoor.TL
section
variable {P:Program} {Q:Exit→Act→World→Prop} {bs:List Nat} {w:World}
theorem nz0 {bs nw:List Nat} (h:(bs++nw).length=bs.length):nw=[]:=List.eq_nil_of_length_eq_zero (by rw [List.length_append] at h;omega)
theorem nz1 {bs nw:List Nat} (h:(bs++nw).length=bs.length+1): ∃ a,nw=[a]:=List.length_eq_one_iff.1 (by rw [List.length_append] at h;omega)
theorem nz2 {bs nw:List Nat} (h:(bs++nw).length=bs.length+2): ∃ a b,nw=[a,b]:=by
 rw [List.length_append] at h
 match nw,h with
 |[a,b],_=>exact ⟨a,b,rfl⟩
 |[],h=>simp at h
 |[a],h=>simp at h
 |a::b::c::r,h=>simp at h
theorem gr0 [Bd] (n:Nat) (cf:Cfg) {s:ST} (hs:Wk bs s w) (hk: ∀ w',Kept cf.ts w w'→Wk bs (runS P cf n s) w'→kx P Q (runS P cf n s).K .normal (actS bs (runS P cf n s).T) w')
  (ob:List (Bool×Bool):=[]) (he:AllEq ob:=by trivial) (hm:P.follows .mixedOrders=true:=by kernel_rfl) (hn:cf.n0=bs.length:=by rfl) (ho:(runS P cf n s).ob=ob:=by kernel_rfl) (hl:(runS P cf n s).H.length=bs.length:=by kernel_rfl):kx P Q s.K .normal (actS bs s.T) w:=
 go_run n cf hm hs hn ob ho he (fun nw w' _ hK hW=>by
  obtain rfl:=nz0 (hW.num _ hl)
  rw [List.append_nil] at hW ⊢
  exact hk w' hK hW)
theorem gr1 [Bd] (n:Nat) (cf:Cfg) {s:ST} (hs:Wk bs s w) (hk: ∀ b w',(∀ x∈[b],w.heap.size≤x)→Kept cf.ts w w'→Wk (bs++[b]) (runS P cf n s) w'→kx P Q (runS P cf n s).K .normal (actS (bs++[b]) (runS P cf n s).T) w')
  (ob:List (Bool×Bool):=[]) (he:AllEq ob:=by trivial) (hm:P.follows .mixedOrders=true:=by kernel_rfl) (hn:cf.n0=bs.length:=by rfl) (ho:(runS P cf n s).ob=ob:=by kernel_rfl) (hl:(runS P cf n s).H.length=bs.length+1:=by kernel_rfl):kx P Q s.K .normal (actS bs s.T) w:=
 go_run n cf hm hs hn ob ho he (fun nw w' hb hK hW=>by
  obtain ⟨b,rfl⟩:=nz1 (hW.num _ hl)
  exact hk b w' hb hK hW)
theorem gr2 [Bd] (n:Nat) (cf:Cfg) {s:ST} (hs:Wk bs s w) (hk: ∀ b c w',(∀ x∈[b,c],w.heap.size≤x)→Kept cf.ts w w'→Wk (bs++[b,c]) (runS P cf n s) w'→kx P Q (runS P cf n s).K .normal (actS (bs++[b,c]) (runS P cf n s).T) w')
  (ob:List (Bool×Bool):=[]) (he:AllEq ob:=by trivial) (hm:P.follows .mixedOrders=true:=by kernel_rfl) (hn:cf.n0=bs.length:=by rfl) (ho:(runS P cf n s).ob=ob:=by kernel_rfl) (hl:(runS P cf n s).H.length=bs.length+2:=by kernel_rfl):kx P Q s.K .normal (actS bs s.T) w:=
 go_run n cf hm hs hn ob ho he (fun nw w' hb hK hW=>by
  obtain ⟨b,c,rfl⟩:=nz2 (hW.num _ hl)
  exact hk b c w' hb hK hW)
theorem ga0 [Bd] (n:Nat) (cf:Cfg) {s:ST} {w0:World} {bs0:List Nat} (hs:Wk bs s w) (hf:Fr cf.ts w0 bs0 bs w) (hk: ∀ w',Fr cf.ts w0 bs0 bs w'→Wk bs (runS P cf n s) w'→kx P Q (runS P cf n s).K .normal (actS bs (runS P cf n s).T) w')
  (ob:List (Bool×Bool):=[]) (he:AllEq ob:=by trivial) (hm:P.follows .mixedOrders=true:=by kernel_rfl) (hn:cf.n0=bs0.length:=by rfl) (ho:(runS P cf n s).ob=ob:=by kernel_rfl) (hl:(runS P cf n s).H.length=bs.length:=by kernel_rfl):kx P Q s.K .normal (actS bs s.T) w:=
 go_runA n cf hm hs hf hn ob ho he (fun nw w' hF hW=>by
  obtain rfl:=nz0 (hW.num _ hl)
  rw [List.append_nil] at hF hW ⊢
  exact hk w' hF hW)
theorem gf0 [Bd] (n:Nat) (cf:Cfg) {s:ST} {ts0:List TypeId} {w0:World} {bs0:List Nat} (hs:Wk bs s w) (hf:Fr ts0 w0 bs0 bs w) (hk: ∀ w',Kept cf.ts w w'→Fr ts0 w0 bs0 bs w'→Wk bs (runS P cf n s) w'→kx P Q (runS P cf n s).K .normal (actS bs (runS P cf n s).T) w')
  (ob:List (Bool×Bool):=[]) (he:AllEq ob:=by trivial) (hm:P.follows .mixedOrders=true:=by kernel_rfl) (hn:cf.n0=bs.length:=by rfl) (ho:(runS P cf n s).ob=ob:=by kernel_rfl) (hl:(runS P cf n s).H.length=bs.length:=by kernel_rfl)
  (hsub: ∀ t∈cf.ts,t∈ts0:=by simp) (hfm:4000000∈ts0→4000000∈cf.ts:=by simp):kx P Q s.K .normal (actS bs s.T) w:=
 go_runF n cf hm hs hf hn ob ho he (fun nw w' hK hF hW=>by
  obtain rfl:=nz0 (hW.num _ hl)
  rw [List.append_nil] at hF hW ⊢
  exact hk w' hK hF hW) hsub hfm
theorem gg0 [Bd] (n:Nat) (cf:Cfg) {s:ST} (hs:Wk bs s w) (hk: ∀ w',Kept cf.ts w w'→Far bs w w'→Wk bs (runS P cf n s) w'→kx P Q (runS P cf n s).K .normal (actS bs (runS P cf n s).T) w')
  (ob:List (Bool×Bool):=[]) (he:AllEq ob:=by trivial) (hm:P.follows .mixedOrders=true:=by kernel_rfl) (hn:cf.n0=bs.length:=by rfl) (hmk:4000000∈cf.ts:=by simp) (ho:(runS P cf n s).ob=ob:=by kernel_rfl) (hl:(runS P cf n s).H.length=bs.length:=by kernel_rfl):kx P Q s.K .normal (actS bs s.T) w:=
 go_runG n cf hm hs hn hmk ob ho he (fun nw w' _ hK hF hW=>by
  obtain rfl:=nz0 (hW.num _ hl)
  rw [List.append_nil] at hW ⊢
  exact hk w' hK hF hW)
theorem gc [Bd] {s:ST} (f:FuncId) (args:List SV) (hs:Wk bs s w)
  (hc:Calls P f (SV.denL bs args).toArray w fun e w'=> ∃ (x:SV) (nw:List Nat) (H:List SB),e=.returned (x.den (bs++nw))∧Sat (bs++nw) H w'∧(Wk (bs++nw) (afterC s x H) w'→kx P Q (afterC s x H).K .normal (actS (bs++nw) (afterC s x H).T) w')) (h:callF P s=some (f,args):=by kernel_rfl):
  kx P Q s.K .normal (actS bs s.T) w:=go_call f args h hs hc
theorem gcd [Bd] {s:ST} (f:FuncId) (args:List SV) (us:List TypeId) (wr:World) (hs:Wk bs s w)
  (hc:Kept us wr w→Calls P f (SV.denL bs args).toArray w fun e w'=> ∃ (x:SV) (nw:List Nat) (H:List SB),e=.returned (x.den (bs++nw))∧Sat (bs++nw) H w'∧Kept us wr w'∧(Wk (bs++nw) (afterC s x H) w'→kx P Q (afterC s x H).K .normal (actS (bs++nw) (afterC s x H).T) w')) (h:callD P s=some (f,args,us):=by kernel_rfl) (hwr:drW s=some wr:=by kernel_rfl):
  kx P Q s.K .normal (actS bs s.T) w:=go_callD f args us wr h hwr hs hc
theorem gs [Bd] {f:FuncId} {fn:Func} {R:Ending→World→Prop} (args:List SV) (H:List SB) (hf:P.funcs[f]? =some fn) (hs:Sat bs H w)
  (h:Wk bs (startS fn args H) w→kx P (bodyPost P fn R) (startS fn args H).K .normal (actS bs (startS fn args H).T) w) (hb:fn.body.isSome=true:=by kernel_rfl):Calls P f (SV.denL bs args).toArray w R:=go_calls args H hf hb hs h
theorem gd [Bd] {s:ST} (us:List TypeId) (ex:List Nat) (hs:Wk bs s w)
  (hk:Wk bs (enterD us ex bs w.drew s) w.drew→kx P Q (enterD us ex bs w.drew s).K .normal (actS bs (enterD us ex bs w.drew s).T) w.drew) (hm:P.follows .mixedOrders=true:=by kernel_rfl) (h:drawB s=true:=by kernel_rfl):kx P Q s.K .normal (actS bs s.T) w:=go_draw us ex hm h hs hk
theorem gt [Bd] {fn:Func} {R:Ending→World→Prop} {s:ST} (r:SV) (hs:Sat bs s.H w) (hR:R (.returned (r.den bs)) w) (h:resS P fn s=some r:=by kernel_rfl) (hb:retB s=true:=by kernel_rfl):kx P (bodyPost P fn R) s.K .normal (actS bs s.T) w:=go_ret r h hb hs hR
end
theorem Wk.sq [Bd] {bs:List Nat} {s:ST} {w:World} (h:Wk bs s w) (H:List SB) (e:vals bs s.H=vals bs H:=by kernel_rfl):Sat bs H w:=h.satD H e
theorem Sat.kq [Bd] {bs:List Nat} {H:List SB} {w w':World} {us:List TypeId} (h:Sat bs H w) (hk:Kept us w w') (ho:outH us H=true:=by kernel_rfl):Sat bs H w':=h.keep hk ho
end Go.Proofs.YtghppnklhbbffaaGreatDoor.X
namespace Go.Proofs.YtghppnklhbbffaaGreatDoor.X
open Go Go.RowKit Go.Proofs.YtghppnklhbbffaaGreatDoor.TL
theorem nw0 [Bd] {bs nw:List Nat} {m:Nat} (h:(bs++nw).length=m) (e:bs.length=m):nw=[]:=List.eq_nil_of_length_eq_zero (by simp at h;omega)
theorem nw1 [Bd] {bs nw:List Nat} {m:Nat} (h:(bs++nw).length=m) (e:bs.length+1=m): ∃ a,nw=[a]:=List.length_eq_one_iff.1 (by simp at h;omega)
theorem nw2 [Bd] {bs nw:List Nat} {m:Nat} (h:(bs++nw).length=m) (e:bs.length+2=m): ∃ a b,nw=[a,b]:=by
 match nw,h with
 |[a,b],_=>exact ⟨a,b,rfl⟩
 |[],h=>simp at h;omega
 |[a],h=>simp at h;omega
 |a::b::c::r,h=>simp at h;omega
theorem nw3 [Bd] {bs nw:List Nat} {m:Nat} (h:(bs++nw).length=m) (e:bs.length+3=m): ∃ a b c,nw=[a,b,c]:=by
 match nw,h with
 |[a,b,c],_=>exact ⟨a,b,c,rfl⟩
 |[],h=>simp at h;omega
 |[a],h=>simp at h;omega
 |[a,b],h=>simp at h;omega
 |a::b::c::d::r,h=>simp at h;omega
abbrev fnv (f:FuncId):Value:=.func (.func f) #[] #[]
theorem c23 [Bd] (w : World) (hB0 : autoParam (Bd.B ≤ w.heap.size) sz0._auto_1) : Calls Tryz.prog 23 #[] w fun e w' => ∃ b, e = .returned (.pointer (some ⟨b, 0, none⟩)) ∧ w.heap.size ≤ b ∧ w'.heap[b]? = some (.cells #[fnv 65, fnv 66, fnv 67, .nilFunc, fnv 69, .nilFunc, fnv 71, fnv 72, .string "leveldb.BytewiseComparator".toUTF8] 113 (0, 0)) ∧ Ext w w' := by
 refine gs (bs:=[]) [] [] Tryz.func23 (sat0 w) (fun hW=>?_)
 refine go_run 100 ⟨[],0,[],[],0⟩ (by kernel_rfl) hW rfl [] (by kernel_rfl) trivial ?_
 intro nw w' hn hK hW
 obtain ⟨b,rfl⟩:=nw1 (hW.sat.len.trans (by kernel_rfl:_=1)) rfl
 refine gt (.p 0 0) hW.sat ?_
 refine ⟨b,rfl,hn b (by simp),?_,hK⟩
 exact hW.sat.mem 0 ⟨113, [.fn 65 [], .fn 66 [], .fn 67 [], .nf, .fn 69 [], .nf, .fn 71 [], .fn 72 [], .str "leveldb.BytewiseComparator".toUTF8]⟩ (by kernel_rfl)
theorem c45 [Bd] (w : World) (hB0 : autoParam (Bd.B ≤ w.heap.size) sz0._auto_1) : Calls Tryz.prog 45 #[] w fun e w' => ∃ b, e = .returned (.pointer (some ⟨b, 0, none⟩)) ∧ w.heap.size ≤ b ∧ w'.heap[b]? = some (.cells #[fnv 90, .string "pebble.concatenate".toUTF8] 167 (0, 0)) ∧ Ext w w' := by
 refine gs (bs:=[]) [] [] Tryz.func45 (sat0 w) (fun hW=>?_)
 refine go_run 100 ⟨[],0,[],[],0⟩ (by kernel_rfl) hW rfl [] (by kernel_rfl) trivial ?_
 intro nw w' hn hK hW
 obtain ⟨b,rfl⟩:=nw1 (hW.sat.len.trans (by kernel_rfl:_=1)) rfl
 refine gt (.p 0 0) hW.sat ?_
 refine ⟨b,rfl,hn b (by simp),?_,hK⟩
 exact hW.sat.mem 0 ⟨167, [.fn 90 [], .str "pebble.concatenate".toUTF8]⟩ (by kernel_rfl)
theorem c48 [Bd] (a:Addr) (v:Value) (w:World) (h:w.cell? a=some v):Calls Tryz.prog 48 #[.pointer (some a)] w fun e w'=>e=.returned v∧w=w':=by
 have hu:=Tryz.underlying131
 have ha:a.add 0=a:=rfl
 go_enter Tryz.func48,Tryz.ntmps48
 go_wp2
 go_ret
 exact ⟨rfl,rfl⟩
theorem c49 [Bd] (a:Addr) (v:Value) (w:World) (h:w.cell? ⟨a.block,a.off+1,none⟩=some v):Calls Tryz.prog 49 #[.pointer (some a)] w fun e w'=>e=.returned v∧w=w':=by
 have hu:=Tryz.underlying131
 go_enter Tryz.func49,Tryz.ntmps49
 go_wp2
 go_ret
 exact ⟨rfl,rfl⟩
theorem c54 [Bd] (n:Int) (w:World) (hB0:autoParam (Bd.B≤w.heap.size) sz0._auto_1):Calls Tryz.prog 54 #[.int .u64 n] w fun e w'=>e=.returned (.int .u64 (n / 256))∧Ext w w':=by
 refine gs (bs:=[]) [.si .u64 n] [] Tryz.func54 (sat0 w) (fun hW=>?_)
 refine go_run 100 ⟨[],0,[],[],0⟩ (by kernel_rfl) hW rfl [] (by kernel_rfl) trivial ?_
 intro nw w' hn hK hW
 obtain rfl:=nw0 (hW.sat.len.trans (by kernel_rfl:_=0)) rfl
 refine gt (.si .u64 (n.fdiv (2 ^ 8))) hW.sat ⟨?_,hK⟩
 rw [SV.den,Int.fdiv_eq_ediv_of_nonneg _ (by decide)]
 rfl
theorem c99 [Bd] (n:Value) (h1:n.oneCell'=true) (w:World) (hB0:autoParam (Bd.B≤w.heap.size) sz0._auto_1):Calls Tryz.prog 99 #[n] w fun e w'=>e=.returned (.agg #[n])∧Ext w w':=by
 refine gs (bs:=[]) [.oc n h1] [] Tryz.func99 (sat0 w) (fun hW=>?_)
 refine go_run 100 ⟨[],0,[],[],0⟩ (by kernel_rfl) hW rfl [] (by kernel_rfl) trivial ?_
 intro nw w' hn hK hW
 refine gt (.agg [.oc n h1]) hW.sat ?_
 exact ⟨rfl,hK⟩
theorem c62 [Bd] (v:Value) (h1:v.oneCell'=true) (w:World) (hB0:autoParam (Bd.B≤w.heap.size) sz0._auto_1):Calls Tryz.prog 62 #[v] w fun e w'=> ∃ b,e=.returned (.func (.func 103) #[] #[.pointer (some ⟨b,0,none⟩)])∧w.heap.size≤b∧w'.heap[b]? =some (.cells #[v] 98 (0,0))∧Ext w w':=by
 refine gs (bs:=[]) [.oc v h1] [] Tryz.func62 (sat0 w) (fun hW=>?_)
 refine go_run 100 ⟨[],0,[],[],0⟩ (by kernel_rfl) hW rfl [] (by kernel_rfl) trivial ?_
 intro nw w' hn hK hW
 obtain ⟨b,rfl⟩:=nw1 (hW.sat.len.trans (by kernel_rfl:_=1)) rfl
 refine gt (.fn 103 [.p 0 0]) hW.sat ?_
 refine ⟨b,rfl,hn b (by simp),?_,hK⟩
 exact hW.sat.mem 0 ⟨98,[.oc v h1]⟩ (by kernel_rfl)
theorem c237 [Bd] (w:World):Calls Tryz.prog 237 #[.int .u8 0] w fun e w'=>e=.returned (.bool false)∧w=w':=by
 go_enter Tryz.func237,Tryz.ntmps237
 go_wp2
 go_ret
 exact ⟨rfl,rfl⟩
theorem c265 [Bd] (w:World):Calls Tryz.prog 265 #[.int .u8 0] w fun e w'=>e=.returned (.bool false)∧w=w':=by
 go_enter Tryz.func265,Tryz.ntmps265
 go_wp2
 go_ret
 exact ⟨rfl,rfl⟩
theorem c257 [Bd] (w:World):Calls Tryz.prog 257 #[.int .u8 0] w fun e w'=>e=.returned (.int .u8 0)∧w=w':=by
 go_enter Tryz.func257,Tryz.ntmps257
 go_wp2
 go_ret
 exact ⟨rfl,rfl⟩
theorem run165 [Bd] {w:World} {a:Addr} {n d:Int} (h:w.cell? a=some (.int .i32 n)) (hf:w.frozen? a=false):
  (callFunc 165 #[.pointer (some a),.int .i32 d]).run Tryz.prog w=.ok (.value (.int .i32 (IntKind.i32.wrap (n+d)))) (w.setCell a (.int .i32 (IntKind.i32.wrap (n+d)))):=by
 rw [run_callFunc_extern Tryz.func165 (by kernel_rfl) (by kernel_rfl) (by kernel_rfl) (e:=Extern.Atomic.update (Op.intArith .add) .i32 true) (by kernel_rfl)]
 change ((do let a' ←asAddr (.pointer (some a));let old ←Extern.Atomic.read (.int .i32) a';let new ←Op.intArith .add .i32 (←asInt old) (←asInt (.int .i32 d));store a' new .atomic;pure (if true then new else old):Sem Value).run Tryz.prog w).andThen (fun v w'=>.ok (Next.value v) w')=_
 simp only [asAddr,Extern.Atomic.read,asInt,asIntOf,Op.intArith,Sem.run_bind,Sem.run_pure,Result.andThen,run_load,h,if_true]
 rw [run_store _ _ _ _ _ rfl]
 simp only [h,hf,Result.andThen]
 rfl
theorem run182 [Bd] {w:World} {a:Addr} {n:Value} {d:Int} (h:w.cell? a=some n) (hf:w.frozen? a=false):
  (callFunc 182 #[.pointer (some a),.int .i32 d]).run Tryz.prog w=.ok (.value (.tuple #[])) (w.setCell a (.int .i32 d)):=by
 rw [run_callFunc_extern Tryz.func182 (by kernel_rfl) (by kernel_rfl) (by kernel_rfl) (e:=Extern.Atomic.storeT) (by kernel_rfl)]
 change ((do store (←asAddr (.pointer (some a))) (.int .i32 d) .atomic;pure Extern.Atomic.none_:Sem Value).run Tryz.prog w).andThen (fun v w'=>.ok (Next.value v) w')=_
 simp only [asAddr,Sem.run_bind,Sem.run_pure,Result.andThen]
 rw [run_store _ _ _ _ _ rfl]
 simp only [h,hf,Result.andThen]
 rfl
theorem run183 [Bd] {w:World} {a:Addr} {n:Int} (h:w.cell? a=some (.int .i32 n)):
  (callFunc 183 #[.pointer (some a)]).run Tryz.prog w=.ok (.value (.int .i32 n)) w:=by
 rw [run_callFunc_extern Tryz.func183 (by kernel_rfl) (by kernel_rfl) (by kernel_rfl) (e:=Extern.Atomic.loadT (.int .i32)) (by kernel_rfl)]
 change ((do Extern.Atomic.read (.int .i32) (←asAddr (.pointer (some a))):Sem Value).run Tryz.prog w).andThen (fun v w'=>.ok (Next.value v) w')=_
 simp only [asAddr,Extern.Atomic.read,Sem.run_bind,Sem.run_pure,Result.andThen,run_load,h,if_true]
theorem c131 [Bd] (a:Addr) (n d:Int) (w:World) (h:w.cell? a=some (.int .i32 n)) (hf:w.frozen? a=false):Calls Tryz.prog 131 #[.pointer (some a),.int .i32 d] w fun e w'=>e=.returned (.int .i32 (IntKind.i32.wrap (n+d)))∧w'=w.setCell a (.int .i32 (IntKind.i32.wrap (n+d))):=by
 have hu:=Tryz.underlying276
 have hr:=run165 (d:=d) h hf
 clear h hf
 generalize IntKind.i32.wrap (n+d)=r at *
 go_enter Tryz.func131,Tryz.ntmps131
 go_wp2
 go_ret
 exact ⟨rfl,rfl⟩
theorem c159 [Bd] (a:Addr) (n:Value) (d:Int) (w:World) (h:w.cell? a=some n) (hf:w.frozen? a=false):Calls Tryz.prog 159 #[.pointer (some a),.int .i32 d] w fun e w'=>e=.returned (.tuple #[])∧w'=w.setCell a (.int .i32 d):=by
 have hu:=Tryz.underlying276
 have hr:=run182 (d:=d) h hf
 clear h hf
 go_enter Tryz.func159,Tryz.ntmps159
 go_wp2
 go_end0
 exact ⟨rfl,rfl⟩
theorem c160 [Bd] (a:Addr) (n:Int) (w:World) (h:w.cell? a=some (.int .i32 n)):Calls Tryz.prog 160 #[.pointer (some a)] w fun e w'=>e=.returned (.int .i32 n)∧w=w':=by
 have hu:=Tryz.underlying276
 have hr:=run183 h
 clear h
 go_enter Tryz.func160,Tryz.ntmps160
 go_wp2
 go_ret
 exact ⟨rfl,rfl⟩
end Go.Proofs.YtghppnklhbbffaaGreatDoor.X
