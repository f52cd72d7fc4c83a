/- Part 2 of the proof that laws.FnTreeLevel answers true, for arguments of small bulk. -/
import Derived.Test.YtghppnklhbbffaaGreatDoorR01
set_option linter.all false
namespace Go.Proofs.YtghppnklhbbffaaGreatDoor.X
open Go Go.RowKit Go.Proofs.YtghppnklhbbffaaGreatDoor.TL
structure Blks (n:Nat) (bs:List Nat) (w:World):Prop where
 row: ∀ b,b < n→ ∃ cs t,w.heap[nmB bs b]? =some (.cells cs t (0,0))
 inj: ∀ b b',b < n→b' < n→nmB bs b=nmB bs b'→b=b'
def ptrT (P:Program) (t:TypeId):Option TypeId:=match P.underlying t with|some (.pointer e)=>some e|_=>none
def ifcT (P:Program) (t:TypeId):Bool:=match P.underlying t with|some (.interface _)=>true|_=>false
def slT (P:Program) (t:TypeId):Bool:=match P.underlying t with|some (.slice _)=>true|_=>false
def fnT (P:Program) (t:TypeId):Bool:=match P.underlying t with|some (.func _ _ _)=>true|_=>false
def eqS (P:Program) (n:Nat) (t:TypeId) (c:Bool):SV→SV→Option Bool
 | .np,.np=>match ptrT P t with|some _=>some true|none=>none
 | .np,.p _ _=>match ptrT P t with|some _=>some false|none=>none
 | .np,.ptr _=>match ptrT P t with|some _=>some false|none=>none
 | .p _ _,.np=>match ptrT P t with|some _=>some false|none=>none
 | .ptr _,.np=>match ptrT P t with|some _=>some false|none=>none
 | .p b o,.p b' o'=>match ptrT P t with
   |some e=>match sizeT P e with
    |some (_+1)=>if Nat.blt b n&&Nat.blt b' n then some (b==b'&&o==o') else none
    |_=>none
   |none=>none
 | .ni,.ni=>if c&&ifcT P t then some true else none
 | .ni,.ifc _ _=>if ifcT P t then some false else none
 | .ifc _ _,.ni=>if ifcT P t then some false else none
 | .ns,.ns=>if slT P t then some true else none
 | .ns,.sl _ _ _=>if slT P t then some false else none
 | .sl _ _ _,.ns=>if slT P t then some false else none
 | .nf,.nf=>if fnT P t then some true else none
 | .nf,.fn _ _=>if fnT P t then some false else none
 | .fn _ _,.nf=>if fnT P t then some false else none
 |_,_=>none
section
variable {P:Program} {w:World} {bs:List Nat} {n:Nat}
theorem ptrT_of {t e:TypeId} (h:ptrT P t=some e):P.underlying t=some (.pointer e):=by
 unfold ptrT at h
 split at h
 ·rename_i e' he;simp only [Option.some.injEq] at h;subst h;exact he
 ·cases h
theorem ifcT_of {t:TypeId} (h:ifcT P t=true): ∃ ms,P.underlying t=some (.interface ms):=by
 unfold ifcT at h
 split at h
 ·rename_i ms he;exact ⟨ms,he⟩
 ·cases h
theorem slT_of {t:TypeId} (h:slT P t=true): ∃ e,P.underlying t=some (.slice e):=by
 unfold slT at h
 split at h
 ·rename_i ms he;exact ⟨ms,he⟩
 ·cases h
theorem fnT_of {t:TypeId} (h:fnT P t=true): ∃ a b c,P.underlying t=some (.func a b c):=by
 unfold fnT at h
 split at h
 ·rename_i a b c he;exact ⟨a,b,c,he⟩
 ·cases h
theorem run_sameAddr (hB:Blks n bs w) {b o b' o':Nat} (h:b < n) (h':b' < n):
  (sameAddr ⟨nmB bs b,o,none⟩ ⟨nmB bs b',o',none⟩).run P w=.ok (b==b'&&o==o') w:=by
 obtain ⟨cs,t,hc⟩:=hB.row b h
 obtain ⟨cs',t',hc'⟩:=hB.row b' h'
 by_cases e:b=b'
 ·subst e
  simp only [sameAddr,beq_self_eq_true,if_true,Bool.true_and]
  show Result.ok _ w=_
  congr 1
  by_cases ho:o=o'
  ·subst ho;simp
  ·rw [show (o==o')=false by simpa using ho]
   exact beq_eq_false_iff_ne.2 (fun h=>ho (by cases h;rfl))
 ·have hne:nmB bs b≠nmB bs b':=fun he=>e (hB.inj b b' h h' he)
  simp only [sameAddr]
  rw [if_neg (by simpa using hne)]
  have hf: ∀ x:Nat,w.frozen? ⟨nmB bs b,x,none⟩=false:=fun x=>by simp [World.frozen?,hc]
  have hf': ∀ x:Nat,w.frozen? ⟨nmB bs b',x,none⟩=false:=fun x=>by simp [World.frozen?,hc']
  have hs:w.shape? (nmB bs b)=some (t,cs.size):=by simp [World.shape?,hc]
  have hs':w.shape? (nmB bs b')=some (t',cs'.size):=by simp [World.shape?,hc']
  have hv: ∀ (g:Nat) cs t,w.heap[g]? =some (.cells cs t (0,0))→(viewAt g).run P w=.ok none w:=fun g cs t hg=>by
   simp [viewAt,Result.andThen,World.shape?,hg]
  simp [Result.andThen,hf,hf',noView,hv _ _ _ hc,hv _ _ _ hc',mayBeOne,stringish,hs,hs',e]
theorem eqS_run (hB:Blks n bs w) {t:TypeId} {c:Bool} {x y:SV} {r:Bool} (h:eqS P n t c x y=some r):(Op.equal t (x.den bs) (y.den bs)).run P w=.ok r w:=by
 unfold Op.equal
 rw [show Op.maxDepth=9999+1 from rfl]
 generalize 9999=dd
 unfold eqS at h
 split at h
 case h_6=>
  rename_i b o b' o'
  cases hp:ptrT P t with
  |none=>rw [hp] at h;cases h
  |some e=>
   rw [hp] at h
   simp only at h
   split at h
   ·rename_i k hk
    split at h
    ·rename_i hb
     simp only [Bool.and_eq_true,Nat.blt,Nat.ble_eq,Nat.succ_le_iff] at hb
     simp only [Option.some.injEq] at h
     subst h
     simp only [SV.den,Op.equalIn,Sem.run_bind,run_underlying (ptrT_of hp),Result.andThen,sizeT_run hk]
     have:=run_sameAddr (P:=P) hB (o:=o) (o':=o') hb.1 hb.2
     simpa using this
    ·cases h
   ·cases h
 case h_16=>cases h
 all_goals first
  |(cases hp:ptrT P t with
    |none=>rw [hp] at h;cases h
    |some e=>
     rw [hp] at h
     simp only [Option.some.injEq] at h
     subst h
     simp only [SV.den,Op.equalIn,Sem.run_bind,run_underlying (ptrT_of hp),Result.andThen]
     rfl)
  |(split at h
    ·rename_i hc
     simp only [Option.some.injEq] at h
     subst h
     first
      |(simp only [Bool.and_eq_true] at hc
        obtain ⟨ms,hm⟩:=ifcT_of hc.2
        simp only [SV.den,Op.equalIn,Sem.run_bind,run_underlying hm,Result.andThen];rfl)
      |(obtain ⟨ms,hm⟩:=ifcT_of hc
        simp only [SV.den,Op.equalIn,Sem.run_bind,run_underlying hm,Result.andThen];rfl)
      |(obtain ⟨ms,hm⟩:=slT_of hc
        simp only [SV.den,Op.equalIn,Sem.run_bind,run_underlying hm,Result.andThen];rfl)
      |(obtain ⟨a,b,c,hm⟩:=fnT_of hc
        simp only [SV.den,Op.equalIn,Sem.run_bind,run_underlying hm,Result.andThen];rfl)
    ·cases h)
end
def isC:Operand→Bool| .const _=>true|_=>false
def numS:SV→Option (IntKind×Int×Bool)
 | .it k n=>some (k,n,true)
 | .si k n=>some (k,n,false)
 |_=>none
def cmS (op:BinOp) (x y:Int):Option Bool:=match op with
 | .eql=>some (x==y)
 | .neq=>some (x !=y)
 | .lss=>some (decide (x < y))
 | .leq=>some (decide (x≤y))
 | .gtr=>some (decide (x>y))
 | .geq=>some (decide (x≥y))
 |_=>none
def arS (op:BinOp) (k:IntKind) (x y:Int):Option Int:=match op with
 | .add=>some (k.wrap (x+y))
 | .sub=>some (k.wrap (x - y))
 | .mul=>some (k.wrap (x*y))
 |_=>none
def isSh:BinOp→Bool
 | .shl=>true
 | .shr=>true
 |_=>false
def shS (op:BinOp) (k:IntKind) (a b:Int):Option Int:=if decide (0≤b) then match op with
 | .shr=>some (a.fdiv (2 ^ (min b.toNat k.bits)))
 | .shl=>some (k.wrap (a*2 ^ (min b.toNat k.bits)))
 |_=>none
 else none
def binS (P:Program) (n:Nat) (op:BinOp) (t:TypeId) (xo yo:Operand) (x y:SV):Option SV:=
 match numS x,numS y with
 |some (k,a,ca),some (k',b,cb)=>if isSh op then
   (if cb then match shS op k a b with
    |some r=>some (if ca then .it k r else .si k r)
    |none=>none
   else none)
  else if k=k' then
   match cmS op a b with
   |some r=>some (if ca&&cb then .bl r else .sb r)
   |none=>match arS op k a b with
    |some r=>some (if ca&&cb then .it k r else .si k r)
    |none=>none
  else none
 |_,_=>match op with
  | .eql=>match eqS P n t (isC xo||isC yo) x y with|some r=>some (.bl r)|none=>none
  | .neq=>match eqS P n t (isC xo||isC yo) x y with|some r=>some (.bl (!r))|none=>none
  |_=>none
def cellsV:SV→Option (List SV)
 | .agg l=>some l
 | .tup _=>none
 | .va _=>none
 | .un=>none
 |x=>some [x]
def partS (P:Program) (t:TypeId) (l:List SV) (off:Nat):Option SV:=match aggT P t with
 |some true=>match sizeT P t with|some n=>some (.agg ((l.drop off).take n))|none=>none
 |some false=>l[off]?
 |none=>none
def putL (l:List SV):Nat→List SV→List SV
 |_,[]=>l
 |i,x::r=>putL (l.set i x) (i+1) r
def fillS (place:Nat→Option (Nat×Nat)):List SV→List (Nat×SV)→Option (List SV)
 |l,[]=>some l
 |l,(i,x)::rest=>match place i with
  |none=>none
  |some (off,size)=>match cellsV x with
   |some c=>if c.length==size&&Nat.ble (off+c.length) l.length then fillS place (putL l off c) rest else none
   |none=>none
def zeroS (P:Program) (t:TypeId):Option (List SV):=match P.info? t with
 |some i=>match i.zero with
  |some z=>some (z.cells.toList.map ofV)
  |none=>none
 |none=>none
def placesS (P:Program) (t:TypeId):Option (List (Nat×Nat)):=match P.underlying t with
 |some (.struct fs)=>fs.toList.mapM (fun f=>(P.info? f.type).map fun i=>(f.offset,i.size))
 |_=>none
def buildS (P:Program) (t:TypeId) (parts:List (Nat×SV)):Option SV:=match zeroS P t,placesS P t with
 |some z,some pl=>match fillS (pl[·]?) z parts with|some l=>some (.agg l)|none=>none
 |_,_=>none
def arrT (P:Program) (t:TypeId):Option (Nat×TypeId):=match P.underlying t with|some (.array n e)=>some (n,e)|_=>none
def idxS (P:Program) (t:TypeId) (j:SV):Option (Nat×TypeId):=match arrT P t,j with
 |some (n,e),.it _ i=>match sizeT P e with
  |some s=>if decide (0≤i)&&decide (i < n) then some (i.toNat*s,e) else none
  |none=>none
 |_,_=>none
def slE (P:Program) (t:TypeId):Option TypeId:=match P.underlying t with|some (.slice e)=>some e|_=>none
def obS (T:List SV):Op→List (Bool×Bool)
 | .indexAddr _ x j=>match evS T x,numS (evS T j) with
   | .sl _ n _,some (_,i,_)=>[(decide (0≤i),true),(decide (i < (n:Int)),true)]
   |_,_=>[]
 |_=>[]
def AllEq:List (Bool×Bool)→Prop
 |[]=>True
 |(a,b)::l=>a=b∧AllEq l
theorem AllEq.app: ∀ {l r:List (Bool×Bool)},AllEq (l++r)→AllEq l∧AllEq r
 |[],_,h=>⟨trivial,h⟩
 |(_,_)::l,r,h=>by
  obtain ⟨h1,h2⟩:=h
  obtain ⟨h3,h4⟩:=AllEq.app (l:=l) h2
  exact ⟨⟨h1,h3⟩,h4⟩
def calmS (P:Program) (n:Nat) (L:Look) (T:List SV):Op→Option SV
 | .move x=>some (evS T x)
 | .assign x=>some (evS T x)
 | .pick c x y=>match evS T c with
   | .bl true=>some (evS T x)
   | .bl false=>some (evS T y)
   | .sb c=>match evS T x,evS T y with
     | .bl x,.sb y=>some (.sb (cond c x y))
     | .sb x,.bl y=>some (.sb (cond c x y))
     | .sb x,.sb y=>some (.sb (cond c x y))
     |_,_=>none
   |_=>none
 | .load t x=>match evS T x with
   | .p g off=>loadS P L t g off
   |_=>none
 | .nilCheck x=>match evS T x with
   | .p g off=>some (.p g off)
   | .ptr a=>some (.ptr a)
   | .fn f c=>some (.fn f c)
   | .ifc t y=>some (.ifc t y)
   | .sl a m c=>some (.sl a m c)
   |_=>none
 | .binOp op t x y _=>binS P n op t x y (evS T x) (evS T y)
 | .unOp .not _ x=>match evS T x with
   | .bl x=>some (.bl (!x))
   | .sb x=>some (.sb (!x))
   |_=>none
 | .convert s d x=>match evS T x,P.underlying s,P.underlying d with
   | .it _ m,some _,some (.int k)=>some (.it k (k.wrap m))
   | .si _ m,some _,some (.int k)=>some (.si k (k.wrap m))
   |_,_,_=>none
 | .fieldAddr s x f=>match fieldT P s f with
   |some (off,ft)=>match sizeT P ft with
    |some (_+1)=>match evS T x with
     | .p g o=>some (.p g (o+off))
     | .ptr a=>some (.ptr (a.add off))
     |_=>none
    |_=>none
   |none=>none
 | .field t x f=>match fieldT P t f,evS T x with
   |some (off,ft),.agg l=>partS P ft l off
   |_,_=>none
 | .indexAddr t x j=>match evS T x with
   | .p g o=>match idxS P t (evS T j) with
     |some (d,_)=>some (.p g (o+d))
     |none=>none
   | .sl a _ _=>match slE P t,numS (evS T j) with
     |some e,some (_,i,_)=>match sizeT P e with
      |some s=>some (.ptr (a.add (i.toNat*s)))
      |none=>none
     |_,_=>none
   |_=>none
 | .index t x j=>match idxS P t (evS T j),evS T x with
   |some (d,e),.agg l=>partS P e l d
   |_,_=>none
 | .build t parts=>buildS P t (parts.toList.map fun q=>(q.1,evS T q.2))
 | .makeInterface t x=>if P.concrete t then some (.ifc t (evS T x)) else none
 | .makeFunc (.func f) first cap=>if first.size==0 then some (.fn f (cap.toList.map (evS T))) else none
 | .extract x j=>match evS T x with
   | .tup l=>l[j]?
   |_=>none
 | .call c=>match c.callee,c.argTypes[0]?,c.args[0]? with
   | .builtin .len,some t,some x=>match P.underlying t,evS T x with
     |some (.slice _),.sl _ m _=>some (.si .i64 m)
     |some (.slice _),.ns=>some (.it .i64 0)
     |some (.array m _),_=>some (.it .i64 m)
     |_,_=>none
   |_,_,_=>none
 |_=>none
section
variable {P:Program} {w:World} {bs:List Nat} {n:Nat}
theorem numS_den {x:SV} {k:IntKind} {n:Int} {c:Bool} (h:numS x=some (k,n,c)):x.den bs=.int k n:=by
 unfold numS at h
 split at h<;>simp_all [SV.den]
theorem eqGuard_run {t:TypeId} {c:Bool} {op:BinOp} {xo yo:Operand} {x y:SV} {r:Bool} (h:eqS P n t (isC xo||isC yo) x y=some r):(eqGuard op t xo yo (x.den bs) (y.den bs)).run P w=.ok () w:=by
 unfold eqS at h
 split at h
 case h_7=>
  split at h
  ·rename_i hc
   simp only [Bool.and_eq_true,Bool.or_eq_true] at hc
   unfold eqGuard
   cases op<;>try rfl
   all_goals
    simp only [SV.den]
    rcases hc.1 with hx|hx
    ·cases xo<;>simp [isC] at hx ⊢
    ·cases yo<;>simp [isC] at hx ⊢
     all_goals (cases xo<;>simp)
  ·cases h
 case h_16=>cases h
 all_goals (unfold eqGuard;cases op<;>rfl)
theorem binS_run (hB:Blks n bs w) {op:BinOp} {t:TypeId} {xo yo:Operand} {x y r:SV} (h:binS P n op t xo yo x y=some r):
  (do eqGuard op t xo yo (x.den bs) (y.den bs);binOp op t (x.den bs) (y.den bs):Sem Value).run P w=.ok (r.den bs) w:=by
 unfold binS at h
 split at h
 ·rename_i k a ca k' b cb hx hy
  split at h
  ·rename_i hsh
   split at h
   ·split at h
    ·rename_i r' hs
     simp only [Option.some.injEq] at h
     subst h
     rw [numS_den hx,numS_den hy]
     have hg:(eqGuard op t xo yo (.int k a) (.int k' b)).run P w=.ok () w:=by unfold eqGuard;cases op<;>rfl
     simp only [Sem.run_bind,hg,Result.andThen]
     unfold shS at hs
     split at hs
     ·rename_i h0
      simp only [decide_eq_true_eq] at h0
      cases op<;>simp only [isSh] at hsh<;>simp only at hs<;>first
       |(cases hsh;done)
       |(simp only [Option.some.injEq] at hs
         subst hs
         simp only [binOp,Op.shift]
         rw [if_neg (by omega)]
         cases ca<;>simp [SV.den])
     ·cases hs
    ·cases h
   ·cases h
  split at h
  ·rename_i hk
   subst hk
   rw [numS_den hx,numS_den hy]
   have hg:(eqGuard op t xo yo (.int k a) (.int k b)).run P w=.ok () w:=by unfold eqGuard;cases op<;>rfl
   simp only [Sem.run_bind,hg,Result.andThen]
   cases op<;>simp only [cmS,arS] at h<;>first
    |(cases h;done)
    |(simp only [Option.some.injEq] at h
      subst h
      simp [binOp,Op.intCmp,Op.intArith]
      cases ca<;>cases cb<;>simp [SV.den])
  ·cases h
 ·have hne: ∀ k a k' b, ¬ (x.den bs=.int k a∧y.den bs=.int k' b)∨True:=fun _ _ _ _=>.inr trivial
  cases op<;>simp only at h<;>try (cases h;done)
  all_goals
   split at h
   ·rename_i r' he
    simp only [Option.some.injEq] at h
    subst h
    have h1:=eqS_run (w:=w) hB he
    simp only [Sem.run_bind,eqGuard_run (c:=true) he,Result.andThen]
    unfold eqS at he
    split at he
    case h_16=>cases he
    all_goals (simp only [SV.den] at h1 ⊢; simp [binOp,h1,Result.andThen])
   ·cases h
end
section
variable {P:Program} {w:World} {bs:List Nat} {n:Nat}
theorem oneCell_cells {x:Value} (h:x.oneCell'=true):x.cells= #[x]:=by
 cases x<;>simp_all [Value.oneCell',Value.cells]
theorem cellsV_den {x:SV} {l:List SV} (h:cellsV x=some l):(x.den bs).cells=(SV.denL bs l).toArray:=by
 unfold cellsV at h
 split at h
 ·simp only [Option.some.injEq] at h;subst h;simp [SV.den,Value.cells]
 ·cases h
 ·cases h
 ·cases h
 ·simp only [Option.some.injEq] at h
  subst h
  simp only [SV.denL]
  cases x<;>simp_all [SV.den,Value.cells]
  ·exact oneCell_cells ‹_›
theorem partS_run {t:TypeId} {l:List SV} {off:Nat} {r:SV} (h:partS P t l off=some r):(part t (SV.denL bs l).toArray off).run P w=.ok (r.den bs) w:=by
 unfold partS at h
 cases ha:aggT P t with
 |none=>rw [ha] at h;cases h
 |some ag=>
  rw [ha] at h
  unfold part
  simp only [Sem.run_bind,aggT_run ha,Result.andThen]
  cases ag with
  |false=>
   simp only at h
   have:(SV.denL bs l)[off]? =some (r.den bs):=by rw [denL_get,h];rfl
   simp [this]
  |true=>
   simp only at h
   cases hs:sizeT P t with
   |none=>rw [hs] at h;cases h
   |some n=>
    rw [hs] at h
    simp only [Option.some.injEq] at h
    subst h
    simp only [if_true,Sem.run_bind,sizeT_run hs,Result.andThen,Sem.run_pure,SV.den]
    congr 2
    rw [List.extract_toArray]
    congr 1
    simp [denL_map,List.extract_eq_take_drop,List.map_drop,List.map_take]
theorem fold_put: ∀ (c:List SV) (l:List SV) (off k:Nat),
  ((SV.denL bs c).zipIdx k).foldl (fun cs (p:Value×Nat)=>cs.setIfInBounds (off+p.2) p.1) (SV.denL bs l).toArray=(SV.denL bs (putL l (off+k) c)).toArray
 |[],l,off,k=>rfl
 |x::r,l,off,k=>by
  simp only [SV.denL,List.zipIdx_cons,List.foldl_cons,putL]
  rw [List.setIfInBounds_toArray,show (SV.denL bs l).set (off+k) (x.den bs)=SV.denL bs (l.set (off+k) x) by simp [denL_map,List.map_set]]
  rw [fold_put r (l.set (off+k) x) off (k+1)]
  rfl
theorem fillS_den {place:Nat→Option (Nat×Nat)}: ∀ (parts:List (Nat×SV)) (l r:List SV),fillS place l parts=some r→
  Instr.fill place (SV.denL bs l).toArray (parts.map fun q=>(q.1,q.2.den bs))=some (SV.denL bs r).toArray
 |[],l,r,h=>by simp only [fillS,Option.some.injEq] at h;subst h;rfl
 |(i,x)::rest,l,r,h=>by
  simp only [fillS] at h
  simp only [List.map_cons,Instr.fill]
  cases hp:place i with
  |none=>rw [hp] at h;cases h
  |some q=>
   obtain ⟨off,size⟩:=q
   rw [hp] at h
   simp only at h ⊢
   cases hc:cellsV x with
   |none=>rw [hc] at h;cases h
   |some c=>
    rw [hc] at h
    simp only at h
    split at h
    ·rename_i hb
     simp only [Bool.and_eq_true,beq_iff_eq,Nat.ble_eq] at hb
     rw [cellsV_den hc]
     rw [if_neg (by simp;omega)]
     rw [←fillS_den rest (putL l off c) r h]
     congr 1
     have:=fold_put (bs:=bs) c l off 0
     simp only [Nat.add_zero] at this
     rw [←this, ←Array.foldl_toList,Array.toList_zipIdx]
    ·cases h
theorem buildS_run {t:TypeId} {parts:Array (Nat×Operand)} {f:Operand→SV} {r:SV} (h:buildS P t (parts.toList.map fun q=>(q.1,f q.2))=some r):
  (Instr.build t (parts.map fun q=>(q.1,(f q.2).den bs))).run P w=.ok (r.den bs) w:=by
 unfold buildS at h
 cases hz:zeroS P t with
 |none=>rw [hz] at h;cases h
 |some z=>
  cases hp:placesS P t with
  |none=>rw [hz,hp] at h;cases h
  |some pl=>
   rw [hz,hp] at h
   simp only at h
   cases hf:fillS (pl[·]?) z (parts.toList.map fun q=>(q.1,f q.2)) with
   |none=>rw [hf] at h;cases h
   |some l=>
    rw [hf] at h
    simp only [Option.some.injEq] at h
    subst h
    rw [SV.den]
    apply run_build
    unfold zeroS at hz
    unfold placesS at hp
    cases hi:P.info? t with
    |none=>rw [hi] at hz;cases hz
    |some it=>
     rw [hi] at hz
     simp only at hz
     cases hzz:it.zero with
     |none=>rw [hzz] at hz;cases hz
     |some zz=>
      rw [hzz] at hz
      simp only [Option.some.injEq] at hz
      subst hz
      split at hp
      ·rename_i fs hu
       unfold Program.built
       simp only [hi,hu,hzz,hp]
       have:=fillS_den (bs:=bs) _ _ _ hf
       rw [denL_ofV] at this
       simpa [List.map_map,Function.comp_def] using this
      ·cases hp
theorem arrT_of {t e:TypeId} {n:Nat} (h:arrT P t=some (n,e)):P.underlying t=some (.array n e):=by
 unfold arrT at h
 split at h
 ·rename_i n' e' he;simp only [Option.some.injEq,Prod.mk.injEq] at h;rw [he,h.1,h.2]
 ·cases h
theorem fieldT_of {t ft:TypeId} {f off:Nat} (h:fieldT P t f=some (off,ft)): ∃ fs d,P.underlying t=some (.struct fs)∧fs[f]? =some d∧d.offset=off∧d.type=ft:=by
 unfold fieldT at h
 split at h
 ·rename_i fs hu
  split at h
  ·rename_i d hd
   simp only [Option.some.injEq,Prod.mk.injEq] at h
   exact ⟨fs,d,hu,hd,h.1,h.2⟩
  ·cases h
 ·cases h
theorem idxS_of {t e:TypeId} {j:SV} {d:Nat} (h:idxS P t j=some (d,e)): ∃ n k i s,P.underlying t=some (.array n e)∧j.den bs=.int k i∧sizeT P e=some s∧0≤i∧i < n∧d=i.toNat*s:=by
 unfold idxS at h
 split at h
 ·rename_i n e' k i ha
  split at h
  ·rename_i s hs
   split at h
   ·rename_i hb
    simp only [Bool.and_eq_true,decide_eq_true_eq] at hb
    simp only [Option.some.injEq,Prod.mk.injEq] at h
    obtain ⟨rfl,rfl⟩:=h
    exact ⟨n,k,i,s,arrT_of ha,by simp [SV.den],hs,hb.1,hb.2,rfl⟩
   ·cases h
  ·cases h
 ·cases h
theorem resolve_builtin {ρ:Operand→Value} {c:Call} {ty:TypeId} {b:Builtin} (h:c.callee=.builtin b) (w:World):
  (resolve ρ c ty).run P w=.ok { target:=.builtin b c.argTypes ty (c.args.map fun| .const _=>true|_=>false),args:=c.args.map ρ } w:=by
 unfold resolve
 simp only [h]
 rfl
theorem calmS_run (hB:Blks n bs w) {L:Look} (hL:Sees bs L w) {T:List SV} {o:Oper} {r:SV} (h:calmS P n L T o.op=some r) (hob:AllEq (obS T o.op)):
  (execOp (actS bs T).eval o).run P w=.ok (.value (r.den bs)) w:=by
 have hρ:(actS bs T).eval=fun x=>(evS T x).den bs:=funext (ev_den bs T)
 rw [hρ]
 obtain ⟨dst,op,ty,pos,after,guard⟩:=o
 cases op<;>simp only [calmS] at h<;>try (cases h;done)
 case move x=>simp only [Option.some.injEq] at h;subst h;simp [execOp]
 case assign x=>simp only [Option.some.injEq] at h;subst h;simp [execOp]
 case pick c x y=>
  simp only [execOp]
  split at h
  ·rename_i hc;simp only [Option.some.injEq] at h;subst h;simp [hc,SV.den,asBool,Result.andThen]
  ·rename_i hc;simp only [Option.some.injEq] at h;subst h;simp [hc,SV.den,asBool,Result.andThen]
  ·rename_i cc hc
   split at h
   all_goals first
    |(rename_i h1 h2;simp only [Option.some.injEq] at h;subst h;simp only [execOp,hc,h1,h2,SV.den];cases cc<;>rfl)
    |(cases h;done)
  ·cases h
 case load t x=>
  split at h
  ·rename_i g off hx
   simp only [execOp,hx,SV.den,Instr.loadAt,Instr.sureAddr]
   have:=loadS_run hL h
   simp [this,Result.andThen]
  ·cases h
 case nilCheck x=>
  simp only [execOp]
  split at h
  all_goals first
   |(rename_i hx;simp only [Option.some.injEq] at h;subst h;rw [hx];simp only [SV.den];rfl)
   |cases h
 case binOp op t x y ty'=>
  simp only [execOp]
  have:=binS_run (w:=w) hB h
  simp only [Sem.run_bind] at this ⊢
  rw [this]
  simp [Result.andThen]
 case unOp op t x=>
  cases op<;>simp only at h<;>try (cases h;done)
  split at h
  all_goals first
   |(rename_i hx;simp only [Option.some.injEq] at h;subst h;simp [execOp,hx,SV.den,Op.unary,Result.andThen])
   |cases h
 case convert s d x=>
  split at h
  all_goals first
   |(rename_i hx hs hd;simp only [Option.some.injEq] at h;subst h
     simp only [execOp,hx,SV.den,convert,Sem.run_bind,run_underlying hs,run_underlying hd,Result.andThen]
     rename_i ds _ _ _;cases ds<;>simp [Conv.intToInt,Result.andThen])
   |cases h
 case fieldAddr s x f=>
  split at h
  ·rename_i off ft hf
   obtain ⟨fs,d,hu,hd,rfl,rfl⟩:=fieldT_of hf
   split at h
   ·rename_i k hk
    have hfp: ∀ a:Addr,(fieldPlace a d).run P w=.ok (a.add d.offset) w:=fun a=>by
     unfold fieldPlace
     simp only [Sem.run_bind,sizeT_run hk,Result.andThen]
     rfl
    split at h
    all_goals first
     |(rename_i hx;simp only [Option.some.injEq] at h;subst h
       simp only [execOp,hx,SV.den,Instr.fieldAt,Sem.run_bind,run_underlying hu,Result.andThen,hd,Instr.sureAddr,Sem.run_pure,hfp,add_none]
       done)
     |(cases h;done)
   ·cases h
  ·cases h
 case field t x f=>
  split at h
  ·rename_i off ft l hf hx
   obtain ⟨fs,d,hu,hd,rfl,rfl⟩:=fieldT_of hf
   simp only [execOp,hx,SV.den,Instr.field,Sem.run_bind,run_underlying hu,Result.andThen,hd,asAgg,Sem.run_pure,partS_run h]
  ·cases h
 case indexAddr t x j=>
  split at h
  ·rename_i g off hx
   split at h
   ·rename_i d e hi
    obtain ⟨n,k,i,s,hu,hj,hs,h0,h1,rfl⟩:=idxS_of (bs:=bs) hi
    simp only [Option.some.injEq] at h
    subst h
    simp only [execOp,hx,hj,SV.den,Instr.indexAt,asIntOf,Sem.run_bind,run_underlying hu,Result.andThen,Instr.sureAddr,Sem.run_pure]
    rw [if_pos ⟨h0,h1⟩]
    simp only [Sem.run_bind,sizeT_run hs,Result.andThen,Sem.run_pure,add_none]
   ·cases h
  ·rename_i a m c hx
   split at h
   ·rename_i e k i cl he hn
    split at h
    ·rename_i s hs
     simp only [Option.some.injEq] at h
     subst h
     simp only [obS,hx,hn,AllEq,decide_eq_true_eq] at hob
     have hu:P.underlying t=some (.slice e):=by
      unfold slE at he
      split at he
      ·rename_i e' hu;simp only [Option.some.injEq] at he;subst he;exact hu
      ·cases he
     simp only [execOp,hx,numS_den hn,SV.den,Instr.indexAt,asIntOf,Sem.run_bind,run_underlying hu,Result.andThen,Sem.run_pure]
     rw [if_pos ⟨hob.1,hob.2.1⟩]
     simp only [Sem.run_bind,sizeT_run hs,Result.andThen,Sem.run_pure]
    ·cases h
   ·cases h
  ·cases h
 case index t x j=>
  split at h
  ·rename_i d e l hi hx
   obtain ⟨n,k,i,s,hu,hj,hs,h0,h1,rfl⟩:=idxS_of (bs:=bs) hi
   simp only [execOp,hx,hj,SV.den,Instr.index,asIntOf,Sem.run_bind,run_underlying hu,Result.andThen,Sem.run_pure]
   rw [if_pos ⟨h0,h1⟩]
   simp only [Sem.run_bind,sizeT_run hs,Result.andThen,partS_run h,Sem.run_pure]
  ·cases h
 case build t parts=>
  simp only [execOp]
  have:=buildS_run (w:=w) (bs:=bs) (f:=evS T) h
  simp only [Sem.run_bind,this,Result.andThen,Sem.run_pure]
 case makeInterface t x=>
  split at h
  ·rename_i hc
   simp only [Option.some.injEq] at h
   subst h
   simp only [execOp,Sem.run_bind,run_makeInterface (P:=P) w t _ hc,Result.andThen,Sem.run_pure,SV.den]
  ·cases h
 case makeFunc fn first cap=>
  cases fn<;>simp only [calmS] at h<;>try (cases h;done)
  split at h
  ·rename_i f hf
   simp only [Option.some.injEq] at h
   subst h
   have he:first= #[]:=Array.eq_empty_of_size_eq_zero (by simpa using hf)
   subst he
   simp only [execOp,Instr.makeFunc,SV.den,show Array.map (fun x=>SV.den bs (evS T x)) #[]= #[] by simp]
   simp only [Sem.run_bind,Sem.run_pure,Result.andThen]
   congr 3
   rw [denL_map,List.map_map]
   apply Array.ext'
   simp [Function.comp_def]
  ·cases h
 case extract x j=>
  split at h
  ·rename_i l hx
   have:(SV.denL bs l)[j]? =some (r.den bs):=by rw [denL_get,h];rfl
   simp only [execOp,hx,SV.den,Instr.extract,List.getElem?_toArray,this,Sem.run_bind,Sem.run_pure,Result.andThen]
  ·cases h
 case call c=>
  split at h
  ·rename_i t x hc ht hx
   simp only [execOp,Sem.run_bind,resolve_builtin hc,Result.andThen,invoke,builtin,Builtin.len_,ht,Array.getElem?_map,hx,Option.map_some]
   split at h
   all_goals first
    |(rename_i hu hv;simp only [Option.some.injEq] at h;subst h
      simp only [hv,SV.den,Sem.run_bind,run_underlying hu,Result.andThen,Sem.run_pure,goInt]
      done)
    |(rename_i hu hv;simp only [Option.some.injEq] at h;subst h
      simp only [hv,SV.den,Sem.run_bind,run_underlying hu,Result.andThen,Sem.run_pure,goInt]
      rfl)
    |(rename_i hu;simp only [Option.some.injEq] at h;subst h
      simp only [SV.den,Sem.run_bind,run_underlying hu,Result.andThen,Sem.run_pure,goInt]
      done)
    |(cases h;done)
  ·cases h
end
structure SB where
 ty:TypeId
 cs:List SV
 deriving Inhabited
structure Sat [Bd] (bs:List Nat) (H:List SB) (w:World):Prop where
 len:bs.length=H.length
 inj: ∀ b b',b < bs.length→b' < bs.length→nmB bs b=nmB bs b'→b=b'
 mem: ∀ b ob,H[b]? =some ob→w.heap[nmB bs b]? =some (.cells (SV.denL bs ob.cs).toArray ob.ty (0,0))
 lo: ∀ x∈bs,Bd.B≤x
 sz:Bd.B≤w.heap.size
theorem Sat.loN [Bd] {bs:List Nat} {H:List SB} {w:World} (h:Sat bs H w) {b:Nat} (hb:b < bs.length):Bd.B≤nmB bs b:=by
 have e:nmB bs b=bs[b]:=by simp [nmB,List.getD_eq_getElem?_getD,hb]
 rw [e];exact h.lo _ (List.getElem_mem _)
def wfH (n:Nat):List SB→Bool
 |[]=>true
 |o::r=>SV.ltL n o.cs&&wfH n r
def lookH (us:List TypeId) (H:List SB):Look:=fun b o=>match H[b]? with
 |some ob=>if us.contains ob.ty then none else ob.cs[o]?
 |none=>none
theorem wfH_get [Bd] {n:Nat}: ∀ {H:List SB} {b:Nat} {ob:SB},wfH n H=true→H[b]? =some ob→SV.ltL n ob.cs=true
 |[],_,_,_,h=>by simp at h
 |o::r,b,ob,hw,h=>by
  simp only [wfH,Bool.and_eq_true] at hw
  cases b with
  |zero=>simp only [List.getElem?_cons_zero,Option.some.injEq] at h;subst h;exact hw.1
  |succ b=>exact wfH_get hw.2 (by simpa using h)
theorem ltL_get [Bd] {n:Nat}: ∀ {l:List SV} {i:Nat} {x:SV},SV.ltL n l=true→l[i]? =some x→x.lt n=true
 |[],_,_,_,h=>by simp at h
 |a::l,i,x,hw,h=>by
  simp only [SV.ltL,Bool.and_eq_true] at hw
  cases i with
  |zero=>simp only [List.getElem?_cons_zero,Option.some.injEq] at h;subst h;exact hw.1
  |succ i=>exact ltL_get hw.2 (by simpa using h)
section
variable {bs nw:List Nat} {H:List SB} {w w':World}
theorem Sat.lt [Bd] (h:Sat bs H w) {b:Nat} (hb:b < bs.length): ∃ ob,H[b]? =some ob:=⟨H[b]'(by have:=h.len;omega),by simp⟩
theorem Sat.blks [Bd] (h:Sat bs H w):Blks H.length bs w:=
 ⟨fun b hb=>by
  obtain ⟨ob,ho⟩:=h.lt (b:=b) (by rw [h.len];exact hb)
  exact ⟨_,_,h.mem b ob ho⟩,fun b b' hb hb'=>h.inj b b' (by rw [h.len];exact hb) (by rw [h.len];exact hb')⟩
theorem cell_of_heap [Bd] {g:Nat} {cs:Array Value} {t:TypeId} {f:Nat×Nat} {o:Nat} {v:Value} (hg:w.heap[g]? =some (.cells cs t f)) (hv:cs[o]? =some v):w.cell? ⟨g,o,none⟩=some v:=by
 simp [World.cell?,hg,hv]
theorem Sat.sees [Bd] (h:Sat bs H w):Sees bs (lookH [] H) w:=fun b o x hx=>by
 unfold lookH at hx
 split at hx
 ·rename_i ob ho
  simp only [List.contains_nil,Bool.false_eq_true,if_false] at hx
  exact cell_of_heap (h.mem b ob ho) (by rw [List.getElem?_toArray,denL_get,hx];rfl)
 ·cases hx
theorem Sat.seesK [Bd] (h:Sat bs H w) (hw:wfH H.length H=true) {us:List TypeId} (hk:Kept us w w'):Sees (bs++nw) (lookH us H) w':=fun b o x hx=>by
 unfold lookH at hx
 split at hx
 ·rename_i ob ho
  split at hx
  ·cases hx
  ·rename_i hu
   have hb:=(List.getElem?_eq_some_iff.1 ho).1
   have hlt:=ltL_get (wfH_get hw ho) hx
   rw [getD_app (by rw [h.len];exact hb),den_app x (by rw [h.len];exact hlt)]
   have hm:=h.mem b ob ho
   have hs:=solid_of (ts:=us) hm (by simpa using hu)
   refine cell_of_heap (cs:=(SV.denL bs ob.cs).toArray) (t:=ob.ty) (f:=(0,0)) ?_ (by rw [List.getElem?_toArray,denL_get,hx];rfl)
   rw [hk.block _ hs];exact hm
 ·cases hx
theorem Sat.blksK [Bd] (h:Sat bs H w) {us:List TypeId} (hk:Kept us w w'):Blks H.length (bs++nw) w':=
 ⟨fun b hb=>by
  obtain ⟨ob,ho⟩:=h.lt (b:=b) (by rw [h.len];exact hb)
  obtain ⟨c',hc⟩:=hk.ty _ _ _ _ (h.mem b ob ho)
  rw [getD_app (by rw [h.len];exact hb)]
  exact ⟨_,_,hc⟩,fun b b' hb hb' he=>by
  rw [getD_app (by rw [h.len];exact hb),getD_app (by rw [h.len];exact hb')] at he
  exact h.inj b b' (by rw [h.len];exact hb) (by rw [h.len];exact hb') he⟩
theorem Sat.drew [Bd] (h:Sat bs H w):Sat bs H w.drew:=⟨h.len,h.inj,h.mem,h.lo,h.sz⟩
def oneB:SV→Bool
 | .va _=>false
 | .un=>false
 | .agg _=>false
 | .tup _=>false
 |_=>true
theorem oneB_den [Bd] {x:SV} (h:oneB x=true):(x.den bs).oneCell'=true:=by
 cases x<;>first
  |(simp only [SV.den];assumption)
  |(simp_all [oneB,SV.den,Value.oneCell'];done)
def storeS (P:Program) (H:List SB) (t:TypeId) (b o:Nat) (x:SV):Option (List SB):=match H[b]?,cellsV x,sizeT P t with
 |some ob,some c,some n=>if c.length==n&&Nat.ble (o+n) ob.cs.length&&c.all oneB then some (H.set b ⟨ob.ty,putL ob.cs o c⟩) else none
 |_,_,_=>none
theorem putL_den [Bd]: ∀ (c l:List SV) (o:Nat),o+c.length≤l.length→SV.denL bs (putL l o c)=(SV.denL bs l).take o++SV.denL bs c++(SV.denL bs l).drop (o+c.length)
 |[],l,o,h=>by simp [putL,SV.denL]
 |x::r,l,o,h=>by
  simp only [List.length_cons] at h
  rw [putL,putL_den r (l.set o x) (o+1) (by simp;omega)]
  simp only [denL_map,List.map_set,List.map_cons]
  apply List.ext_getElem?
  intro j
  simp only [List.length_cons,List.length_map]
  by_cases h1:j < o
  ·rw [List.getElem?_append_left (by simp;omega),List.getElem?_append_left (by simp;omega),List.getElem?_append_left (by simp;omega),List.getElem?_append_left (by simp;omega)]
   simp [List.getElem?_take,List.getElem?_set,show j < o+1 by omega,h1,show ¬ o=j by omega]
  ·by_cases h2:j=o
   ·subst h2
    rw [List.getElem?_append_left (by simp;omega),List.getElem?_append_left (by simp;omega),List.getElem?_append_left (by simp;omega),List.getElem?_append_right (by simp;omega)]
    simp [List.getElem?_take,show j < l.length by omega,Nat.min_eq_left (show j≤l.length by omega)]
   ·by_cases h3:j < o+(r.length+1)
    ·rw [List.getElem?_append_left (by simp;omega),List.getElem?_append_right (by simp;omega),List.getElem?_append_left (by simp;omega),List.getElem?_append_right (by simp;omega)]
     simp only [List.length_take,List.length_map,List.length_set,List.getElem?_map,Nat.min_eq_left (show o+1≤l.length by omega),Nat.min_eq_left (show o≤l.length by omega)]
     rw [show j - o=(j - (o+1))+1 by omega,List.getElem?_cons_succ,List.getElem?_map]
    ·rw [List.getElem?_append_right (by simp;omega),List.getElem?_append_right (by simp;omega)]
     simp only [List.length_append,List.length_take,List.length_map,List.length_set,List.length_cons,List.getElem?_drop,List.getElem?_set,Nat.min_eq_left (show o+1≤l.length by omega),Nat.min_eq_left (show o≤l.length by omega)]
     rw [if_neg (by omega)]
     congr 1
     omega
theorem Kept.setRow [Bd] {ts:List TypeId} {a b:World} (h:Kept ts a b) {g:Nat} {old cs:Array Value} {t:TypeId} {f:Nat×Nat} (hg:b.heap[g]? =some (.cells old t f)) (ht:t∈ts∨a.heap.size≤g) (hB:Bd.B≤g):Kept ts a (b.setRow g cs):=by
 rcases ht with ht|ht
 ·refine h.trans ⟨rfl,rfl,rfl,by simp,fun k hk=>?_,fun k c' t' f' hc=>?_⟩
  ·by_cases hp:k=g
   ·subst hp
    obtain ⟨o,ho,hn⟩:=hk
    rw [hg] at ho
    cases ho
    exact absurd ht (hn hB _ _ _ rfl)
   ·exact setRow_other _ _ _ _ hp
  ·by_cases hp:k=g
   ·subst hp
    rw [hg] at hc
    cases hc
    exact ⟨cs,setRow_heap _ _ _ _ _ _ hg⟩
   ·exact ⟨c',by rw [setRow_other _ _ _ _ hp];exact hc⟩
 ·refine ⟨h.os,h.tape,h.output,by simpa using h.size,fun k hk=>?_,fun k c' t' f' hc=>?_⟩
  ·rw [setRow_other _ _ _ _ (by have:=hk.lt;omega)];exact h.block k hk
  ·have:=(Array.getElem?_eq_some_iff.1 hc).1
   rw [setRow_other _ _ _ _ (by omega)];exact h.ty k c' t' f' hc
theorem storeS_run [Bd] {P:Program} (h:Sat bs H w) {t:TypeId} {b o:Nat} {x:SV} {H':List SB} (hs:storeS P H t b o x=some H'):
  ∃ (old cs:Array Value) (ty:TypeId),w.heap[nmB bs b]? =some (.cells old ty (0,0))∧(∃ ob,H[b]? =some ob∧ob.ty=ty)∧(storeVar t ⟨nmB bs b,o,none⟩ (x.den bs)).run P w=.ok () (w.setRow (nmB bs b) cs)∧Sat bs H' (w.setRow (nmB bs b) cs):=by
 unfold storeS at hs
 split at hs
 ·rename_i ob c n ho hc hn
  split at hs
  ·rename_i hb
   simp only [Bool.and_eq_true,beq_iff_eq,Nat.ble_eq,List.all_eq_true] at hb
   obtain ⟨⟨h1,h2⟩,h3⟩:=hb
   simp only [Option.some.injEq] at hs
   subst hs
   have hm:=h.mem b ob ho
   have hbl:=(List.getElem?_eq_some_iff.1 ho).1
   have hrun:=run_storeCells_at (P:=P) (nmB bs b) o ob.ty (SV.denL bs c) 0 _ w hm (by simp;omega) (fun v hv=>by
    rw [denL_map] at hv
    obtain ⟨y,hy,rfl⟩:=List.mem_map.1 hv
    exact oneB_den (h3 y hy))
   simp only [Nat.add_zero,denL_length] at hrun
   have e:(SV.denL bs ob.cs).toArray.toList.take o++SV.denL bs c++(SV.denL bs ob.cs).toArray.toList.drop (o+c.length)=SV.denL bs (putL ob.cs o c):=by
    rw [putL_den c ob.cs o (by omega)]
   rw [e] at hrun
   refine ⟨_,(SV.denL bs (putL ob.cs o c)).toArray,ob.ty,hm,⟨ob,ho,rfl⟩,?_,?_⟩
   ·unfold storeVar
    rw [cellsV_den hc]
    simp only [Sem.run_bind,sizeT_run hn,Result.andThen]
    rw [if_neg (by simp [h1])]
    exact hrun
   ·refine ⟨by simp [h.len],h.inj,fun b' ob' ho'=>?_,h.lo,by simpa using h.sz⟩
    rw [List.getElem?_set] at ho'
    split at ho'
    ·rename_i e1
     subst e1
     first
      |rw [if_pos hbl] at ho'
      |skip
     simp only [Option.some.injEq] at ho'
     subst ho'
     exact setRow_heap _ _ _ _ _ _ hm
    ·rename_i e1
     have hb'l:=(List.getElem?_eq_some_iff.1 ho').1
     rw [setRow_other _ _ _ _ (fun he=>e1 (h.inj _ _ (by rw [h.len];exact hb'l) (by rw [h.len];exact hbl) he).symm)]
     exact h.mem b' ob' ho'
  ·cases hs
 ·cases hs
theorem alloc_size5 (w:World) (o:Obj):(w.alloc o).heap.size=w.heap.size+1:=by show (w.heap.push o).size=_;simp
theorem Sat.new [Bd] (h:Sat bs H w) (hw:wfH H.length H=true) (cs:List SV) (hc:SV.ltL H.length cs=true) (t:TypeId):Sat (bs++[w.heap.size]) (H++[⟨t,cs⟩]) (w.alloc (.cells (SV.denL bs cs).toArray t)):=by
 have hold: ∀ b,b < bs.length→nmB bs b < w.heap.size:=fun b hb=>by
  obtain ⟨ob,ho⟩:=h.lt hb
  exact (Array.getElem?_eq_some_iff.1 (h.mem b ob ho)).1
 have hnew:nmB (bs++[w.heap.size]) bs.length=w.heap.size:=by simp [nmB]
 refine ⟨by simp [h.len],fun b b' hb hb' he=>?_,fun b ob ho=>?_,fun x hx=>?_,by rw [alloc_size5];have:=h.sz;omega⟩
 rotate_left 2
 ·rcases List.mem_append.1 hx with hx|hx
  ·exact h.lo x hx
  ·simp only [List.mem_singleton] at hx;subst hx;exact h.sz
 ·simp only [List.length_append,List.length_cons,List.length_nil] at hb hb'
  by_cases h1:b < bs.length
  ·by_cases h2:b' < bs.length
   ·rw [getD_app h1,getD_app h2] at he;exact h.inj b b' h1 h2 he
   ·have e:b'=bs.length:=by omega
    subst e
    rw [getD_app h1,hnew] at he
    have:=hold b h1;omega
  ·have e:b=bs.length:=by omega
   subst e
   by_cases h2:b' < bs.length
   ·rw [getD_app h2,hnew] at he
    have:=hold b' h2;omega
   ·omega
 ·by_cases h1:b < H.length
  ·rw [List.getElem?_append_left h1] at ho
   rw [getD_app (by rw [h.len];exact h1),denL_app ob.cs (by rw [h.len];exact wfH_get hw ho)]
   rw [heap_alloc_old _ _ (hold b (by rw [h.len];exact h1))]
   exact h.mem b ob ho
  ·have e:b=H.length:=by
    have:=(List.getElem?_eq_some_iff.1 ho).1
    simp at this;omega
   subst e
   rw [List.getElem?_append_right (Nat.le_refl _)] at ho
   simp only [Nat.sub_self,List.getElem?_cons_zero,Option.some.injEq] at ho
   subst ho
   rw [show H.length=bs.length from h.len.symm,hnew,heap_alloc_new,denL_app cs (by rw [h.len];exact hc)]
end
def setT (T:List SV) (d:Option Tmp) (x:SV):List SV:=match d with|some t=>T.set t x|none=>T
theorem put_setT [Bd] (bs:List Nat) (T:List SV) (d:Option Tmp) (x:SV):(actS bs T).put d (x.den bs)=actS bs (setT T d x):=put_den bs T d x
def wantS (T:List SV) (all:Array Oper) (o:Oper):Option Bool:=match o.guard with
 |none=>some true
 |some (j,want)=>match (all[j]?).bind (·.dst) with
  |none=>some false
  |some d=>match T[d]? with
   |none=>some false
   |some (.bl b)=>some (b==want)
   |some .un=>some false
   |_=>none
theorem wantS_run [Bd] {bs:List Nat} {T:List SV} {all:Array Oper} {o:Oper} {r:Bool} (h:wantS T all o=some r):Region.wanted o (yielded all (actS bs T).tmps)=r:=by
 unfold wantS at h
 unfold Region.wanted
 split at h
 ·rename_i hg;rw [hg];simpa using h
 ·rename_i j want hg
  rw [hg]
  simp only [yielded]
  split at h
  ·rename_i hd
   rw [hd]
   simp only [Option.bind_none]
   simp only [Option.some.injEq] at h
   subst h;rfl
  ·rename_i d hd
   rw [hd]
   simp only [Option.bind_some,actS,List.getElem?_toArray,denL_get]
   split at h
   ·rename_i ht
    rw [ht]
    simp only [Option.some.injEq] at h
    subst h;rfl
   ·rename_i b ht
    rw [ht]
    simp only [Option.some.injEq] at h
    subst h
    simp [SV.den]
   ·rename_i ht
    rw [ht]
    simp only [Option.some.injEq] at h
    subst h
    rfl
   ·cases h
def findD:List (Nat×Bool)→Nat→Option Bool
 |[],_=>none
 |(k,b)::l,d=>if k==d then some b else findD l d
def oKey (ds:List (Nat×Bool)) (dst:Option Tmp) (r:SV):SV×List (Bool×Bool):=match r,dst with
 | .sb c,some d=>match findD ds d with
   |some v=>(.bl v,[(c,v)])
   |none=>(.sb c,[])
 |r,_=>(r,[])
theorem oKey_den [Bd] {bs:List Nat} {ds:List (Nat×Bool)} {dst:Option Tmp} {r:SV} (h:AllEq (oKey ds dst r).2):(oKey ds dst r).1.den bs=r.den bs:=by
 unfold oKey at h ⊢
 split
 ·rename_i c d
  split
  ·rename_i v hv
   simp only [hv,AllEq] at h
   simp only [SV.den,h.1]
  ·rfl
 ·rfl
def loudS (P:Program) (ok:TypeId→Nat→Bool) (T:List SV) (H:List SB):Op→Option (SV×List SB)
 | .store t a x=>match evS T a with
   | .p b o=>match H[b]? with
     |some ob=>if ok ob.ty b then match storeS P H t b o (evS T x) with|some H'=>some (.un,H')|none=>none else none
     |none=>none
   |_=>none
 | .alloc t=>match zeroS P t with
   |some z=>if wfH H.length H&&SV.ltL H.length T&&SV.ltL H.length z then some (.p H.length 0,H++[⟨t,z⟩]) else none
   |none=>none
 | .box t x=>match cellsV (evS T x) with
   |some z=>if wfH H.length H&&SV.ltL H.length T&&SV.ltL H.length z then some (.p H.length 0,H++[⟨t,z⟩]) else none
   |none=>none
 |_=>none
def opS (P:Program) (ok:TypeId→Nat→Bool) (ds:List (Nat×Bool)) (all:Array Oper) (o:Oper) (T:List SV) (H:List SB):Option (List SV×List SB×List (Bool×Bool)):=
 match wantS T all o with
 |none=>none
 |some false=>some (setT T o.dst .un,H,[])
 |some true=>match calmS P H.length (lookH [] H) T o.op with
  |some r=>match oKey ds o.dst r with|(x,q)=>some (setT T o.dst x,H,obS T o.op++q)
  |none=>match loudS P ok T H o.op with
   |some (r,H')=>some (setT T o.dst r,H',[])
   |none=>none
structure At [Bd] (ts:List TypeId) (w0:World) (bs0 bs:List Nat) (H:List SB) (w:World):Prop where
 pre: ∃ nw,bs=bs0++nw∧ ∀ b∈nw,w0.heap.size≤b
 kept:Kept ts w0 w
 sat:Sat bs H w
 far:4000000∈ts→ ∀ k,k < w0.heap.size→k∉bs0→w.heap[k]? =w0.heap[k]?
theorem At.refl [Bd] {ts:List TypeId} {w:World} {bs:List Nat} {H:List SB} (h:Sat bs H w):At ts w bs bs H w:=⟨⟨[],by simp,by simp⟩,Kept.refl _ _,h,fun _ _ _ _=>rfl⟩
theorem At.drew [Bd] {ts:List TypeId} {w0 w:World} {bs0 bs:List Nat} {H:List SB} (h:At ts w0 bs0 bs H w):At ts w0 bs0 bs H w.drew:=⟨h.pre,h.kept.drew,h.sat.drew,h.far⟩
section
variable {P:Program} {ts:List TypeId} {w0 w:World} {bs0 bs:List Nat} {H:List SB}
theorem At.old [Bd] (h:At ts w0 bs0 bs H w) {b:Nat} (hb:bs0.length≤b) (hb':b < bs.length):w0.heap.size≤nmB bs b:=by
 obtain ⟨nw,rfl,hn⟩:=h.pre
 simp only [List.length_append] at hb'
 refine hn _ ?_
 have:nmB (bs0++nw) b=nw[b - bs0.length]'(by omega):=by
  simp [nmB,List.getD_eq_getElem?_getD,List.getElem?_append_right hb,List.getElem?_eq_getElem (show b - bs0.length < nw.length by omega)]
 rw [this]
 exact List.getElem_mem _
theorem At.ne_nm [Bd] (h:At ts w0 bs0 bs H w) {k b:Nat} (hk:k < w0.heap.size) (hn:k∉bs0) (hb:b < bs.length):k≠nmB bs b:=by
 by_cases hlt:b < bs0.length
 ·obtain ⟨nw,rfl,_⟩:=h.pre
  rintro rfl
  refine hn ?_
  have:nmB (bs0++nw) b=bs0[b]:=by simp [nmB,List.getD_eq_getElem?_getD,List.getElem?_append_left hlt,List.getElem?_eq_getElem hlt]
  rw [this];exact List.getElem_mem _
 ·have:=h.old (by omega) hb
  omega
theorem At.new [Bd] (h:At ts w0 bs0 bs H w) (hw:wfH H.length H=true) (cs:List SV) (hc:SV.ltL H.length cs=true) (t:TypeId):At ts w0 bs0 (bs++[w.heap.size]) (H++[⟨t,cs⟩]) (w.alloc (.cells (SV.denL bs cs).toArray t)):=by
 obtain ⟨nw,e,hn⟩:=h.pre
 exact ⟨⟨nw++[w.heap.size],by rw [e,List.append_assoc],fun b hb=>by
  rcases List.mem_append.1 hb with hb|hb
  ·exact hn b hb
  ·simp only [List.mem_singleton] at hb;subst hb;exact h.kept.size⟩,h.kept.alloc _,h.sat.new hw cs hc t,fun hm k hk hn=>(heap_alloc_old w _ (Nat.lt_of_lt_of_le hk h.kept.size)).trans (h.far hm k hk hn)⟩
theorem zeroS_run [Bd] {t:TypeId} {z:List SV} (h:zeroS P t=some z): ∃ v,(zeroValue t).run P w=.ok v w∧v.cells=(SV.denL bs z).toArray:=by
 unfold zeroS at h
 split at h
 ·rename_i i hi
  split at h
  ·rename_i v hv
   simp only [Option.some.injEq] at h
   subst h
   refine ⟨v,by simp [zeroValue,typeInfo,hi,hv,Result.andThen],?_⟩
   rw [denL_ofV]
  ·cases h
 ·cases h
theorem loudS_run [Bd] {ok:TypeId→Nat→Bool} (hok: ∀ ty b,ok ty b=true→ty∈ts∨bs0.length≤b) (h:At ts w0 bs0 bs H w) {T:List SV} {o:Oper} {r:SV} {H':List SB} (hl:loudS P ok T H o.op=some (r,H')):
  ∃ nw w' n,(execOp (actS bs T).eval o).run P w=.ok n w'∧(n=.value (r.den (bs++nw))∨(n=.skip∧r=.un))∧At ts w0 bs0 (bs++nw) H' w'∧(∀ vs,(∀ ty b,ok ty b=true→ty∈vs)→Kept vs w w')∧(nw=[]∨SV.ltL bs.length T=true):=by
 have hρ:(actS bs T).eval=fun x=>(evS T x).den bs:=funext (ev_den bs T)
 rw [hρ]
 obtain ⟨dst,op,ty,pos,after,guard⟩:=o
 cases op<;>simp only [loudS] at hl<;>try (cases hl;done)
 case store t a x=>
  split at hl
  ·rename_i b o ha
   split at hl
   ·rename_i ob ho
    split at hl
    ·rename_i hk
     split at hl
     ·rename_i H2 hs
      simp only [Option.some.injEq,Prod.mk.injEq] at hl
      obtain ⟨rfl,rfl⟩:=hl
      obtain ⟨old,cs,ty',hg,⟨ob',ho',ht⟩,hrun,hsat⟩:=storeS_run (P:=P) h.sat hs
      rw [ho] at ho'
      simp only [Option.some.injEq] at ho'
      subst ho' ht
      have hbl:b < bs.length:=by rw [h.sat.len];exact (List.getElem?_eq_some_iff.1 ho).1
      refine ⟨[],w.setRow (nmB bs b) cs,.skip,?_,.inr ⟨rfl,rfl⟩,⟨by simpa using h.pre,?_,by simpa using hsat,fun hm k hlt hn=>(setRow_other _ _ _ _ (h.ne_nm hlt hn hbl)).trans (h.far hm k hlt hn)⟩,fun vs hv=>?_,.inl rfl⟩
      ·simp only [execOp,ha,SV.den,Instr.storeAt,Instr.sureAddr]
       simp only [Sem.run_bind,Sem.run_pure,Result.andThen,hrun]
      ·refine Kept.setRow h.kept hg ?_ (h.sat.loN hbl)
       rcases hok _ _ hk with h1|h1
       ·exact .inl h1
       ·exact .inr (h.old h1 hbl)
      ·exact Kept.setRow (Kept.refl vs w) hg (.inl (hv _ _ hk)) (h.sat.loN hbl)
     ·cases hl
    ·cases hl
   ·cases hl
  ·cases hl
 case alloc t=>
  split at hl
  ·rename_i z hz
   split at hl
   ·rename_i hb
    simp only [Bool.and_eq_true] at hb
    obtain ⟨⟨h1,h2⟩,h3⟩:=hb
    simp only [Option.some.injEq,Prod.mk.injEq] at hl
    obtain ⟨rfl,rfl⟩:=hl
    obtain ⟨v,hv,hc⟩:=zeroS_run (w:=w) (bs:=bs) hz
    refine ⟨[w.heap.size],w.alloc (.cells (SV.denL bs z).toArray t),.value (.pointer (some ⟨w.heap.size,0,none⟩)),?_,.inl ?_,h.new h1 z h3 t,fun vs _=>(Kept.refl vs w).alloc _,.inr (by rw [h.sat.len];exact h2)⟩
    ·simp only [execOp,Instr.alloc,Sem.run_bind,hv,Result.andThen,newVar,newRow,hc,run_newObj,Sem.run_pure]
     rfl
    ·simp only [SV.den]
     rw [show H.length=bs.length from h.sat.len.symm]
     simp [nmB]
   ·cases hl
  ·cases hl
 case box t x=>
  split at hl
  ·rename_i z hz
   split at hl
   ·rename_i hb
    simp only [Bool.and_eq_true] at hb
    obtain ⟨⟨h1,h2⟩,h3⟩:=hb
    simp only [Option.some.injEq,Prod.mk.injEq] at hl
    obtain ⟨rfl,rfl⟩:=hl
    refine ⟨[w.heap.size],w.alloc (.cells (SV.denL bs z).toArray t),.value (.pointer (some ⟨w.heap.size,0,none⟩)),?_,.inl ?_,h.new h1 z h3 t,fun vs _=>(Kept.refl vs w).alloc _,.inr (by rw [h.sat.len];exact h2)⟩
    ·simp only [execOp,Instr.box,Sem.run_bind,newVar,newRow,cellsV_den (bs:=bs) hz,run_newObj,Sem.run_pure,Result.andThen]
     rfl
    ·simp only [SV.den]
     rw [show H.length=bs.length from h.sat.len.symm]
     simp [nmB]
   ·cases hl
  ·cases hl
theorem opS_wp [Bd] {ok:TypeId→Nat→Bool} (hok: ∀ ty b,ok ty b=true→ty∈ts∨bs0.length≤b) (h:At ts w0 bs0 bs H w) {ds:List (Nat×Bool)} {all:Array Oper} {T T':List SV} {H':List SB} {o:Oper} {ob:List (Bool×Bool)}
  (hs:opS P ok ds all o T H=some (T',H',ob)) (he:AllEq ob) {K:Act→World→Prop} {Q:Exit→Act→World→Prop}
  (hK: ∀ nw w',At ts w0 bs0 (bs++nw) H' w'→(∀ vs,(∀ ty b,ok ty b=true→ty∈vs)→Kept vs w w')→K (actS (bs++nw) T') w'):
  if Region.wanted o (yielded all (actS bs T).tmps)=true then o.wp P (actS bs T) w K Q else K ((actS bs T).put o.dst undef) w:=by
 unfold opS at hs
 split at hs
 ·cases hs
 ·rename_i hw
  rw [wantS_run hw]
  simp only [Option.some.injEq,Prod.mk.injEq] at hs
  obtain ⟨rfl,rfl,rfl⟩:=hs
  have:=hK [] w (by simpa using h) (fun vs _=>Kept.refl vs w)
  simp only [List.append_nil] at this
  rw [←put_setT] at this
  simpa [SV.den] using this
 ·rename_i hw
  rw [wantS_run hw]
  simp only [if_true]
  unfold Oper.wp
  split at hs
  ·rename_i r hr
   simp only [Option.some.injEq,Prod.mk.injEq] at hs
   obtain ⟨rfl,rfl,rfl⟩:=hs
   obtain ⟨he1,he2⟩:=he.app
   rw [calmS_run h.sat.blks h.sat.sees hr he1]
   simp only [Oper.upon]
   rw [←oKey_den (ds:=ds) (dst:=o.dst) he2,put_setT]
   have:=hK [] w (by simpa using h) (fun vs _=>Kept.refl vs w)
   simpa using this
  ·split at hs
   ·rename_i r H2 hl
    simp only [Option.some.injEq,Prod.mk.injEq] at hs
    obtain ⟨rfl,rfl,rfl⟩:=hs
    obtain ⟨nw,w',n,hrun,hn,hat,hkv,hT⟩:=loudS_run hok h hl
    rw [hrun]
    have hact:actS bs T=actS (bs++nw) T:=by
     rcases hT with rfl|hT
     ·simp
     ·unfold actS;rw [denL_app T hT]
    have hput:(actS bs T).put o.dst (r.den (bs++nw))=actS (bs++nw) (setT T o.dst r):=by rw [hact,put_setT]
    rcases hn with rfl|⟨rfl,rfl⟩
    ·simp only [Oper.upon]
     rw [hput]
     exact hK nw w' hat hkv
    ·simp only [Oper.upon]
     rw [show (undef:Value)=SV.un.den (bs++nw) by simp only [SV.den],hput]
     exact hK nw w' hat hkv
   ·cases hs
end
end Go.Proofs.YtghppnklhbbffaaGreatDoor.X
