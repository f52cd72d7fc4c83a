/- Part 3 of the proof that laws.FnTreeLevel answers true, for arguments of small bulk. -/
import Derived.Test.YtghppnklhbbffaaGreatDoorR02
import Derived.LoopN
set_option linter.all false
namespace Go.Proofs.YtghppnklhbbffaaGreatDoor.X
open Go Go.RowKit Go.Proofs.YtghppnklhbbffaaGreatDoor.TL
section
variable {P:Program} {ops:Array Oper} {md:Region.Mode} {C:World→Prop} {Qn:Act→World→Prop}
def wpF (P:Program) (md:Region.Mode) (ops:Array Oper) (Ls:List Nat) (C:World→Prop) (Qn:Act→World→Prop):Nat→Array Bool→Act→World→Prop
 |0,listed,a,w=>Region.ready md ops listed=[]∧Qn a w
 |f+1,listed,a,w=>(Region.ready md ops listed=[]→Qn a w)∧
  ∀ i∈Region.ready md ops listed,okOp P ops i (fun a' w'=>(i∈Ls∨C w')∧wpF P md ops Ls C Qn f (listed.setIfInBounds i true) a' w') a w
theorem wpF_any [Bd] {Ls:List Nat} {Q:Exit→Act→World→Prop} (hQ: ∀ a w,Qn a w→Q .normal a w): ∀ (f:Nat) (listed:Array Bool) (a:Act) (w:World),
  wpF P md ops Ls C Qn f listed a w→wpAny P md ops Q f listed a w
 |0,_,_,_,h=>⟨h.1,hQ _ _ h.2⟩
 |f+1,_,_,_,h=>⟨fun h0=>hQ _ _ (h.1 h0),fun i hi=>okOp_wpOp Q (okOp_mono (fun _ _ hk=>wpF_any hQ f _ _ _ hk.2) (h.2 i hi))⟩
theorem waits_un [Bd] {L i:Nat} {listed:Array Bool} (h:waits md ops L i=true) (hr:L∈Region.ready md ops listed) (hi:listed.getD i true=false):False:=by
 obtain ⟨_,oj,hoj,hall⟩:=mem_ready.1 hr
 unfold waits at h
 rw [hoj] at h
 obtain ⟨e,he,hb⟩:=List.any_eq_true.1 h
 simp only [Bool.and_eq_true,beq_iff_eq] at hb
 have h1:=hall e (by simpa using he) hb.2
 rw [hb.1] at h1
 rcases Nat.lt_or_ge i listed.size with h'|h'
 ·simp [h'] at hi h1;rw [hi] at h1;cases h1
 ·simp [Array.getElem?_eq_none h'] at h1
def BlkI (md:Region.Mode) (ops:Array Oper) (i:Nat) (B:List Nat):Prop:= ∀ k∈B,waits md ops k i=true∨ ∃ k'∈B,waits md ops k k'=true
theorem wpF_first [Bd] {Ls:List Nat} {i:Nat} {oi:Oper} {v:Value} {B:List Nat} (hi:ops[i]? =some oi) (hsel: ∀ (j:Nat) (o:Oper) cs b,ops[j]? =some o→o.op≠.select cs b) (hBW:BlkI md ops i B) (hL: ∀ L∈Ls,L∈B∨ops[L]? =none):
  ∀ (f:Nat) (listed:Array Bool) (a:Act) (w:World),C w→(∀ k∈B,listed.getD k true=false)→
   (∀ j oj,ops[j]? =some oj→j≠i→listed.getD j true=false→(∀ e∈oj.after,Region.binds md e=true→e.on≠i)→oi.apart ops oj=true)→
   i∈Region.ready md ops listed→YieldsC P ops C oi v a→
   wpF P md ops Ls C Qn f (listed.setIfInBounds i true) (a.put oi.dst v) w→wpF P md ops Ls C Qn (f+1) listed a w:=by
 intro f
 induction f with
 |zero=>
  intro listed a w hC _ _ hr hy H
  refine ⟨fun h=>(by rw [h] at hr;cases hr),fun j hj=>?_⟩
  by_cases hji:j=i
  ·subst hji;exact hy.okOp hi hC ⟨.inr hC,H⟩
  ·have:=ready_mono hj hji
   rw [H.1] at this
   cases this
 |succ f ih=>
  intro listed a w hC hBu hfree hr hy H
  refine ⟨fun h=>(by rw [h] at hr;cases hr),fun j hj=>?_⟩
  by_cases hji:j=i
  ·subst hji;exact hy.okOp hi hC ⟨.inr hC,H⟩
  ·have hjB:j∉B:=fun hjB=>by
    rcases hBW j hjB with h|⟨k',hk',h⟩
    ·exact waits_un h hj (mem_ready.1 hr).1
    ·exact waits_un h hj (hBu k' hk')
   have hjL:j∉Ls:=fun hjm=>by
    rcases hL j hjm with h|h
    ·exact hjB h
    ·obtain ⟨_,oj,hoj,_⟩:=mem_ready.1 hj
     rw [h] at hoj;cases hoj
   have h1:=H.2 j (ready_mono hj hji)
   obtain ⟨hjun,oj,hoj,hall⟩:=mem_ready.1 hj
   have hnot: ∀ e∈oj.after,Region.binds md e=true→e.on≠i:=fun e he hb heq=>by
    have h1:=hall e he hb
    have h0:=(mem_ready.1 hr).1
    rw [heq] at h1
    rcases Nat.lt_or_ge i listed.size with h'|h'
    ·simp [h'] at h0 h1;rw [h0] at h1;cases h1
    ·simp [Array.getElem?_eq_none h'] at h1
   have h2:=okOp_put hoj (hfree j oj hoj hji hjun hnot) (fun cs b=>hsel i oi cs b hi) (fun cs b=>hsel j oj cs b hoj) hy h1
   have hfree': ∀ k ok,ops[k]? =some ok→k≠i→(listed.setIfInBounds j true).getD k true=false→
     (∀ e∈ok.after,Region.binds md e=true→e.on≠i)→oi.apart ops ok=true:=fun k ok hk hki hun hno=>by
    refine hfree k ok hk hki ?_ hno
    by_cases hjk:j=k
    ·subst hjk;exact hjun
    ·rw [getD_set_ne true hjk] at hun;exact hun
   have hBu': ∀ k∈B,(listed.setIfInBounds j true).getD k true=false:=fun k hk=>by
    rw [getD_set_ne true (show j≠k from fun e=>by subst e;exact hjB hk)];exact hBu k hk
   refine okOp_mono (fun a' w' h3=>⟨h3.2.1,ih (listed.setIfInBounds j true) a' w' (h3.2.1.resolve_left hjL) hBu' hfree' (ready_mono hr (Ne.symm hji)) h3.1 ?_⟩) h2
   rw [Array.setIfInBounds_comm _ _ hji]
   exact h3.2.2
end
def blkI (ops:Array Oper) (listed:Array Bool) (i:Nat):Nat→List Nat
 |0=>[]
 |n+1=>match blkI ops listed i n with
  |B=>if !listed.getD n true&&(waits .any ops n i||B.any (fun k=>waits .any ops n k)) then n::B else B
theorem blkI_spec [Bd] {ops:Array Oper} {listed:Array Bool} {i:Nat}: ∀ n,BlkI .any ops i (blkI ops listed i n)∧ ∀ k∈blkI ops listed i n,listed.getD k true=false
 |0=>⟨(by intro k hk;simp [blkI] at hk),(by intro k hk;simp [blkI] at hk)⟩
 |n+1=>by
  obtain ⟨h1,h2⟩:=blkI_spec (ops:=ops) (listed:=listed) (i:=i) n
  simp only [blkI]
  split
  ·rename_i hc
   simp only [Bool.and_eq_true,Bool.or_eq_true,Bool.not_eq_true',List.any_eq_true] at hc
   refine ⟨fun k hk=>?_,fun k hk=>?_⟩
   ·rcases List.mem_cons.1 hk with rfl|hk
    ·rcases hc.2 with h|⟨k',hk',h⟩
     ·exact .inl h
     ·exact .inr ⟨k',List.mem_cons_of_mem _ hk',h⟩
    ·rcases h1 k hk with h|⟨k',hk',h⟩
     ·exact .inl h
     ·exact .inr ⟨k',List.mem_cons_of_mem _ hk',h⟩
   ·rcases List.mem_cons.1 hk with rfl|hk
    ·exact hc.1
    ·exact h2 k hk
  ·exact ⟨h1,h2⟩
def holdB (ops:Array Oper) (Ls:List Nat) (listed:Array Bool) (i:Nat):Bool:=
 Ls.all (fun L=>decide (ops.size≤L))||(match blkI ops listed i ops.size with|B=>Ls.all (fun L=>decide (ops.size≤L)||B.contains L))
theorem holdB_spec [Bd] {ops:Array Oper} {Ls:List Nat} {listed:Array Bool} {i:Nat} (h:holdB ops Ls listed i=true): ∃ B,BlkI .any ops i B∧(∀ k∈B,listed.getD k true=false)∧ ∀ L∈Ls,L∈B∨ops[L]? =none:=by
 refine ⟨_,(blkI_spec ops.size).1,(blkI_spec (ops:=ops) (listed:=listed) (i:=i) ops.size).2,fun L hL=>?_⟩
 unfold holdB at h
 simp only [Bool.or_eq_true,List.all_eq_true,decide_eq_true_eq] at h
 rcases h with h|h
 ·exact .inr (by simp [h L hL])
 ·rcases h L hL with h|h
  ·exact .inr (by simp [h])
  ·exact .inl (by simpa using h)
def rdyB (ops:Array Oper) (listed:Array Bool) (i:Nat):Bool:=!listed.getD i true&&(match ops[i]? with
 |some o=>o.after.toList.all fun e=>!Region.binds .any e||listed.getD e.on false
 |none=>false)
theorem rdyB_mem [Bd] {ops:Array Oper} {listed:Array Bool} {i:Nat} (h:rdyB ops listed i=true):i∈Region.ready .any ops listed:=by
 simp only [rdyB,Bool.and_eq_true,Bool.not_eq_true'] at h
 obtain ⟨h1,h2⟩:=h
 split at h2
 ·rename_i o ho
  refine mem_ready.2 ⟨h1,o,ho,fun e he hb=>?_⟩
  have:=List.all_eq_true.1 h2 e (by simpa using he)
  simpa [hb] using this
 ·cases h2
def hoistS (P:Program) (nr:Nat) (L:Look) (ds:List (Nat×Bool)) (ops:Array Oper) (Ls:List Nat) (T:List SV) (listed:Array Bool) (i:Nat):Option (List SV×List (Bool×Bool)):=
 if rdyB ops listed i then match ops[i]? with
  |some o=>match wantS T ops o with
   |some false=>if Region.free .any ops listed i&&holdB ops Ls listed i then some (setT T o.dst .un,[]) else none
   |some true=>match calmS P nr L T o.op with
    |some r=>if Region.free .any ops listed i&&holdB ops Ls listed i then (match oKey ds o.dst r with|(x,q)=>some (setT T o.dst x,obS T o.op++q)) else none
    |none=>none
   |none=>none
  |none=>none
 else none
def findH (f:Nat→Option (List SV×List (Bool×Bool))):List Nat→Option (Nat×List SV×List (Bool×Bool))
 |[]=>none
 |i::r=>match f i with
  |some (T,q)=>some (i,T,q)
  |none=>findH f r
theorem findH_spec [Bd] {f:Nat→Option (List SV×List (Bool×Bool))}: ∀ {l:List Nat} {i:Nat} {T:List SV} {q:List (Bool×Bool)},findH f l=some (i,T,q)→f i=some (T,q)
 |[],_,_,_,h=>by cases h
 |j::r,i,T,q,h=>by
  simp only [findH] at h
  split at h
  ·rename_i T' q' hf
   simp only [Option.some.injEq,Prod.mk.injEq] at h
   obtain ⟨rfl,rfl,rfl⟩:=h
   exact hf
  ·exact findH_spec h
section
variable {P:Program} {ops:Array Oper} {Ls:List Nat} {us:List TypeId} {wr:World} {bsr:List Nat} {Hr:List SB} {Qn:Act→World→Prop}
theorem hoist_sound [Bd] (hsel:Region.noSelect ops=true) (hr:Sat bsr Hr wr) (hw:wfH Hr.length Hr=true) {nw:List Nat} {ds:List (Nat×Bool)} {T T':List SV} {listed:Array Bool} {i:Nat} {q:List (Bool×Bool)}
  (h:hoistS P Hr.length (lookH us Hr) ds ops Ls T listed i=some (T',q)) (he:AllEq q) {f:Nat} {w:World} (hC:Kept us wr w)
  (hn:wpF P .any ops Ls (Kept us wr) Qn f (listed.setIfInBounds i true) (actS (bsr++nw) T') w):wpF P .any ops Ls (Kept us wr) Qn (f+1) listed (actS (bsr++nw) T) w:=by
 unfold hoistS at h
 split at h
 ·rename_i hrdy
  split at h
  ·rename_i o ho
   split at h
   ·rename_i hwt
    split at h
    ·rename_i hfw
     simp only [Bool.and_eq_true] at hfw
     simp only [Option.some.injEq,Prod.mk.injEq] at h
     obtain ⟨rfl,rfl⟩:=h
     obtain ⟨B,hB1,hB2,hB3⟩:=holdB_spec hfw.2
     refine wpF_first (v:=undef) ho (Region.noSelect_spec hsel) hB1 hB3 f listed _ w hC hB2 (Region.free_spec ho hfw.1) (rdyB_mem hrdy) (.inr ⟨wantS_run hwt,rfl⟩) ?_
     rw [show (undef:Value)=SV.un.den (bsr++nw) by simp only [SV.den],put_setT]
     exact hn
    ·cases h
   ·rename_i hwt
    split at h
    ·rename_i r hc
     split at h
     ·rename_i hfw
      simp only [Bool.and_eq_true] at hfw
      simp only [Option.some.injEq,Prod.mk.injEq] at h
      obtain ⟨rfl,rfl⟩:=h
      obtain ⟨B,hB1,hB2,hB3⟩:=holdB_spec hfw.2
      refine wpF_first (v:=r.den (bsr++nw)) ho (Region.noSelect_spec hsel) hB1 hB3 f listed _ w hC hB2 (Region.free_spec ho hfw.1) (rdyB_mem hrdy) (.inl ⟨wantS_run hwt,fun w' hC'=>.inl ?_⟩) ?_
      ·exact calmS_run (hr.blksK hC') (hr.seesK hw hC') hc he.app.1
      ·rw [←oKey_den (ds:=ds) (dst:=o.dst) he.app.2,put_setT]
       exact hn
     ·cases h
    ·cases h
   ·cases h
  ·cases h
 ·cases h
theorem sole_sound [Bd] {ts:List TypeId} {w0:World} {bs0 bs:List Nat} {H H':List SB} {w:World} {ok:TypeId→Nat→Bool} (hok: ∀ ty b,ok ty b=true→ty∈ts∨bs0.length≤b)
  (h:At ts w0 bs0 bs H w) {ds:List (Nat×Bool)} {T T':List SV} {listed:Array Bool} {i:Nat} {o:Oper} {q:List (Bool×Bool)} {f:Nat}
  (hrd:Region.ready .any ops listed=[i]) (ho:ops[i]? =some o) (hs:opS P ok ds ops o T H=some (T',H',q)) (he:AllEq q)
  (hu:i∈Ls∨(Kept us wr w∧ ∀ ty b,ok ty b=true→ty∈us))
  (hn: ∀ nw w',At ts w0 bs0 (bs++nw) H' w'→(i∈Ls∨Kept us wr w')→wpF P .any ops Ls (Kept us wr) Qn f (listed.setIfInBounds i true) (actS (bs++nw) T') w'):
  wpF P .any ops Ls (Kept us wr) Qn (f+1) listed (actS bs T) w:=by
 refine ⟨fun h=>(by rw [h] at hrd;cases hrd),fun j hj=>?_⟩
 rw [hrd] at hj
 obtain rfl:j=i:=by simpa using hj
 unfold okOp
 simp only [ho]
 refine opS_wp hok h hs he (fun nw w' hat hkv=>?_)
 have hc:j∈Ls∨Kept us wr w':=by
  rcases hu with hu|⟨hC,hu⟩
  ·exact .inl hu
  ·exact .inr (hC.trans (hkv us hu))
 exact ⟨hc,hn nw w' hat hc⟩
end
def lfOf (ops:Array Oper):Nat:=if (List.range (ops.size - 1)).all (fun i=>waits .any ops (ops.size - 1) i)||(List.range (ops.size - 1)).all (fun i=>(blkI ops (Array.replicate ops.size false) i ops.size).contains (ops.size - 1)) then ops.size - 1 else ops.size
def soleI (ops:Array Oper) (listed:Array Bool):Option Nat:=match Region.ready .any ops listed with
 |[i]=>some i
 |_=>none
def doneB (ops:Array Oper) (listed:Array Bool):Bool:=match Region.ready .any ops listed with
 |[]=>true
 |_=>false
def drawS (P:Program) (ok:TypeId→Nat→Bool) (nr:Nat) (us:List TypeId) (L:Look) (ds:List (Nat×Bool)) (ops:Array Oper) (Ls:List Nat):Nat→Bool→List SV→List SB→Array Bool→Option (List SV×List SB×List (Bool×Bool))
 |0,_,T,H,listed=>if doneB ops listed then some (T,H,[]) else none
 |f+1,fz,T,H,listed=>match (if fz then none else findH (hoistS P nr L ds ops Ls T listed) (List.range ops.size)) with
  |some (i,T',q)=>match drawS P ok nr us L ds ops Ls f fz T' H (listed.setIfInBounds i true) with
   |some (T2,H2,q2)=>some (T2,H2,q++q2)
   |none=>none
  |none=>match soleI ops listed with
   |some i=>match ops[i]? with
    |some o=>if Ls.contains i then
      (match opS P ok ds ops o T H with
      |some (T',H',q)=>match drawS P ok nr us L ds ops Ls f true T' H' (listed.setIfInBounds i true) with
       |some (T2,H2,q2)=>some (T2,H2,q++q2)
       |none=>none
      |none=>none)
     else if fz then none else match opS P (fun ty b=>ok ty b&&us.contains ty) ds ops o T H with
      |some (T',H',q)=>match drawS P ok nr us L ds ops Ls f fz T' H' (listed.setIfInBounds i true) with
       |some (T2,H2,q2)=>some (T2,H2,q++q2)
       |none=>none
      |none=>none
    |none=>none
   |none=>none
theorem soleI_of [Bd] {ops:Array Oper} {listed:Array Bool} {i:Nat} (h:soleI ops listed=some i):Region.ready .any ops listed=[i]:=by
 unfold soleI at h
 split at h
 ·rename_i j hj;simp only [Option.some.injEq] at h;subst h;exact hj
 ·cases h
theorem doneB_of [Bd] {ops:Array Oper} {listed:Array Bool} (h:doneB ops listed=true):Region.ready .any ops listed=[]:=by
 unfold doneB at h
 split at h
 ·assumption
 ·cases h
theorem drawS_wp [Bd] {P:Program} {ops:Array Oper} {Ls:List Nat} {us:List TypeId} {wr:World} {bsr:List Nat} {Hr:List SB} {Qn:Act→World→Prop} (hsel:Region.noSelect ops=true) (hr:Sat bsr Hr wr) (hw:wfH Hr.length Hr=true)
  {ts:List TypeId} {w0:World} {bs0:List Nat} {ok:TypeId→Nat→Bool} (hok: ∀ ty b,ok ty b=true→ty∈ts∨bs0.length≤b) {ds:List (Nat×Bool)} {T':List SV} {H':List SB}:
  ∀ (f:Nat) (fz:Bool) (nr:List Nat) (T:List SV) (H:List SB) (w:World) (listed:Array Bool) (q:List (Bool×Bool)),At ts w0 bs0 (bsr++nr) H w→(fz=false→Kept us wr w)→
   drawS P ok Hr.length us (lookH us Hr) ds ops Ls f fz T H listed=some (T',H',q)→AllEq q→
   (∀ nw w',At ts w0 bs0 (bsr++nw) H' w'→Qn (actS (bsr++nw) T') w')→wpF P .any ops Ls (Kept us wr) Qn f listed (actS (bsr++nr) T) w
 |0,fz,nr,T,H,w,listed,q,hat,hC,h,he,hQ=>by
  simp only [drawS] at h
  split at h
  ·rename_i hd
   simp only [Option.some.injEq,Prod.mk.injEq] at h
   obtain ⟨rfl,rfl,rfl⟩:=h
   exact ⟨doneB_of hd,hQ nr w hat⟩
  ·cases h
 |f+1,fz,nr,T,H,w,listed,q,hat,hC,h,he,hQ=>by
  simp only [drawS] at h
  split at h
  ·rename_i i T1 q1 hf
   split at hf
   ·cases hf
   ·rename_i hfz
    have hfz:fz=false:=by simpa using hfz
    split at h
    ·rename_i T2 H2 q2 hd
     simp only [Option.some.injEq,Prod.mk.injEq] at h
     obtain ⟨rfl,rfl,rfl⟩:=h
     obtain ⟨he1,he2⟩:=he.app
     exact hoist_sound hsel hr hw (findH_spec hf) he1 (hC hfz) (drawS_wp hsel hr hw hok f fz nr T1 H w _ q2 hat hC hd he2 hQ)
    ·cases h
  ·split at h
   ·rename_i i hi
    split at h
    ·rename_i o ho
     split at h
     ·rename_i hl
      have hl:i∈Ls:=by simpa using hl
      split at h
      ·rename_i T1 H1 q1 hop
       split at h
       ·rename_i T2 H2 q2 hd
        simp only [Option.some.injEq,Prod.mk.injEq] at h
        obtain ⟨rfl,rfl,rfl⟩:=h
        obtain ⟨he1,he2⟩:=he.app
        refine sole_sound hok hat (soleI_of hi) ho hop he1 (.inl hl) (fun nw w' hat' _=>?_)
        rw [List.append_assoc] at hat' ⊢
        exact drawS_wp hsel hr hw hok f true _ T1 H1 w' _ q2 hat' (fun hh=>by cases hh) hd he2 hQ
       ·cases h
      ·cases h
     ·rename_i hl
      have hl:i∉Ls:=by simpa using hl
      split at h
      ·cases h
      ·rename_i hfz
       have hfz:fz=false:=by simpa using hfz
       split at h
       ·rename_i T1 H1 q1 hop
        split at h
        ·rename_i T2 H2 q2 hd
         simp only [Option.some.injEq,Prod.mk.injEq] at h
         obtain ⟨rfl,rfl,rfl⟩:=h
         obtain ⟨he1,he2⟩:=he.app
         refine sole_sound (ok:=fun ty b=>ok ty b&&us.contains ty) (fun ty b hb=>hok ty b (by simp only [Bool.and_eq_true] at hb;exact hb.1)) hat (soleI_of hi) ho hop he1 (.inr ⟨hC hfz,fun ty b hb=>by simp only [Bool.and_eq_true] at hb;simpa using hb.2⟩) (fun nw w' hat' hc=>?_)
         rw [List.append_assoc] at hat' ⊢
         exact drawS_wp hsel hr hw hok f fz _ T1 H1 w' _ q2 hat' (fun _=>hc.resolve_left hl) hd he2 hQ
        ·cases h
       ·cases h
    ·cases h
   ·cases h
theorem wp_region_draw [Bd] {P:Program} {id:Nat} {ops:Array Oper} {Q:Exit→Act→World→Prop} {a:Act} {w:World} (Ls:List Nat) (C:World→Prop) (hm:P.follows .mixedOrders=true)
  (h:wpF P .any ops Ls C (fun a w=>Q .normal a w) ops.size (Array.replicate ops.size false) a w.drew):(Code.region id ops true).wp P Q a w:=by
 refine wp_region_any hm ?_
 exact wpF_any (Q:=Q) (fun _ _ h=>h) _ _ _ _ h
inductive KI where
 |code (c:Code)
 |blk (id:Nat)
 |ops (all:Array Oper) (rest:List Oper)
 |dr (ops:Array Oper) (Ls:List Nat) (us:List TypeId) (Hr:List SB) (bsr:List Nat) (wr:World) (fz:Bool) (f:Nat) (listed:Array Bool)
 |fin (q:Act→World→Prop)
 |lp (c:Code) (n:Nat)
structure ST where
 K:List KI
 T:List SV
 H:List SB
 ob:List (Bool×Bool)
structure Cfg where
 ts:List TypeId
 n0:Nat
 us:List (Nat×List TypeId×List Nat)
 ds:List (Nat×Bool)
 lp:Nat
def kx [Bd] (P:Program) (Q:Exit→Act→World→Prop):List KI→Exit→Act→World→Prop
 |[]=>Q
 |i::k=>fun e=>match i,e with
  | .code c,.normal=>c.wp P (kx P Q k)
  | .blk id,.exit j=>if j=id then kx P Q k .normal else kx P Q k (.exit j)
  | .ops all r,.normal=>wpList P all (kx P Q k) r
  | .dr ops Ls us Hr bsr wr fz f listed,.normal=>fun a w=>Sat bsr Hr wr→(fz=false→Kept us wr w)→wpF P .any ops Ls (Kept us wr) (fun a w=>kx P Q k .normal a w) f listed a w
  | .fin q,.normal=>q
  | .lp c n,.normal=>Code.rounds P c (kx P Q k) n
  |_,e=>kx P Q k e
def popTo (id:Nat):List KI→Option (List KI)
 |[]=>none
 | .blk j::k=>if id==j then some k else popTo id k
 | .code _::k=>popTo id k
 | .fin _::k=>popTo id k
 | .lp _ _::k=>popTo id k
 |_::_=>none
theorem popTo_kx [Bd] {P:Program} {Q:Exit→Act→World→Prop} {id:Nat}: ∀ {k k':List KI},popTo id k=some k'→kx P Q k (.exit id)=kx P Q k' .normal
 |[],_,h=>by cases h
 | .blk j::k,k',h=>by
   simp only [popTo] at h
   split at h
   ·rename_i hj
    have hj:id=j:=by simpa using hj
    simp only [Option.some.injEq] at h
    subst h hj
    simp [kx]
   ·rename_i hj
    have hj:id≠j:=by simpa using hj
    rw [←popTo_kx h]
    simp [kx,hj]
 | .code _::k,k',h=>by simp only [popTo] at h;rw [←popTo_kx h];rfl
 | .fin _::k,k',h=>by simp only [popTo] at h;rw [←popTo_kx h];rfl
 | .lp _ _::k,k',h=>by simp only [popTo] at h;rw [←popTo_kx h];rfl
 | .ops _ _::_,_,h=>by cases h
 | .dr ..::_,_,h=>by cases h
def okC (cf:Cfg):TypeId→Nat→Bool:=fun ty b=>cf.ts.contains ty||Nat.ble cf.n0 b
theorem okC_of [Bd] {cf:Cfg} {n:Nat} (hn:cf.n0=n): ∀ ty b,okC cf ty b=true→ty∈cf.ts∨n≤b:=fun ty b h=>by
 subst hn
 simp only [okC,Bool.or_eq_true,Nat.ble_eq] at h
 rcases h with h|h
 ·exact .inl (by simpa using h)
 ·exact .inr h
def usOf:List (Nat×List TypeId×List Nat)→Nat→List TypeId×List Nat
 |[],_=>([],[])
 |(k,u)::l,d=>if k==d then u else usOf l d
def drStep (P:Program) (cf:Cfg) (ops:Array Oper) (Ls:List Nat) (us:List TypeId) (Hr:List SB) (bsr:List Nat) (wr:World) (fz:Bool) (f:Nat) (listed:Array Bool) (k:List KI) (s:ST):Option ST:=
 if Region.noSelect ops&&wfH Hr.length Hr then
 match f with
 |0=>if doneB ops listed then some ⟨k,s.T,s.H,s.ob⟩ else none
 |f+1=>match (if fz then none else findH (hoistS P Hr.length (lookH us Hr) cf.ds ops Ls s.T listed) (List.range ops.size)) with
  |some (i,T',q)=>some ⟨.dr ops Ls us Hr bsr wr fz f (listed.setIfInBounds i true)::k,T',s.H,s.ob++q⟩
  |none=>match soleI ops listed with
   |some i=>match ops[i]? with
    |some o=>if Ls.contains i then
            (match opS P (okC cf) cf.ds ops o s.T s.H with
            |some (T',H',q)=>some ⟨.dr ops Ls us Hr bsr wr true f (listed.setIfInBounds i true)::k,T',H',s.ob++q⟩
            |none=>none)
     else if fz then none else match opS P (fun ty b=>okC cf ty b&&us.contains ty) cf.ds ops o s.T s.H with
            |some (T',H',q)=>some ⟨.dr ops Ls us Hr bsr wr fz f (listed.setIfInBounds i true)::k,T',H',s.ob++q⟩
            |none=>none
    |none=>none
   |none=>none
 else none
def stepS (P:Program) (cf:Cfg) (s:ST):Option ST:=match s.K with
 |[]=>none
 | .code c::k=>match c with
   | .skip=>some ⟨k,s.T,s.H,s.ob⟩
   | .region id ops dr=>if dr then
     (if Region.noSelect ops&&wfH s.H.length s.H then
      match drawS P (okC cf) s.H.length (usOf cf.us id).1 (lookH (usOf cf.us id).1 s.H) cf.ds ops (lfOf ops::(usOf cf.us id).2) ops.size false s.T s.H (Array.replicate ops.size false) with
      |some (T',H',q)=>some ⟨k,T',H',s.ob++q⟩
      |none=>none
     else none)
     else some ⟨.ops ops ops.toList::k,s.T,s.H,s.ob⟩
   | .seq a b=>some ⟨.code a::.code b::k,s.T,s.H,s.ob⟩
   | .cond c t e=>match evS s.T c with
     | .bl true=>some ⟨.code t::k,s.T,s.H,s.ob⟩
     | .bl false=>some ⟨.code e::k,s.T,s.H,s.ob⟩
     |_=>none
   | .block id b=>some ⟨.code b::.blk id::k,s.T,s.H,s.ob⟩
   | .exit id=>match popTo id k with
     |some k'=>some ⟨k',s.T,s.H,s.ob⟩
     |none=>none
   | .loop b=>match cf.lp with
     |0=>none
     |n+1=>some ⟨.code b::.lp b n::k,s.T,s.H,s.ob⟩
   |_=>none
 | .lp b n::k=>match n with
   |0=>none
   |n+1=>some ⟨.code b::.lp b n::k,s.T,s.H,s.ob⟩
 | .blk _::k=>some ⟨k,s.T,s.H,s.ob⟩
 | .ops _ []::k=>some ⟨k,s.T,s.H,s.ob⟩
 | .ops all (o::r)::k=>match opS P (okC cf) cf.ds all o s.T s.H with
   |some (T',H',q)=>some ⟨.ops all r::k,T',H',s.ob++q⟩
   |none=>none
 | .dr ops Ls us Hr bsr wr fz f listed::k=>drStep P cf ops Ls us Hr bsr wr fz f listed k s
 | .fin _::_=>none
def PreK [Bd] (bs0:List Nat):List KI→Prop
 |[]=>True
 | .dr _ _ _ Hr bsr wr _ _ _::k=>((∃ nw,bs0=bsr++nw)∧Sat bsr Hr wr)∧PreK bs0 k
 |_::k=>PreK bs0 k
theorem PreK_app [Bd] {bs nw:List Nat}: ∀ {k:List KI},PreK bs k→PreK (bs++nw) k
 |[],_=>trivial
 | .dr _ _ _ _ _ _ _ _ _::k,h=>⟨⟨⟨h.1.1.choose++nw,by rw [←List.append_assoc, ←h.1.1.choose_spec]⟩,h.1.2⟩,PreK_app h.2⟩
 | .code _::k,h=>PreK_app (k:=k) h
 | .blk _::k,h=>PreK_app (k:=k) h
 | .ops _ _::k,h=>PreK_app (k:=k) h
 | .fin _::k,h=>PreK_app (k:=k) h
 | .lp _ _::k,h=>PreK_app (k:=k) h
theorem popTo_pre [Bd] {bs0:List Nat} {id:Nat}: ∀ {k k':List KI},popTo id k=some k'→PreK bs0 k→PreK bs0 k'
 |[],_,h,_=>by cases h
 | .blk j::k,k',h,hp=>by
   simp only [popTo] at h
   split at h
   ·simp only [Option.some.injEq] at h;subst h;exact hp
   ·exact popTo_pre h hp
 | .code _::k,k',h,hp=>popTo_pre (k:=k) h hp
 | .fin _::k,k',h,hp=>popTo_pre (k:=k) h hp
 | .lp _ _::k,k',h,hp=>popTo_pre (k:=k) h hp
 | .ops _ _::_,_,h,_=>by cases h
 | .dr ..::_,_,h,_=>by cases h
section
variable {P:Program} {Q:Exit→Act→World→Prop} {cf:Cfg} {w0:World} {bs0:List Nat}
theorem seq_kx [Bd] {x y:Code} {k:List KI} {a:Act} {w:World} (h:x.wp P (kx P Q (.code y::k)) a w):(Code.seq x y).wp P (kx P Q k) a w:=by
 refine wp_seq ?_
 have e:Exit.then (y.wp P (kx P Q k)) (kx P Q k)=kx P Q (.code y::k):=by
  funext e;cases e<;>rfl
 rw [e];exact h
theorem block_kx [Bd] {id:Nat} {x:Code} {k:List KI} {a:Act} {w:World} (h:x.wp P (kx P Q (.blk id::k)) a w):(Code.block id x).wp P (kx P Q k) a w:=by
 refine wp_block ?_
 have e:Exit.inBlock id (kx P Q k)=kx P Q (.blk id::k):=by
  funext e;cases e<;>first|rfl|(funext a w;simp only [Exit.inBlock,kx];split<;>rfl)
 rw [e];exact h
theorem lp_kx [Bd] {b:Code} {n:Nat} {k:List KI} {a:Act} {w:World} (h:b.wp P (fun e=>match (KI.lp b n),e with
  | .code c,.normal=>c.wp P (kx P Q k)
  | .blk id,.exit j=>if j=id then kx P Q k .normal else kx P Q k (.exit j)
  | .ops all r,.normal=>wpList P all (kx P Q k) r
  | .dr ops Ls us Hr bsr wr fz f listed,.normal=>fun a w=>Sat bsr Hr wr→(fz=false→Kept us wr w)→wpF P .any ops Ls (Kept us wr) (fun a w=>kx P Q k .normal a w) f listed a w
  | .fin q,.normal=>q
  | .lp c n,.normal=>Code.rounds P c (kx P Q k) n
  |_,e=>kx P Q k e) a w):b.wp P (Exit.then (Code.rounds P b (kx P Q k) n) (kx P Q k)) a w:=by
 refine wp_mono h (fun e a w hq=>?_)
 cases e<;>exact hq
theorem stepS_pre [Bd] {s s':ST} (h:stepS P cf s=some s') (hp:PreK bs0 s.K):PreK bs0 s'.K:=by
 obtain ⟨K,T,H,ob⟩:=s
 unfold stepS at h
 simp only at h hp
 split at h
 ·cases h
 ·rename_i c k
  have hp:PreK bs0 k:=hp
  split at h
  ·simp only [Option.some.injEq] at h;subst h;exact hp
  ·split at h
   ·split at h
    ·split at h
     ·simp only [Option.some.injEq] at h;subst h;exact hp
     ·cases h
    ·cases h
   ·simp only [Option.some.injEq] at h;subst h;exact hp
  ·simp only [Option.some.injEq] at h;subst h;exact hp
  ·split at h
   ·simp only [Option.some.injEq] at h;subst h;exact hp
   ·simp only [Option.some.injEq] at h;subst h;exact hp
   ·cases h
  ·simp only [Option.some.injEq] at h;subst h;exact hp
  ·split at h
   ·rename_i hk;simp only [Option.some.injEq] at h;subst h;exact popTo_pre hk hp
   ·cases h
  ·split at h
   ·cases h
   ·simp only [Option.some.injEq] at h;subst h;exact hp
  ·cases h
 ·split at h
  ·cases h
  ·simp only [Option.some.injEq] at h;subst h;exact hp
 ·simp only [Option.some.injEq] at h;subst h;exact hp
 ·simp only [Option.some.injEq] at h;subst h;exact hp
 ·split at h
  ·simp only [Option.some.injEq] at h;subst h;exact hp
  ·cases h
 ·rename_i ops Ls us Hr bsr wr fz f listed k
  unfold drStep at h
  split at h
  ·split at h
   ·split at h
    ·simp only [Option.some.injEq] at h;subst h;exact hp.2
    ·cases h
   ·split at h
    ·simp only [Option.some.injEq] at h;subst h;exact hp
    ·split at h
     ·split at h
      ·split at h
       ·split at h
        ·simp only [Option.some.injEq] at h;subst h;exact hp
        ·cases h
       ·split at h
        ·cases h
        ·split at h
         ·simp only [Option.some.injEq] at h;subst h;exact hp
         ·cases h
      ·cases h
     ·cases h
  ·cases h
 ·cases h
theorem stepS_ob [Bd] {s s':ST} (h:stepS P cf s=some s'): ∃ q,s'.ob=s.ob++q:=by
 obtain ⟨K,T,H,ob⟩:=s
 unfold stepS at h
 simp only at h
 have fin: ∀ {x:ST},x.ob=ob→ ∃ q,x.ob=ob++q:=fun e=>⟨[],by simp [e]⟩
 split at h
 ·cases h
 ·split at h
  ·simp only [Option.some.injEq] at h;subst h;exact fin rfl
  ·split at h
   ·split at h
    ·split at h
     ·simp only [Option.some.injEq] at h;subst h;exact ⟨_,rfl⟩
     ·cases h
    ·cases h
   ·simp only [Option.some.injEq] at h;subst h;exact fin rfl
  ·simp only [Option.some.injEq] at h;subst h;exact fin rfl
  ·split at h
   ·simp only [Option.some.injEq] at h;subst h;exact fin rfl
   ·simp only [Option.some.injEq] at h;subst h;exact fin rfl
   ·cases h
  ·simp only [Option.some.injEq] at h;subst h;exact fin rfl
  ·split at h
   ·simp only [Option.some.injEq] at h;subst h;exact fin rfl
   ·cases h
  ·split at h
   ·cases h
   ·simp only [Option.some.injEq] at h;subst h;exact fin rfl
  ·cases h
 ·split at h
  ·cases h
  ·simp only [Option.some.injEq] at h;subst h;exact fin rfl
 ·simp only [Option.some.injEq] at h;subst h;exact fin rfl
 ·simp only [Option.some.injEq] at h;subst h;exact fin rfl
 ·split at h
  ·simp only [Option.some.injEq] at h;subst h;exact ⟨_,rfl⟩
  ·cases h
 ·unfold drStep at h
  split at h
  ·split at h
   ·split at h
    ·simp only [Option.some.injEq] at h;subst h;exact fin rfl
    ·cases h
   ·split at h
    ·simp only [Option.some.injEq] at h;subst h;exact ⟨_,rfl⟩
    ·split at h
     ·split at h
      ·split at h
       ·split at h
        ·simp only [Option.some.injEq] at h;subst h;exact ⟨_,rfl⟩
        ·cases h
       ·split at h
        ·cases h
        ·split at h
         ·simp only [Option.some.injEq] at h;subst h;exact ⟨_,rfl⟩
         ·cases h
      ·cases h
     ·cases h
  ·cases h
 ·cases h
theorem stepS_sound [Bd] (hm:P.follows .mixedOrders=true) (hn:cf.n0=bs0.length) {s s':ST} (h:stepS P cf s=some s') (he:AllEq s'.ob) {bs:List Nat} {w:World} (hat:At cf.ts w0 bs0 bs s.H w) (hp:PreK bs s.K)
  (hk: ∀ nw w,At cf.ts w0 bs0 (bs++nw) s'.H w→PreK (bs++nw) s'.K→kx P Q s'.K .normal (actS (bs++nw) s'.T) w):kx P Q s.K .normal (actS bs s.T) w:=by
 have hp':=stepS_pre h hp
 replace hk: ∀ nw w,At cf.ts w0 bs0 (bs++nw) s'.H w→kx P Q s'.K .normal (actS (bs++nw) s'.T) w:=fun nw w h1=>hk nw w h1 (PreK_app hp')
 have hk0: ∀ w,At cf.ts w0 bs0 bs s'.H w→kx P Q s'.K .normal (actS bs s'.T) w:=fun w h1=>by
  have:=hk [] w (by simpa using h1)
  simpa using this
 clear hp'
 obtain ⟨K,T,H,ob⟩:=s
 unfold stepS at h
 simp only at h hp hat ⊢
 split at h
 ·cases h
 ·rename_i c k
  simp only [kx]
  split at h
  ·simp only [Option.some.injEq] at h;subst h;exact wp_skip (hk0 w hat)
  ·rename_i id ops dr
   split at h
   ·rename_i hdr
    subst hdr
    split at h
    ·rename_i hb
     simp only [Bool.and_eq_true] at hb
     split at h
     ·rename_i T' H' q hd
      simp only [Option.some.injEq] at h;subst h
      refine wp_region_draw (lfOf ops::(usOf cf.us id).2) (Kept (usOf cf.us id).1 w.drew) hm ?_
      have hat':=hat.drew
      have:=drawS_wp (Qn:=fun a w=>kx P Q k .normal a w) (us:=(usOf cf.us id).1) hb.1 hat'.sat hb.2 (okC_of hn) ops.size false [] T H w.drew (Array.replicate ops.size false) q (by simpa using hat') (fun _=>Kept.refl _ _) hd he.app.2 (fun nw w' h1=>hk _ _ h1)
      simpa using this
     ·cases h
    ·cases h
   ·rename_i hdr
    have hdr:dr=false:=by simpa using hdr
    subst hdr
    simp only [Option.some.injEq] at h;subst h
    exact wp_region_list (hk0 w hat)
  ·simp only [Option.some.injEq] at h;subst h;exact seq_kx (hk0 w hat)
  ·rename_i c t e
   split at h
   ·rename_i hc
    simp only [Option.some.injEq] at h;subst h
    exact wp_cond_true (by rw [ev_den,hc];rfl) (hk0 w hat)
   ·rename_i hc
    simp only [Option.some.injEq] at h;subst h
    exact wp_cond_false (by rw [ev_den,hc];rfl) (hk0 w hat)
   ·cases h
  ·simp only [Option.some.injEq] at h;subst h;exact block_kx (hk0 w hat)
  ·split at h
   ·rename_i k' hk'
    simp only [Option.some.injEq] at h;subst h
    refine wp_exit ?_
    rw [popTo_kx hk']
    exact hk0 w hat
   ·cases h
  ·rename_i b
   split at h
   ·cases h
   ·rename_i n hn'
    simp only [Option.some.injEq] at h;subst h
    refine wp_loop_rounds (n+1) ?_
    rw [rounds_succ]
    have:=hk0 w hat
    simp only [kx] at this
    exact lp_kx this
  ·cases h
 ·rename_i b n k
  split at h
  ·cases h
  ·rename_i n
   simp only [Option.some.injEq] at h;subst h
   simp only [kx]
   rw [rounds_succ]
   have:=hk0 w hat
   simp only [kx] at this
   exact lp_kx this
 ·simp only [Option.some.injEq] at h;subst h;exact hk0 w hat
 ·simp only [Option.some.injEq] at h;subst h;exact hk0 w hat
 ·rename_i all o r k
  split at h
  ·rename_i T' H' q hop
   simp only [Option.some.injEq] at h;subst h
   simp only [kx]
   unfold wpList
   have:=opS_wp (Q:=kx P Q k) (okC_of hn) hat hop he.app.2 (K:=wpList P all (kx P Q k) r) (fun nw w' h1 _=>hk _ _ h1)
   split
   ·rename_i hw;rw [if_pos hw] at this;exact .inl this
   ·rename_i hw;rw [if_neg hw] at this;exact this
  ·cases h
 ·rename_i ops Ls us Hr bsr wr fz f listed k
  obtain ⟨⟨⟨npre,ebs⟩,hsat⟩,hp2⟩:=hp
  simp only [kx]
  intro _ hC
  unfold drStep at h
  split at h
  ·rename_i hb
   simp only [Bool.and_eq_true] at hb
   split at h
   ·split at h
    ·rename_i hd
     simp only [Option.some.injEq] at h;subst h
     exact ⟨doneB_of hd,hk0 w hat⟩
    ·cases h
   ·rename_i f
    split at h
    ·rename_i i T1 q hf
     split at hf
     ·cases hf
     ·rename_i hfz
      have hfz:fz=false:=by simpa using hfz
      simp only [Option.some.injEq] at h;subst h
      have:=hk0 w hat hsat hC
      rw [ebs] at this ⊢
      exact hoist_sound hb.1 hsat hb.2 (findH_spec hf) he.app.2 (hC hfz) this
    ·split at h
     ·rename_i i hi
      split at h
      ·rename_i o ho
       split at h
       ·rename_i hl
        have hl:i∈Ls:=by simpa using hl
        split at h
        ·rename_i T1 H1 q1 hop
         simp only [Option.some.injEq] at h;subst h
         exact sole_sound (okC_of hn) hat (soleI_of hi) ho hop he.app.2 (.inl hl) (fun nw w' hat' _=>hk _ w' hat' hsat (fun hh=>by cases hh))
        ·cases h
       ·rename_i hl
        have hl:i∉Ls:=by simpa using hl
        split at h
        ·cases h
        ·rename_i hfz
         have hfz:fz=false:=by simpa using hfz
         split at h
         ·rename_i T1 H1 q1 hop
          simp only [Option.some.injEq] at h;subst h
          exact sole_sound (ok:=fun ty b=>okC cf ty b&&us.contains ty) (fun ty b hb=>okC_of hn ty b (by simp only [Bool.and_eq_true] at hb;exact hb.1)) hat (soleI_of hi) ho hop he.app.2 (.inr ⟨hC hfz,fun ty b hb=>by simp only [Bool.and_eq_true] at hb;simpa using hb.2⟩) (fun nw w' hat' hc=>hk _ w' hat' hsat (fun _=>hc.resolve_left hl))
         ·cases h
      ·cases h
     ·cases h
  ·cases h
 ·cases h
end
def runS (P:Program) (cf:Cfg):Nat→ST→ST
 |0,s=>s
 |n+1,s=>match stepS P cf s with
  |some s'=>runS P cf n s'
  |none=>s
theorem runS_ob [Bd] {P:Program} {cf:Cfg}: ∀ (n:Nat) (s:ST), ∃ q,(runS P cf n s).ob=s.ob++q
 |0,s=>⟨[],by simp [runS]⟩
 |n+1,s=>by
  simp only [runS]
  split
  ·rename_i s' h
   obtain ⟨q,hq⟩:=stepS_ob h
   obtain ⟨q',hq'⟩:=runS_ob n s'
   exact ⟨q++q',by rw [hq',hq,List.append_assoc]⟩
  ·exact ⟨[],by simp⟩
theorem runS_sound [Bd] {P:Program} {Q:Exit→Act→World→Prop} {cf:Cfg} {w0:World} {bs0:List Nat} (hm:P.follows .mixedOrders=true) (hn:cf.n0=bs0.length): ∀ (n:Nat) (s:ST) (bs:List Nat) (w:World),AllEq (runS P cf n s).ob→At cf.ts w0 bs0 bs s.H w→PreK bs s.K→
  (∀ nw w,At cf.ts w0 bs0 (bs++nw) (runS P cf n s).H w→PreK (bs++nw) (runS P cf n s).K→kx P Q (runS P cf n s).K .normal (actS (bs++nw) (runS P cf n s).T) w)→kx P Q s.K .normal (actS bs s.T) w
 |0,s,bs,w,_,hat,hp,hk=>by
  simp only [runS] at hk
  have:=hk [] w (by simpa using hat) (by simpa using hp)
  simpa using this
 |n+1,s,bs,w,he,hat,hp,hk=>by
  simp only [runS] at he hk
  split at hk
  ·rename_i s' h
   rw [h] at he
   have he':AllEq s'.ob:=by
    obtain ⟨q,hq⟩:=runS_ob (P:=P) (cf:=cf) n s'
    simp only at he
    rw [hq] at he
    exact he.app.1
   refine stepS_sound hm hn h he' hat hp (fun nw w1 hat1 hp1=>?_)
   refine runS_sound hm hn n s' (bs++nw) w1 he hat1 hp1 (fun nw2 w2 hat2 hp2=>?_)
   rw [List.append_assoc] at hat2 hp2 ⊢
   exact hk _ _ hat2 hp2
  ·have:=hk [] w (by simpa using hat) (by simpa using hp)
   simpa using this
attribute [irreducible] runS
end Go.Proofs.YtghppnklhbbffaaGreatDoor.X
