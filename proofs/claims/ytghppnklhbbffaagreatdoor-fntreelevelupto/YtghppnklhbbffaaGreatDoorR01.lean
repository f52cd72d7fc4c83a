/- Part 1 of the proof that laws.FnTreeLevel answers true, for arguments of small bulk. It holds words that print.sh printed, cut down to what the proof reaches. -/
import Derived.WalkKit
import Derived.WalkLawsBesides
import Derived.WalkSpells
import Derived.BigQuiet
import Derived.Lib.Hide
import Derived.Lib.Bytealg
import Derived.OrdersHeld
import Derived.Deep.RegionHeld3
import Derived.Laws.BitsLemmas
import Derived.RowKit
import Derived.Laws.CopyRow
import Derived.Laws.Cells
import Derived.Laws.Tables
set_option linter.all false
namespace Go.Proofs.YtghppnklhbbffaaGreatDoor.TL
open Go Go.RowKit
class Bd where
 B:Nat
def solid [Bd] (w:World) (ts:List TypeId) (k:Nat):Prop:= ∃ o,w.heap[k]? =some o∧(Bd.B≤k→ ∀ c t f,o=.cells c t f→t∉ts)
theorem solid.lt [Bd] {w:World} {ts:List TypeId} {k:Nat} (h:solid w ts k):k < w.heap.size:=by
 obtain ⟨o,ho,_⟩:=h;exact (Array.getElem?_eq_some_iff.1 ho).1
theorem solid_nil [Bd] {w:World} {k:Nat} (h:k < w.heap.size):solid w [] k:=⟨w.heap[k],by simp [h],by simp⟩
@[simp,go_sem] theorem solid_nil_iff [Bd] (w:World) (k:Nat):solid w [] k↔k < w.heap.size:=⟨solid.lt,solid_nil⟩
theorem solid_of [Bd] {w:World} {ts:List TypeId} {k:Nat} {c:Array Value} {t:TypeId} {f:Nat×Nat} (h:w.heap[k]? =some (.cells c t f)) (ht:t∉ts):solid w ts k:=
 ⟨_,h,by rintro _ _ _ _ ⟨⟩;exact ht⟩
structure Kept [Bd] (ts:List TypeId) (w w':World):Prop where
 os:w'.os=w.os
 tape:w'.tape=w.tape
 output:w'.output=w.output
 size:w.heap.size≤w'.heap.size
 block: ∀ k,solid w ts k→w'.heap[k]? =w.heap[k]?
 ty: ∀ (k:Nat) (c:Array Value) (t:TypeId) (f:Nat×Nat),w.heap[k]? =some (Obj.cells c t f)→ ∃ c':Array Value,w'.heap[k]? =some (Obj.cells c' t f)
abbrev Ext [Bd] (w w':World):Prop:=Kept [] w w'
section
variable {ts:List TypeId} {a b c w w':World}
theorem Kept.refl [Bd] (ts:List TypeId) (w:World):Kept ts w w:=⟨rfl,rfl,rfl,Nat.le_refl _,fun _ _=>rfl,fun _ c _ _ h=>⟨c,h⟩⟩
theorem Kept.solid [Bd] (h:Kept ts a b) {us:List TypeId} {k:Nat} (hs:solid a us k):TL.solid b us k:=by
 obtain ⟨o,ho,hn⟩:=hs
 cases o with
 |cells c t f=>
  obtain ⟨c',hc⟩:=h.ty k c t f ho
  exact ⟨_,hc,by rintro hb _ _ _ ⟨⟩;exact hn hb c t f rfl⟩
 |_=>
  have hb:=h.block k ⟨_,ho,by rintro _ _ _ _ ⟨⟩⟩
  exact ⟨_,by rw [hb];exact ho,by rintro _ _ _ _ ⟨⟩⟩
theorem Kept.trans [Bd] (h:Kept ts a b) (k:Kept ts b c):Kept ts a c:=
 ⟨k.os.trans h.os,k.tape.trans h.tape,k.output.trans h.output,Nat.le_trans h.size k.size,
  fun i hi=>(k.block i (h.solid hi)).trans (h.block i hi),
  fun i c t f hc=>by
   obtain ⟨c',h1⟩:=h.ty i c t f hc
   obtain ⟨c'',h2⟩:=k.ty i c' t f h1
   exact ⟨c'',h2⟩⟩
theorem Kept.mono [Bd] (h:Kept ts a b) {us:List TypeId} (hs: ∀ t∈ts,t∈us):Kept us a b:=
 ⟨h.os,h.tape,h.output,h.size,fun k ⟨o,ho,hn⟩=>h.block k ⟨o,ho,fun hb c t f e hm=>hn hb c t f e (hs t hm)⟩,h.ty⟩
theorem Kept.of_ext [Bd] (h:Ext a b) (us:List TypeId):Kept us a b:=h.mono (by simp)
theorem Ext.of_below [Bd] (h:Below w.heap.size w w'):Ext w w':=
 ⟨h.os,h.tape,h.output,h.size,fun k hk=>h.block k hk.lt,fun k c t f hc=>⟨c,by rw [h.block k (Array.getElem?_eq_some_iff.1 hc).1];exact hc⟩⟩
theorem Ext.below [Bd] (h:Ext w w'):Below w.heap.size w w':=⟨h.os,h.tape,h.output,h.size,fun k hk=>h.block k (solid_nil hk)⟩
theorem Kept.drew [Bd] (h:Kept ts a b):Kept ts a b.drew:=⟨h.os,h.tape,h.output,h.size,h.block,h.ty⟩
theorem Kept.drewN [Bd] (h:Kept ts a b) (n:Nat):Kept ts a (b.drewN n):=⟨h.os,h.tape,h.output,h.size,h.block,h.ty⟩
theorem heap_alloc_old [Bd] (w:World) (o:Obj) {k:Nat} (h:k < w.heap.size):(w.alloc o).heap[k]? =w.heap[k]?:=Below.heap_alloc w o k h
theorem heap_alloc_new [Bd] (w:World) (o:Obj):(w.alloc o).heap[w.heap.size]? =some o:=by
 show (w.heap.push o)[w.heap.size]? =_
 simp
theorem box_cell [Bd] (w:World) {cs:Array Value} {t:TypeId} {f:Nat×Nat} {v:Value} (i:Nat) (h:cs[i]? =some v):(w.alloc (.cells cs t f)).cell? ⟨w.heap.size,i,none⟩=some v:=by
 unfold World.cell?
 rw [heap_alloc_new]
 simp [h]
theorem Kept.alloc [Bd] (h:Kept ts a b) (o:Obj):Kept ts a (b.alloc o):=
 h.trans ((Ext.of_below ((Below.refl _ _).alloc (Nat.le_refl _) o)).mono (by simp))
theorem Kept.setCell [Bd] (h:Kept ts a b) {p:Addr} {cs:Array Value} {t:TypeId} {f:Nat×Nat} (hb:b.heap[p.block]? =some (.cells cs t f)) (ht:t∈ts) (u:Value) (hB:Bd.B≤p.block):Kept ts a (b.setCell p u):=by
 refine h.trans ⟨rfl,rfl,rfl,by simp [World.setCell],fun k hk=>?_,fun k c' t' f' hc=>?_⟩
 ·by_cases hp:k=p.block
  ·subst hp
   obtain ⟨o,ho,hn⟩:=hk
   rw [hb] at ho
   cases ho
   exact absurd ht (hn hB _ _ _ rfl)
  ·exact Below.heap_setCell _ _ _ _ hp
 ·by_cases hp:k=p.block
  ·subst hp
   simp only [World.setCell,Array.getElem?_modify,if_true,hc,Option.map_some]
   exact ⟨_,rfl⟩
  ·rw [Below.heap_setCell _ _ _ _ hp];exact ⟨c',hc⟩
theorem Kept.setNew [Bd] (h:Kept ts a b) {p:Addr} (hp:a.heap.size≤p.block) (u:Value):Kept ts a (b.setCell p u):=by
 refine ⟨h.os,h.tape,h.output,by simpa [World.setCell] using h.size,fun k hk=>?_,fun k c' t' f' hc=>?_⟩
 ·rw [Below.heap_setCell _ _ _ _ (by have:=hk.lt;omega)];exact h.block k hk
 ·have:=(Array.getElem?_eq_some_iff.1 hc).1
  rw [Below.heap_setCell _ _ _ _ (by omega)];exact h.ty k c' t' f' hc
theorem Kept.cell [Bd] (h:Kept ts w w') {p:Addr} {v:Value} (hs:TL.solid w ts p.block) (hc:w.cell? p=some v):w'.cell? p=some v:=by
 unfold World.cell? at *; rw [h.block _ hs];exact hc
theorem Ext.cell [Bd] (h:Ext w w') {p:Addr} {v:Value} (hc:w.cell? p=some v):w'.cell? p=some v:=
 Kept.cell h (solid_nil (World.block_lt_of_cell? w p hc)) hc
theorem Kept.blk [Bd] (h:Ext w w') {g:Nat} {o:Obj} (hb:w.heap[g]? =some o):w'.heap[g]? =some o:=by
 rw [h.block g (solid_nil (Array.getElem?_eq_some_iff.1 hb).1)];exact hb
theorem Kept.below [Bd] (h:Ext w w') {base:Nat} (hb:base≤w.heap.size):Below base w w':=⟨h.os,h.tape,h.output,h.size,fun k hk=>h.block k (solid_nil (Nat.lt_of_lt_of_le hk hb))⟩
theorem Kept.frozen [Bd] (h:Kept ts w w') {p:Addr} (hs:TL.solid w ts p.block):w'.frozen? p=w.frozen? p:=by
 unfold World.frozen?;rw [h.block _ hs]
end
structure Nx [Bd] (ts:List TypeId) (w:World) where
 to:World
 ok:Kept ts w to
def _root_.Go.World.kt [Bd] (w:World) (ts:List TypeId) (x:Nx ts w):World:=x.to
instance  [Bd](w:World) (ts:List TypeId):Nonempty (Nx ts w):=⟨⟨w,Kept.refl ts w⟩⟩
theorem kept_kt [Bd] {w:World} {ts:List TypeId} (x:Nx ts w):Kept ts w (w.kt ts x):=x.ok
theorem Kept.nx [Bd] {ts:List TypeId} {w w':World} (h:Kept ts w w'): ∃ x,w'=w.kt ts x:=⟨⟨w',h⟩,rfl⟩
@[simp,go_sem] theorem cell_kt [Bd] (w:World) (ts:List TypeId) (x:Nx ts w) (a:Addr) (h:solid w ts a.block):(w.kt ts x).cell? a=w.cell? a:=by
  have e:(w.kt ts x).heap[a.block]? =_:=x.ok.block _ h
  unfold World.cell?;rw [e]
@[simp,go_sem] theorem frozen_kt [Bd] (w:World) (ts:List TypeId) (x:Nx ts w) (a:Addr) (h:solid w ts a.block):(w.kt ts x).frozen? a=w.frozen? a:=
  x.ok.frozen h
theorem Kept.ktr [Bd] {ts:List TypeId} {a b:World} (h:Kept ts a b) (x:Nx ts b):Kept ts a (b.kt ts x):=h.trans x.ok
theorem Kept.kt0 [Bd] {ts:List TypeId} {a b:World} (h:Kept ts a b) (x:Nx [] b):Kept ts a (b.kt [] x):=h.trans (Kept.of_ext x.ok ts)
def RdS (w:World) (v:Value) (s:List UInt8):Prop:=
 ∃ b o c cs f,v=.slice (some ⟨b,o,none⟩) s.length c∧w.heap[b]? =some (.cells cs 5 f)∧
  ∀ i (h:i < s.length),w.cell? ⟨b,o+i,none⟩=some (.int .u8 (s[i].toNat:Int))
theorem RdS.setN [Bd] {w:World} {v:Value} {s:List UInt8} (h:RdS w v s) {p:Addr} {cs:Array Value} {t:TypeId} {f:Nat×Nat} (hb:w.heap[p.block]? =some (.cells cs t f)) (ht:t∉[5]) (u:Value):RdS (w.setCell p u) v s:=by
 obtain ⟨b,o,c,cs',f',hv,hb',hc⟩:=h
 have hne:b≠p.block:=by
  rintro rfl
  rw [hb] at hb'
  cases hb'
  exact ht (by simp)
 refine ⟨b,o,c,cs',f',hv,by rw [Below.heap_setCell _ _ _ _ hne];exact hb',fun i hi=>?_⟩
 have:=hc i hi
 unfold World.cell? at this ⊢
 rw [Below.heap_setCell _ _ _ _ hne]
 exact this
def RdO (w:World) (v:Value):Option (List UInt8)→Prop
 |none=>v=.slice none 0 0
 |some s=>RdS w v s
theorem RdS.kept [Bd] {ts:List TypeId} {w w':World} {v:Value} {s:List UInt8} (h:RdS w v s) (he:Kept ts w w') (ht:5∉ts):RdS w' v s:=by
 obtain ⟨b,o,c,cs,f,hv,hb,hc⟩:=h
 have hs:=solid_of hb ht
 exact ⟨b,o,c,cs,f,hv,by rw [he.block b hs];exact hb,fun i hi=>he.cell hs (hc i hi)⟩
theorem RdO.kept [Bd] {ts:List TypeId} {w w':World} {v:Value} {s:Option (List UInt8)} (h:RdO w v s) (he:Kept ts w w') (ht:5∉ts):RdO w' v s:=by
 cases s with
 |none=>exact h
 |some s=>exact RdS.kept h he ht
theorem run_loadBytes [Bd] {P:Program} {w:World} {b:Nat}: ∀ (s:List UInt8) (o:Nat) (acc:ByteArray),
  (∀ i (h:i < s.length),w.cell? ⟨b,o+i,none⟩=some (.int .u8 (s[i].toNat:Int)))→
  (Extern.Bytes.loadBytes ⟨b,o,none⟩ s.length acc).run P w=.ok ⟨acc.data++s.toArray⟩ w
 |[],o,acc,_=>by simp [Extern.Bytes.loadBytes]
 |x::s,o,acc,h=>by
  have h0:=h 0 (by simp)
  simp only [Nat.add_zero,List.getElem_cons_zero] at h0
  simp only [List.length_cons,Extern.Bytes.loadBytes,Sem.run_bind]
  rw [show (load ⟨b,o,none⟩:Sem Value).run P w=.ok (.int .u8 (x.toNat:Int)) w from by simp [load,Sem.run,h0]]
  simp only [Result.andThen,Addr.add,Nat.one_ne_zero,if_false]
  rw [run_loadBytes s (o+1) _ (fun i hi=>by have:=h (i+1) (by simpa using hi);simpa [Nat.add_assoc,Nat.add_comm 1 i] using this)]
  congr 2
  simp [ByteArray.push]
theorem run_bytesOf [Bd] {P:Program} {w:World} {v:Value} {s:List UInt8} (h:RdS w v s):(Extern.Bytes.bytesOf v).run P w=.ok ⟨s.toArray⟩ w:=by
 obtain ⟨b,o,c,_,_,rfl,_,hc⟩:=h
 simp only [Extern.Bytes.bytesOf]
 rw [run_loadBytes s o _ hc]
 simp
theorem wp_region_kt [Bd] {P:Program} {id:Nat} {Q:Exit→Act→World→Prop} {a:Act} {w:World} {l:List Oper} (ts:List TypeId) (hm:P.follows .mixedOrders=true) (hB:Region.lexB .any l.toArray=true)
  (h:wpQuiet P l.toArray (fun w'=> ∃ x,w'=w.kt ts x) (fun a'=> ∀ w',(∃ x,w'=w.kt ts x)→Q .normal a' w') l a):(Code.region id l.toArray true).wp P Q a w:=
 wp_region_quiet (C:=fun w'=> ∃ x,w'=w.kt ts x) hm hB ⟨⟨w.drew,(Kept.refl ts w).drew⟩,rfl⟩ (by simpa using h)
theorem wp_region_kb [Bd] {P:Program} {id:Nat} {Q:Exit→Act→World→Prop} {a:Act} {w:World} {l:List Oper} (ts:List TypeId) (z:Nx ts w) (hm:P.follows .mixedOrders=true) (hB:Region.lexB .any l.toArray=true)
  (h:wpQuiet P l.toArray (fun w'=> ∃ x,w'=w.kt ts x) (fun a'=> ∀ w',(∃ x,w'=w.kt ts x)→Q .normal a' w') l a):(Code.region id l.toArray true).wp P Q a (w.kt ts z):=
 wp_region_quiet (C:=fun w'=> ∃ x,w'=w.kt ts x) hm hB ⟨⟨(w.kt ts z).drew,z.ok.drew⟩,rfl⟩ (by simpa using h)
theorem wpQuiet_split [Bd] {P:Program} {ops:Array Oper} {C:World→Prop} {Q:Act→Prop} {o:Oper} {rest:List Oper} {a:Act} {t:Nat} {s:Bool} (b:Bool) (_hg:o.guard=some (t,s)) (_h:((ops[t]?).bind (·.dst)).bind (a.tmps[·]?)=some (.bool b))
  (h1:b=true→wpQuiet P ops C Q (o::rest) a) (h0:b=false→wpQuiet P ops C Q (o::rest) a):wpQuiet P ops C Q (o::rest) a:=by
 cases b
 ·exact h0 rfl
 ·exact h1 rfl
theorem quiet_of [Bd] {P:Program} {f:FuncId} {args:Array Value} {w:World} {ts:List TypeId} {x:Nx ts w} {v:Value}
  (h:Calls P f args (w.kt ts x) fun e w'=>e=.returned v∧Kept ts (w.kt ts x) w'):Calls P f args (w.kt ts x) fun e w''=>e=.returned v∧ ∃ y,w''=w.kt ts y:=
 h.mono fun _ w'' ⟨he,hm⟩=>⟨he,⟨w'',x.ok.trans hm⟩,rfl⟩
theorem quiet_same [Bd] {P:Program} {f:FuncId} {args:Array Value} {w:World} {ts:List TypeId} {x:Nx ts w} {v:Value}
  (h:Calls P f args (w.kt ts x) fun e w'=>e=.returned v∧w.kt ts x=w'):Calls P f args (w.kt ts x) fun e w''=>e=.returned v∧ ∃ y,w''=w.kt ts y:=
 h.mono fun _ _ ⟨he,hm⟩=>⟨he,_,hm.symm⟩
theorem sz0 {a b:Nat} (h:a≤b:=by first|assumption|exact Sat.sz (by assumption)|exact Wk.sz (by assumption)|exact Nat.le_trans (Wk.sz (by assumption)) (Kept.size (by assumption))|exact Nat.le_trans (Sat.sz (by assumption)) (Kept.size (by assumption))|exact Nat.le_trans (by assumption) (Kept.size (by assumption))):a≤b:=h
theorem lb0 {a b:Nat} (h:a≤b:=by first|assumption|exact Sat.lo (by assumption) _ (by simp)|exact Wk.lo (by assumption) _ (by simp)):a≤b:=h
theorem bd0 {a b:Nat} (h:a≤b:=by first|assumption|(refine Sat.lo (by assumption) _ ?_;simp;done)|(refine Wk.lo (by assumption) _ ?_;simp;done)|exact Nat.le_trans (Wk.sz (by assumption)) (by assumption)|exact Nat.le_trans (Sat.sz (by assumption)) (by assumption)|exact Nat.le_trans ‹Bd.B≤_› (by assumption)):a≤b:=h
section
variable {P:Program} {ops:Array Oper} {md:Region.Mode} {C:World→Prop} {Qn:Act→World→Prop}
def Q0:Exit→Act→World→Prop:=fun _ _ _=>False
theorem wp_of_Q0 {o:Oper} {a:Act} {w:World} {K:Act→World→Prop} (Q:Exit→Act→World→Prop) (h:o.wp P a w K Q0):o.wp P a w K Q:=by
 unfold Oper.wp at *
 generalize (execOp a.eval o).run P w=r at *
 cases r with
 |ok n w'=>
  cases n<;>simp only [Oper.upon] at h ⊢ <;>first
   |exact h
   |(refine Calls.mono h fun e w'' he=>?_
     cases e with
     |returned v=>exact he
     |panicked c=>exact he.elim
     |outgrown=>obtain ⟨_,_,hf⟩:=he;exact hf.elim)
 |halt x w'=>cases x<;>simp only [Oper.upon] at h ⊢ <;>exact h.elim
def okOp (P:Program) (ops:Array Oper) (i:Nat) (K:Act→World→Prop) (a:Act) (w:World):Prop:=
 match ops[i]? with
 |none=>K a w
 |some o=>if Region.wanted o (yielded ops a.tmps) then o.wp P a w K Q0 else K (a.put o.dst undef) w
theorem okOp_wpOp {i:Nat} {K:Act→World→Prop} {a:Act} {w:World} (Q:Exit→Act→World→Prop) (h:okOp P ops i K a w):wpOp P ops Q i K a w:=by
 unfold okOp at h
 unfold wpOp
 cases ho:ops[i]? with
 |none=>simpa [ho] using h
 |some o=>
  simp only [ho] at h ⊢
  by_cases hw:Region.wanted o (yielded ops a.tmps)=true
  ·simp only [hw,if_true] at h ⊢; exact .inl (wp_of_Q0 Q h)
  ·simp only [hw] at h ⊢; exact h
theorem okOp_mono {i:Nat} {K K':Act→World→Prop} {a:Act} {w:World} (hk: ∀ a w,K a w→K' a w) (h:okOp P ops i K a w):okOp P ops i K' a w:=by
 unfold okOp at *
 cases ho:ops[i]? with
 |none=>simp only [ho] at h ⊢; exact hk _ _ h
 |some o=>
  simp only [ho] at h ⊢
  by_cases hw:Region.wanted o (yielded ops a.tmps)=true
  ·simp only [hw,if_true] at h ⊢; exact Oper.wp_mono hk h
  ·simp only [hw] at h ⊢; exact hk _ _ h
def wpC (P:Program) (md:Region.Mode) (ops:Array Oper) (C:World→Prop) (Qn:Act→World→Prop):Nat→Array Bool→Act→World→Prop
 |0,listed,a,w=>Region.ready md ops listed=[]∧Qn a w
 |f+1,listed,a,w=>(Region.ready md ops listed=[]→Qn a w)∧
  ∀ i∈Region.ready md ops listed,okOp P ops i (fun a' w'=>C w'∧wpC P md ops C Qn f (listed.setIfInBounds i true) a' w') a w
theorem wpC_any {Q:Exit→Act→World→Prop} (hQ: ∀ a w,Qn a w→Q .normal a w): ∀ (f:Nat) (listed:Array Bool) (a:Act) (w:World),
  wpC P md ops C Qn f listed a w→wpAny P md ops Q f listed a w
 |0,_,_,_,h=>⟨h.1,hQ _ _ h.2⟩
 |f+1,_,_,_,h=>⟨fun h0=>hQ _ _ (h.1 h0),fun i hi=>okOp_wpOp Q (okOp_mono (fun _ _ hk=>wpC_any hQ f _ _ _ hk.2) (h.2 i hi))⟩
def YieldsC (P:Program) (ops:Array Oper) (C:World→Prop) (o:Oper) (v:Value) (a:Act):Prop:=
 (Region.wanted o (yielded ops a.tmps)=true∧ ∀ w,C w→((execOp a.eval o).run P w=.ok (.value v) w∨((execOp a.eval o).run P w=.ok .skip w∧v=undef)))∨
 (Region.wanted o (yielded ops a.tmps)=false∧v=undef)
theorem YieldsC.okOp {i:Nat} {o:Oper} {v:Value} {a:Act} {w:World} (hi:ops[i]? =some o) (hy:YieldsC P ops C o v a) (hC:C w) {K:Act→World→Prop} (h:K (a.put o.dst v) w):okOp P ops i K a w:=by
 unfold Go.Proofs.YtghppnklhbbffaaGreatDoor.TL.okOp
 simp only [hi]
 rcases hy with ⟨hw,hv⟩|⟨hw,rfl⟩
 ·simp only [hw,if_true,Oper.wp]
  rcases hv w hC with hr|⟨hr,rfl⟩<;>rw [hr]<;>exact h
 ·simp only [hw,Bool.false_eq_true,if_false];exact h
theorem YieldsC.of_same {o:Oper} {v:Value} {a a':Act} (hy:YieldsC P ops C o v a) (he:execOp a'.eval o=execOp a.eval o)
  (hw:Region.wanted o (yielded ops a'.tmps)=Region.wanted o (yielded ops a.tmps)):YieldsC P ops C o v a':=by
 unfold YieldsC at *
 rw [he,hw]
 exact hy
theorem okOp_put {j:Nat} {oi oj:Oper} {v:Value} (hj:ops[j]? =some oj) (hap:oi.apart ops oj=true)
  (hsi: ∀ cs b,oi.op≠.select cs b) (hsj: ∀ cs b,oj.op≠.select cs b) {K:Act→World→Prop} {a:Act} {w:World}
  (hy:YieldsC P ops C oi v a) (h:okOp P ops j K (a.put oi.dst v) w):
  okOp P ops j (fun a' w'=>YieldsC P ops C oi v a'∧K (a'.put oi.dst v) w') a w:=by
 obtain ⟨h1,h2,h3⟩:=Oper.apart_spec hap
 have keep: ∀ (a:Act),YieldsC P ops C oi v a→ ∀ u,YieldsC P ops C oi v (a.put oj.dst u):=fun a hy u=>
  hy.of_same (execOp_put oi hsi a oj.dst u h3) (wanted_put oi a oj.dst u h3)
 have keepD: ∀ d,YieldsC P ops C oi v { a with defers:=d::a.defers }:=fun d=>hy.of_same rfl rfl
 unfold okOp at *
 simp only [hj] at *
 rw [wanted_put oj a oi.dst v h1] at h
 by_cases hw:Region.wanted oj (yielded ops a.tmps)=true
 ·simp only [hw,if_true] at h ⊢
  unfold Oper.wp at *
  rw [execOp_put oj hsj a oi.dst v h1] at h
  generalize (execOp a.eval oj).run P w=r at *
  cases r with
  |ok n w'=>
   cases n<;>simp only [Oper.upon] at h ⊢
   case value u=>exact ⟨keep a hy u,by rw [←Act.put_comm a v u h2];exact h⟩
   case skip=>exact ⟨keep a hy _,by rw [←Act.put_comm a v undef h2];exact h⟩
   case defer d=>
    refine ⟨keep _ (keepD d) _,?_⟩
    rw [←Act.put_comm _ v undef h2, ←Act.put_defers]
    exact h
   case enter f args=>
    refine Calls.mono h fun e w'' he=>?_
    cases e with
    |returned u=>exact ⟨keep a hy u,by rw [←Act.put_comm a v u h2];exact he⟩
    |panicked c=>exact he.elim
    |outgrown=>exact he
   case row row args=>exact Rows.mono h fun u w'' he=>⟨keep a hy u,by rw [←Act.put_comm a v u h2];exact he⟩
  |halt x w'=>cases x<;>simp only [Oper.upon] at h ⊢ <;>exact h
 ·simp only [hw] at h ⊢
  exact ⟨keep a hy _,by rw [←Act.put_comm a v undef h2];exact h⟩
theorem wpC_first {i:Nat} {oi:Oper} {v:Value} (hi:ops[i]? =some oi) (hsel: ∀ (j:Nat) (o:Oper) cs b,ops[j]? =some o→o.op≠.select cs b):
  ∀ (f:Nat) (listed:Array Bool) (a:Act) (w:World),C w→
   (∀ j oj,ops[j]? =some oj→j≠i→listed.getD j true=false→(∀ e∈oj.after,Region.binds md e=true→e.on≠i)→oi.apart ops oj=true)→
   i∈Region.ready md ops listed→YieldsC P ops C oi v a→
   wpC P md ops C Qn f (listed.setIfInBounds i true) (a.put oi.dst v) w→wpC P md ops C Qn (f+1) listed a w:=by
 intro f
 induction f with
 |zero=>
  intro listed a w hC _ hr hy H
  refine ⟨fun h=>(by rw [h] at hr;cases hr),fun j hj=>?_⟩
  by_cases hji:j=i
  ·subst hji;exact hy.okOp hi hC ⟨hC,H⟩
  ·have:=ready_mono hj hji
   rw [H.1] at this
   cases this
 |succ f ih=>
  intro listed a w hC hfree hr hy H
  refine ⟨fun h=>(by rw [h] at hr;cases hr),fun j hj=>?_⟩
  by_cases hji:j=i
  ·subst hji;exact hy.okOp hi hC ⟨hC,H⟩
  ·have h1:=H.2 j (ready_mono hj hji)
   obtain ⟨hjun,oj,hoj,hall⟩:=mem_ready.1 hj
   have hnot: ∀ e∈oj.after,Region.binds md e=true→e.on≠i:=fun e he hb heq=>by
    have h1:=hall e he hb
    have h0:=(mem_ready.1 hr).1
    rw [heq] at h1
    rcases Nat.lt_or_ge i listed.size with h'|h'
    ·simp [h'] at h0 h1;rw [h0] at h1;cases h1
    ·simp [Array.getElem?_eq_none h'] at h1
   have h2:=okOp_put hoj (hfree j oj hoj hji hjun hnot) (fun cs b=>hsel i oi cs b hi) (fun cs b=>hsel j oj cs b hoj) hy h1
   have hfree': ∀ k ok,ops[k]? =some ok→k≠i→(listed.setIfInBounds j true).getD k true=false→
     (∀ e∈ok.after,Region.binds md e=true→e.on≠i)→oi.apart ops ok=true:=fun k ok hk hki hun hno=>by
    refine hfree k ok hk hki ?_ hno
    by_cases hjk:j=k
    ·subst hjk;exact hjun
    ·rw [getD_set_ne true hjk] at hun;exact hun
   refine okOp_mono (fun a' w' h3=>⟨h3.2.1,ih (listed.setIfInBounds j true) a' w' h3.2.1 hfree' (ready_mono hr (Ne.symm hji)) h3.1 ?_⟩) h2
   rw [Array.setIfInBounds_comm _ _ hji]
   exact h3.2.2
def calm (o:Oper):Bool:=
 match o.op with
 | .move _| .assign _| .pick ..| .load ..| .nilCheck _| .binOp ..| .unOp ..| .convert ..| .fieldAddr ..| .field ..| .indexAddr ..| .index ..
 | .slice ..| .extract ..| .build ..| .makeInterface ..| .makeFunc ..| .lookup ..=>true
 | .call c=>match c.callee with| .builtin .len=>true|_=>false
 |_=>false
theorem run_v_no_enter {α:Type} {s:Sem α} {k:α→Value} {w w':World} {f:FuncId} {args:Array Value}:(do pure (Next.value (k (←s))):Sem Next).run P w≠.ok (.enter f args) w':=by
 intro h
 have e:(do pure (Next.value (k (←s))):Sem Next).run P w=(s.run P w).andThen fun v w'=>.ok (.value (k v)) w':=by simp
 rw [e] at h
 cases hs:s.run P w<;>simp [hs,Result.andThen] at h
theorem halt_no_enter {α:Type} {s:Sem α} {k:α→Sem Next} {w w':World} {f:FuncId} {args:Array Value} (hk: ∀ x w,(k x).run P w≠.ok (.enter f args) w'):(s >>= k).run P w≠.ok (.enter f args) w':=by
 intro h
 rw [Sem.run_bind] at h
 cases hs:s.run P w<;>simp only [hs,Result.andThen] at h
 ·exact hk _ _ h
 ·cases h
theorem calm_no_enter {o:Oper} (h:calm o=true) {ρ:Operand→Value} {w w':World} {f:FuncId} {args:Array Value}:(execOp ρ o).run P w≠.ok (.enter f args) w':=by
 obtain ⟨dst,op,type,pos,after,guard⟩:=o
 cases op<;>simp only [calm,Bool.false_eq_true] at h<;>simp only [execOp]<;>first
  |exact run_v_no_enter (k:=fun v=>v)
  |(simp;done)
  |skip
 case pick c x y=>exact run_v_no_enter
 case nilCheck x=>
  have hd:(runtimePanic .nilDeref:Sem Next).run P w≠.ok (.enter f args) w':=by
   simp [runtimePanic,goPanic,Sem.run,program]
  split
  ·exact hd
  ·exact hd
  ·exact hd
  ·split
   ·exact hd
   ·refine halt_no_enter fun p w1=>?_
    refine halt_no_enter fun b w2=>?_
    split<;>simp [unsupported,Sem.run]
   ·simp
  ·simp
 case call c=> 
  cases hc:c.callee with
  |builtin b=> 
   cases b<;>simp [hc] at h
   simp only [resolve,hc]
   exact run_v_no_enter (k:=fun v=>v)
  |_=>simp [hc] at h
def pick (l:List Oper):List Nat→List Oper
 |[]=>[]
 |i::r=>match l[i]? with
  |some o=>o::pick l r
  |none=>pick l r
def segB (md:Region.Mode) (ops:Array Oper):List Nat→Array Bool→Bool
 |[],_=>true
 |i::r,listed=>(match ops[i]? with|some o=>calm o|none=>false)&&(Region.ready md ops listed).contains i&&Region.free md ops listed i&&
   segB md ops r (listed.setIfInBounds i true)
def mark:List Nat→Array Bool→Array Bool
 |[],l=>l
 |i::r,l=>mark r (l.setIfInBounds i true)
theorem yieldsC_of_quiet {o:Oper} {a:Act} (hc:calm o=true) {K:Act→Prop} (hw:Region.wanted o (yielded ops a.tmps)=true) (h:o.quiet P a C K): ∃ v,YieldsC P ops C o v a∧K (a.put o.dst v):=by
 obtain ⟨v,h1,h2⟩:=h
 refine ⟨v,.inl ⟨hw,fun w hC=>?_⟩,h2⟩
 have h3:=h1 w hC
 unfold Oper.quietAt at h3
 have hne:=fun w' f args=>calm_no_enter (P:=P) hc (ρ:=a.eval) (w:=w) (w':=w') (f:=f) (args:=args)
 generalize (execOp a.eval o).run P w=r at *
 cases r with
 |ok n w'=>
  cases n<;>simp only [Oper.quietUpon] at h3
  case value u=>obtain ⟨e1,e2⟩:=h3;rw [e1,e2];exact .inl rfl
  case skip=>obtain ⟨e1,e2⟩:=h3;rw [e1];exact .inr ⟨rfl,e2⟩
  case enter f args=>exact absurd rfl (hne w' f args)
 |halt x w'=>simp only [Oper.quietUpon] at h3
theorem seg (hs:Region.noSelect ops=true): ∀ (is:List Nat) (f:Nat) (listed:Array Bool) (a:Act) (w:World),C w→segB md ops is listed=true→
  wpQuiet P ops C (fun a'=>wpC P md ops C Qn f (mark is listed) a' w) (pick ops.toList is) a→wpC P md ops C Qn (f+is.length) listed a w
 |[],_,_,_,_,_,_,h=>h
 |i::r,f,listed,a,w,hC,hB,h=>by
  simp only [segB,Bool.and_eq_true] at hB
  obtain ⟨⟨⟨h1,h2⟩,h3⟩,h4⟩:=hB
  cases ho:ops[i]? with
  |none=>simp [ho] at h1
  |some o=>
   simp only [ho] at h1
   have hol:ops.toList[i]? =some o:=by simpa using ho
   simp only [pick,hol] at h
   have hy: ∃ v,YieldsC P ops C o v a∧wpQuiet P ops C (fun a'=>wpC P md ops C Qn f (mark (i::r) listed) a' w) (pick ops.toList r) (a.put o.dst v):=by
    unfold wpQuiet at h
    by_cases hw:Region.wanted o (yielded ops a.tmps)=true
    ·simp only [hw,if_true] at h;exact yieldsC_of_quiet h1 hw h
    ·simp only [hw] at h;exact ⟨undef,.inr ⟨by simpa using hw,rfl⟩,h⟩
   obtain ⟨v,hy1,hy2⟩:=hy
   have:=seg hs r f (listed.setIfInBounds i true) (a.put o.dst v) w hC h4 hy2
   exact wpC_first ho (Region.noSelect_spec hs) (f+r.length) listed a w hC (Region.free_spec ho h3) (by simpa using h2) hy1 this
theorem rstep {listed:Array Bool} {f i:Nat} {a:Act} {w:World} {o:Oper} (hr:Region.ready md ops listed=[i]) (ho:ops[i]? =some o) (hw:Region.wanted o (yielded ops a.tmps)=true)
  (h:o.wp P a w (fun a' w'=>C w'∧wpC P md ops C Qn f (listed.setIfInBounds i true) a' w') Q0):wpC P md ops C Qn (f+1) listed a w:=by
 refine ⟨fun h=>(by rw [h] at hr;cases hr),fun j hj=>?_⟩
 rw [hr] at hj
 have hji:j=i:=by simpa using hj
 subst hji
 unfold okOp
 simp only [ho,hw,if_true]
 exact h
theorem rskip {listed:Array Bool} {f i:Nat} {a:Act} {w:World} {o:Oper} (hr:Region.ready md ops listed=[i]) (ho:ops[i]? =some o) (hw:Region.wanted o (yielded ops a.tmps)=false)
  (hC:C w) (h:wpC P md ops C Qn f (listed.setIfInBounds i true) (a.put o.dst undef) w):wpC P md ops C Qn (f+1) listed a w:=by
 refine ⟨fun h=>(by rw [h] at hr;cases hr),fun j hj=>?_⟩
 rw [hr] at hj
 have hji:j=i:=by simpa using hj
 subst hji
 unfold okOp
 simp only [ho,hw,Bool.false_eq_true,if_false]
 exact ⟨hC,h⟩
theorem wpC_end {listed:Array Bool} {a:Act} {w:World} (hr:Region.ready md ops listed=[]) (h:Qn a w):wpC P md ops C Qn 0 listed a w:=⟨hr,h⟩
theorem wp_region_mix {id:Nat} {Q:Exit→Act→World→Prop} {a:Act} {w:World} {l:List Oper} (C:World→Prop) (hm:P.follows .mixedOrders=true) 
  (h:wpC P .any l.toArray C (fun a w=>Q .normal a w) l.length (Array.replicate l.length false) a w.drew):(Code.region id l.toArray true).wp P Q a w:=by
 refine wp_region_any hm ?_
 have:=wpC_any (Q:=Q) (fun _ _ h=>h) _ _ _ _ h
 simpa using this
def waitsOn (md:Region.Mode) (o:Oper) (i:Nat):Bool:=o.after.toList.any fun e=>e.on==i&&Region.binds md e
def lexTail (md:Region.Mode) (ops:Array Oper) (oi:Oper) (i:Nat):List Oper→Bool
 |[]=>true
 |oj::r=>(waitsOn md oj i||oi.apart ops oj)&&lexTail md ops oi i r
def lexFrom2 (md:Region.Mode) (ops:Array Oper):Nat→List Oper→Bool
 |_,[]=>true
 |k,o::r=>(o.after.toList.all fun e=>!Region.binds md e||Nat.blt e.on k)&&lexTail md ops o k r&&lexFrom2 md ops (k+1) r
def lexC (md:Region.Mode) (ops:Array Oper):Bool:=Region.noSelect ops&&lexFrom2 md ops 0 ops.toList
theorem lexTail_spec {oi:Oper} {i:Nat}: ∀ {l:List Oper},lexTail md ops oi i l=true→ ∀ oj∈l,waitsOn md oj i=true∨oi.apart ops oj=true
 |[],_,oj,h=>by cases h
 |o::r,h,oj,hm=>by
  simp only [lexTail,Bool.and_eq_true,Bool.or_eq_true] at h
  rcases List.mem_cons.1 hm with rfl|hm
  ·exact h.1
  ·exact lexTail_spec h.2 oj hm
theorem lexFrom_of (k:Nat): ∀ (l:List Oper) (k:Nat) (listed:Array Bool),(∀ j,l[j]? =ops[k+j]?)→listed.size=ops.size→(∀ j,j < ops.size→listed.getD j true=decide (j < k))→
  lexFrom2 md ops k l=true→Region.lexFrom md ops l.length k listed=true
 |[],k,listed,hl,hs,hj,_=>by
  simp only [List.length_nil,Region.lexFrom]
  have hk:ops.size≤k:=by
   have:=hl 0
   simp at this
   exact this
  have:Region.ready md ops listed=[]:=by
   apply List.eq_nil_iff_forall_not_mem.2
   intro j hm
   obtain ⟨h1,o,ho,_⟩:=mem_ready.1 hm
   have hlt:j < ops.size:=(Array.getElem?_eq_some_iff.1 ho).1
   rw [hj j hlt] at h1
   simp at h1
   omega
  rw [this];rfl
 |o::l,k,listed,hl,hs,hj,h=>by
  have h0:ops[k]? =some o:=by simpa using (hl 0).symm
  have hk:k < ops.size:=(Array.getElem?_eq_some_iff.1 h0).1
  simp only [lexFrom2,Bool.and_eq_true] at h
  obtain ⟨⟨he,ht⟩,hr⟩:=h
  have hrest: ∀ j,l[j]? =ops[k+1+j]?:=fun j=>by have:=hl (j+1);simpa [Nat.add_assoc,Nat.add_comm 1 j] using this
  have hget: ∀ j,j < ops.size→j < k→listed.getD j false=true:=fun j h1 h2=>by
   have:=hj j h1
   have hjs:j < listed.size:=by omega
   simp [hjs,h2] at this ⊢
   exact this
  simp only [List.length_cons,Region.lexFrom,Bool.and_eq_true]
  refine ⟨⟨?_,?_⟩,?_⟩
  ·rw [List.contains_iff_mem]
   refine mem_ready.2 ⟨by rw [hj k hk];simp,o,h0,fun e hm hb=>?_⟩
   have:=List.all_eq_true.1 he e (by simpa using hm)
   simp only [hb,Bool.not_true,Bool.false_or] at this
   have hlt:e.on < k:=by simpa [Nat.blt,Nat.succ_le_iff] using this
   exact hget e.on (by omega) hlt
  ·unfold Region.free
   simp only [h0,List.all_eq_true,List.mem_range]
   intro j hjs
   simp only [Bool.or_eq_true,beq_iff_eq]
   by_cases h1:j=k
   ·exact .inl (.inl h1)
   ·by_cases h2:j < k
    ·exact .inl (.inr (by rw [hj j hjs];simpa using h2))
    ·right
     have hoj:ops[j]? =some ops[j]:=by simp [hjs]
     rw [hoj]
     have hm:ops[j]∈l:=by
      have:=hrest (j - (k+1))
      rw [show k+1+(j - (k+1))=j by omega,hoj] at this
      exact List.mem_of_getElem? this
     rcases lexTail_spec ht _ hm with h3|h3
     ·simp only [Bool.or_eq_true]
      left
      unfold waitsOn at h3
      obtain ⟨e,he1,he2⟩:=List.any_eq_true.1 h3
      simp only [Bool.and_eq_true,beq_iff_eq] at he2
      exact Array.any_eq_true'.2 ⟨e,by simpa using he1,by simp [he2.1,he2.2]⟩
     ·simp only [Bool.or_eq_true];exact .inr h3
  ·refine lexFrom_of k l (k+1) (listed.setIfInBounds k true) hrest (by simpa using hs) (fun j hjs=>?_) hr
   by_cases h1:k=j
   ·subst h1;simp [hs,hk]
   ·rw [getD_set_ne true h1,hj j hjs]
    have:(j < k)↔(j < k+1):=by omega
    simp [this]
theorem lexB_of (h:lexC md ops=true):Region.lexB md ops=true:=by
 simp only [lexC,Bool.and_eq_true] at h
 simp only [Region.lexB,Bool.and_eq_true]
 refine ⟨h.1,?_⟩
 have:=lexFrom_of (md:=md) 0 ops.toList 0 (Array.replicate ops.size false) (fun j=>by simp) (by simp) (fun j hj=>by simp [hj]) h.2
 simpa using this
end
end Go.Proofs.YtghppnklhbbffaaGreatDoor.TL
namespace Go.Proofs.YtghppnklhbbffaaGreatDoorW.PrintLast
section
variable {P:Program} {ops:Array Oper} {Q:Exit→Act→World→Prop} {md:Region.Mode} {S:World→Prop} {ds:List Nat}
def ListedClosed (md:Region.Mode) (ops:Array Oper) (listed:Array Bool):Prop:=
 ∀ j oj,ops[j]? =some oj→listed.getD j false=true→ ∀ e∈oj.after,Region.binds md e=true→listed.getD e.on false=true
theorem ListedClosed.set {listed:Array Bool} {i:Nat} (h:ListedClosed md ops listed) (hi:i∈Region.ready md ops listed):ListedClosed md ops (listed.setIfInBounds i true):=by
 obtain ⟨_,oi,hoi,hall⟩:=mem_ready.1 hi
 intro j oj hj hl e he hb
 by_cases hij:i=j
 ·subst hij
  have:oj=oi:=Option.some.inj (hj.symm.trans hoi)
  subst this
  exact getD_set_true (hall e he hb)
 ·rw [getD_set_ne false hij] at hl
  exact getD_set_true (h j oj hj hl e he hb)
def wpAnyLast (P:Program) (md:Region.Mode) (ops:Array Oper) (Q:Exit→Act→World→Prop) (S:World→Prop) (ds:List Nat):Nat→Array Bool→Act→World→Prop
 |0,listed,a,w=>Region.ready md ops listed=[]∧Q .normal a w
 |fuel+1,listed,a,w=>
  (Region.ready md ops listed=[]→Q .normal a w)∧
  ∀ i∈Region.ready md ops listed,wpOp P ops Q i (fun a' w'=>(i∉ds→S w→S w')∧wpAnyLast P md ops Q S ds fuel (listed.setIfInBounds i true) a' w') a w
end
section
variable {P:Program} {ops:Array Oper} {Q:Exit→Act→World→Prop} {md:Region.Mode} {S:World→Prop} {ds:List Nat}
def AllReadyL (P:Program) (md:Region.Mode) (ops:Array Oper) (Q:Exit→Act→World→Prop) (S:World→Prop) (ds:List Nat) (fuel:Nat) (listed:Array Bool) (a:Act) (w:World) (rs:List Nat):Prop:=
 ∀ i∈rs,wpOp P ops Q i (fun a' w'=>(i∉ds→S w→S w')∧wpAnyLast P md ops Q S ds fuel (listed.setIfInBounds i true) a' w') a w
theorem AllReadyL.nil {fuel:Nat} {listed:Array Bool} {a:Act} {w:World}:AllReadyL P md ops Q S ds fuel listed a w []:=fun _ h=>by cases h
theorem AllReadyL.cons {fuel:Nat} {listed:Array Bool} {a:Act} {w:World} {i:Nat} {o:Oper} {rs:List Nat} (ho:ops[i]? =some o) (hd:i∉ds)
  (h: ∀ K':Act→World→Prop,Shut (∀ a w,S w→(S w→wpAnyLast P md ops Q S ds fuel (listed.setIfInBounds i true) a w)→K' a w)→if Region.wanted o (yielded ops a.tmps)=true then Oper.wp P o a w K' Q else K' (a.put o.dst undef) w)
  (hs:AllReadyL P md ops Q S ds fuel listed a w rs):AllReadyL P md ops Q S ds fuel listed a w (i::rs):=fun j hj=>by
 rcases List.mem_cons.1 hj with rfl|hj
 ·exact wpOp_step ho (fun K' hK=>h K' (fun a w hS hW=>hK a w ⟨fun _ _=>hS,hW hS⟩))
 ·exact hs j hj
def readyB (md:Region.Mode) (ops:Array Oper) (l l':Array Bool) (i:Nat):Bool:=(Region.ready md ops l==[i])&&(l.setIfInBounds i true==l')
theorem call_ {oi:Oper} {N:Option Tmp} {a:Act} {w:World} {K:Act→World→Prop} (f:FuncId) (args:Array Value) (hw:Region.wanted oi (yielded ops a.tmps)=true) (hN:oi.dst=N) (hrun:(execOp a.eval oi).run P w=.ok (.enter f args) w)
  (h:Calls P f args w fun e w'=> ∃ v,e=.returned v∧K (a.put N v) w'):if Region.wanted oi (yielded ops a.tmps)=true then Oper.wp P oi a w K Q else K (a.put N undef) w:=by
 rw [if_pos hw]
 subst hN
 unfold Oper.wp
 rw [hrun,Oper.upon_enter]
 refine h.mono fun e w'' hh=>?_
 obtain ⟨v,rfl,hk⟩:=hh
 exact hk
theorem enters_ {f : FuncId} {fn : Func} (hf : P.funcs[f]? = some fn) (hname : (fn.name == "runtime.NumGoroutine") = false) (hb : fn.body.isSome = true) (args : Array Value) (w : World) : (callFunc f args).run P w = .ok (.enter f args) w := by
 have h1 : fn.name ≠ "runtime.NumGoroutine" := by simpa using hname
 obtain ⟨c,hc⟩:=Option.isSome_iff_exists.1 hb
 simp [callFunc,hf,h1,hc]
theorem goes_ {oi : Oper} {N : Option Tmp} {a : Act} {w : World} {K : Act → World → Prop} {f : FuncId} {fn : Func} {as : Array Operand} {ts : Array TypeId} (hf : P.funcs[f]? = some fn) (hname : (fn.name == "runtime.NumGoroutine") = false) (hb : fn.body.isSome = true) (args : Array Value)
  (hw:Region.wanted oi (yielded ops a.tmps)=true) (hN:oi.dst=N) (hop:oi.op=.call { callee:=.value (.func f),args:=as,argTypes:=ts }) (hargs:as.map a.eval=args)
  (h:Calls P f args w fun e w'=> ∃ v,e=.returned v∧K (a.put N v) w'):if Region.wanted oi (yielded ops a.tmps)=true then Oper.wp P oi a w K Q else K (a.put N undef) w:=by
 refine call_ f args hw hN ?_ h
 have he:=enters_ hf hname hb args w
 unfold execOp
 simp [hop,resolve,Deferred.ofValue,invoke,Act.eval,hargs,he]
theorem skip_ {oi:Oper} {a:Act} {w w1:World} {K:Act→World→Prop} (hw:Region.wanted oi (yielded ops a.tmps)=true) (hN:oi.dst=none) (hrun:(execOp a.eval oi).run P w=.ok .skip w1)
  (h:K a w1):if Region.wanted oi (yielded ops a.tmps)=true then Oper.wp P oi a w K Q else K (a.put none undef) w:=by
 rw [if_pos hw]
 unfold Oper.wp
 rw [hrun]
 show K (a.put oi.dst undef) w1
 rw [hN]
 exact h
theorem i64_w (n:Int):IntKind.i64.wrap n=Go.RowKit.wrap64 n:=by unfold Go.RowKit.wrap64;exact IntKind.wrap_i64 n
theorem i32_w (n:Int):IntKind.i32.wrap n=Go.RowKit.wrap32 n:=by unfold Go.RowKit.wrap32;exact IntKind.wrap_i32 n
end
end Go.Proofs.YtghppnklhbbffaaGreatDoorW.PrintLast
namespace Go.Proofs.YtghppnklhbbffaaGreatDoor.TL
open Go Go.RowKit Go.Proofs.YtghppnklhbbffaaGreatDoorW.PrintLast
section
variable {P:Program} {md:Region.Mode} {ops:Array Oper} {C:World→Prop} {Qn:Act→World→Prop}
theorem rone {i f:Nat} {N:Option Tmp} {o:Oper} {l:Array Bool} {a:Act} {w:World} (l':Array Bool) (hi:ops[i]? =some o) (hN:o.dst=N) (hc:readyB md ops l l' i=true)
  (h: ∀ K:Act→World→Prop,(∀ a' w',C w'→wpC P md ops C Qn f l' a' w'→K a' w')→if Region.wanted o (yielded ops a.tmps)=true then Oper.wp P o a w K Q0 else K (a.put N undef) w):
  wpC P md ops C Qn (f+1) l a w:=by
 subst hN
 simp only [readyB,Bool.and_eq_true,beq_iff_eq] at hc
 obtain ⟨h1,h2⟩:=hc
 subst h2
 by_cases hw:Region.wanted o (yielded ops a.tmps)=true
 ·refine rstep h1 hi hw ?_
  have:=h (fun a' w'=>C w'∧wpC P md ops C Qn f (l.setIfInBounds i true) a' w') (fun _ _ hC hk=>⟨hC,hk⟩)
  rwa [if_pos hw] at this
 ·have h3:=h (fun a' w'=>C w'∧wpC P md ops C Qn f (l.setIfInBounds i true) a' w') (fun _ _ hC hk=>⟨hC,hk⟩)
  rw [if_neg hw] at h3
  exact rskip h1 hi (by simpa using hw) h3.1 h3.2
theorem rseg (is:List Nat) {f n:Nat} {l:Array Bool} {a:Act} {w:World} (l':Array Bool) (hs:(Region.noSelect ops&&segB md ops is l&&(mark is l==l')&&(n==f+is.length))=true) (hC:C w)
  (h:wpQuiet P ops C (fun a'=>wpC P md ops C Qn f l' a' w) (pick ops.toList is) a):wpC P md ops C Qn n l a w:=by
 simp only [Bool.and_eq_true,beq_iff_eq] at hs
 obtain ⟨⟨⟨h1,h2⟩,h3⟩,h4⟩:=hs
 subst h3 h4
 exact seg h1 is f l a w hC h2 h
theorem rend {l:Array Bool} {a:Act} {w:World} (hr:(Region.ready md ops l==[])=true) (h:Qn a w):wpC P md ops C Qn 0 l a w:=wpC_end (by simpa using hr) h
end
section
variable {P:Program} {md:Region.Mode} {ops:Array Oper} {C:World→Prop} {Qn:Act→World→Prop}
def waits (md:Region.Mode) (ops:Array Oper) (L i:Nat):Bool:=match ops[L]? with|some o=>o.after.toList.any fun e=>e.on==i&&Region.binds md e|none=>true
end
end Go.Proofs.YtghppnklhbbffaaGreatDoor.TL
namespace Go.Proofs.YtghppnklhbbffaaGreatDoor.X
open Go Go.RowKit Go.Proofs.YtghppnklhbbffaaGreatDoor.TL
inductive SV where
 |va (x:Value)
 |oc (x:Value) (h:x.oneCell'=true)
 |bl (x:Bool)
 |sb (x:Bool)
 |it (k:IntKind) (n:Int)
 |si (k:IntKind) (n:Int)
 |str (s:ByteArray)
 |un
 |np|ns|nf|ni
 |ptr (a:Addr)
 |sl (a:Addr) (n c:Nat)
 |p (b o:Nat)
 |agg (l:List SV)
 |tup (l:List SV)
 |fn (f:FuncId) (c:List SV)
 |ifc (t:TypeId) (x:SV)
 deriving Inhabited
def nmB (bs:List Nat) (b:Nat):Nat:=bs.getD b 0
mutual
def SV.den (bs:List Nat):SV→Value
 | .va x=>x
 | .oc x _=>x
 | .bl x=>.bool x
 | .sb x=>.bool x
 | .it k n=>.int k n
 | .si k n=>.int k n
 | .str s=>.string s
 | .un=>undef
 | .np=>.pointer none
 | .ns=>.slice none 0 0
 | .nf=>.nilFunc
 | .ni=>.nilIface
 | .ptr a=>.pointer (some a)
 | .sl a n c=>.slice (some a) n c
 | .p b o=>.pointer (some ⟨nmB bs b,o,none⟩)
 | .agg l=>.agg (SV.denL bs l).toArray
 | .tup l=>.tuple (SV.denL bs l).toArray
 | .fn f c=>.func (.func f) #[] (SV.denL bs c).toArray
 | .ifc t x=>.iface t (x.den bs)
def SV.denL (bs:List Nat):List SV→List Value
 |[]=>[]
 |a::l=>a.den bs::SV.denL bs l
end
mutual
def SV.lt (n:Nat):SV→Bool
 | .p b _=>Nat.blt b n
 | .agg l=>SV.ltL n l
 | .tup l=>SV.ltL n l
 | .fn _ c=>SV.ltL n c
 | .ifc _ x=>x.lt n
 |_=>true
def SV.ltL (n:Nat):List SV→Bool
 |[]=>true
 |a::l=>a.lt n&&SV.ltL n l
end
theorem denL_map (bs:List Nat): ∀ l:List SV,SV.denL bs l=l.map (·.den bs)
 |[]=>rfl
 |a::l=>by rw [SV.denL,denL_map bs l];rfl
@[simp] theorem denL_length (bs:List Nat) (l:List SV):(SV.denL bs l).length=l.length:=by simp [denL_map]
theorem denL_get (bs:List Nat) (l:List SV) (i:Nat):(SV.denL bs l)[i]? =(l[i]?).map (·.den bs):=by simp [denL_map]
theorem getD_app {bs xs:List Nat} {b:Nat} (h:b < bs.length):nmB (bs++xs) b=nmB bs b:=by
 unfold nmB
 simp [List.getD_eq_getElem?_getD,List.getElem?_append_left h]
mutual
theorem den_app {bs xs:List Nat}: ∀ x:SV,x.lt bs.length=true→x.den (bs++xs)=x.den bs
 | .p b o,h=>by
   have:b < bs.length:=by simpa [SV.lt,Nat.blt,Nat.succ_le_iff] using h
   simp only [SV.den,getD_app this]
 | .agg l,h=>by simp only [SV.den];rw [denL_app l (by simpa [SV.lt] using h)]
 | .tup l,h=>by simp only [SV.den];rw [denL_app l (by simpa [SV.lt] using h)]
 | .fn f c,h=>by simp only [SV.den];rw [denL_app c (by simpa [SV.lt] using h)]
 | .ifc t x,h=>by simp only [SV.den];rw [den_app x (by simpa [SV.lt] using h)]
 | .va _,_=>by simp only [SV.den]
 | .oc _ _,_=>by simp only [SV.den]
 | .bl _,_=>by simp only [SV.den]
 | .sb _,_=>by simp only [SV.den]
 | .it _ _,_=>by simp only [SV.den]
 | .si _ _,_=>by simp only [SV.den]
 | .str _,_=>by simp only [SV.den]
 | .un,_=>by simp only [SV.den]
 | .np,_=>by simp only [SV.den]
 | .ns,_=>by simp only [SV.den]
 | .nf,_=>by simp only [SV.den]
 | .ni,_=>by simp only [SV.den]
 | .ptr _,_=>by simp only [SV.den]
 | .sl _ _ _,_=>by simp only [SV.den]
theorem denL_app {bs xs:List Nat}: ∀ l:List SV,SV.ltL bs.length l=true→SV.denL (bs++xs) l=SV.denL bs l
 |[],_=>rfl
 |a::l,h=>by
  simp only [SV.ltL,Bool.and_eq_true] at h
  simp only [SV.denL]
  rw [den_app a h.1,denL_app l h.2]
end
def ofV:Value→SV
 | .bool x=>.bl x
 | .int k n=>.it k n
 | .string s=>.str s
 | .pointer none=>.np
 | .pointer (some a)=>.ptr a
 | .slice none 0 0=>.ns
 | .slice (some a) n c=>.sl a n c
 | .nilFunc=>.nf
 | .nilIface=>.ni
 |x=>.va x
theorem den_ofV (bs:List Nat) (x:Value):(ofV x).den bs=x:=by
 unfold ofV
 split<;>simp only [SV.den]
theorem denL_ofV (bs:List Nat) (l:List Value):SV.denL bs (l.map ofV)=l:=by
 rw [denL_map,List.map_map]
 conv=>rhs;rw [←List.map_id l]
 exact List.map_congr_left fun x _=>den_ofV bs x
def evS (T:List SV):Operand→SV
 | .tmp t=>T.getD t .un
 | .const x=>ofV x
 | .global g=>.ptr ⟨g,0,none⟩
 | .func f=>.fn f []
def actS (bs:List Nat) (T:List SV):Act:=⟨(SV.denL bs T).toArray,[]⟩
theorem ev_den (bs:List Nat) (T:List SV) (x:Operand):(actS bs T).eval x=(evS T x).den bs:=by
 cases x with
 |tmp t=>
  simp only [Act.eval,evS,actS,Array.getD_eq_getD_getElem?,List.getElem?_toArray,denL_get,List.getD_eq_getElem?_getD]
  cases T[t]?<;>simp [SV.den]
 |const v=>simp only [Act.eval,evS,den_ofV]
 |global g=>simp only [Act.eval,evS,SV.den]
 |func f=>simp only [Act.eval,evS,SV.den,SV.denL]
theorem put_den (bs:List Nat) (T:List SV) (d:Option Tmp) (x:SV):(actS bs T).put d (x.den bs)=actS bs (match d with|some t=>T.set t x|none=>T):=by
 cases d with
 |none=>rfl
 |some t=>
  simp only [Act.put,actS]
  congr 1
  rw [List.setIfInBounds_toArray]
  congr 1
  simp [denL_map,List.map_set]
section
variable (P:Program)
def aggT (t:TypeId):Option Bool:=match P.underlying t with
 |some (.struct _)=>some true
 |some (.array _ _)=>some true
 |some _=>some false
 |none=>none
def sizeT (t:TypeId):Option Nat:=match P.info? t with|some i=>some i.size|none=>none
def fieldT (t:TypeId) (f:Nat):Option (Nat×TypeId):=match P.underlying t with
 |some (.struct fs)=>match fs[f]? with|some d=>some (d.offset,d.type)|none=>none
 |_=>none
end
section
variable {P:Program} {w:World}
theorem aggT_run {t:TypeId} {b:Bool} (h:aggT P t=some b):(isAgg t).run P w=.ok b w:=by
 unfold aggT at h
 cases hu:P.underlying t with
 |none=>rw [hu] at h;cases h
 |some d=>
  unfold isAgg
  simp only [Sem.run_bind,run_underlying hu,Result.andThen]
  cases d<;>simp_all
theorem sizeT_run {t:TypeId} {n:Nat} (h:sizeT P t=some n):(sizeOf t).run P w=.ok n w:=by
 unfold sizeT at h
 cases hi:P.info? t with
 |none=>rw [hi] at h;cases h
 |some i=>
  rw [hi] at h
  simp only [Option.some.injEq] at h
  simp [sizeOf,typeInfo,hi,Result.andThen,h]
end
abbrev Look:=Nat→Nat→Option SV
def Sees (bs:List Nat) (L:Look) (w:World):Prop:= ∀ b o x,L b o=some x→w.cell? ⟨nmB bs b,o,none⟩=some (x.den bs)
def cellsS (L:Look) (b:Nat):Nat→Nat→Option (List SV)
 |_,0=>some []
 |o,n+1=>match L b o with
  |some x=>match cellsS L b (o+1) n with
   |some l=>some (x::l)
   |none=>none
  |none=>none
theorem cellsS_spec {L:Look} {b:Nat}: ∀ (n o:Nat) (l:List SV),cellsS L b o n=some l→l.length=n∧ ∀ j x,l[j]? =some x→L b (o+j)=some x
 |0,o,l,h=>by
  simp only [cellsS,Option.some.injEq] at h;subst h;exact ⟨rfl,by simp⟩
 |n+1,o,l,h=>by
  simp only [cellsS] at h
  cases h1:L b o with
  |none=>rw [h1] at h;cases h
  |some y=>
   rw [h1] at h
   cases h2:cellsS L b (o+1) n with
   |none=>rw [h2] at h;cases h
   |some l'=>
    rw [h2] at h
    simp only [Option.some.injEq] at h
    subst h
    obtain ⟨e,ih⟩:=cellsS_spec n (o+1) l' h2
    refine ⟨by simp [e],fun j x hj=>?_⟩
    cases j with
    |zero=>simp only [List.getElem?_cons_zero,Option.some.injEq] at hj;subst hj;exact h1
    |succ j=>rw [show o+(j+1)=o+1+j by omega];exact ih j x (by simpa using hj)
def loadS (P:Program) (L:Look) (t:TypeId) (b o:Nat):Option SV:=match aggT P t with
 |some true=>match sizeT P t with
  |some n=>match cellsS L b o n with
   |some l=>some (.agg l)
   |none=>none
  |none=>none
 |some false=>L b o
 |none=>none
theorem add_none (g o n:Nat):(⟨g,o,none⟩:Addr).add n=⟨g,o+n,none⟩:=by unfold Addr.add;split<;>simp_all
theorem loadS_run {P:Program} {w:World} {bs:List Nat} {L:Look} (hL:Sees bs L w) {t:TypeId} {b o:Nat} {r:SV} (h:loadS P L t b o=some r):
  (loadVar t ⟨nmB bs b,o,none⟩).run P w=.ok (r.den bs) w:=by
 unfold loadS at h
 cases ha:aggT P t with
 |none=>rw [ha] at h;cases h
 |some ag=>
  rw [ha] at h
  unfold loadVar
  simp only [Sem.run_bind,aggT_run ha,Result.andThen]
  cases ag with
  |false=>
   have:=hL b o r h
   simp [this]
  |true=>
   simp only at h
   cases hs:sizeT P t with
   |none=>rw [hs] at h;cases h
   |some n=>
    rw [hs] at h
    simp only at h
    cases hc:cellsS L b o n with
    |none=>rw [hc] at h;cases h
    |some l=>
     rw [hc] at h
     simp only [Option.some.injEq] at h
     subst h
     obtain ⟨e,hl⟩:=cellsS_spec n o l hc
     have:=run_loadCells_list (P:=P) w ⟨nmB bs b,o,none⟩ (SV.denL bs l) (fun j v hj=>by
      rw [denL_get] at hj
      obtain ⟨x,hx,rfl⟩:=Option.map_eq_some_iff.1 hj
      rw [add_none]
      exact hL b (o+j) x (hl j x hx))
     simp only [denL_length,e] at this
     simp [sizeT_run hs,this,SV.den,Result.andThen]
end Go.Proofs.YtghppnklhbbffaaGreatDoor.X
