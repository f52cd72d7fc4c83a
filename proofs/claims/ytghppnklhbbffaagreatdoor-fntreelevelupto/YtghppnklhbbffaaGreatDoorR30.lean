/- Part 30 of the proof that laws.FnTreeLevel answers true, for arguments of small bulk. -/
import Derived.Test.YtghppnklhbbffaaGreatDoorR05
import Derived.Test.YtghppnklhbbffaaGreatDoorR29
import Derived.Test.YtghppnklhbbffaaGreatDoorR22
set_option linter.all false
set_option maxHeartbeats 4000000
set_option maxRecDepth 100000
namespace Go.Proofs.YtghppnklhbbffaaGreatDoor.X
open Go Go.RowKit Go.Proofs.YtghppnklhbbffaaGreatDoor.TL Go.Proofs.YtghppnklhbbffaaGreatDoor.PFnTreeLevel Go.Proofs.YtghppnklhbbffaaGreatDoorW.PrintWords
section
variable {n:Nat} {P:Nat→List S36} {sm lg:Nat→List UInt8} {lo up:Option (List UInt8)}
theorem Lay.atSm [Bd] (L:Lay n P sm lg lo up) {i:Nat} (hi:i < n): ∃ x,(flatP n P)[offP P i]? =some x∧sm i=Ky x:=by
 obtain ⟨x,h1,h2⟩:=L.sm i hi
 have h3:=L.pos i hi
 have h4:=flat_get P n i 0 hi h3
 rw [Nat.add_zero] at h4
 exact ⟨x,by rw [h4, ←h1,List.getElem?_eq_getElem h3],h2⟩
theorem Lay.atLg [Bd] (L:Lay n P sm lg lo up) {i:Nat} (hi:i < n): ∃ x,(flatP n P)[offP P (i+1) - 1]? =some x∧lg i=Ky x:=by
 obtain ⟨x,h1,h2⟩:=L.lg i hi
 have h3:=L.pos i hi
 have h4:=flat_get P n i ((P i).length - 1) hi (by omega)
 refine ⟨x,?_,h2⟩
 have e:offP P (i+1) - 1=offP P i+((P i).length - 1):=by rw [off_succ];omega
 rw [e,h4, ←h1,List.getElem?_eq_getElem (by omega)]
theorem itbI_m [Bd] {l a b:List UInt8} {u:Option (List UInt8)} (h:cb b l < 0):itbI (some l) u a b= -1:=by
 unfold itbI;rw [if_pos (decide_eq_true h)]
theorem itbI_n [Bd] {o u:Option (List UInt8)} {a b:List UInt8} (h: ¬ ∃ l,o=some l∧cb b l < 0):itbI o u a b=itbI none u a b:=by
 cases o with
 |none=>rfl
 |some l=>
  unfold itbI
  rw [if_neg (by simpa using fun h2=>h ⟨l,rfl,h2⟩)]
  simp
theorem itbI_1 [Bd] {u a b:List UInt8} (h:cb u a≤0):itbI none (some u) a b=1:=by
 have:=cb_anti u a
 have h2:Lib.compareBytes u a≤0:=h
 unfold itbI
 rw [if_neg (by simp),if_pos (decide_eq_true (by omega))]
theorem itbI_0 [Bd] {o:Option (List UInt8)} {a b:List UInt8} (h: ¬ ∃ u,o=some u∧cb u a≤0):itbI none o a b=0:=by
 cases o with
 |none=>rfl
 |some u=>
  have:=cb_anti u a
  have h2: ¬ Lib.compareBytes u a≤0:=fun h2=>h ⟨u,rfl,h2⟩
  unfold itbI
  rw [if_neg (by simp),if_neg (by simp only [decide_eq_true_eq];omega)]
theorem Lay.itb [Bd] (L:Lay n P sm lg lo up) {i:Nat} (hi:i < n):
  (itbI lo up (sm i) (lg i)= -1∧offP P (i+1)≤lowN (flatP n P) lo)∨
  (itbI lo up (sm i) (lg i)=1∧uppN (flatP n P) up≤offP P i∧lowN (flatP n P) lo < offP P (i+1))∨
  (itbI lo up (sm i) (lg i)=0∧lowN (flatP n P) lo < offP P (i+1)∧offP P i < uppN (flatP n P) up):=by
 have hp:=L.pos i hi
 have hs:=off_succ P i
 obtain ⟨x,hx1,hx2⟩:=L.atSm hi
 obtain ⟨y,hy1,hy2⟩:=L.atLg hi
 have hl:=L.low hy1
 have hu:=L.upp hx1
 rw [hx2,hy2]
 by_cases h1: ∃ l,lo=some l∧cb (Ky y) l < 0
 ·have h2:=hl.2 h1
  obtain ⟨l,hlo,h3⟩:=h1
  left
  refine ⟨?_,by omega⟩
  rw [hlo]
  exact itbI_m h3
 ·have h2:=(not_congr hl).2 h1
  rw [itbI_n h1]
  right
  by_cases h4: ∃ u,up=some u∧cb u (Ky x)≤0
  ·have h5:=(not_congr hu).2 (fun h=>h h4)
   obtain ⟨u,hup,h6⟩:=h4
   left
   refine ⟨?_,by omega,by omega⟩
   rw [hup]
   exact itbI_1 h6
  ·have h5:=hu.2 h4
   right
   exact ⟨itbI_0 h4,by omega,h5⟩
theorem Lay.beh [Bd] (L:Lay n P sm lg lo up) {i p:Nat} (hi:i < n) (hp:p < (P i).length):lBehind (P i) (tuB up (lg i)) (p:Int)=decide (uppN (flatP n P) up≤offP P i+p):=by
 have hx:=flat_get P n i p hi hp
 obtain ⟨y,hy1,hy2⟩:=L.atLg hi
 have hs:=off_succ P i
 have hu:=L.upp hx
 have hle:=L.sorted _ _ _ _ (show offP P i+p≤offP P (i+1) - 1 by omega) hx hy1
 have e:(P i).getD (p:Int).toNat z36=(P i)[p]:=by simp [List.getD_eq_getElem?_getD,hp]
 unfold lBehind
 rw [e,decide_eq_false (by omega: ¬ ((P i).length:Int)≤p),decide_eq_true (by omega:(0:Int)≤p),Bool.false_or,Bool.true_and]
 cases up with
 |none=>
  have:=hu.2 (by simp)
  rw [show tuB none (lg i)=none from rfl,decide_eq_false (by omega)]
 |some u=>
  show (match (if Lib.compareBytes u (lg i)>0 then none else some u:Option (List UInt8)) with|none=>false|some u=>decide (0≤Lib.compareBytes (TL.bs (P i)[p].f0) u))=_
  have ha:=cb_anti u (Ky (P i)[p])
  have hb:=cb_anti u (lg i)
  by_cases h:Lib.compareBytes u (lg i)>0
  ·rw [if_pos h]
   have h2:cb (Ky (P i)[p]) u < 0:=cb_trans_lt' _ (lg i) _ (by rw [hy2];exact hle) (by show Lib.compareBytes (lg i) u < 0;omega)
   have:=hu.2 (by rintro ⟨u',h3,h4⟩;cases h3;exact (cb_le_lt.1 h4) h2)
   rw [decide_eq_false (by omega)]
  ·rw [if_neg h]
   show decide (0≤Lib.compareBytes (Ky (P i)[p]) u)=_
   by_cases h2:0≤Lib.compareBytes (Ky (P i)[p]) u
   ·have:=(not_congr hu).2 (fun h3=>h3 ⟨u,rfl,by show Lib.compareBytes u (Ky (P i)[p])≤0;omega⟩)
    rw [decide_eq_true h2,decide_eq_true (by omega)]
   ·have:=hu.2 (by rintro ⟨u',h3,h4⟩;cases h3;have h5:Lib.compareBytes u (Ky (P i)[p])≤0:=h4;omega)
    rw [decide_eq_false h2,decide_eq_false (by omega)]
theorem Lay.ahd [Bd] (L:Lay n P sm lg lo up) {i p:Nat} (hi:i < n) (hp:p < (P i).length):lAhead (P i) (tlB lo (sm i)) (p:Int)=decide (offP P i+p < lowN (flatP n P) lo):=by
 have hx:=flat_get P n i p hi hp
 obtain ⟨y,hy1,hy2⟩:=L.atSm hi
 have hl:=L.low hx
 have hle:=L.sorted _ _ _ _ (show offP P i≤offP P i+p by omega) hy1 hx
 have e:(P i).getD (p:Int).toNat z36=(P i)[p]:=by simp [List.getD_eq_getElem?_getD,hp]
 unfold lAhead
 rw [e,decide_eq_false (by omega: ¬ ((p:Int) < 0)),decide_eq_true (by omega:(p:Int) < (P i).length),Bool.false_or,Bool.true_and]
 cases lo with
 |none=>
  have:=(not_congr hl).2 (by simp)
  rw [show tlB none (sm i)=none from rfl,decide_eq_false (by omega)]
 |some l=>
  show (match (if Lib.compareBytes l (sm i)≤0 then none else some l:Option (List UInt8)) with|none=>false|some l=>decide (Lib.compareBytes (TL.bs (P i)[p].f0) l < 0))=_
  by_cases h:Lib.compareBytes l (sm i)≤0
  ·rw [if_pos h]
   have h2:cb l (Ky (P i)[p])≤0:=cb_trans _ (sm i) _ h (by rw [hy2];exact hle)
   have:=(not_congr hl).2 (by rintro ⟨l',h3,h4⟩;cases h3;exact (cb_le_lt.1 h2) h4)
   rw [decide_eq_false (by omega)]
  ·rw [if_neg h]
   show decide (Lib.compareBytes (Ky (P i)[p]) l < 0)=_
   by_cases h2:Lib.compareBytes (Ky (P i)[p]) l < 0
   ·have:=hl.2 ⟨l,rfl,h2⟩
    rw [decide_eq_true h2,decide_eq_true (by omega)]
   ·have:=(not_congr hl).2 (by rintro ⟨l',h3,h4⟩;cases h3;exact h2 h4)
    rw [decide_eq_false h2,decide_eq_false (by omega)]
theorem beh_end [Bd] (xs:List S36) (u:Option (List UInt8)):lBehind xs u (xs.length:Int)=true:=by
 unfold lBehind;simp
theorem ahd_end [Bd] (xs:List S36) (l:Option (List UInt8)):lAhead xs l (-1)=true:=by
 unfold lAhead;simp
theorem Lay.tabSeek [Bd] (L:Lay n P sm lg lo up) (key:List UInt8) {i:Nat} (hi:i < n) (h0:offP P i≤lSeek (flatP n P) key) (h1:lSeek (flatP n P) key≤offP P (i+1)):lSeek (P i) key=lSeek (flatP n P) key - offP P i:=by
 rw [off_succ] at h1
 refine lSeek_uniq (by omega) (fun g x hg=>?_)
 have hlt:=(List.getElem?_eq_some_iff.1 hg).1
 have hx:=flat_get P n i g hi hlt
 rw [←(List.getElem?_eq_some_iff.1 hg).2, ←L.seek key hx]
 omega
theorem Lay.lgSeek [Bd] (L:Lay n P sm lg lo up) (key:List UInt8) {i:Nat} (hi:i < n):Lib.compareBytes (lg i) key≥0↔lSeek (flatP n P) key < offP P (i+1):=by
 obtain ⟨y,hy1,hy2⟩:=L.atLg hi
 have h:=L.seek key hy1
 have hp:=L.pos i hi
 have hs:=off_succ P i
 rw [hy2]
 constructor
 ·intro h1
  have: ¬ cb (Ky y) key < 0:=by show ¬ Lib.compareBytes (Ky y) key < 0;omega
  have:=(not_congr h).2 this
  omega
 ·intro h1
  have:=(not_congr h).1 (by omega)
  have h2: ¬ Lib.compareBytes (Ky y) key < 0:=this
  omega
theorem Lay.smSeek [Bd] (L:Lay n P sm lg lo up) (key:List UInt8) {i:Nat} (hi:i < n):Lib.compareBytes (sm i) key≥0↔lSeek (flatP n P) key≤offP P i:=by
 obtain ⟨y,hy1,hy2⟩:=L.atSm hi
 have h:=L.seek key hy1
 rw [hy2]
 constructor
 ·intro h1
  have: ¬ cb (Ky y) key < 0:=by show ¬ Lib.compareBytes (Ky y) key < 0;omega
  have:=(not_congr h).2 this
  omega
 ·intro h1
  have:=(not_congr h).1 (by omega)
  have h2: ¬ Lib.compareBytes (Ky y) key < 0:=this
  omega
end
theorem LShut.keptV [Bd] {s:LvS} {lb nb:Nat} {fi nv:V1} {pos:Int} {w w':World} (h:LShut s lb nb fi nv pos w) (hk:Kept [224,50] w w'):LShut s lb nb fi nv pos w':=by
 obtain ⟨tl,tu,hs⟩:=h
 exact ⟨tl,tu,hs.kq hk⟩
theorem LOpen.keptV [Bd] {s:LvS} {lb nb:Nat} {P:Nat→List S36} {lo up:Option (List UInt8)} {sm lg:Nat→List UInt8} {i:Nat} {at_:Int} {nv:V1} {pos:Int} {w w':World} (h:LOpen s lb nb P lo up sm lg i at_ nv pos w) (hk:Kept [224,50] w w'):LOpen s lb nb P lo up sm lg i at_ nv pos w':=by
 obtain ⟨tl,tu,b,vk,vv,hs,hb,hL,hzb⟩:=h
 exact ⟨tl,tu,b,vk,vv,hs.kq hk,(hk.block _ (solid_of hb (by simp))).trans hb,hL.kept hk (by simp) (by simp) (by simp),hzb⟩
theorem LPre.keptV [Bd] {s:LvS} {lb nb:Nat} {P:Nat→List S36} {lo up:Option (List UInt8)} {sm lg:Nat→List UInt8} {nv:V1} {pos:Int} {w w':World} (h:LPre s lb nb P lo up sm lg nv pos w) (hk:Kept [224,50] w w'):LPre s lb nb P lo up sm lg nv pos w':=by
 rcases h with h|⟨j,hj,h⟩|⟨j,a,hj,h0,h⟩
 ·exact .inl (h.keptV hk)
 ·exact .inr (.inl ⟨j,hj,h.keptV hk⟩)
 ·exact .inr (.inr ⟨j,a,hj,h0,h.keptV hk⟩)
def RL [Bd] (s:LvS) (lb nb:Nat) (P:Nat→List S36) (fm:Nat→FM) (lo up:Option (List UInt8)) (sm lg:Nat→List UInt8) (p:Option Nat) (w:World):Prop:=
 LEnv s lb nb P fm lo up sm lg w∧match p with
 |none=> ∃ nv pos,LPre s lb nb P lo up sm lg nv pos w
 |some g=> ∃ i q:Nat,i < s.n∧q < (P i).length∧offP P i+q=lowN (flatP s.n P) lo+g∧lowN (flatP s.n P) lo+g < uppN (flatP s.n P) up∧itbI lo up (sm i) (lg i)=0∧LOpen s lb nb P lo up sm lg i q (nbV nb) i w
theorem RL.pre [Bd] {s:LvS} {lb nb:Nat} {P:Nat→List S36} {fm:Nat→FM} {lo up:Option (List UInt8)} {sm lg:Nat→List UInt8} {p:Option Nat} {w:World} (h:RL s lb nb P fm lo up sm lg p w): ∃ nv pos,LPre s lb nb P lo up sm lg nv pos w:=by
 cases p with
 |none=>exact h.2
 |some g=>
  obtain ⟨_,i,q,hi,_,_,_,h0,h1⟩:=h
  exact ⟨_,_,.inr (.inr ⟨i,q,hi,h0,h1⟩)⟩
theorem aNone [Bd] {s:LvS} {lb nb:Nat} {P:Nat→List S36} {fm:Nat→FM} {lo up:Option (List UInt8)} {sm lg:Nat→List UInt8} {G:List S36} {o:Option Nat} {w w':World} {e:Ending} (he:LEnv s lb nb P fm lo up sm lg w) (h:ONone s lb nb P lo up sm lg w e w') (ho:o=none):ARes (RL s lb nb P fm lo up sm lg) G o w e w':=by
 subst ho
 obtain ⟨rfl,hk,h1⟩:=h
 exact ⟨⟨_,rfl,rfl⟩,hk,he.kept hk,h1⟩
theorem aSome [Bd] {s:LvS} {lb nb:Nat} {P:Nat→List S36} {fm:Nat→FM} {lo up:Option (List UInt8)} {sm lg:Nat→List UInt8} {i q g:Nat} {o:Option Nat} {w w':World} {e:Ending} (he:LEnv s lb nb P fm lo up sm lg w) (h:OSome s lb nb P lo up sm lg i q w e w') (hi:i < s.n) (h0:itbI lo up (sm i) (lg i)=0) (hg:offP P i+q=lowN (flatP s.n P) lo+g) (hu:lowN (flatP s.n P) lo+g < uppN (flatP s.n P) up) (ho:o=some g):ARes (RL s lb nb P fm lo up sm lg) (cutG (flatP s.n P) lo up) o w e w':=by
 subst ho
 obtain ⟨⟨v,hq,rfl,hv⟩,hk,h1⟩:=h
 refine ⟨⟨v,rfl,?_⟩,hk,he.kept hk,i,q,hi,hq,hg,hu,h0,h1⟩
 have e1:((some g:Option Nat).bind fun i=>(cutG (flatP s.n P) lo up)[i]?)=some (P i)[q]:=by
  show (cutG (flatP s.n P) lo up)[g]? =_
  rw [cut_get _ _ _ _ hu, ←hg,flat_get P s.n i q hi hq]
 rw [e1]
 exact hv
theorem it_ok [Bd] (s:LvS) (hn1:1≤s.n) (hn:s.n≤10) (lb nb:Nat) (P:Nat→List S36) (fm:Nat→FM) (lo up:Option (List UInt8)) (sm lg:Nat→List UInt8) (L:Lay s.n P sm lg lo up) (hPn: ∀ i,i < s.n→(P i).length≤2^31):
  ItOK lb (cutG (flatP s.n P) lo up) lo up (RL s lb nb P fm lo up sm lg):=by
 have hlen:=cut_len L
 have hlu:=L.low_upp
 have hul:=upp_le (flatP s.n P) up
 have hF:(flatP s.n P).length=offP P s.n:=rfl
 refine ⟨?_,?_,?_,?_,?_,?_,?_,?_⟩
 ·rintro p w w' ⟨he,h⟩ hk
  refine ⟨he.kept hk,?_⟩
  cases p with
  |none=>obtain ⟨nv,pos,h⟩:=h;exact ⟨nv,pos,h.keptV hk⟩
  |some g=>
   obtain ⟨i,q,h1,h2,h3,h4,h5,h6⟩:=h
   exact ⟨i,q,h1,h2,h3,h4,h5,h6.keptV hk⟩
 ·-- First
  intro hlo p w hR
  obtain ⟨nv,pos,hp⟩:=hR.pre
  have he:=hR.1
  have hlow:lowN (flatP s.n P) lo=0:=by rw [hlo];rfl
  have hp0:=L.pos 0 (by omega)
  have ho:=off_succ P 0
  have ho0:offP P 0=0:=rfl
  rcases L.itb (show 0 < s.n by omega) with ⟨h1,h2⟩|⟨h1,h2,h3⟩|⟨h1,h2,h3⟩
  ·omega
  ·exact (c240_out s lb nb P fm lo up sm lg hn1 hn h1 hPn w he nv pos hp).mono fun e w' h=>aNone he h (by unfold inx;rw [if_neg (by omega)])
  ·have hb:=L.beh (show 0 < s.n by omega) hp0
   rw [decide_eq_false (by omega)] at hb
   exact (c240_hit s lb nb P fm lo up sm lg hn1 hn h1 hPn hb 0 rfl w he nv pos hp).mono fun e w' h=>aSome (g:=0) he h (by omega) h1 (by omega) (by omega) (by unfold inx;rw [if_pos (by omega)])
 ·-- Last
  intro hup p w hR
  obtain ⟨nv,pos,hp⟩:=hR.pre
  have he:=hR.1
  have hupp:uppN (flatP s.n P) up=offP P s.n:=by rw [hup];rfl
  have hpl:=L.pos (s.n - 1) (by omega)
  have ho:=off_succ P (s.n - 1)
  rw [show s.n - 1+1=s.n by omega] at ho
  rcases L.itb (show s.n - 1 < s.n by omega) with ⟨h1,h2⟩|⟨h1,h2,h3⟩|⟨h1,h2,h3⟩
  ·rw [show s.n - 1+1=s.n by omega] at h2
   exact (c241_out s lb nb P fm lo up sm lg hn1 hn h1 hPn w he nv pos hp).mono fun e w' h=>aNone he h (by unfold lastP;rw [if_pos (by omega)])
  ·omega
  ·rw [show s.n - 1+1=s.n by omega] at h2
   have hb:=L.ahd (show s.n - 1 < s.n by omega) (show (P (s.n - 1)).length - 1 < (P (s.n - 1)).length by omega)
   rw [decide_eq_false (by omega),show (((P (s.n - 1)).length - 1:Nat):Int)=((P (s.n - 1)).length:Int) - 1 by omega] at hb
   exact (c241_hit s lb nb P fm lo up sm lg hn1 hn h1 hPn hb ((P (s.n - 1)).length - 1) (by omega) w he nv pos hp).mono fun e w' h=>aSome (g:=(cutG (flatP s.n P) lo up).length - 1) he h (by omega) h1 (by omega) (by omega) (by unfold lastP;rw [if_neg (by omega)])
 ·-- SeekGE
  intro p w kv key hR hk hin
  obtain ⟨nv,pos,hp⟩:=hR.pre
  have he:=hR.1
  have hs0:=L.seek_low hin.1
  have hs1:=L.seek_upp hin.2
  have hsc:=L.seek_cut hin
  have hsl:=lSeek_le (flatP s.n P) key
  rcases Nat.lt_or_ge (lSeek (flatP s.n P) key) (offP P s.n) with hx|hx
  ·obtain ⟨r,q,hr,hq,hsx⟩:=off_inv P s.n _ hx
   have ho:=off_succ P r
   have hth: ∀ i,i < s.n→(r≤i↔Lib.compareBytes (lg i) key≥0):=by
    intro i hi
    rw [L.lgSeek key hi]
    constructor
    ·intro h;have:=off_mono P (show r+1≤i+1 by omega);omega
    ·intro h
     rcases Nat.lt_or_ge i r with h'|h'
     ·have:=off_mono P (show i+1≤r by omega);omega
     ·exact h'
   have hts:=L.tabSeek key hr (by omega) (by omega)
   have hqs:lSeek (P r) key=q:=by omega
   rcases L.itb hr with ⟨h1,h2⟩|⟨h1,h2,h3⟩|⟨h1,h2,h3⟩
   ·omega
   ·exact (c245_out s lb nb P fm lo up sm lg hn1 hn kv key r hr hth h1 hPn w he nv pos hp hk).mono fun e w' h=>aNone he h (by unfold geP inx;rw [if_neg (by omega)])
   ·have hb:=L.beh hr hq
    by_cases hu:uppN (flatP s.n P) up≤offP P r+q
    ·rw [decide_eq_true hu, ←hqs] at hb
     by_cases hr1:r+1=s.n
     ·exact (c245_n s lb nb P fm lo up sm lg hn1 hn kv key r hr hth h1 hPn hb hr1 w he nv pos hp hk).mono fun e w' h=>aNone he h (by unfold geP inx;rw [if_neg (by omega)])
     ·have hj:itbI lo up (sm (r+1)) (lg (r+1))=1:=by
         have:=off_succ P (r+1)
         rcases L.itb (show r+1 < s.n by omega) with ⟨g1,g2⟩|⟨g1,g2,g3⟩|⟨g1,g2,g3⟩
         ·omega
         ·exact g1
         ·omega
      exact (c245_o s lb nb P fm lo up sm lg hn1 hn kv key r hr hth h1 hPn hb (r+1) rfl (by omega) hj w he nv pos hp hk).mono fun e w' h=>aNone he h (by unfold geP inx;rw [if_neg (by omega)])
    ·rw [decide_eq_false hu, ←hqs] at hb
     exact (c245_hit s lb nb P fm lo up sm lg hn1 hn kv key r hr hth h1 hPn hb q (by omega) w he nv pos hp hk).mono fun e w' h=>aSome (g:=lSeek (cutG (flatP s.n P) lo up) key) he h hr h1 (by omega) (by omega) (by unfold geP inx;rw [if_pos (by omega)])
  ·have hth: ∀ i,i < s.n→(s.n≤i↔Lib.compareBytes (lg i) key≥0):=by
    intro i hi
    rw [L.lgSeek key hi]
    have:=off_mono P (show i+1≤s.n by omega)
    constructor<;>intro h<;>omega
   exact (c245_none s lb nb P fm lo up sm lg hn1 hn kv key hth hPn w he nv pos hp hk).mono fun e w' h=>aNone he h (by unfold geP inx;rw [if_neg (by omega)])
 ·-- SeekLT
  intro p w kv key hR hk hin
  obtain ⟨nv,pos,hp⟩:=hR.pre
  have he:=hR.1
  have hs0:=L.seek_low hin.1
  have hs1:=L.seek_upp hin.2
  have hsc:=L.seek_cut hin
  have hsl:=lSeek_le (flatP s.n P) key
  rcases Nat.eq_zero_or_pos (lSeek (flatP s.n P) key) with hx|hx
  ·have hth: ∀ i,i < s.n→(0≤i↔Lib.compareBytes (sm i) key≥0):=by
    intro i hi
    rw [L.smSeek key hi]
    constructor<;>intro h<;>omega
   exact (c246_none s lb nb P fm lo up sm lg hn1 hn kv key hth hPn w he nv pos hp hk).mono fun e w' h=>aNone he h (by unfold ltP;rw [if_pos (by omega)])
  ·obtain ⟨r,q,hr,hq,hsx⟩:=off_inv P s.n (lSeek (flatP s.n P) key - 1) (by omega)
   have ho:=off_succ P r
   have hth: ∀ i,i < s.n→(r+1≤i↔Lib.compareBytes (sm i) key≥0):=by
    intro i hi
    rw [L.smSeek key hi]
    constructor
    ·intro h;have:=off_mono P h;omega
    ·intro h
     rcases Nat.lt_or_ge r i with h'|h'
     ·exact h'
     ·have:=off_mono P h';omega
   have hts:=L.tabSeek key hr (by omega) (by omega)
   have hqs:lSeek (P r) key=q+1:=by omega
   rcases L.itb hr with ⟨h1,h2⟩|⟨h1,h2,h3⟩|⟨h1,h2,h3⟩
   ·exact (c246_out s lb nb P fm lo up sm lg hn1 hn kv key r hr hth h1 hPn w he nv pos hp hk).mono fun e w' h=>aNone he h (by unfold ltP;rw [if_pos (by omega)])
   ·omega
   ·have hb:=L.ahd hr hq
    have hq1:((lSeek (P r) key:Nat) - 1:Int)=(q:Int):=by omega
    by_cases hu:offP P r+q < lowN (flatP s.n P) lo
    ·rw [decide_eq_true hu, ←hq1] at hb
     by_cases hr1:r=0
     ·exact (c246_n s lb nb P fm lo up sm lg hn1 hn kv key r hr hth h1 hPn hb hr1 w he nv pos hp hk).mono fun e w' h=>aNone he h (by unfold ltP;rw [if_pos (by omega)])
     ·have hj:itbI lo up (sm (r - 1)) (lg (r - 1))= -1:=by
         have ho1:=off_succ P (r - 1)
         rw [show r - 1+1=r by omega] at ho1
         rcases L.itb (show r - 1 < s.n by omega) with ⟨g1,g2⟩|⟨g1,g2,g3⟩|⟨g1,g2,g3⟩
         ·exact g1
         ·rw [show r - 1+1=r by omega] at g3;omega
         ·rw [show r - 1+1=r by omega] at g2;omega
      exact (c246_o s lb nb P fm lo up sm lg hn1 hn kv key r hr hth h1 hPn hb (r - 1) (by omega) (by omega) hj w he nv pos hp hk).mono fun e w' h=>aNone he h (by unfold ltP;rw [if_pos (by omega)])
    ·rw [decide_eq_false hu, ←hq1] at hb
     exact (c246_hit s lb nb P fm lo up sm lg hn1 hn kv key r hr hth h1 hPn hb q hq1 w he nv pos hp hk).mono fun e w' h=>aSome (g:=lSeek (cutG (flatP s.n P) lo up) key - 1) he h hr h1 (by omega) (by omega) (by unfold ltP;rw [if_neg (by omega)])
 ·-- Next
  rintro g w ⟨he,i,q,hi,hq,hg,hgu,h0,hL⟩
  have ho:=off_succ P i
  have hb0:=L.beh hi hq
  rw [decide_eq_false (by omega)] at hb0
  have hnx:lNext (P i) (tuB up (lg i)) q=((q+1:Nat):Int):=by unfold lNext;rw [hb0];simp
  have hJ:offP P (i+1)≤offP P i+q+1∨uppN (flatP s.n P) up≤offP P i+q+1→i+1 < s.n→itbI lo up (sm (i+1)) (lg (i+1))=1∨(itbI lo up (sm (i+1)) (lg (i+1))=0∧offP P (i+1) < uppN (flatP s.n P) up):=by
   intro _ hi1
   have:=off_succ P (i+1)
   rcases L.itb hi1 with ⟨g1,g2⟩|⟨g1,g2,g3⟩|⟨g1,g2,g3⟩
   ·omega
   ·exact .inl g1
   ·exact .inr ⟨g1,g3⟩
  have hnone:uppN (flatP s.n P) up≤offP P i+q+1→nxP (cutG (flatP s.n P) lo up) g=none:=fun h=>by unfold nxP inx;rw [if_neg (by omega)]
  rcases Nat.lt_or_ge (q+1) (P i).length with hq1|hq1
  ·have hb:=L.beh hi hq1
   by_cases hu:uppN (flatP s.n P) up≤offP P i+(q+1)
   ·rw [decide_eq_true hu, ←hnx] at hb
    by_cases hi1:i+1=s.n
    ·exact (c242_n s lb nb P fm lo up sm lg hn1 hn i hi q hq h0 hPn hb hi1 w he hL).mono fun e w' h=>aNone he h (hnone (by omega))
    ·rcases hJ (.inr (by omega)) (by omega) with hj|⟨hj,hj2⟩
     ·exact (c242_o s lb nb P fm lo up sm lg hn1 hn i hi q hq h0 hPn hb (i+1) rfl (by omega) hj w he hL).mono fun e w' h=>aNone he h (hnone (by omega))
     ·omega
   ·rw [decide_eq_false hu, ←hnx] at hb
    exact (c242_hit s lb nb P fm lo up sm lg hn1 hn i hi q hq h0 hPn hb (q+1) hnx w he hL).mono fun e w' h=>aSome (g:=g+1) he h hi h0 (by omega) (by omega) (by unfold nxP inx;rw [if_pos (by omega)])
  ·have hqe:q+1=(P i).length:=by omega
   have hb:=beh_end (P i) (tuB up (lg i))
   rw [←hqe, ←hnx] at hb
   by_cases hi1:i+1=s.n
   ·have hoe:offP P (i+1)=offP P s.n:=by rw [hi1]
    exact (c242_n s lb nb P fm lo up sm lg hn1 hn i hi q hq h0 hPn hb hi1 w he hL).mono fun e w' h=>aNone he h (hnone (by omega))
   ·have hp1:=L.pos (i+1) (by omega)
    have hrng:=L.itb (show i+1 < s.n by omega)
    rcases hJ (.inl (by omega)) (by omega) with hj|⟨hj,hj2⟩
    ·have hle:uppN (flatP s.n P) up≤offP P (i+1):=by
      rcases hrng with ⟨g1,g2⟩|⟨g1,g2,g3⟩|⟨g1,g2,g3⟩
      ·rw [g1] at hj;cases hj
      ·exact g2
      ·rw [g1] at hj;cases hj
     exact (c242_o s lb nb P fm lo up sm lg hn1 hn i hi q hq h0 hPn hb (i+1) rfl (by omega) hj w he hL).mono fun e w' h=>aNone he h (hnone (by omega))
    ·have hb2:=L.beh (show i+1 < s.n by omega) hp1
     rw [decide_eq_false (by omega)] at hb2
     exact (c242_f s lb nb P fm lo up sm lg hn1 hn i hi q hq h0 hPn hb (i+1) rfl (by omega) hj hp1 hb2 w he hL).mono fun e w' h=>aSome (g:=g+1) he h (by omega) hj (by omega) (by omega) (by unfold nxP inx;rw [if_pos (by omega)])
 ·-- Prev
  rintro g w ⟨he,i,q,hi,hq,hg,hgu,h0,hL⟩
  have hb0:=L.ahd hi hq
  rw [decide_eq_false (by omega)] at hb0
  have hpv:lPrev (P i) (tlB lo (sm i)) q=(q:Int) - 1:=by unfold lPrev;rw [hb0];simp
  rcases Nat.eq_zero_or_pos q with hq0|hq0
  ·have hb:=ahd_end (P i) (tlB lo (sm i))
   rw [show (-1:Int)=lPrev (P i) (tlB lo (sm i)) q by rw [hpv];omega] at hb
   by_cases hi0:i=0
   ·have hoe:offP P i=0:=by rw [hi0];rfl
    exact (c244_n s lb nb P fm lo up sm lg hn1 hn i hi q hq h0 hPn hb hi0 w he hL).mono fun e w' h=>aNone he h (by unfold prevP;rw [if_pos (by omega)])
   ·have ho1:=off_succ P (i - 1)
    have hp1:=L.pos (i - 1) (by omega)
    rw [show i - 1+1=i by omega] at ho1
    rcases L.itb (show i - 1 < s.n by omega) with ⟨g1,g2⟩|⟨g1,g2,g3⟩|⟨g1,g2,g3⟩
    ·rw [show i - 1+1=i by omega] at g2
     exact (c244_o s lb nb P fm lo up sm lg hn1 hn i hi q hq h0 hPn hb (i - 1) (by omega) (by omega) g1 w he hL).mono fun e w' h=>aNone he h (by unfold prevP;rw [if_pos (by omega)])
    ·omega
    ·rw [show i - 1+1=i by omega] at g2
     have hb2:=L.ahd (show i - 1 < s.n by omega) (show (P (i - 1)).length - 1 < (P (i - 1)).length by omega)
     rw [decide_eq_false (by omega),show (((P (i - 1)).length - 1:Nat):Int)=((P (i - 1)).length:Int) - 1 by omega] at hb2
     exact (c244_f s lb nb P fm lo up sm lg hn1 hn i hi q hq h0 hPn hb (i - 1) (by omega) (by omega) g1 hp1 hb2 w he hL).mono fun e w' h=>aSome (g:=g - 1) he h (by omega) g1 (by omega) (by omega) (by unfold prevP;rw [if_neg (by omega)])
  ·have hq1:q - 1 < (P i).length:=by omega
   have hb:=L.ahd hi hq1
   have hpq:lPrev (P i) (tlB lo (sm i)) q=((q - 1:Nat):Int):=by rw [hpv];omega
   by_cases hu:offP P i+(q - 1) < lowN (flatP s.n P) lo
   ·rw [decide_eq_true hu, ←hpq] at hb
    by_cases hi0:i=0
    ·exact (c244_n s lb nb P fm lo up sm lg hn1 hn i hi q hq h0 hPn hb hi0 w he hL).mono fun e w' h=>aNone he h (by unfold prevP;rw [if_pos (by omega)])
    ·have ho1:=off_succ P (i - 1)
     rw [show i - 1+1=i by omega] at ho1
     rcases L.itb (show i - 1 < s.n by omega) with ⟨g1,g2⟩|⟨g1,g2,g3⟩|⟨g1,g2,g3⟩
     ·exact (c244_o s lb nb P fm lo up sm lg hn1 hn i hi q hq h0 hPn hb (i - 1) (by omega) (by omega) g1 w he hL).mono fun e w' h=>aNone he h (by unfold prevP;rw [if_pos (by omega)])
     ·omega
     ·rw [show i - 1+1=i by omega] at g2;omega
   ·rw [decide_eq_false hu, ←hpq] at hb
    exact (c244_hit s lb nb P fm lo up sm lg hn1 hn i hi q hq h0 hPn hb (q - 1) hpq w he hL).mono fun e w' h=>aSome (g:=g - 1) he h hi h0 (by omega) (by omega) (by unfold prevP;rw [if_neg (by omega)])
 ·-- Error
  intro p w hR
  obtain ⟨nv,pos,hp⟩:=hR.pre
  rcases hp with ⟨tl,tu,hs⟩|⟨j,hj,tl,tu,hs⟩|⟨j,at_,hj,hJ,tl,tu,b,vk,vv,hs,hb,hL,hzb⟩
  ·exact c239_n s tl tu npV nv pos lb nb w hs
  ·exact c239_n s tl tu (nbV (s.fl j)) nv pos lb nb w hs
  ·exact c239_t s tl tu b (nbV (s.fl j)) nv pos lb nb w (hs.vals (by kernel_rfl))
end Go.Proofs.YtghppnklhbbffaaGreatDoor.X
namespace Go.Proofs.YtghppnklhbbffaaGreatDoor.X
open Go Go.RowKit Go.MapKept Go.Proofs.YtghppnklhbbffaaGreatDoor.TL Go.Proofs.YtghppnklhbbffaaGreatDoor.PFnTreeLevel Go.Proofs.YtghppnklhbbffaaGreatDoorW.PrintWords
structure StH [Bd] (A:Addr) (n:Nat) (num:Nat→Int) (pv:Nat→Value) (P:Nat→List S36) (tb ob xb r:Nat) (ca:Addr) (fl:Nat→Nat) (w:World):Prop where
 blk:Sat [tb,ob] [⟨148,[.oc (.map (some r)) rfl]⟩,⟨162,[.fn 39 [.ptr ca]]⟩] w
 xblk:w.heap[xb]? =some (.cells #[.func (.func 47) #[] #[.pointer (some ⟨tb,0,none⟩),.pointer (some ⟨ob,0,none⟩)]] 191 (0,0))
 map:MapN w r (tabE num pv n)
 tabs:TabsR w A n num pv P
 ninj: ∀ i j,i < n→j < n→num i=num j→i=j
 fil: ∀ i,i < n→ ∃ m:FM,m.id=num i∧w.heap[fl i]? =some (.cells (SV.denL [] (fmS m)).toArray 188 (0,0))∧ ∀ h:0 < (P i).length,RdS w m.u1 (TL.bs (P i)[0].f0)∧m.t1=(P i)[0].f1∧RdS w m.u2 (TL.bs ((P i)[(P i).length - 1]'(by omega)).f0)∧m.t2=((P i)[(P i).length - 1]'(by omega)).f1
 fin: ∀ i j,i < n→j < n→fl i=fl j→i=j
 xlo:Bd.B≤xb
 flo: ∀ i,i < n→Bd.B≤fl i
theorem StH.kept [Bd] {A:Addr} {n:Nat} {num:Nat→Int} {pv:Nat→Value} {P:Nat→List S36} {tb ob xb r:Nat} {ca:Addr} {fl:Nat→Nat} {w w':World} {ts:List TypeId} (h:StH A n num pv P tb ob xb r ca fl w) (hk:Kept ts w w') (ho: ∀ t∈[148,162,191,43,36,5,188],t∉ts:=by simp):StH A n num pv P tb ob xb r ca fl w':=by
 refine ⟨?_,(hk.block _ (solid_of h.xblk (ho 191 (by simp)))).trans h.xblk,h.map.kept hk,h.tabs.ck (CK.of hk) (ho 43 (by simp)) (fun q hq=>?_),h.ninj,fun i hi=>?_,h.fin,h.xlo,h.flo⟩
 ·refine ⟨h.blk.len,h.blk.inj,fun i ob' hi=>?_,h.blk.lo,Nat.le_trans h.blk.sz hk.size⟩
  have hm:=h.blk.mem i ob' hi
  refine (hk.block _ (solid_of hm ?_)).trans hm
  match i,hi with
  |0,hi=>cases hi;exact ho 148 (by simp)
  |1,hi=>cases hi;exact ho 162 (by simp)
 ·have:q=36∨q∈k36.E:=by simpa using hq
  rcases this with rfl|hq
  ·exact ho 36 (by simp)
  ·have e:k36.E=[]:=rfl
   rw [e] at hq;cases hq
 ·obtain ⟨m,h1,h2,h3⟩:=h.fil i hi
  exact ⟨m,h1,(hk.block _ (solid_of h2 (ho 188 (by simp)))).trans h2,fun h=>⟨(h3 h).1.kept hk (ho 5 (by simp)),(h3 h).2.1,(h3 h).2.2.1.kept hk (ho 5 (by simp)),(h3 h).2.2.2⟩⟩
theorem openH_of [Bd] {A:Addr} {n:Nat} {num:Nat→Int} {pv:Nat→Value} {P:Nat→List S36} {tb ob xb r:Nat} {ca:Addr} {fl:Nat→Nat} {w:World} (h:StH A n num pv P tb ob xb r ca fl w) (f:Nat→Value) (lo up cv:V1) (lb nb:Nat):OpenH ⟨f,lo,up,⟨xb,0,none⟩,cv,n,fl⟩ lb nb P w:=by
 intro i hi tl tu it fi nv pos lo' up' w' hk hs hlo hup
 have h':=h.kept hk
 obtain ⟨m,h1,h2,h3⟩:=h'.fil i hi
 obtain ⟨_,p2,_,p4,p5,p6⟩:=h'.tabs.2 i hi
 obtain ⟨Av,c,hpv,_,_⟩:=p4.at36
 have hE:(m.id,tabV m.id (.slice Av (P i).length c) (.slice none 0 0))∈tabE num pv n:=List.mem_map.2 ⟨i,List.mem_range.2 hi,by rw [h1,hpv]⟩
 have hd: ∀ v',(m.id,v')∈tabE num pv n→v'=tabV m.id (.slice Av (P i).length c) (.slice none 0 0):=by
  intro v' hv
  obtain ⟨j,hj,he⟩:=List.mem_map.1 hv
  have hj:=List.mem_range.1 hj
  simp only [Prod.mk.injEq] at he
  obtain rfl:j=i:=h.ninj j i hj hi (by rw [he.1,h1])
  rw [←he.2,h1,hpv]
 rw [hpv] at p4
 exact c89 xb tb ob (fl i) lb r ca m (tabE num pv n) Av c none 0 (P i) tl tu (f 48) (f 49) lo' up' w' (h'.blk.file (by kernel_rfl) (by kernel_rfl) h2 (h'.flo i hi)) h'.xblk h'.xlo h'.map hE hd (hs.cell 0 330 _ rfl 5 (o1 tl) rfl) (hs.cell 0 330 _ rfl 6 (o1 tu) rfl) p4 p5 p6 hlo hup
theorem sl_none [Bd] {w:World} {n c:Nat} {xs:List S47} (h:RK k47 47 w (.slice none n c) xs):xs=[]∧n=0∧c=0:=by
 obtain ⟨base,_,inner,ho,_⟩:=h
 rcases ho.2 with ⟨h1,h2⟩|⟨g,cap,cur,h1,_⟩
 ·cases h1
  exact ⟨List.eq_nil_of_length_eq_zero h2,rfl,rfl⟩
 ·cases h1
def smP (P:Nat→List S36) (i:Nat):List UInt8:=match (P i)[0]? with
 |some x=>Ky x
 |none=>[]
def lgP (P:Nat→List S36) (i:Nat):List UInt8:=match (P i)[(P i).length - 1]? with
 |some x=>Ky x
 |none=>[]
theorem lenv_of [Bd] {A:Addr} {n:Nat} {num:Nat→Int} {pv:Nat→Value} {P:Nat→List S36} {tb ob xb r:Nat} {ca:Addr} {fl:Nat→Nat} {w:World} (h:StH A n num pv P tb ob xb r ca fl w) (hkd: ∀ i,i < n→ ∀ x∈P i, ∃ t:Nat,x.f1=t∧t < 18446744073709551616∧(t % 256≠15∧t % 256≠19∧t % 256≠20∧t % 256≠21)) (f:Nat→Value) (lo up cv:V1) (lo' up':Option (List UInt8)) (hlo:RdO w lo.1 lo') (hup:RdO w up.1 up') (lb nb:Nat):
  ∃ fm,LEnv ⟨f,lo,up,⟨xb,0,none⟩,cv,n,fl⟩ lb nb P fm lo' up' (smP P) (lgP P) w:=by
 have hc: ∀ i, ∃ m:FM,i < n→w.heap[fl i]? =some (.cells (SV.denL [] (fmS m)).toArray 188 (0,0))∧RdS w m.u1 (smP P i)∧RdS w m.u2 (lgP P i)∧ ∃ t:Nat,m.t2=t∧t < 18446744073709551616∧(t % 256≠15∧t % 256≠19∧t % 256≠20∧t % 256≠21):=by
  intro i
  by_cases hi:i < n
  ·obtain ⟨m,h1,h2,h3⟩:=h.fil i hi
   have hp:=(h.tabs.2 i hi).2.2.2.2.1
   obtain ⟨q1,q2,q3,q4⟩:=h3 (by omega)
   refine ⟨m,fun _=>⟨h2,?_,?_,?_⟩⟩
   ·unfold smP;rw [List.getElem?_eq_getElem (by omega:0 < (P i).length)];exact q1
   ·unfold lgP;rw [List.getElem?_eq_getElem (by omega:(P i).length - 1 < (P i).length)];exact q3
   ·rw [q4];exact hkd i hi _ (List.getElem_mem _)
  ·obtain ⟨m⟩:Nonempty FM:=⟨FM.mk 0 0 0 0 (.slice none 0 0) (.slice none 0 0) rfl rfl 0 0⟩
   exact ⟨m,fun h=>absurd h hi⟩
 refine ⟨fun i=>Classical.choose (hc i),?_,h.fin,hlo,hup,openH_of h f lo up cv lb nb,fun i hi=>?_⟩
 ·intro i hi
  have:=Classical.choose_spec (hc i) hi
  exact ⟨this.1,this.2.1,this.2.2.1,h.flo i hi⟩
 ·exact (Classical.choose_spec (hc i) hi).2.2.2
def newF (cb lb nb:Nat) (lo up:V1) (nf:Addr) (cv:V1):Nat→Value:=fun i=>(SV.denL [lb,cb] (IC cb lb lo up nf npV cv)).getD i .nilFunc
theorem start_of [Bd] (cb lb nb xb n:Nat) (fl:Nat→Nat) (lo up cv:V1) (w:World) (hne:nb≠lb) (hl:w.heap[lb]? =some (.cells (SV.denL [lb,cb] (IC cb lb lo up ⟨xb,0,none⟩ (nbV nb) cv)).toArray 330 (0,0))) (hn:w.heap[nb]? =some (.cells (SV.denL [nb] (nodeR 0 n (flA fl))).toArray 360 (0,0))) (hBl:autoParam (Bd.B≤lb) bd0._auto_1) (hBn:autoParam (Bd.B≤nb) bd0._auto_1):
  LShut ⟨newF cb lb nb lo up ⟨xb,0,none⟩ cv,lo,up,⟨xb,0,none⟩,cv,n,fl⟩ lb nb npV npV (-1) w:=by
 refine ⟨⟨.slice none 0 0,rfl⟩,⟨.slice none 0 0,rfl⟩,?_⟩
 refine ⟨rfl,fun i j hi hj he=>?_,fun i ob hi=>?_,fun x hx=>?_,Nat.le_trans hBl (Nat.le_of_lt (Array.getElem?_eq_some_iff.1 hl).1)⟩
 rotate_left 2
 ·simp only [List.mem_cons,List.not_mem_nil,or_false] at hx
  rcases hx with rfl|rfl
  ·exact hBl
  ·exact hBn
 ·match i,j,hi,hj,he with
  |0,0,_,_,_=>rfl
  |1,1,_,_,_=>rfl
  |0,1,_,_,he=>exact absurd he.symm hne
  |1,0,_,_,he=>exact absurd he hne
 ·match i,hi with
  |0,hi=>
   cases hi
   show w.heap[lb]? =_
   rw [hl]
   kernel_rfl
  |1,hi=>
   cases hi
   show w.heap[nb]? =_
   rw [hn]
   kernel_rfl
theorem run_b70 [Bd] {T:List SV} (bs:List Nat) (v:Value) (w:World) (h1:(evS T (.tmp 15)).den bs=v) (hv:v.oneCell'=true) (hb:(Instr.build 70 #[(0,v)]).run Tryz.prog w=.ok (.agg #[v,.slice none 0 0,.slice none 0 0,.slice none 0 0,.slice none 0 0,.slice none 0 0]) w) (o:Oper) (ho:o.op=.build 70 #[(0,.tmp 15)]):
  (execOp (actS bs T).eval o).run Tryz.prog w=.ok (.value (.agg #[v,.slice none 0 0,.slice none 0 0,.slice none 0 0,.slice none 0 0,.slice none 0 0])) w:=by
 have e:(actS bs T).eval (.tmp 15)=v:=by rw [ev_den,h1]
 have:(#[(0,Operand.tmp 15)]:Array (Nat×Operand)).map (fun x=>(x.1,(actS bs T).eval x.2))= #[(0,v)]:=by simp [e]
 simp only [execOp,ho]
 simp only [Sem.run_bind]
 have h2:(Instr.build 70 (Array.map (fun x=>match x with|(i,x)=>(i,(actS bs T).eval x)) #[(0,Operand.tmp 15)])).run Tryz.prog w=.ok (.agg #[v,.slice none 0 0,.slice none 0 0,.slice none 0 0,.slice none 0 0,.slice none 0 0]) w:=by
  rw [←hb];simp [e]
 rw [h2]
 rfl
noncomputable def S9 (lo up:ByteArray) (hl hu:Bool) (A:Addr) (n c:Nat) (sv:SV) (sb:Nat) (lv uv:V1):ST:=
 runS Tryz.prog ⟨[],1,[],[],0⟩ 200 (afterC (runS Tryz.prog ⟨[],1,[],[],0⟩ 200 (afterC (runS Tryz.prog ⟨[],1,[],[],0⟩ 200 (afterC (runS Tryz.prog ⟨[],0,[],[],0⟩ 200 (startS Tryz.f9 [.sl A n c,.agg (B45 lo up hl hu),sv] [])) (.agg [.sl A n c,.ns,.ns,.ns,.ns,.ns]) [⟨45,B45 lo up hl hu⟩])) (.ptr ⟨sb,0,none⟩) [⟨45,B45 lo up hl hu⟩])) (.tup [o1 lv,o1 uv]) [⟨45,B45 lo up hl hu⟩])
def T9 (A:Addr) (n c:Nat) (sv:SV) (sb:Nat) (lv uv fv:V1) (j:Int) (xs:Nat→Value):List SV:=mkT 53 [(2,sv),(4,.p 0 0),(8,.ptr ⟨sb,0,none⟩),(9,o1 lv),(10,o1 uv),(11,o1 fv),(24,.sl A n c),(25,.si .i64 n),(26,.si .i64 j)] xs
def I9 [Bd] (num:Nat→Int) (P:Nat→List S36) (fv:V1) (j:Nat) (fls:List Nat) (w:World):Prop:=
 fls.length=j∧w.ownsRow Bd.B 79 1 fv.1 j (fls.map fV)∧(∀ i (h:i < fls.length),FOk w fls[i] (num i) (P i))∧fls.Nodup
theorem I9.kept [Bd] {ts:List TypeId} {num:Nat→Int} {P:Nat→List S36} {fv:V1} {j:Nat} {fls:List Nat} {w w':World} (h:I9 num P fv j fls w) (hk:Kept ts w w') (h1:188∉ts:=by simp) (h2:311∉ts:=by simp) (h5:5∉ts:=by simp) (h79:79∉ts:=by simp):I9 num P fv j fls w':=by
 obtain ⟨q1,q2,q4,q5⟩:=h
 exact ⟨q1,own_kept q2 hk h79,fun i hi=>(q4 i hi).ck (CK.of hk) h1 h2 h5,q5⟩
def J9 [Bd] (lo up:ByteArray) (hl hu:Bool) (A:Addr) (n c:Nat) (sv:SV) (sb:Nat) (lv uv:V1) (bb:Nat) (num:Nat→Int) (pv:Nat→Value) (P:Nat→List S36) (w0:World) (m:Nat) (bs:List Nat) (T:List SV) (H:List SB) (w:World):Prop:=
 ∃ (j:Nat) (xs:Nat→Value) (fv:V1) (fls:List Nat),j≤n∧m+j=n∧bs=[bb]∧T=T9 A n c sv sb lv uv fv j xs∧H=[⟨45,B45 lo up hl hu⟩]∧I9 num P fv j fls w∧Kept [79] w0 w
theorem lp9 [Bd] (lo up:ByteArray) (hl hu:Bool) (A:Addr) (n c:Nat) (stv:V1) (sb:Nat) (lv uv:V1) (bb:Nat) (num:Nat→Int) (pv:Nat→Value) (P:Nat→List S36) (hn:n≤10) (w:World) (hT:TabsR w A n num pv P) {Q:Exit→Act→World→Prop}
  (hW:Wk [bb] (S9 lo up hl hu A n c (o1 stv) sb lv uv) w)
  (hk: ∀ (xs:Nat→Value) (fv:V1) (fls:List Nat) (w':World),I9 num P fv n fls w'→Kept [79] w w'→Wk [bb] (bodyS (S9 lo up hl hu A n c (o1 stv) sb lv uv) (Hand (J9 lo up hl hu A n c (o1 stv) sb lv uv bb num pv P w) 0) (T9 A n c (o1 stv) sb lv uv fv n xs) [⟨45,B45 lo up hl hu⟩]) w'→
   kx Tryz.prog Q (bodyS (S9 lo up hl hu A n c (o1 stv) sb lv uv) (Hand (J9 lo up hl hu A n c (o1 stv) sb lv uv bb num pv P w) 0) (T9 A n c (o1 stv) sb lv uv fv n xs) [⟨45,B45 lo up hl hu⟩]).K .normal (actS [bb] (bodyS (S9 lo up hl hu A n c (o1 stv) sb lv uv) (Hand (J9 lo up hl hu A n c (o1 stv) sb lv uv bb num pv P w) 0) (T9 A n c (o1 stv) sb lv uv fv n xs) [⟨45,B45 lo up hl hu⟩]).T) w'):
  kx Tryz.prog Q (S9 lo up hl hu A n c (o1 stv) sb lv uv).K .normal (actS [bb] (S9 lo up hl hu A n c (o1 stv) sb lv uv).T) w:=by
 refine go_loop (s:=S9 lo up hl hu A n c (o1 stv) sb lv uv) (bs:=[bb]) (J9 lo up hl hu A n c (o1 stv) sb lv uv bb num pv P w) n (by kernel_rfl) hW (fun xs=>T9 A n c (o1 stv) sb lv uv nilV 0 xs) [⟨45,B45 lo up hl hu⟩] (by kernel_rfl) (by kernel_rfl)
  (fun xs=>⟨0,xs,nilV,[],by omega,by omega,rfl,rfl,rfl,⟨rfl,World.ownsRow_nil _ _ _ _,fun i h=>absurd h (by simp),List.nodup_nil⟩,Kept.refl _ _⟩) ?_ ?_
 ·rintro m bs' T H w' ⟨j,xs,fv,fls,_,_,rfl,_⟩
  exact ⟨[],rfl⟩
 ·rintro m bs' T H w' ⟨j,xs,fv,fls,hj,hm,rfl,rfl,rfl,hI,hKw⟩ hW'
  have hTa:=hT.ck (CK.of hKw)
  by_cases hlt:j < n
  ·refine go_run (s:=bodyS (S9 lo up hl hu A n c (o1 stv) sb lv uv) (Hand (J9 lo up hl hu A n c (o1 stv) sb lv uv bb num pv P w) m) (T9 A n c (o1 stv) sb lv uv fv j xs) [⟨45,B45 lo up hl hu⟩]) (bs:=[bb]) 200 ⟨[],1,[],[(27,true)],0⟩ (by kernel_rfl) hW' rfl [(decide ((j:Int) < n),true),(decide ((0:Int)≤j),true),(decide ((j:Int) < n),true)] (by kernel_rfl) ⟨by simpa using hlt,by simp,by simpa using hlt,trivial⟩ ?_
   intro nw v1 _ hG1 hV1
   obtain rfl:=nw0 (hV1.num 1 (by kernel_rfl)) rfl
   have hT1:=hTa.ck (CK.of hG1)
   obtain ⟨p1,p2,p3,p4,p5,p6⟩:=hT1.2 j hlt
   obtain ⟨Av,cv,hpv,_,_⟩:=p4.at36
   have hpv1:(pv j).oneCell'=true:=by rw [hpv];rfl
   refine go_loadA 43 (.tmp 28) (A.add ((j:Int).toNat*3)) [.si .u64 (num j),.oc (pv j) hpv1,.ns] [⟨45,B45 lo up hl hu⟩] (by kernel_rfl) (by kernel_rfl) (by kernel_rfl) (by kernel_rfl) hV1 (by kernel_rfl) ?_ (fun hV2=>?_)
   ·intro i y hy
    match i,hy with
    |0,hy=>cases hy;rw [show ∀ a:Addr,a.add 0=a by intro a;simp [Addr.add]];exact p1
    |1,hy=>cases hy;exact p2
    |2,hy=>cases hy;exact p3
   refine gr1 (bs:=[bb]) 200 ⟨[],1,[],[],0⟩ hV2 fun xb v3 _ hG3 hV3=>?_
   have hs3:=hV3.sq [⟨45,B45 lo up hl hu⟩,⟨43,[.si .u64 (num j),.oc (pv j) hpv1,.ns]⟩]
   have hE3:Ext w' v3:=hG1.trans hG3
   obtain ⟨_,_,_,p4',_,_⟩:=(hTa.ck (CK.of hE3)).2 j hlt
   refine gc 21 [.agg [.si .u64 (num j),.oc (pv j) hpv1,.ns]] hV3 ?_
   refine (c21 (num j) (pv j) (P j) v3 p4' p5 p6).mono ?_
   intro e v7 hP7
   obtain ⟨f,hfn,rfl,hE7,hfo⟩:=FOk.of21 hP7
   have hs7:=hs3.kq hE7
   refine ⟨.ptr ⟨f,0,none⟩,[],_,rfl,hs7,fun hV7=>?_⟩
   refine go_bslice 78 79 1 (.tmp 32) [.ptr ⟨f,0,none⟩] [⟨45,B45 lo up hl hu⟩,⟨43,[.si .u64 (num j),.oc (pv j) hpv1,.ns]⟩] (by kernel_rfl) (by kernel_rfl) (by kernel_rfl) (by kernel_rfl) rfl (by omega) (by omega) hV7 (by kernel_rfl) (by kernel_rfl) (by kernel_rfl) (fun rb v8 hrb hE8 hV8=>?_)
   have hs8:=hV8.sq ([⟨45,B45 lo up hl hu⟩,⟨43,[.si .u64 (num j),.oc (pv j) hpv1,.ns]⟩]++[⟨79,[.ptr ⟨f,0,none⟩]⟩])
   have hX8:Ext w' v8:=hE3.trans (hE7.trans hE8)
   have hI8:=hI.kept hX8
   have hown8:=hI8.2.1
   refine go_append 78 79 1 8 (.pointer none) (.tmp 30) (.tmp 33) fv.1 j (fls.map fV) ⟨rb,0,none⟩ 1 1 [fV f] ([⟨45,B45 lo up hl hu⟩,⟨43,[.si .u64 (num j),.oc (pv j) hpv1,.ns]⟩]++[⟨79,[.ptr ⟨f,0,none⟩]⟩]) (by kernel_rfl) (by kernel_rfl) (by kernel_rfl) (by kernel_rfl) (by kernel_rfl) rfl (by omega) hV8 (by kernel_rfl) hown8 rfl ?_ ?_ ?_ ?_ ?_ ?_
   ·intro i u hu
    match i,hu with
    |0,hu=>cases hu;exact hs8.cell 2 79 [.ptr ⟨f,0,none⟩] rfl 0 (.ptr ⟨f,0,none⟩) rfl
   ·intro u hu;simp only [List.mem_singleton] at hu;subst hu;rfl
   ·simp only [maxLen];omega
   ·omega
   ·intro b hb he
    have hb3:b∈[bb,xb,rb]:=hb
    simp only [List.mem_cons,List.not_mem_nil,or_false] at hb3
    rcases hb3 with rfl|rfl|rfl
    ·exact own_ne_ty hown8 he.symm (hs8.mem 0 _ rfl) (by simp)
    ·exact own_ne_ty hown8 he.symm (hs8.mem 1 _ rfl) (by simp)
    ·have hlt':=own_lt' hI.2.1 _ he.symm
     have h9:=(hE3.trans hE7).size
     omega
   ·intro v' v9 ho hown9 hK9 _ hor hV9
    refine gr0 (bs:=[bb,xb,rb]) 200 ⟨[],3,[],[],0⟩ hV9 fun v10 hK10 hV10=>?_
    have hs10:=hV10.sq ([⟨45,B45 lo up hl hu⟩,⟨43,[.si .u64 (num j),.oc (pv j) hpv1,.ns]⟩]++[⟨79,[.ptr ⟨f,0,none⟩]⟩])
    have hB7:Kept [79] v7 v10:=hE8.tr (hK9.tr hK10 (ts:=[79])) (ts:=[79])
    have hB:Kept [79] w' v10:=hE3.tr (hE7.tr hB7 (ts:=[79])) (ts:=[79])
    have hlen:=hI.1
    have hI10:I9 num P ⟨v',ho⟩ (j+1) (fls++[f]) v10:=by
     refine ⟨by simp [hlen],?_,fun i hi=>?_,?_⟩
     ·rw [List.map_append];exact own_kept hown9 hK10 (by simp)
     ·by_cases hi':i < fls.length
      ·rw [List.getElem_append_left hi']
       exact (hI.2.2.1 i hi').ck (CK.of hB)
      ·simp only [List.length_append,List.length_singleton] at hi
       obtain rfl:i=j:=by omega
       rw [List.getElem_append_right (by omega)]
       simp only [hlen,Nat.sub_self,List.getElem_singleton]
       exact hfo.ck (CK.of hB7)
     ·rw [List.nodup_append]
      refine ⟨hI.2.2.2,by simp,fun a ha b hb=>?_⟩
      simp only [List.mem_singleton] at hb
      subst hb
      obtain ⟨i,hi,rfl⟩:=List.getElem_of_mem ha
      obtain ⟨m',_,_,q2,_⟩:=hI.2.2.1 i hi
      have h1:=(Array.getElem?_eq_some_iff.1 q2).1
      have h2:=hE3.size
      intro he
      omega
    refine go_fin (Hand (J9 lo up hl hu A n c (o1 stv) sb lv uv bb num pv P w) m) (by kernel_rfl) (fun xs=>T9 A n c (o1 stv) sb lv uv ⟨v',ho⟩ (IntKind.i64.wrap ((j:Int)+1)) xs) (by kernel_rfl) (fun xs=>?_)
    rw [wrap_succ j (by omega)]
    refine ⟨m - 1,by omega,[bb],T9 A n c (o1 stv) sb lv uv ⟨v',ho⟩ ((j+1:Nat):Int) xs,[⟨45,B45 lo up hl hu⟩],?_,hs10.sub [0] (by decide) (by simp) rfl ⟨hs10.memC 0 rfl (by kernel_rfl),trivial⟩,?_⟩
    ·exact actS_cut [bb] [xb,rb] _ (by kernel_rfl)
    ·exact ⟨j+1,xs,⟨v',ho⟩,fls++[f],by omega,by omega,rfl,rfl,rfl,hI10,hKw.trans hB⟩
  ·obtain rfl:n=j:=by omega
   obtain rfl:m=0:=by omega
   exact hk xs fv fls w' hI hKw hW'
end Go.Proofs.YtghppnklhbbffaaGreatDoor.X
