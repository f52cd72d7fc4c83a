/- Part 21 of the proof that laws.FnTreeLevel answers true, for arguments of small bulk. -/
import Derived.Test.YtghppnklhbbffaaGreatDoorR05
import Derived.Test.YtghppnklhbbffaaGreatDoorR20
import Derived.Test.YtghppnklhbbffaaGreatDoorR04
import Derived.Test.YtghppnklhbbffaaGreatDoorR12
set_option linter.all false
set_option maxHeartbeats 4000000
set_option maxRecDepth 100000
namespace Go.Proofs.YtghppnklhbbffaaGreatDoor.X
open Go Go.RowKit Go.Proofs.YtghppnklhbbffaaGreatDoor.TL Go.Proofs.YtghppnklhbbffaaGreatDoor.PFnTreeLevel
def Moves [Bd] (s:LvS) (lb nb:Nat) (g:FuncId) (args:Array Value) (nv:V1) (pos pos':Int) (R:Ending) (w:World):Prop:=
 ∀ tl tu it fi:V1,Sat [lb,nb] (HV s tl tu (o1 it) (o1 fi) (o1 nv) pos) w→Calls Tryz.prog g args w fun e w'=>e=R∧Kept [330] w w'∧Sat [lb,nb] (HV s tl tu (o1 it) (o1 fi) (o1 (nbV nb)) pos') w'
theorem LPre.move [Bd] {s:LvS} {lb nb:Nat} {P:Nat→List S36} {lo up:Option (List UInt8)} {sm lg:Nat→List UInt8} {nv:V1} {pos pos':Int} {w:World} {g:FuncId} {args:Array Value} {R:Ending} (hp:LPre s lb nb P lo up sm lg nv pos w) (h:Moves s lb nb g args nv pos pos' R w):
  Calls Tryz.prog g args w fun e w'=>e=R∧Kept [330] w w'∧LPre s lb nb P lo up sm lg (nbV nb) pos' w':=by
 rcases hp with ⟨tl,tu,hs⟩|⟨j,hj,tl,tu,hs⟩|⟨j,at_,hj,hJ,tl,tu,b,vk,vv,hs,hb,hL,hzb⟩
 ·refine (h tl tu niV npV (hs.vals (by kernel_rfl))).mono ?_
  rintro e w1 ⟨h1,h2,h3⟩
  exact ⟨h1,h2,.inl ⟨tl,tu,h3.vals (by kernel_rfl)⟩⟩
 ·refine (h tl tu niV (nbV (s.fl j)) (hs.vals (by kernel_rfl))).mono ?_
  rintro e w1 ⟨h1,h2,h3⟩
  exact ⟨h1,h2,.inr (.inl ⟨j,hj,tl,tu,h3.vals (by kernel_rfl)⟩)⟩
 ·refine (h tl tu (lsV b) (nbV (s.fl j)) (hs.vals (by kernel_rfl))).mono ?_
  rintro e w1 ⟨h1,h2,h3⟩
  exact ⟨h1,h2,.inr (.inr ⟨j,at_,hj,hJ,tl,tu,b,vk,vv,h3.vals (by kernel_rfl),(h2.block b (solid_of hb (by simp))).trans hb,hL.kept h2 (by simp) (by simp) (by simp),hzb⟩)⟩
theorem mv106 [Bd] (s:LvS) (hn1:1≤s.n) (hn:s.n≤10) (lb nb:Nat) (nv:V1) (pos:Int) (w:World):Moves s lb nb 106 #[.pointer (some ⟨lb,31,none⟩)] nv pos 0 (.returned (.pointer (some ⟨s.fl 0,0,none⟩))) w:=fun tl tu it fi hs=>
 (c106 (LF lb nb s tl tu (o1 it) (o1 fi)) nv pos s.cv s.n hn1 hn s.fl lb nb w (HV_HL hs)).mono (fun e w1 ⟨h1,h2,h3⟩=>⟨h1,h2,HL_HV h3⟩)
theorem mv253 [Bd] (s:LvS) (hn1:1≤s.n) (hn:s.n≤10) (lb nb:Nat) (nv:V1) (pos:Int) (w:World):Moves s lb nb 253 #[.pointer (some ⟨lb,31,none⟩)] nv pos ((s.n:Int) - 1) (.returned (.pointer (some ⟨s.fl (s.n - 1),0,none⟩))) w:=fun tl tu it fi hs=>
 (c253 (LF lb nb s tl tu (o1 it) (o1 fi)) nv pos s.cv s.n hn1 hn s.fl lb nb w (HV_HL hs)).mono (fun e w1 ⟨h1,h2,h3⟩=>⟨h1,h2,HL_HV h3⟩)
theorem c256_n [Bd] (s:LvS) (hn1:1≤s.n) (hn:s.n≤10) (fm:Nat→FM) (sm lg:Nat→List UInt8) (kv:V1) (key:List UInt8) (hth: ∀ i,i < s.n→(s.n≤i↔Lib.compareBytes (lg i) key≥0)) (tl tu it fi nv:V1) (pos:Int) (lb nb:Nat) (w:World) (hfa:FilesAt w s.n s.fl fm sm lg) (hk:RdS w kv.1 key) (hs:Sat [lb,nb] (HV s tl tu (o1 it) (o1 fi) (o1 nv) pos) w):
  Calls Tryz.prog 256 #[.pointer (some ⟨lb,0,none⟩),kv.1,.int .u8 0] w fun e w'=>e=.returned (.pointer none)∧Kept [330] w w'∧Sat [lb,nb] (HV s tl tu (o1 it) (o1 fi) (o1 (nbV nb)) s.n) w':=by
 refine gs (bs:=[lb,nb]) [.p 0 0,o1 kv,.it .u8 0] _ Tryz.func256 hs (fun hW=>?_)
 refine gr0 200 ⟨[],2,[],[],0⟩ hW fun w1 hE1 hW1=>?_
 have hs1:=hW1.sq (HV s tl tu (o1 it) (o1 fi) (o1 nv) pos)
 refine gc 224 [.it .u8 0] hW1 ?_
 refine (c224 w1).mono ?_
 rintro e w2 ⟨rfl,hE2⟩
 have hs2:Sat [lb,nb] (HV s tl tu (o1 it) (o1 fi) (o1 nv) pos) w2:=hs1.kq hE2
 refine ⟨.bl false,[],(HV s tl tu (o1 it) (o1 fi) (o1 nv) pos),rfl,hs2,fun hW2=>?_⟩
 refine gr0 (bs:=[lb,nb]) 200 ⟨[],2,[],[],0⟩ hW2 fun w3 hE3 hW3=>?_
 have hs3:=hW3.sq (HV s tl tu (o1 it) (o1 fi) (o1 nv) pos)
 refine gc 265 [.it .u8 0] hW3 ?_
 refine (c265 w3).mono ?_
 rintro e w4 ⟨rfl,rfl⟩
 have hs4:=hs3
 refine ⟨.bl false,[],(HV s tl tu (o1 it) (o1 fi) (o1 nv) pos),rfl,hs4,fun hW4=>?_⟩
 refine gr0 (bs:=[lb,nb]) 200 ⟨[],2,[],[],0⟩ hW4 fun w5 hE5 hW5=>?_
 have hs5:=hW5.sq (HV s tl tu (o1 it) (o1 fi) (o1 nv) pos)
 refine gd [] [8] hW5 (fun hD=>?_)
 refine gr0 (bs:=[lb,nb]) 200 ⟨[],2,[],[],0⟩ hD fun w6 hE6 hW6=>?_
 have hs6:=hW6.sq (HV s tl tu (o1 it) (o1 fi) (o1 nv) pos)
 have hX:Ext w w6:=((((((Kept.refl [] w).trans hE1).trans hE2).trans hE3).trans hE5).drew).trans hE6
 have hfa1:=hfa.kept hX
 have hk1:=hk.kept hX (by simp)
 have hq:Sat [lb,nb] (HV s tl tu (o1 it) (o1 fi) (o1 nv) pos) w6:=hs6
 refine go_callE 266 [.p 0 31,.fn 65 [],o1 kv] (by kernel_rfl) hW6 ?_
 refine (c266_f (LF lb nb s tl tu (o1 it) (o1 fi)) nv pos s.cv s.n hn1 hn s.fl fm sm lg kv key s.n rfl lb nb w6 (HV_HL hq) hfa1 hk1 hth).mono ?_
 rintro e w7 ⟨rfl,hK,hs7⟩
 have hs7:=HL_HV hs7
 have hs7':=hs7
 refine ⟨.np,[],(HV s tl tu (o1 it) (o1 fi) (o1 (nbV nb)) s.n),rfl,hs7',fun hV=>?_⟩
 refine gr0 (bs:=[lb,nb]) 200 ⟨[],2,[],[],1⟩ hV fun v1 hG1 hV1=>?_
 have ht1:=hV1.satD (HV s tl tu (o1 it) (o1 fi) (o1 (nbV nb)) s.n) (by kernel_rfl)
 exact gt (.np) hV1.sat ⟨rfl,hX.tr (hK.tr hG1 (ts:=[330])),ht1⟩
theorem c256_f [Bd] (s:LvS) (hn1:1≤s.n) (hn:s.n≤10) (fm:Nat→FM) (sm lg:Nat→List UInt8) (kv:V1) (key:List UInt8) (r:Nat) (hr:r < s.n) (hth: ∀ i,i < s.n→(r≤i↔Lib.compareBytes (lg i) key≥0)) (tl tu it fi nv:V1) (pos:Int) (lb nb:Nat) (w:World) (hfa:FilesAt w s.n s.fl fm sm lg) (hk:RdS w kv.1 key) (hkd: ∃ t:Nat,(fm r).t2=t∧t < 18446744073709551616∧(t % 256≠15∧t % 256≠19∧t % 256≠20∧t % 256≠21)) (hs:Sat [lb,nb,s.fl r] (HV s tl tu (o1 it) (o1 fi) (o1 nv) pos++F1 (fm r)) w):
  Calls Tryz.prog 256 #[.pointer (some ⟨lb,0,none⟩),kv.1,.int .u8 0] w fun e w'=>e=.returned (.pointer (some ⟨s.fl r,0,none⟩))∧Kept [330] w w'∧Sat [lb,nb] (HV s tl tu (o1 it) (o1 fi) (o1 (nbV nb)) r) w':=by
 refine gs (bs:=[lb,nb,s.fl r]) [.p 0 0,o1 kv,.it .u8 0] _ Tryz.func256 hs (fun hW=>?_)
 refine gr0 200 ⟨[],3,[],[],0⟩ hW fun w1 hE1 hW1=>?_
 have hs1:=hW1.sq (HV s tl tu (o1 it) (o1 fi) (o1 nv) pos++F1 (fm r))
 refine gc 224 [.it .u8 0] hW1 ?_
 refine (c224 w1).mono ?_
 rintro e w2 ⟨rfl,hE2⟩
 have hs2:Sat [lb,nb,s.fl r] (HV s tl tu (o1 it) (o1 fi) (o1 nv) pos++F1 (fm r)) w2:=hs1.kq hE2
 refine ⟨.bl false,[],(HV s tl tu (o1 it) (o1 fi) (o1 nv) pos++F1 (fm r)),rfl,hs2,fun hW2=>?_⟩
 refine gr0 (bs:=[lb,nb,s.fl r]) 200 ⟨[],3,[],[],0⟩ hW2 fun w3 hE3 hW3=>?_
 have hs3:=hW3.sq (HV s tl tu (o1 it) (o1 fi) (o1 nv) pos++F1 (fm r))
 refine gc 265 [.it .u8 0] hW3 ?_
 refine (c265 w3).mono ?_
 rintro e w4 ⟨rfl,rfl⟩
 have hs4:=hs3
 refine ⟨.bl false,[],(HV s tl tu (o1 it) (o1 fi) (o1 nv) pos++F1 (fm r)),rfl,hs4,fun hW4=>?_⟩
 refine gr0 (bs:=[lb,nb,s.fl r]) 200 ⟨[],3,[],[],0⟩ hW4 fun w5 hE5 hW5=>?_
 have hs5:=hW5.sq (HV s tl tu (o1 it) (o1 fi) (o1 nv) pos++F1 (fm r))
 refine gd [] [8] hW5 (fun hD=>?_)
 refine gr0 (bs:=[lb,nb,s.fl r]) 200 ⟨[],3,[],[],0⟩ hD fun w6 hE6 hW6=>?_
 have hs6:=hW6.sq (HV s tl tu (o1 it) (o1 fi) (o1 nv) pos++F1 (fm r))
 have hX:Ext w w6:=((((((Kept.refl [] w).trans hE1).trans hE2).trans hE3).trans hE5).drew).trans hE6
 have hfa1:=hfa.kept hX
 have hk1:=hk.kept hX (by simp)
 have hq:Sat [lb,nb] (HV s tl tu (o1 it) (o1 fi) (o1 nv) pos) w6:=(hs6.sub [0,1] (by decide) (by simp) rfl ⟨hs6.memC 0 rfl (by kernel_rfl),hs6.memC 1 rfl (by kernel_rfl),trivial⟩)
 refine go_callE 266 [.p 0 31,.fn 65 [],o1 kv] (by kernel_rfl) hW6 ?_
 refine (c266_t (LF lb nb s tl tu (o1 it) (o1 fi)) nv pos s.cv s.n hn1 hn s.fl fm sm lg kv key r hr lb nb w6 (HV_HL hq) hfa1 hk1 hth).mono ?_
 rintro e w7 ⟨rfl,hK,hs7⟩
 have hs7:=HL_HV hs7
 have hs7':Sat [lb,nb,s.fl r] (HV s tl tu (o1 it) (o1 fi) (o1 (nbV nb)) r++F1 (fm r)) w7:=hs6.re rfl ⟨hs7.memC 0 rfl (by kernel_rfl),hs7.memC 1 rfl (by kernel_rfl),hs6.kp hK 2 _ rfl rfl,trivial⟩
 refine ⟨.p 2 0,[],(HV s tl tu (o1 it) (o1 fi) (o1 (nbV nb)) r++F1 (fm r)),rfl,hs7',fun hV=>?_⟩
 refine gr0 (bs:=[lb,nb,s.fl r]) 200 ⟨[],3,[],[],1⟩ hV fun v1 hG1 hV1=>?_
 have ht1:=hV1.satD (HV s tl tu (o1 it) (o1 fi) (o1 (nbV nb)) r++F1 (fm r)) (by kernel_rfl)
 obtain ⟨t,ht2,ht3,ht4⟩:=hkd
 refine gd [] [] hV1 (fun hD=>?_)
 refine gr0 (bs:=[lb,nb,s.fl r]) 200 ⟨[],3,[],[],1⟩ hD fun v2 hG2 hV2=>?_
 have ht2':=hV2.satD (HV s tl tu (o1 it) (o1 fi) (o1 (nbV nb)) r++F1 (fm r)) (by kernel_rfl)
 refine gcd 155 [.agg [.oc (fm r).u2 (fm r).h2,.si .u64 (fm r).t2]] [] v1.drew hV2 (fun hC=>?_)
 have hcl:Calls Tryz.prog 155 #[.agg #[(fm r).u2,.int .u64 (fm r).t2]] v2 fun e w'=>e=.returned (.bool false)∧Ext v2 w':=by rw [ht2];exact c155 ⟨(fm r).u2,(fm r).h2⟩ t ht3 ht4 v2
 refine hcl.mono ?_
 rintro e v3 ⟨rfl,hE3⟩
 refine ⟨.bl false,[],(HV s tl tu (o1 it) (o1 fi) (o1 (nbV nb)) r++F1 (fm r)),rfl,ht2'.kq hE3,hC.trans hE3,fun hV3=>?_⟩
 refine gr0 (bs:=[lb,nb,s.fl r]) 200 ⟨[],3,[],[],1⟩ hV3 fun v4 hG4 hV4=>?_
 have ht4':=hV4.satD (HV s tl tu (o1 it) (o1 fi) (o1 (nbV nb)) r++F1 (fm r)) (by kernel_rfl)
 exact gt (.p 2 0) hV4.sat ⟨rfl,hX.tr (hK.tr (hG1.drew.tr (hC.tr (hE3.tr hG4 (ts:=[330])) (ts:=[330])) (ts:=[330])) (ts:=[330])),(ht4'.sub [0,1] (by decide) (by simp) rfl ⟨ht4'.memC 0 rfl (by kernel_rfl),ht4'.memC 1 rfl (by kernel_rfl),trivial⟩)⟩
theorem c258_n [Bd] (s:LvS) (hn1:1≤s.n) (hn:s.n≤10) (fm:Nat→FM) (sm lg:Nat→List UInt8) (kv:V1) (key:List UInt8) (hth: ∀ i,i < s.n→(0≤i↔Lib.compareBytes (sm i) key≥0)) (tl tu it fi nv:V1) (pos:Int) (lb nb:Nat) (w:World) (hfa:FilesAt w s.n s.fl fm sm lg) (hk:RdS w kv.1 key) (hs:Sat [lb,nb] (HV s tl tu (o1 it) (o1 fi) (o1 nv) pos) w):
  Calls Tryz.prog 258 #[.pointer (some ⟨lb,0,none⟩),kv.1,.int .u8 0] w fun e w'=>e=.returned (.pointer none)∧Kept [330] w w'∧Sat [lb,nb] (HV s tl tu (o1 it) (o1 fi) (o1 (nbV nb)) (-1)) w':=by
 refine gs (bs:=[lb,nb]) [.p 0 0,o1 kv,.it .u8 0] _ Tryz.func258 hs (fun hW=>?_)
 refine gr0 200 ⟨[],2,[],[],0⟩ hW fun w1 hE1 hW1=>?_
 have hs1:=hW1.sq (HV s tl tu (o1 it) (o1 fi) (o1 nv) pos)
 refine gc 237 [.it .u8 0] hW1 ?_
 refine (c237 w1).mono ?_
 rintro e w2 ⟨rfl,rfl⟩
 have hs2:=hs1
 refine ⟨.bl false,[],(HV s tl tu (o1 it) (o1 fi) (o1 nv) pos),rfl,hs2,fun hW2=>?_⟩
 refine gr0 (bs:=[lb,nb]) 200 ⟨[],2,[],[],0⟩ hW2 fun w3 hE3 hW3=>?_
 have hs3:=hW3.sq (HV s tl tu (o1 it) (o1 fi) (o1 nv) pos)
 refine gd [] [8] hW3 (fun hD=>?_)
 refine gr0 (bs:=[lb,nb]) 200 ⟨[],2,[],[],0⟩ hD fun w4 hE4 hW4=>?_
 have hs4:=hW4.sq (HV s tl tu (o1 it) (o1 fi) (o1 nv) pos)
 have hX:Ext w w4:=((((Kept.refl [] w).trans hE1).trans hE3).drew).trans hE4
 have hfa1:=hfa.kept hX
 have hk1:=hk.kept hX (by simp)
 have hq:Sat [lb,nb] (HV s tl tu (o1 it) (o1 fi) (o1 nv) pos) w4:=hs4
 refine go_callE 267 [.p 0 31,.fn 65 [],o1 kv] (by kernel_rfl) hW4 ?_
 refine (c267_f (LF lb nb s tl tu (o1 it) (o1 fi)) nv pos s.cv s.n hn1 hn s.fl fm sm lg kv key 0 rfl lb nb w4 (HV_HL hq) hfa1 hk1 hth).mono ?_
 rintro e w5 ⟨rfl,hK,hs5⟩
 have hs5:=HL_HV hs5
 have hs5':=hs5
 refine ⟨.np,[],(HV s tl tu (o1 it) (o1 fi) (o1 (nbV nb)) (-1)),rfl,hs5',fun hV=>?_⟩
 refine gr0 (bs:=[lb,nb]) 200 ⟨[],2,[],[],1⟩ hV fun v1 hG1 hV1=>?_
 have ht1:=hV1.satD (HV s tl tu (o1 it) (o1 fi) (o1 (nbV nb)) (-1)) (by kernel_rfl)
 exact gt (.np) hV1.sat ⟨rfl,hX.tr (hK.tr hG1 (ts:=[330])),ht1⟩
theorem c258_f [Bd] (s:LvS) (hn1:1≤s.n) (hn:s.n≤10) (fm:Nat→FM) (sm lg:Nat→List UInt8) (kv:V1) (key:List UInt8) (r:Nat) (hr:r < s.n) (hth: ∀ i,i < s.n→(r+1≤i↔Lib.compareBytes (sm i) key≥0)) (tl tu it fi nv:V1) (pos:Int) (lb nb:Nat) (w:World) (hfa:FilesAt w s.n s.fl fm sm lg) (hk:RdS w kv.1 key) (hs:Sat [lb,nb,s.fl r] (HV s tl tu (o1 it) (o1 fi) (o1 nv) pos++F1 (fm r)) w):
  Calls Tryz.prog 258 #[.pointer (some ⟨lb,0,none⟩),kv.1,.int .u8 0] w fun e w'=>e=.returned (.pointer (some ⟨s.fl r,0,none⟩))∧Kept [330] w w'∧Sat [lb,nb] (HV s tl tu (o1 it) (o1 fi) (o1 (nbV nb)) r) w':=by
 refine gs (bs:=[lb,nb,s.fl r]) [.p 0 0,o1 kv,.it .u8 0] _ Tryz.func258 hs (fun hW=>?_)
 refine gr0 200 ⟨[],3,[],[],0⟩ hW fun w1 hE1 hW1=>?_
 have hs1:=hW1.sq (HV s tl tu (o1 it) (o1 fi) (o1 nv) pos++F1 (fm r))
 refine gc 237 [.it .u8 0] hW1 ?_
 refine (c237 w1).mono ?_
 rintro e w2 ⟨rfl,rfl⟩
 have hs2:=hs1
 refine ⟨.bl false,[],(HV s tl tu (o1 it) (o1 fi) (o1 nv) pos++F1 (fm r)),rfl,hs2,fun hW2=>?_⟩
 refine gr0 (bs:=[lb,nb,s.fl r]) 200 ⟨[],3,[],[],0⟩ hW2 fun w3 hE3 hW3=>?_
 have hs3:=hW3.sq (HV s tl tu (o1 it) (o1 fi) (o1 nv) pos++F1 (fm r))
 refine gd [] [8] hW3 (fun hD=>?_)
 refine gr0 (bs:=[lb,nb,s.fl r]) 200 ⟨[],3,[],[],0⟩ hD fun w4 hE4 hW4=>?_
 have hs4:=hW4.sq (HV s tl tu (o1 it) (o1 fi) (o1 nv) pos++F1 (fm r))
 have hX:Ext w w4:=((((Kept.refl [] w).trans hE1).trans hE3).drew).trans hE4
 have hfa1:=hfa.kept hX
 have hk1:=hk.kept hX (by simp)
 have hq:Sat [lb,nb] (HV s tl tu (o1 it) (o1 fi) (o1 nv) pos) w4:=(hs4.sub [0,1] (by decide) (by simp) rfl ⟨hs4.memC 0 rfl (by kernel_rfl),hs4.memC 1 rfl (by kernel_rfl),trivial⟩)
 refine go_callE 267 [.p 0 31,.fn 65 [],o1 kv] (by kernel_rfl) hW4 ?_
 have hsk:Calls Tryz.prog 267 #[.pointer (some ⟨lb,31,none⟩),fnv 65,kv.1] w4 fun e w'=>e=.returned (.pointer (some ⟨s.fl r,0,none⟩))∧Kept [330] w4 w'∧Sat [lb,nb] (HL (LF lb nb s tl tu (o1 it) (o1 fi)) (.p 1 0) r s.cv s.n s.fl) w':=by
  have e1:((r+1:Nat):Int) - 1=r:=by omega
  have e2:r+1 - 1=r:=by omega
  by_cases hlast:r+1=s.n
  ·have:=c267_e (LF lb nb s tl tu (o1 it) (o1 fi)) nv pos s.cv s.n hn1 hn s.fl fm sm lg kv key (r+1) (by omega) hlast lb nb w4 (HV_HL hq) hfa1 hk1 hth
   rw [e1,e2] at this;exact this
  ·have:=c267_t (LF lb nb s tl tu (o1 it) (o1 fi)) nv pos s.cv s.n hn1 hn s.fl fm sm lg kv key (r+1) (by omega) (by omega) lb nb w4 (HV_HL hq) hfa1 hk1 hth
   rw [e1,e2] at this;exact this
 refine hsk.mono ?_
 rintro e w5 ⟨rfl,hK,hs5⟩
 have hs5:=HL_HV hs5
 have hs5':Sat [lb,nb,s.fl r] (HV s tl tu (o1 it) (o1 fi) (o1 (nbV nb)) r++F1 (fm r)) w5:=hs4.re rfl ⟨hs5.memC 0 rfl (by kernel_rfl),hs5.memC 1 rfl (by kernel_rfl),hs4.kp hK 2 _ rfl rfl,trivial⟩
 refine ⟨.p 2 0,[],(HV s tl tu (o1 it) (o1 fi) (o1 (nbV nb)) r++F1 (fm r)),rfl,hs5',fun hV=>?_⟩
 refine gr0 (bs:=[lb,nb,s.fl r]) 200 ⟨[],3,[],[],1⟩ hV fun v1 hG1 hV1=>?_
 have ht1:=hV1.satD (HV s tl tu (o1 it) (o1 fi) (o1 (nbV nb)) r++F1 (fm r)) (by kernel_rfl)
 exact gt (.p 2 0) hV1.sat ⟨rfl,hX.tr (hK.tr hG1 (ts:=[330])),(ht1.sub [0,1] (by decide) (by simp) rfl ⟨ht1.memC 0 rfl (by kernel_rfl),ht1.memC 1 rfl (by kernel_rfl),trivial⟩)⟩
end Go.Proofs.YtghppnklhbbffaaGreatDoor.X
namespace Go.Proofs.YtghppnklhbbffaaGreatDoor.X
open Go Go.RowKit Go.Proofs.YtghppnklhbbffaaGreatDoor.TL
theorem c251 [Bd] (lv k vu:Value) (hk:k.oneCell'=true) (hv:vu.oneCell'=true) (w:World) (hB0:autoParam (Bd.B≤w.heap.size) sz0._auto_1):
  Calls Tryz.prog 251 #[lv,k,.agg #[vu,.pointer none]] w fun e w'=>e=.returned (.tuple #[k,.agg #[vu,.pointer none]])∧Ext w w':=by
 refine gs (bs:=[]) [.va lv,.oc k hk,.agg [.oc vu hv,.np]] [] Tryz.func251 (sat0 w) (fun hW=>?_)
 refine go_run 100 ⟨[],0,[],[],0⟩ (by kernel_rfl) hW rfl [] (by kernel_rfl) trivial ?_
 intro nw w' hn hK hW
 refine gt (.tup [.oc k hk,.agg [.oc vu hv,.np]]) hW.sat ?_
 exact ⟨rfl,hK⟩
end Go.Proofs.YtghppnklhbbffaaGreatDoor.X
namespace Go.Proofs.YtghppnklhbbffaaGreatDoor.TL
open Go Go.RowKit Go.Proofs.YtghppnklhbbffaaGreatDoor.PFnTreeLevel Go.Proofs.YtghppnklhbbffaaGreatDoorW.PrintWords Go.Proofs.YtghppnklhbbffaaGreatDoorW.PrintLast
theorem c213 [Bd] (lb:Nat) (vk vv vlo vup kv:Value) (at_:Int) (xs:List S36) (lo up:Option (List UInt8)) (key:List UInt8) (w:World) (hb:w.heap[lb]? =some (.cells #[vk,vv,.int .i64 at_,vlo,vup] 266 (0,0))) (hL:LstC w vk vv vlo vup xs lo up) (hk:RdS w kv key) (hn:xs.length≤2^31) (hLB:autoParam (Bd.B≤lb) lb0._auto_1):
  Calls Tryz.prog 213 #[.pointer (some ⟨lb,0,none⟩),kv,.int .u8 0] w fun e w'=>LDone w w' lb vk vv vlo vup xs (lSeek xs key:Nat) (if lBehind xs up (lSeek xs key:Nat)=true then none else some (lSeek xs key)) e:=by
 have hu266:=Tryz.underlying266
 have hu224:=Tryz.underlying224
 have HB:=Aside0.mk hb
 have HL:=Aside0.mk hL
 have HK:=Aside0.mk hk
 have bl:=blk_lt hb
 have hle:=lSeek_le xs key
 clear hb hL hk
 generalize hR:(if lBehind xs up (lSeek xs key:Nat)=true then none else some (lSeek xs key):Option Nat)=R
 have HR:=Lib.hid hR
 clear hR
 go_enter Tryz.func213,Tryz.ntmps213
 go_wp2_with (first
  |(go_at_call 221;go_loud (refine (c221 lb vk vv vlo vup kv at_ xs lo up key _ (blk_alloc HB.out _) (HL.out.kept ((Kept.refl [] w).alloc _) (by simp) (by simp) (by simp)) (HK.out.kept ((Kept.refl [] w).alloc _) (by simp))).mono ?_;rintro e w1 ⟨rfl,hb1,hk1⟩;have X1:=Aside0.mk (hk1.blkOf (heap_alloc_new w (.cells #[.slice none 0 0,.pointer none] 224)) (by decide));have B1:=Aside0.mk hb1;have K1:=Aside0.mk (((Kept.refl [266] w).alloc (.cells #[.slice none 0 0,.pointer none] 224)).trans hk1); clear hb1 hk1))
  |(go_at_call 217;go_loud (
    have hX:=X1.out;have hb1:=B1.out;have hK:=K1.out;refine (c217 lb vk vv vlo vup _ xs lo up _ hb1 (HL.out.kept hK (by decide) (by decide) (by decide)) (by omega) (by omega)).mono ?_;rintro e w2 ⟨v,rfl,hv,hk⟩;
    have hX2:=hk.blk hX;have HX:=Aside0.mk hX2;have HB2:=Aside0.mk (hk.blk hb1);have HK2:=Aside0.mk (hK.trans (Kept.of_ext hk _));have HV:Aside0 (lRes vk vv w2 xs R v):=⟨by rw [←HR.out]; exact hv⟩;
    obtain ⟨p,A,n,c,rfl⟩:=lRes_form hv;
    have x0:=blk_cell hX2 0;have x1:=blk_cell hX2 1;have f0:=blk_frozen hX2 0;have f1:=blk_frozen hX2 1;simp only [List.getElem?_toArray,List.getElem?_cons_zero,List.getElem?_cons_succ] at x0 x1;clear hX hb1 hK hX2 hk hv)))
 have hX2:=blk_put (cs':= #[.slice A n c,.pointer none]) HX.out 0 (.slice A n c) rfl
 have hK2:=HK2.out.setNew (p:=⟨w.heap.size,0,none⟩) (Nat.le_refl _) (.slice A n c)
 have hV2:=HV.out.setN (p:=⟨w.heap.size,0,none⟩) HX.out (by decide) (.slice A n c)
 have hB2:=blk_far HB2.out (p:=⟨w.heap.size,0,none⟩) (Nat.ne_of_lt bl) (.slice A n c)
 clear x0 x1 f0 f1
 generalize w2.setCell ⟨w.heap.size,0,none⟩ (.slice A n c)=w3 at *
 have y0:=blk_cell hX2 0
 have y1:=blk_cell hX2 1
 simp only [List.getElem?_toArray,List.getElem?_cons_zero,List.getElem?_cons_succ] at y0 y1
 refine bodyPost_ret (v:=.tuple #[.pointer p,.agg #[.slice A n c,.pointer none]]) ?_ rfl ?_
 ·rw [results,show Tryz.f213.results= #[.tmp 6,.cell 7 224] from rfl]
  clear hX2 hK2 hV2 hB2
  simp [go_sem,loadVar,asAddr,y0,y1]
 ·exact ⟨⟨_,rfl,hV2⟩,hB2,hK2⟩
end Go.Proofs.YtghppnklhbbffaaGreatDoor.TL
