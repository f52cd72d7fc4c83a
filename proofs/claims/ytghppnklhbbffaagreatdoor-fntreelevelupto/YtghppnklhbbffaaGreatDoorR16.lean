/- Part 16 of the proof that laws.FnTreeLevel answers true, for arguments of small bulk. -/
import Derived.Test.YtghppnklhbbffaaGreatDoorR05
import Derived.Test.YtghppnklhbbffaaGreatDoorR15
set_option linter.all false
set_option maxHeartbeats 4000000
set_option maxRecDepth 100000
namespace Go.Proofs.YtghppnklhbbffaaGreatDoor.X
open Go Go.RowKit Go.Proofs.YtghppnklhbbffaaGreatDoor.TL
abbrev HC (kv:V1):List SB:=[⟨98,[.fn 65 []]⟩,⟨75,[o1 kv]⟩]
def FilesAt [Bd] (w:World) (n:Nat) (fl:Nat→Nat) (fm:Nat→FM) (sm lg:Nat→List UInt8):Prop:=
 ∀ i,i < n→w.heap[fl i]? =some (.cells (SV.denL [] (fmS (fm i))).toArray 188 (0,0))∧RdS w (fm i).u1 (sm i)∧RdS w (fm i).u2 (lg i)∧Bd.B≤fl i
theorem FilesAt.kept [Bd] {ts:List TypeId} {w w':World} {n:Nat} {fl:Nat→Nat} {fm:Nat→FM} {sm lg:Nat→List UInt8} (h:FilesAt w n fl fm sm lg) (hk:Kept ts w w') (h1:188∉ts:=by simp) (h2:5∉ts:=by simp):FilesAt w' n fl fm sm lg:=fun i hi=>by
 obtain ⟨q1,q2,q3,q4⟩:=h i hi
 exact ⟨(hk.block _ (solid_of q1 h1)).trans q1,q2.kept hk h2,q3.kept hk h2,q4⟩
theorem c269_t [Bd] (f:Nat→Value) (nv:V1) (pos:Int) (cv:V1) (n:Nat) (hn:n≤10) (fl:Nat→Nat) (g:FuncId) (capv:Array Value) (hg:bodyB Tryz.prog g=true) (q:Nat) (hq:q < n) (lb nb:Nat) (w:World) (hs:Sat [lb,nb] (HL f (o1 nv) pos cv n fl) w)
  (hc: ∀ i,i < n→ ∀ w',Kept [330] w w'→Calls Tryz.prog g (#[.pointer (some ⟨fl i,0,none⟩)]++capv) w' fun e w''=>e=.returned (.bool (decide (q≤i)))∧Ext w' w''):
  Calls Tryz.prog 269 #[.pointer (some ⟨lb,31,none⟩),.func (.func g) #[] capv] w fun e w'=>e=.returned (.pointer (some ⟨fl q,0,none⟩))∧Kept [330] w w'∧Sat [lb,nb] (HL f (.p 1 0) q cv n fl) w':=by
 refine gs (bs:=[lb,nb]) [.p 0 31,fnS g capv] _ Tryz.func269 hs (fun hW=>?_)
 refine ga0 200 ⟨[330],2,[],[],0⟩ hW (Fr.refl _ _ _) fun w1 hF1 hW1=>?_
 have hs1:=hW1.sq (HL f (o1 nv) pos cv n fl)
 refine gc 275 [.p 0 31,fnS g capv] hW1 ?_
 refine (c275 f nv pos cv n hn fl g capv hg q (by omega) lb nb w1 hs1 (fun i hi w' hk=>hc i hi w' (hF1.kept.trans hk))).mono ?_
 rintro e w2 ⟨rfl,hK2,hs2⟩
 refine ⟨.tup [],[],HL f (.p 1 0) q cv n fl,rfl,hs2,fun hW2=>?_⟩
 refine ga0 (bs:=[lb,nb]) 200 ⟨[330],2,[],[],0⟩ hW2 (hF1.call (nw:=[]) hK2) fun w3 hF3 hW3=>?_
 have hs3:=hW3.sq (HL f (.p 1 0) q cv n fl)
 refine gc 135 [.p 0 31] hW3 ?_
 refine (c135 f q n cv fl lb nb w3 hs3).mono ?_
 rintro e w4 ⟨rfl,hE4⟩
 have hb:onB q n=true:=by simp [onB]<;>omega
 rw [hb]
 have hs4:Sat [lb,nb] (HL f (.p 1 0) q cv n fl) w4:=hs3.kq hE4
 refine ⟨.bl true,[],HL f (.p 1 0) q cv n fl,rfl,hs4,fun hW4=>?_⟩
 refine ga0 (bs:=[lb,nb]) 200 ⟨[330],2,[],[],0⟩ hW4 (hF3.call (nw:=[]) hE4) fun w5 hF5 hW5=>?_
 have hs5:=hW5.sq (HL f (.p 1 0) q cv n fl)
 refine gc 137 [.p 0 31] hW5 ?_
 refine (c137 f q cv n (by omega) hn fl lb nb w5 hs5).mono ?_
 rintro e w6 ⟨rfl,hE6⟩
 have hs6:Sat [lb,nb] (HL f (.p 1 0) q cv n fl) w6:=hs5.kq hE6
 refine ⟨.ptr ⟨fl q,0,none⟩,[],HL f (.p 1 0) q cv n fl,rfl,hs6,fun hW6=>?_⟩
 refine ga0 (bs:=[lb,nb]) 200 ⟨[330],2,[],[],0⟩ hW6 (hF5.call (nw:=[]) hE6) fun w7 hF7 hW7=>?_
 exact gt (.ptr ⟨fl q,0,none⟩) hW7.sat ⟨rfl,hF7.kept,hW7.sq _⟩
theorem c269_f [Bd] (f:Nat→Value) (nv:V1) (pos:Int) (cv:V1) (n:Nat) (hn:n≤10) (fl:Nat→Nat) (g:FuncId) (capv:Array Value) (hg:bodyB Tryz.prog g=true) (q:Nat) (hq:q=n) (lb nb:Nat) (w:World) (hs:Sat [lb,nb] (HL f (o1 nv) pos cv n fl) w)
  (hc: ∀ i,i < n→ ∀ w',Kept [330] w w'→Calls Tryz.prog g (#[.pointer (some ⟨fl i,0,none⟩)]++capv) w' fun e w''=>e=.returned (.bool (decide (q≤i)))∧Ext w' w''):
  Calls Tryz.prog 269 #[.pointer (some ⟨lb,31,none⟩),.func (.func g) #[] capv] w fun e w'=>e=.returned (.pointer none)∧Kept [330] w w'∧Sat [lb,nb] (HL f (.p 1 0) q cv n fl) w':=by
 refine gs (bs:=[lb,nb]) [.p 0 31,fnS g capv] _ Tryz.func269 hs (fun hW=>?_)
 refine ga0 200 ⟨[330],2,[],[],0⟩ hW (Fr.refl _ _ _) fun w1 hF1 hW1=>?_
 have hs1:=hW1.sq (HL f (o1 nv) pos cv n fl)
 refine gc 275 [.p 0 31,fnS g capv] hW1 ?_
 refine (c275 f nv pos cv n hn fl g capv hg q (by omega) lb nb w1 hs1 (fun i hi w' hk=>hc i hi w' (hF1.kept.trans hk))).mono ?_
 rintro e w2 ⟨rfl,hK2,hs2⟩
 refine ⟨.tup [],[],HL f (.p 1 0) q cv n fl,rfl,hs2,fun hW2=>?_⟩
 refine ga0 (bs:=[lb,nb]) 200 ⟨[330],2,[],[],0⟩ hW2 (hF1.call (nw:=[]) hK2) fun w3 hF3 hW3=>?_
 have hs3:=hW3.sq (HL f (.p 1 0) q cv n fl)
 refine gc 135 [.p 0 31] hW3 ?_
 refine (c135 f q n cv fl lb nb w3 hs3).mono ?_
 rintro e w4 ⟨rfl,hE4⟩
 have hb:onB q n=false:=by simp [onB]<;>omega
 rw [hb]
 have hs4:Sat [lb,nb] (HL f (.p 1 0) q cv n fl) w4:=hs3.kq hE4
 refine ⟨.bl false,[],HL f (.p 1 0) q cv n fl,rfl,hs4,fun hW4=>?_⟩
 refine ga0 (bs:=[lb,nb]) 200 ⟨[330],2,[],[],0⟩ hW4 (hF3.call (nw:=[]) hE4) fun w5 hF5 hW5=>?_
 exact gt .np hW5.sat ⟨rfl,hF5.kept,hW5.sq _⟩
theorem c266_t [Bd] (f:Nat→Value) (nv:V1) (pos:Int) (cv:V1) (n:Nat) (hn1:1≤n) (hn:n≤10) (fl:Nat→Nat) (fm:Nat→FM) (sm lg:Nat→List UInt8) (kv:V1) (key:List UInt8) (q:Nat) (hq:q < n) (lb nb:Nat) (w:World) (hs:Sat [lb,nb] (HL f (o1 nv) pos cv n fl) w)
  (hfa:FilesAt w n fl fm sm lg) (hk:RdS w kv.1 key) (hth: ∀ i,i < n→(q≤i↔Lib.compareBytes (lg i) key≥0)):
  Calls Tryz.prog 266 #[.pointer (some ⟨lb,31,none⟩),fnv 65,kv.1] w fun e w'=>e=.returned (.pointer (some ⟨fl q,0,none⟩))∧Kept [330] w w'∧Sat [lb,nb] (HL f (.p 1 0) q cv n fl) w':=by
 refine gs (bs:=[lb,nb]) [.p 0 31,.fn 65 [],o1 kv] _ Tryz.func266 hs (fun hW=>?_)
 refine go_runA 200 ⟨[330],2,[],[],0⟩ (by kernel_rfl) hW (Fr.refl _ _ _) rfl [] (by kernel_rfl) trivial ?_
 intro nw w1 hF1 hW1
 obtain ⟨cb,kb,rfl⟩:=nw2 (hW1.num 4 (by kernel_rfl)) rfl
 have hs1:=hW1.sq (HL f (o1 nv) pos cv n fl++HC kv)
 have hfa1:=hfa.kept hF1.kept
 have hk1:=hk.kept hF1.kept (by simp)
 have hcc:Sat [cb,kb] (HC kv) w1:=hs1.sub [2,3] (by decide) (by simp) rfl ⟨hs1.mem 2 _ rfl,hs1.mem 3 _ rfl,trivial⟩
 have hfn: ∀ i,i < n→ ∀ w',Kept [330] w1 w'→Calls Tryz.prog 270 (#[.pointer (some ⟨fl i,0,none⟩)]++ #[.pointer (some ⟨cb,0,none⟩),.pointer (some ⟨kb,0,none⟩)]) w' fun e w''=>e=.returned (.bool (decide (q≤i)))∧Ext w' w'':=fun i hi w' hk'=>by
  obtain ⟨q1,q2,q3,q4⟩:=(hfa1.kept hk') i hi
  have h2:Sat [cb,kb] (HC kv) w':=hcc.keep hk' (by kernel_rfl)
  have h3:=h2.add (b:=fl i) (by kernel_rfl) (h2.ne_ty (by kernel_rfl) q1) 188 (fmS (fm i)) (blk_any (bs:=[]) q1 (by kernel_rfl))
  rw [show decide (q≤i)=decide (Lib.compareBytes (lg i) key≥0) by simp only [hth i hi]]
  exact c270 cb kb (fl i) kv (fm i) key (lg i) w' (hk1.kept hk' (by simp)) q3 h3
 refine gc 269 [.p 0 31,.fn 270 [.p 2 0,.p 3 0]] hW1 ?_
 refine (c269_t f nv pos cv n hn fl 270 #[.pointer (some ⟨cb,0,none⟩),.pointer (some ⟨kb,0,none⟩)] (by kernel_rfl) q (by omega) lb nb w1 (hs1.sub [0,1] (by decide) (by simp) rfl ⟨hs1.mem 0 _ rfl,blk_any (hs1.mem 1 _ rfl) (by kernel_rfl),trivial⟩) hfn).mono ?_
 rintro e w2 ⟨rfl,hK2,hs2⟩
 have hs2':Sat [lb,nb,cb,kb] (HL f (.p 1 0) q cv n fl++HC kv) w2:=hs1.re rfl ⟨hs2.mem 0 _ rfl,blk_any (hs2.mem 1 _ rfl) (by kernel_rfl),hs1.kp hK2 2 _ rfl rfl,hs1.kp hK2 3 _ rfl rfl,trivial⟩
 refine ⟨.ptr ⟨fl q,0,none⟩,[],HL f (.p 1 0) q cv n fl++HC kv,rfl,hs2',fun hW2=>?_⟩
 refine ga0 (bs:=[lb,nb,cb,kb]) 200 ⟨[330],2,[],[],0⟩ hW2 (hF1.call (nw:=[]) hK2) fun w3 hF3 hW3=>?_
 have hs3:=hW3.sq (HL f (.p 1 0) q cv n fl++HC kv)
 refine gc 136 [.p 0 31,.ptr ⟨fl (q),0,none⟩] hW3 ?_
 refine (c136 f q cv n fl lb nb ⟨fl (q),0,none⟩ w3 (hs3.sub [0,1] (by decide) (by simp) rfl ⟨hs3.mem 0 _ rfl,blk_any (hs3.mem 1 _ rfl) (by kernel_rfl),trivial⟩)).mono ?_
 rintro e w8 ⟨rfl,hE8⟩
 refine ⟨.ptr ⟨fl (q),0,none⟩,[],HL f (.p 1 0) q cv n fl++HC kv,rfl,hs3.kq hE8,fun hW8=>?_⟩
 refine ga0 (bs:=[lb,nb,cb,kb]) 200 ⟨[330],2,[],[],0⟩ hW8 (hF3.call (nw:=[]) hE8) fun w9 hF9 hW9=>?_
 have hs9:=hW9.sq (HL f (.p 1 0) q cv n fl++HC kv)
 exact gt (.ptr ⟨fl (q),0,none⟩) hW9.sat ⟨rfl,hF9.kept,(hs9.sub [0,1] (by decide) (by simp) rfl ⟨hs9.mem 0 _ rfl,blk_any (hs9.mem 1 _ rfl) (by kernel_rfl),trivial⟩)⟩
theorem c266_f [Bd] (f:Nat→Value) (nv:V1) (pos:Int) (cv:V1) (n:Nat) (hn1:1≤n) (hn:n≤10) (fl:Nat→Nat) (fm:Nat→FM) (sm lg:Nat→List UInt8) (kv:V1) (key:List UInt8) (q:Nat) (hq:q=n) (lb nb:Nat) (w:World) (hs:Sat [lb,nb] (HL f (o1 nv) pos cv n fl) w)
  (hfa:FilesAt w n fl fm sm lg) (hk:RdS w kv.1 key) (hth: ∀ i,i < n→(q≤i↔Lib.compareBytes (lg i) key≥0)):
  Calls Tryz.prog 266 #[.pointer (some ⟨lb,31,none⟩),fnv 65,kv.1] w fun e w'=>e=.returned (.pointer none)∧Kept [330] w w'∧Sat [lb,nb] (HL f (.p 1 0) q cv n fl) w':=by
 refine gs (bs:=[lb,nb]) [.p 0 31,.fn 65 [],o1 kv] _ Tryz.func266 hs (fun hW=>?_)
 refine go_runA 200 ⟨[330],2,[],[],0⟩ (by kernel_rfl) hW (Fr.refl _ _ _) rfl [] (by kernel_rfl) trivial ?_
 intro nw w1 hF1 hW1
 obtain ⟨cb,kb,rfl⟩:=nw2 (hW1.num 4 (by kernel_rfl)) rfl
 have hs1:=hW1.sq (HL f (o1 nv) pos cv n fl++HC kv)
 have hfa1:=hfa.kept hF1.kept
 have hk1:=hk.kept hF1.kept (by simp)
 have hcc:Sat [cb,kb] (HC kv) w1:=hs1.sub [2,3] (by decide) (by simp) rfl ⟨hs1.mem 2 _ rfl,hs1.mem 3 _ rfl,trivial⟩
 have hfn: ∀ i,i < n→ ∀ w',Kept [330] w1 w'→Calls Tryz.prog 270 (#[.pointer (some ⟨fl i,0,none⟩)]++ #[.pointer (some ⟨cb,0,none⟩),.pointer (some ⟨kb,0,none⟩)]) w' fun e w''=>e=.returned (.bool (decide (q≤i)))∧Ext w' w'':=fun i hi w' hk'=>by
  obtain ⟨q1,q2,q3,q4⟩:=(hfa1.kept hk') i hi
  have h2:Sat [cb,kb] (HC kv) w':=hcc.keep hk' (by kernel_rfl)
  have h3:=h2.add (b:=fl i) (by kernel_rfl) (h2.ne_ty (by kernel_rfl) q1) 188 (fmS (fm i)) (blk_any (bs:=[]) q1 (by kernel_rfl))
  rw [show decide (q≤i)=decide (Lib.compareBytes (lg i) key≥0) by simp only [hth i hi]]
  exact c270 cb kb (fl i) kv (fm i) key (lg i) w' (hk1.kept hk' (by simp)) q3 h3
 refine gc 269 [.p 0 31,.fn 270 [.p 2 0,.p 3 0]] hW1 ?_
 refine (c269_f f nv pos cv n hn fl 270 #[.pointer (some ⟨cb,0,none⟩),.pointer (some ⟨kb,0,none⟩)] (by kernel_rfl) q (by omega) lb nb w1 (hs1.sub [0,1] (by decide) (by simp) rfl ⟨hs1.mem 0 _ rfl,blk_any (hs1.mem 1 _ rfl) (by kernel_rfl),trivial⟩) hfn).mono ?_
 rintro e w2 ⟨rfl,hK2,hs2⟩
 have hs2':Sat [lb,nb,cb,kb] (HL f (.p 1 0) q cv n fl++HC kv) w2:=hs1.re rfl ⟨hs2.mem 0 _ rfl,blk_any (hs2.mem 1 _ rfl) (by kernel_rfl),hs1.kp hK2 2 _ rfl rfl,hs1.kp hK2 3 _ rfl rfl,trivial⟩
 refine ⟨.np,[],HL f (.p 1 0) q cv n fl++HC kv,rfl,hs2',fun hW2=>?_⟩
 refine ga0 (bs:=[lb,nb,cb,kb]) 200 ⟨[330],2,[],[],0⟩ hW2 (hF1.call (nw:=[]) hK2) fun w3 hF3 hW3=>?_
 have hs3:=hW3.sq (HL f (.p 1 0) q cv n fl++HC kv)
 refine gc 136 [.p 0 31,.np] hW3 ?_
 refine (c136_n f q cv n fl lb nb w3 (hs3.sub [0,1] (by decide) (by simp) rfl ⟨hs3.mem 0 _ rfl,blk_any (hs3.mem 1 _ rfl) (by kernel_rfl),trivial⟩)).mono ?_
 rintro e w8 ⟨rfl,hE8⟩
 refine ⟨.np,[],HL f (.p 1 0) q cv n fl++HC kv,rfl,hs3.kq hE8,fun hW8=>?_⟩
 refine ga0 (bs:=[lb,nb,cb,kb]) 200 ⟨[330],2,[],[],0⟩ hW8 (hF3.call (nw:=[]) hE8) fun w9 hF9 hW9=>?_
 have hs9:=hW9.sq (HL f (.p 1 0) q cv n fl++HC kv)
 exact gt (.np) hW9.sat ⟨rfl,hF9.kept,(hs9.sub [0,1] (by decide) (by simp) rfl ⟨hs9.mem 0 _ rfl,blk_any (hs9.mem 1 _ rfl) (by kernel_rfl),trivial⟩)⟩
theorem c267_t [Bd] (f:Nat→Value) (nv:V1) (pos:Int) (cv:V1) (n:Nat) (hn1:1≤n) (hn:n≤10) (fl:Nat→Nat) (fm:Nat→FM) (sm lg:Nat→List UInt8) (kv:V1) (key:List UInt8) (q:Nat) (hq0:1≤q) (hq:q < n) (lb nb:Nat) (w:World) (hs:Sat [lb,nb] (HL f (o1 nv) pos cv n fl) w)
  (hfa:FilesAt w n fl fm sm lg) (hk:RdS w kv.1 key) (hth: ∀ i,i < n→(q≤i↔Lib.compareBytes (sm i) key≥0)):
  Calls Tryz.prog 267 #[.pointer (some ⟨lb,31,none⟩),fnv 65,kv.1] w fun e w'=>e=.returned (.pointer (some ⟨fl (q - 1),0,none⟩))∧Kept [330] w w'∧Sat [lb,nb] (HL f (.p 1 0) ((q:Int) - 1) cv n fl) w':=by
 refine gs (bs:=[lb,nb]) [.p 0 31,.fn 65 [],o1 kv] _ Tryz.func267 hs (fun hW=>?_)
 refine go_runA 200 ⟨[330],2,[],[],0⟩ (by kernel_rfl) hW (Fr.refl _ _ _) rfl [] (by kernel_rfl) trivial ?_
 intro nw w1 hF1 hW1
 obtain ⟨cb,kb,rfl⟩:=nw2 (hW1.num 4 (by kernel_rfl)) rfl
 have hs1:=hW1.sq (HL f (o1 nv) pos cv n fl++HC kv)
 have hfa1:=hfa.kept hF1.kept
 have hk1:=hk.kept hF1.kept (by simp)
 have hcc:Sat [cb,kb] (HC kv) w1:=hs1.sub [2,3] (by decide) (by simp) rfl ⟨hs1.mem 2 _ rfl,hs1.mem 3 _ rfl,trivial⟩
 have hfn: ∀ i,i < n→ ∀ w',Kept [330] w1 w'→Calls Tryz.prog 272 (#[.pointer (some ⟨fl i,0,none⟩)]++ #[.pointer (some ⟨cb,0,none⟩),.pointer (some ⟨kb,0,none⟩)]) w' fun e w''=>e=.returned (.bool (decide (q≤i)))∧Ext w' w'':=fun i hi w' hk'=>by
  obtain ⟨q1,q2,q3,q4⟩:=(hfa1.kept hk') i hi
  have h2:Sat [cb,kb] (HC kv) w':=hcc.keep hk' (by kernel_rfl)
  have h3:=h2.add (b:=fl i) (by kernel_rfl) (h2.ne_ty (by kernel_rfl) q1) 188 (fmS (fm i)) (blk_any (bs:=[]) q1 (by kernel_rfl))
  rw [show decide (q≤i)=decide (Lib.compareBytes (sm i) key≥0) by simp only [hth i hi]]
  exact c272 cb kb (fl i) kv (fm i) key (sm i) w' (hk1.kept hk' (by simp)) q2 h3
 refine gc 269 [.p 0 31,.fn 272 [.p 2 0,.p 3 0]] hW1 ?_
 refine (c269_t f nv pos cv n hn fl 272 #[.pointer (some ⟨cb,0,none⟩),.pointer (some ⟨kb,0,none⟩)] (by kernel_rfl) q (by omega) lb nb w1 (hs1.sub [0,1] (by decide) (by simp) rfl ⟨hs1.mem 0 _ rfl,blk_any (hs1.mem 1 _ rfl) (by kernel_rfl),trivial⟩) hfn).mono ?_
 rintro e w2 ⟨rfl,hK2,hs2⟩
 have hs2':Sat [lb,nb,cb,kb] (HL f (.p 1 0) q cv n fl++HC kv) w2:=hs1.re rfl ⟨hs2.mem 0 _ rfl,blk_any (hs2.mem 1 _ rfl) (by kernel_rfl),hs1.kp hK2 2 _ rfl rfl,hs1.kp hK2 3 _ rfl rfl,trivial⟩
 refine ⟨.ptr ⟨fl q,0,none⟩,[],HL f (.p 1 0) q cv n fl++HC kv,rfl,hs2',fun hW2=>?_⟩
 refine ga0 (bs:=[lb,nb,cb,kb]) 200 ⟨[330],2,[],[],0⟩ hW2 (hF1.call (nw:=[]) hK2) fun w3 hF3 hW3=>?_
 have hs3:=hW3.sq (HL f (.p 1 0) q cv n fl++HC kv)
 refine gc 255 [.p 0 31] hW3 ?_
 refine (c255_t f q (q - 1) cv n hn1 hn (by omega) (by omega) fl lb nb w3 (hs3.sub [0,1] (by decide) (by simp) rfl ⟨hs3.mem 0 _ rfl,blk_any (hs3.mem 1 _ rfl) (by kernel_rfl),trivial⟩)).mono ?_
 rintro e w4 ⟨rfl,hK4,hs4⟩
 rw [show ((q - 1:Nat):Int)=(q:Int) - 1 by omega] at hs4
 have hs4':Sat [lb,nb,cb,kb] (HL f (.p 1 0) ((q:Int) - 1) cv n fl++HC kv) w4:=hs3.re rfl ⟨hs4.mem 0 _ rfl,blk_any (hs4.mem 1 _ rfl) (by kernel_rfl),hs3.kp hK4 2 _ rfl rfl,hs3.kp hK4 3 _ rfl rfl,trivial⟩
 refine ⟨.ptr ⟨fl (q - 1),0,none⟩,[],HL f (.p 1 0) ((q:Int) - 1) cv n fl++HC kv,rfl,hs4',fun hW4=>?_⟩
 refine ga0 (bs:=[lb,nb,cb,kb]) 200 ⟨[330],2,[],[],0⟩ hW4 (hF3.call (nw:=[]) hK4) fun w5 hF5 hW5=>?_
 have hs5:=hW5.satD (HL f (.p 1 0) ((q:Int) - 1) cv n fl++HC kv) (by kernel_rfl)
 refine gc 263 [.p 0 31,.ptr ⟨fl (q - 1),0,none⟩] hW5 ?_
 refine (c263 f ((q:Int) - 1) cv n fl lb nb ⟨fl (q - 1),0,none⟩ w5 (hs5.sub [0,1] (by decide) (by simp) rfl ⟨hs5.mem 0 _ rfl,blk_any (hs5.mem 1 _ rfl) (by kernel_rfl),trivial⟩)).mono ?_
 rintro e w8 ⟨rfl,hE8⟩
 refine ⟨.ptr ⟨fl (q - 1),0,none⟩,[],HL f (.p 1 0) ((q:Int) - 1) cv n fl++HC kv,rfl,hs5.kq hE8,fun hW8=>?_⟩
 refine ga0 (bs:=[lb,nb,cb,kb]) 200 ⟨[330],2,[],[],0⟩ hW8 (hF5.call (nw:=[]) hE8) fun w9 hF9 hW9=>?_
 have hs9:=hW9.satD (HL f (.p 1 0) ((q:Int) - 1) cv n fl++HC kv) (by kernel_rfl)
 exact gt (.ptr ⟨fl (q - 1),0,none⟩) hW9.sat ⟨rfl,hF9.kept,(hs9.sub [0,1] (by decide) (by simp) rfl ⟨hs9.mem 0 _ rfl,blk_any (hs9.mem 1 _ rfl) (by kernel_rfl),trivial⟩)⟩
theorem c267_e [Bd] (f:Nat→Value) (nv:V1) (pos:Int) (cv:V1) (n:Nat) (hn1:1≤n) (hn:n≤10) (fl:Nat→Nat) (fm:Nat→FM) (sm lg:Nat→List UInt8) (kv:V1) (key:List UInt8) (q:Nat) (hq0:1≤q) (hq:q=n) (lb nb:Nat) (w:World) (hs:Sat [lb,nb] (HL f (o1 nv) pos cv n fl) w)
  (hfa:FilesAt w n fl fm sm lg) (hk:RdS w kv.1 key) (hth: ∀ i,i < n→(q≤i↔Lib.compareBytes (sm i) key≥0)):
  Calls Tryz.prog 267 #[.pointer (some ⟨lb,31,none⟩),fnv 65,kv.1] w fun e w'=>e=.returned (.pointer (some ⟨fl (q - 1),0,none⟩))∧Kept [330] w w'∧Sat [lb,nb] (HL f (.p 1 0) ((q:Int) - 1) cv n fl) w':=by
 refine gs (bs:=[lb,nb]) [.p 0 31,.fn 65 [],o1 kv] _ Tryz.func267 hs (fun hW=>?_)
 refine go_runA 200 ⟨[330],2,[],[],0⟩ (by kernel_rfl) hW (Fr.refl _ _ _) rfl [] (by kernel_rfl) trivial ?_
 intro nw w1 hF1 hW1
 obtain ⟨cb,kb,rfl⟩:=nw2 (hW1.num 4 (by kernel_rfl)) rfl
 have hs1:=hW1.sq (HL f (o1 nv) pos cv n fl++HC kv)
 have hfa1:=hfa.kept hF1.kept
 have hk1:=hk.kept hF1.kept (by simp)
 have hcc:Sat [cb,kb] (HC kv) w1:=hs1.sub [2,3] (by decide) (by simp) rfl ⟨hs1.mem 2 _ rfl,hs1.mem 3 _ rfl,trivial⟩
 have hfn: ∀ i,i < n→ ∀ w',Kept [330] w1 w'→Calls Tryz.prog 272 (#[.pointer (some ⟨fl i,0,none⟩)]++ #[.pointer (some ⟨cb,0,none⟩),.pointer (some ⟨kb,0,none⟩)]) w' fun e w''=>e=.returned (.bool (decide (q≤i)))∧Ext w' w'':=fun i hi w' hk'=>by
  obtain ⟨q1,q2,q3,q4⟩:=(hfa1.kept hk') i hi
  have h2:Sat [cb,kb] (HC kv) w':=hcc.keep hk' (by kernel_rfl)
  have h3:=h2.add (b:=fl i) (by kernel_rfl) (h2.ne_ty (by kernel_rfl) q1) 188 (fmS (fm i)) (blk_any (bs:=[]) q1 (by kernel_rfl))
  rw [show decide (q≤i)=decide (Lib.compareBytes (sm i) key≥0) by simp only [hth i hi]]
  exact c272 cb kb (fl i) kv (fm i) key (sm i) w' (hk1.kept hk' (by simp)) q2 h3
 refine gc 269 [.p 0 31,.fn 272 [.p 2 0,.p 3 0]] hW1 ?_
 refine (c269_f f nv pos cv n hn fl 272 #[.pointer (some ⟨cb,0,none⟩),.pointer (some ⟨kb,0,none⟩)] (by kernel_rfl) q (by omega) lb nb w1 (hs1.sub [0,1] (by decide) (by simp) rfl ⟨hs1.mem 0 _ rfl,blk_any (hs1.mem 1 _ rfl) (by kernel_rfl),trivial⟩) hfn).mono ?_
 rintro e w2 ⟨rfl,hK2,hs2⟩
 have hs2':Sat [lb,nb,cb,kb] (HL f (.p 1 0) q cv n fl++HC kv) w2:=hs1.re rfl ⟨hs2.mem 0 _ rfl,blk_any (hs2.mem 1 _ rfl) (by kernel_rfl),hs1.kp hK2 2 _ rfl rfl,hs1.kp hK2 3 _ rfl rfl,trivial⟩
 refine ⟨.np,[],HL f (.p 1 0) q cv n fl++HC kv,rfl,hs2',fun hW2=>?_⟩
 refine ga0 (bs:=[lb,nb,cb,kb]) 200 ⟨[330],2,[],[],0⟩ hW2 (hF1.call (nw:=[]) hK2) fun w3 hF3 hW3=>?_
 have hs3:=hW3.sq (HL f (.p 1 0) q cv n fl++HC kv)
 refine gc 255 [.p 0 31] hW3 ?_
 refine (c255_t f q (q - 1) cv n hn1 hn (by omega) (by omega) fl lb nb w3 (hs3.sub [0,1] (by decide) (by simp) rfl ⟨hs3.mem 0 _ rfl,blk_any (hs3.mem 1 _ rfl) (by kernel_rfl),trivial⟩)).mono ?_
 rintro e w4 ⟨rfl,hK4,hs4⟩
 rw [show ((q - 1:Nat):Int)=(q:Int) - 1 by omega] at hs4
 have hs4':Sat [lb,nb,cb,kb] (HL f (.p 1 0) ((q:Int) - 1) cv n fl++HC kv) w4:=hs3.re rfl ⟨hs4.mem 0 _ rfl,blk_any (hs4.mem 1 _ rfl) (by kernel_rfl),hs3.kp hK4 2 _ rfl rfl,hs3.kp hK4 3 _ rfl rfl,trivial⟩
 refine ⟨.ptr ⟨fl (q - 1),0,none⟩,[],HL f (.p 1 0) ((q:Int) - 1) cv n fl++HC kv,rfl,hs4',fun hW4=>?_⟩
 refine ga0 (bs:=[lb,nb,cb,kb]) 200 ⟨[330],2,[],[],0⟩ hW4 (hF3.call (nw:=[]) hK4) fun w5 hF5 hW5=>?_
 have hs5:=hW5.satD (HL f (.p 1 0) ((q:Int) - 1) cv n fl++HC kv) (by kernel_rfl)
 refine gc 263 [.p 0 31,.ptr ⟨fl (q - 1),0,none⟩] hW5 ?_
 refine (c263 f ((q:Int) - 1) cv n fl lb nb ⟨fl (q - 1),0,none⟩ w5 (hs5.sub [0,1] (by decide) (by simp) rfl ⟨hs5.mem 0 _ rfl,blk_any (hs5.mem 1 _ rfl) (by kernel_rfl),trivial⟩)).mono ?_
 rintro e w8 ⟨rfl,hE8⟩
 refine ⟨.ptr ⟨fl (q - 1),0,none⟩,[],HL f (.p 1 0) ((q:Int) - 1) cv n fl++HC kv,rfl,hs5.kq hE8,fun hW8=>?_⟩
 refine ga0 (bs:=[lb,nb,cb,kb]) 200 ⟨[330],2,[],[],0⟩ hW8 (hF5.call (nw:=[]) hE8) fun w9 hF9 hW9=>?_
 have hs9:=hW9.satD (HL f (.p 1 0) ((q:Int) - 1) cv n fl++HC kv) (by kernel_rfl)
 exact gt (.ptr ⟨fl (q - 1),0,none⟩) hW9.sat ⟨rfl,hF9.kept,(hs9.sub [0,1] (by decide) (by simp) rfl ⟨hs9.mem 0 _ rfl,blk_any (hs9.mem 1 _ rfl) (by kernel_rfl),trivial⟩)⟩
theorem c267_f [Bd] (f:Nat→Value) (nv:V1) (pos:Int) (cv:V1) (n:Nat) (hn1:1≤n) (hn:n≤10) (fl:Nat→Nat) (fm:Nat→FM) (sm lg:Nat→List UInt8) (kv:V1) (key:List UInt8) (q:Nat) (hq0:q=0) (lb nb:Nat) (w:World) (hs:Sat [lb,nb] (HL f (o1 nv) pos cv n fl) w)
  (hfa:FilesAt w n fl fm sm lg) (hk:RdS w kv.1 key) (hth: ∀ i,i < n→(q≤i↔Lib.compareBytes (sm i) key≥0)):
  Calls Tryz.prog 267 #[.pointer (some ⟨lb,31,none⟩),fnv 65,kv.1] w fun e w'=>e=.returned (.pointer none)∧Kept [330] w w'∧Sat [lb,nb] (HL f (.p 1 0) (-1) cv n fl) w':=by
 refine gs (bs:=[lb,nb]) [.p 0 31,.fn 65 [],o1 kv] _ Tryz.func267 hs (fun hW=>?_)
 refine go_runA 200 ⟨[330],2,[],[],0⟩ (by kernel_rfl) hW (Fr.refl _ _ _) rfl [] (by kernel_rfl) trivial ?_
 intro nw w1 hF1 hW1
 obtain ⟨cb,kb,rfl⟩:=nw2 (hW1.num 4 (by kernel_rfl)) rfl
 have hs1:=hW1.sq (HL f (o1 nv) pos cv n fl++HC kv)
 have hfa1:=hfa.kept hF1.kept
 have hk1:=hk.kept hF1.kept (by simp)
 have hcc:Sat [cb,kb] (HC kv) w1:=hs1.sub [2,3] (by decide) (by simp) rfl ⟨hs1.mem 2 _ rfl,hs1.mem 3 _ rfl,trivial⟩
 have hfn: ∀ i,i < n→ ∀ w',Kept [330] w1 w'→Calls Tryz.prog 272 (#[.pointer (some ⟨fl i,0,none⟩)]++ #[.pointer (some ⟨cb,0,none⟩),.pointer (some ⟨kb,0,none⟩)]) w' fun e w''=>e=.returned (.bool (decide (q≤i)))∧Ext w' w'':=fun i hi w' hk'=>by
  obtain ⟨q1,q2,q3,q4⟩:=(hfa1.kept hk') i hi
  have h2:Sat [cb,kb] (HC kv) w':=hcc.keep hk' (by kernel_rfl)
  have h3:=h2.add (b:=fl i) (by kernel_rfl) (h2.ne_ty (by kernel_rfl) q1) 188 (fmS (fm i)) (blk_any (bs:=[]) q1 (by kernel_rfl))
  rw [show decide (q≤i)=decide (Lib.compareBytes (sm i) key≥0) by simp only [hth i hi]]
  exact c272 cb kb (fl i) kv (fm i) key (sm i) w' (hk1.kept hk' (by simp)) q2 h3
 refine gc 269 [.p 0 31,.fn 272 [.p 2 0,.p 3 0]] hW1 ?_
 refine (c269_t f nv pos cv n hn fl 272 #[.pointer (some ⟨cb,0,none⟩),.pointer (some ⟨kb,0,none⟩)] (by kernel_rfl) q (by omega) lb nb w1 (hs1.sub [0,1] (by decide) (by simp) rfl ⟨hs1.mem 0 _ rfl,blk_any (hs1.mem 1 _ rfl) (by kernel_rfl),trivial⟩) hfn).mono ?_
 rintro e w2 ⟨rfl,hK2,hs2⟩
 have hs2':Sat [lb,nb,cb,kb] (HL f (.p 1 0) q cv n fl++HC kv) w2:=hs1.re rfl ⟨hs2.mem 0 _ rfl,blk_any (hs2.mem 1 _ rfl) (by kernel_rfl),hs1.kp hK2 2 _ rfl rfl,hs1.kp hK2 3 _ rfl rfl,trivial⟩
 refine ⟨.ptr ⟨fl q,0,none⟩,[],HL f (.p 1 0) q cv n fl++HC kv,rfl,hs2',fun hW2=>?_⟩
 refine ga0 (bs:=[lb,nb,cb,kb]) 200 ⟨[330],2,[],[],0⟩ hW2 (hF1.call (nw:=[]) hK2) fun w3 hF3 hW3=>?_
 have hs3:=hW3.sq (HL f (.p 1 0) q cv n fl++HC kv)
 refine gc 255 [.p 0 31] hW3 ?_
 refine (c255_f f cv n hn1 hn fl lb nb w3 (by subst hq0;exact (hs3.sub [0,1] (by decide) (by simp) rfl ⟨hs3.mem 0 _ rfl,blk_any (hs3.mem 1 _ rfl) (by kernel_rfl),trivial⟩))).mono ?_
 rintro e w4 ⟨rfl,hK4,hs4⟩
 skip
 have hs4':Sat [lb,nb,cb,kb] (HL f (.p 1 0) (-1) cv n fl++HC kv) w4:=hs3.re rfl ⟨hs4.mem 0 _ rfl,blk_any (hs4.mem 1 _ rfl) (by kernel_rfl),hs3.kp hK4 2 _ rfl rfl,hs3.kp hK4 3 _ rfl rfl,trivial⟩
 refine ⟨.np,[],HL f (.p 1 0) (-1) cv n fl++HC kv,rfl,hs4',fun hW4=>?_⟩
 refine ga0 (bs:=[lb,nb,cb,kb]) 200 ⟨[330],2,[],[],0⟩ hW4 (hF3.call (nw:=[]) hK4) fun w5 hF5 hW5=>?_
 have hs5:=hW5.sq (HL f (.p 1 0) (-1) cv n fl++HC kv)
 refine gc 263 [.p 0 31,.np] hW5 ?_
 refine (c263_n f (-1) cv n fl lb nb w5 (hs5.sub [0,1] (by decide) (by simp) rfl ⟨hs5.mem 0 _ rfl,blk_any (hs5.mem 1 _ rfl) (by kernel_rfl),trivial⟩)).mono ?_
 rintro e w8 ⟨rfl,hE8⟩
 refine ⟨.np,[],HL f (.p 1 0) (-1) cv n fl++HC kv,rfl,hs5.kq hE8,fun hW8=>?_⟩
 refine ga0 (bs:=[lb,nb,cb,kb]) 200 ⟨[330],2,[],[],0⟩ hW8 (hF5.call (nw:=[]) hE8) fun w9 hF9 hW9=>?_
 have hs9:=hW9.sq (HL f (.p 1 0) (-1) cv n fl++HC kv)
 exact gt (.np) hW9.sat ⟨rfl,hF9.kept,(hs9.sub [0,1] (by decide) (by simp) rfl ⟨hs9.mem 0 _ rfl,blk_any (hs9.mem 1 _ rfl) (by kernel_rfl),trivial⟩)⟩
def LC (f:Nat→Value) (lo up nf tl tu it fi n' pos cv:SV):List SV:=
 [.va (f 0),.fn 65 [],.va (f 2),lo,up,tl,tu,.va (f 7),.va (f 8),.va (f 9),.va (f 10),.va (f 11),.va (f 12),.va (f 13),.va (f 14),.va (f 15),.va (f 16),.va (f 17),.va (f 18),.va (f 19),.np,.np,.np,.va (f 23),.va (f 24),it,fi,.ni,nf,.np,.ni,.p 1 0,n',pos,cv,.np,.it .i16 0,.np,.it .i16 0,.np,.it .i16 0,.it .i16 0,.ns,.np,.np,.it .i8 0,.ni,.np,.va (f 48),.va (f 49),.va (f 50),.va (f 51)]
structure LvS where
 f:Nat→Value
 lo:V1
 up:V1
 nf:Addr
 cv:V1
 n:Nat
 fl:Nat→Nat
def HV (s:LvS) (tl tu:V1) (it fi n':SV) (pos:Int):List SB:=[⟨330,LC s.f (o1 s.lo) (o1 s.up) (.fn 89 [.ptr s.nf]) (o1 tl) (o1 tu) it fi n' (.si .i16 pos) (o1 s.cv)⟩,⟨360,nodeS s.n s.fl⟩]
noncomputable def LF (lb nb:Nat) (s:LvS) (tl tu:V1) (it fi:SV):Nat→Value:=fun i=>(SV.denL [lb,nb] (LC s.f (o1 s.lo) (o1 s.up) (.fn 89 [.ptr s.nf]) (o1 tl) (o1 tu) it fi .np (.it .i16 0) .nf)).getD i .nilFunc
theorem c206 [Bd] (p:Value) (w:World):Calls Tryz.prog 206 #[p] w fun e w'=>e=.returned .nilIface∧Ext w w':=by
 go_enter Tryz.func206,Tryz.ntmps206
 go_wp2
 go_ret
 exact ⟨rfl,by (repeat (first|exact Kept.refl _ _|apply Kept.ktr|apply Kept.kt0|apply Kept.alloc|apply Kept.drew|apply Kept.drewN))⟩
theorem c207 [Bd] (p:Value) (w:World):Calls Tryz.prog 207 #[p] w fun e w'=>e=.returned .nilIface∧Ext w w':=by
 go_enter Tryz.func207,Tryz.ntmps207
 go_wp2
 go_ret
 exact ⟨rfl,by (repeat (first|exact Kept.refl _ _|apply Kept.ktr|apply Kept.kt0|apply Kept.alloc|apply Kept.drew|apply Kept.drewN))⟩
theorem c238_n [Bd] (s:LvS) (tl tu fi nv:V1) (pos:Int) (lb nb:Nat) (w:World) (hs:Sat [lb,nb] (HV s tl tu .ni (o1 fi) (o1 nv) pos) w):
  Calls Tryz.prog 238 #[.pointer (some ⟨lb,0,none⟩)] w fun e w'=>e=.returned .nilIface∧Kept [330] w w'∧Sat [lb,nb] (HV s tl tu .ni (o1 fi) (o1 nv) pos) w':=by
 refine gs (bs:=[lb,nb]) [.p 0 0] _ Tryz.func238 hs (fun hW=>?_)
 refine ga0 200 ⟨[330],2,[],[],0⟩ hW (Fr.refl _ _ _) fun w1 hF1 hW1=>?_
 exact gt .ni hW1.sat ⟨rfl,hF1.kept,hW1.sq _⟩
theorem c238_t [Bd] (s:LvS) (tl tu:V1) (b:Nat) (fi nv:V1) (pos:Int) (lb nb:Nat) (w:World) (hs:Sat [lb,nb] (HV s tl tu (.ifc 155 (.ptr ⟨b,0,none⟩)) (o1 fi) (o1 nv) pos) w):
  Calls Tryz.prog 238 #[.pointer (some ⟨lb,0,none⟩)] w fun e w'=>e=.returned .nilIface∧Kept [330] w w'∧Sat [lb,nb] (HV s tl tu .ni (o1 fi) (o1 nv) pos) w':=by
 refine gs (bs:=[lb,nb]) [.p 0 0] _ Tryz.func238 hs (fun hW=>?_)
 refine ga0 200 ⟨[330],2,[],[],0⟩ hW (Fr.refl _ _ _) fun w1 hF1 hW1=>?_
 have hs1:=hW1.satD (HV s tl tu (.ifc 155 (.ptr ⟨b,0,none⟩)) (o1 fi) (o1 nv) pos) (by kernel_rfl)
 refine gc 206 [.ptr ⟨b,0,none⟩] hW1 ?_
 refine (c206 (.pointer (some ⟨b,0,none⟩)) w1).mono ?_
 rintro e w2 ⟨rfl,hE2⟩
 refine ⟨.ni,[],HV s tl tu (.ifc 155 (.ptr ⟨b,0,none⟩)) (o1 fi) (o1 nv) pos,rfl,hs1.kq hE2,fun hW2=>?_⟩
 refine ga0 (bs:=[lb,nb]) 200 ⟨[330],2,[],[],0⟩ hW2 (hF1.call (nw:=[]) hE2) fun w3 hF3 hW3=>?_
 exact gt .ni hW3.sat ⟨rfl,hF3.kept,hW3.sq _⟩
theorem c239_n [Bd] (s:LvS) (tl tu fi nv:V1) (pos:Int) (lb nb:Nat) (w:World) (hs:Sat [lb,nb] (HV s tl tu .ni (o1 fi) (o1 nv) pos) w):
  Calls Tryz.prog 239 #[.pointer (some ⟨lb,0,none⟩)] w fun e w'=>e=.returned .nilIface∧Ext w w':=by
 refine gs (bs:=[lb,nb]) [.p 0 0] _ Tryz.func239 hs (fun hW=>?_)
 refine go_runA 200 ⟨[],2,[],[],0⟩ (by kernel_rfl) hW (Fr.refl _ _ _) rfl [] (by kernel_rfl) trivial ?_
 intro nw w1 hF1 hW1
 exact gt .ni hW1.sat ⟨rfl,hF1.kept⟩
theorem c239_t [Bd] (s:LvS) (tl tu:V1) (b:Nat) (fi nv:V1) (pos:Int) (lb nb:Nat) (w:World) (hs:Sat [lb,nb] (HV s tl tu (.ifc 155 (.ptr ⟨b,0,none⟩)) (o1 fi) (o1 nv) pos) w):
  Calls Tryz.prog 239 #[.pointer (some ⟨lb,0,none⟩)] w fun e w'=>e=.returned .nilIface∧Ext w w':=by
 refine gs (bs:=[lb,nb]) [.p 0 0] _ Tryz.func239 hs (fun hW=>?_)
 refine ga0 200 ⟨[],2,[],[],0⟩ hW (Fr.refl _ _ _) fun w1 hF1 hW1=>?_
 have hs1:=hW1.satD (HV s tl tu (.ifc 155 (.ptr ⟨b,0,none⟩)) (o1 fi) (o1 nv) pos) (by kernel_rfl)
 refine gc 207 [.ptr ⟨b,0,none⟩] hW1 ?_
 refine (c207 (.pointer (some ⟨b,0,none⟩)) w1).mono ?_
 rintro e w2 ⟨rfl,hE2⟩
 refine ⟨.ni,[],HV s tl tu (.ifc 155 (.ptr ⟨b,0,none⟩)) (o1 fi) (o1 nv) pos,rfl,hs1.kq hE2,fun hW2=>?_⟩
 refine go_runA (bs:=[lb,nb]) 200 ⟨[],2,[],[],0⟩ (by kernel_rfl) hW2 (hF1.call (nw:=[]) hE2) rfl [] (by kernel_rfl) trivial ?_
 intro nw w3 hF3 hW3
 exact gt .ni hW3.sat ⟨rfl,hF3.kept⟩
end Go.Proofs.YtghppnklhbbffaaGreatDoor.X
