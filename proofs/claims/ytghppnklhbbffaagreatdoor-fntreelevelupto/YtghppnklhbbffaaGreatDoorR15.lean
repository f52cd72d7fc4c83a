/- Part 15 of the proof that laws.FnTreeLevel answers true, for arguments of small bulk. -/
import Derived.Test.YtghppnklhbbffaaGreatDoorR05
import Derived.Test.YtghppnklhbbffaaGreatDoorR14
set_option linter.all false
set_option maxHeartbeats 4000000
set_option maxRecDepth 100000
namespace Go.Proofs.YtghppnklhbbffaaGreatDoor.X
open Go Go.RowKit Go.Proofs.YtghppnklhbbffaaGreatDoor.TL
theorem c137_0 [Bd] (f:Nat→Value) (cv:V1) (n:Nat) (fl:Nat→Nat) (lb nb:Nat) (w:World) (hs:Sat [lb,nb] (HL f (.p 1 0) 0 cv n fl) w):
  Calls Tryz.prog 137 #[.pointer (some ⟨lb,31,none⟩)] w fun e w'=>e=.returned (itemV n (flA fl) 0)∧Ext w w':=by
 refine gs (bs:=[lb,nb]) [.p 0 31] [⟨330,LB f (.p 1 0) (.it .i16 0) (o1 cv)⟩,⟨360,nodeS n fl⟩] Tryz.func137 (hs.vals (by kernel_rfl)) (fun hW=>?_)
 refine ga0 200 ⟨[],2,[],[],0⟩ hW (Fr.refl _ _ _) fun w1 hF1 hW1=>?_
 exact gt (itemS n (flA fl) 0) hW1.sat ⟨rfl,hF1.kept⟩
theorem c137_1 [Bd] (f:Nat→Value) (cv:V1) (n:Nat) (fl:Nat→Nat) (lb nb:Nat) (w:World) (hs:Sat [lb,nb] (HL f (.p 1 0) 1 cv n fl) w):
  Calls Tryz.prog 137 #[.pointer (some ⟨lb,31,none⟩)] w fun e w'=>e=.returned (itemV n (flA fl) 1)∧Ext w w':=by
 refine gs (bs:=[lb,nb]) [.p 0 31] [⟨330,LB f (.p 1 0) (.it .i16 1) (o1 cv)⟩,⟨360,nodeS n fl⟩] Tryz.func137 (hs.vals (by kernel_rfl)) (fun hW=>?_)
 refine ga0 200 ⟨[],2,[],[],0⟩ hW (Fr.refl _ _ _) fun w1 hF1 hW1=>?_
 exact gt (itemS n (flA fl) 1) hW1.sat ⟨rfl,hF1.kept⟩
theorem c137_2 [Bd] (f:Nat→Value) (cv:V1) (n:Nat) (fl:Nat→Nat) (lb nb:Nat) (w:World) (hs:Sat [lb,nb] (HL f (.p 1 0) 2 cv n fl) w):
  Calls Tryz.prog 137 #[.pointer (some ⟨lb,31,none⟩)] w fun e w'=>e=.returned (itemV n (flA fl) 2)∧Ext w w':=by
 refine gs (bs:=[lb,nb]) [.p 0 31] [⟨330,LB f (.p 1 0) (.it .i16 2) (o1 cv)⟩,⟨360,nodeS n fl⟩] Tryz.func137 (hs.vals (by kernel_rfl)) (fun hW=>?_)
 refine ga0 200 ⟨[],2,[],[],0⟩ hW (Fr.refl _ _ _) fun w1 hF1 hW1=>?_
 exact gt (itemS n (flA fl) 2) hW1.sat ⟨rfl,hF1.kept⟩
theorem c137_3 [Bd] (f:Nat→Value) (cv:V1) (n:Nat) (fl:Nat→Nat) (lb nb:Nat) (w:World) (hs:Sat [lb,nb] (HL f (.p 1 0) 3 cv n fl) w):
  Calls Tryz.prog 137 #[.pointer (some ⟨lb,31,none⟩)] w fun e w'=>e=.returned (itemV n (flA fl) 3)∧Ext w w':=by
 refine gs (bs:=[lb,nb]) [.p 0 31] [⟨330,LB f (.p 1 0) (.it .i16 3) (o1 cv)⟩,⟨360,nodeS n fl⟩] Tryz.func137 (hs.vals (by kernel_rfl)) (fun hW=>?_)
 refine ga0 200 ⟨[],2,[],[],0⟩ hW (Fr.refl _ _ _) fun w1 hF1 hW1=>?_
 exact gt (itemS n (flA fl) 3) hW1.sat ⟨rfl,hF1.kept⟩
theorem c137_4 [Bd] (f:Nat→Value) (cv:V1) (n:Nat) (fl:Nat→Nat) (lb nb:Nat) (w:World) (hs:Sat [lb,nb] (HL f (.p 1 0) 4 cv n fl) w):
  Calls Tryz.prog 137 #[.pointer (some ⟨lb,31,none⟩)] w fun e w'=>e=.returned (itemV n (flA fl) 4)∧Ext w w':=by
 refine gs (bs:=[lb,nb]) [.p 0 31] [⟨330,LB f (.p 1 0) (.it .i16 4) (o1 cv)⟩,⟨360,nodeS n fl⟩] Tryz.func137 (hs.vals (by kernel_rfl)) (fun hW=>?_)
 refine ga0 200 ⟨[],2,[],[],0⟩ hW (Fr.refl _ _ _) fun w1 hF1 hW1=>?_
 exact gt (itemS n (flA fl) 4) hW1.sat ⟨rfl,hF1.kept⟩
theorem c137_5 [Bd] (f:Nat→Value) (cv:V1) (n:Nat) (fl:Nat→Nat) (lb nb:Nat) (w:World) (hs:Sat [lb,nb] (HL f (.p 1 0) 5 cv n fl) w):
  Calls Tryz.prog 137 #[.pointer (some ⟨lb,31,none⟩)] w fun e w'=>e=.returned (itemV n (flA fl) 5)∧Ext w w':=by
 refine gs (bs:=[lb,nb]) [.p 0 31] [⟨330,LB f (.p 1 0) (.it .i16 5) (o1 cv)⟩,⟨360,nodeS n fl⟩] Tryz.func137 (hs.vals (by kernel_rfl)) (fun hW=>?_)
 refine ga0 200 ⟨[],2,[],[],0⟩ hW (Fr.refl _ _ _) fun w1 hF1 hW1=>?_
 exact gt (itemS n (flA fl) 5) hW1.sat ⟨rfl,hF1.kept⟩
theorem c137_6 [Bd] (f:Nat→Value) (cv:V1) (n:Nat) (fl:Nat→Nat) (lb nb:Nat) (w:World) (hs:Sat [lb,nb] (HL f (.p 1 0) 6 cv n fl) w):
  Calls Tryz.prog 137 #[.pointer (some ⟨lb,31,none⟩)] w fun e w'=>e=.returned (itemV n (flA fl) 6)∧Ext w w':=by
 refine gs (bs:=[lb,nb]) [.p 0 31] [⟨330,LB f (.p 1 0) (.it .i16 6) (o1 cv)⟩,⟨360,nodeS n fl⟩] Tryz.func137 (hs.vals (by kernel_rfl)) (fun hW=>?_)
 refine ga0 200 ⟨[],2,[],[],0⟩ hW (Fr.refl _ _ _) fun w1 hF1 hW1=>?_
 exact gt (itemS n (flA fl) 6) hW1.sat ⟨rfl,hF1.kept⟩
theorem c137_7 [Bd] (f:Nat→Value) (cv:V1) (n:Nat) (fl:Nat→Nat) (lb nb:Nat) (w:World) (hs:Sat [lb,nb] (HL f (.p 1 0) 7 cv n fl) w):
  Calls Tryz.prog 137 #[.pointer (some ⟨lb,31,none⟩)] w fun e w'=>e=.returned (itemV n (flA fl) 7)∧Ext w w':=by
 refine gs (bs:=[lb,nb]) [.p 0 31] [⟨330,LB f (.p 1 0) (.it .i16 7) (o1 cv)⟩,⟨360,nodeS n fl⟩] Tryz.func137 (hs.vals (by kernel_rfl)) (fun hW=>?_)
 refine ga0 200 ⟨[],2,[],[],0⟩ hW (Fr.refl _ _ _) fun w1 hF1 hW1=>?_
 exact gt (itemS n (flA fl) 7) hW1.sat ⟨rfl,hF1.kept⟩
theorem c137_8 [Bd] (f:Nat→Value) (cv:V1) (n:Nat) (fl:Nat→Nat) (lb nb:Nat) (w:World) (hs:Sat [lb,nb] (HL f (.p 1 0) 8 cv n fl) w):
  Calls Tryz.prog 137 #[.pointer (some ⟨lb,31,none⟩)] w fun e w'=>e=.returned (itemV n (flA fl) 8)∧Ext w w':=by
 refine gs (bs:=[lb,nb]) [.p 0 31] [⟨330,LB f (.p 1 0) (.it .i16 8) (o1 cv)⟩,⟨360,nodeS n fl⟩] Tryz.func137 (hs.vals (by kernel_rfl)) (fun hW=>?_)
 refine ga0 200 ⟨[],2,[],[],0⟩ hW (Fr.refl _ _ _) fun w1 hF1 hW1=>?_
 exact gt (itemS n (flA fl) 8) hW1.sat ⟨rfl,hF1.kept⟩
theorem c137_9 [Bd] (f:Nat→Value) (cv:V1) (n:Nat) (fl:Nat→Nat) (lb nb:Nat) (w:World) (hs:Sat [lb,nb] (HL f (.p 1 0) 9 cv n fl) w):
  Calls Tryz.prog 137 #[.pointer (some ⟨lb,31,none⟩)] w fun e w'=>e=.returned (itemV n (flA fl) 9)∧Ext w w':=by
 refine gs (bs:=[lb,nb]) [.p 0 31] [⟨330,LB f (.p 1 0) (.it .i16 9) (o1 cv)⟩,⟨360,nodeS n fl⟩] Tryz.func137 (hs.vals (by kernel_rfl)) (fun hW=>?_)
 refine ga0 200 ⟨[],2,[],[],0⟩ hW (Fr.refl _ _ _) fun w1 hF1 hW1=>?_
 exact gt (itemS n (flA fl) 9) hW1.sat ⟨rfl,hF1.kept⟩
theorem c137 [Bd] (f:Nat→Value) (k:Nat) (cv:V1) (n:Nat) (hk:k < n) (hn:n≤10) (fl:Nat→Nat) (lb nb:Nat) (w:World) (hs:Sat [lb,nb] (HL f (.p 1 0) k cv n fl) w):
  Calls Tryz.prog 137 #[.pointer (some ⟨lb,31,none⟩)] w fun e w'=>e=.returned (.pointer (some ⟨fl k,0,none⟩))∧Ext w w':=by
 rw [←itemV_lt n fl k hk]
 have h:k=0∨k=1∨k=2∨k=3∨k=4∨k=5∨k=6∨k=7∨k=8∨k=9:=by omega
 rcases h with rfl|rfl|rfl|rfl|rfl|rfl|rfl|rfl|rfl|rfl
 ·exact c137_0 f cv n fl lb nb w hs
 ·exact c137_1 f cv n fl lb nb w hs
 ·exact c137_2 f cv n fl lb nb w hs
 ·exact c137_3 f cv n fl lb nb w hs
 ·exact c137_4 f cv n fl lb nb w hs
 ·exact c137_5 f cv n fl lb nb w hs
 ·exact c137_6 f cv n fl lb nb w hs
 ·exact c137_7 f cv n fl lb nb w hs
 ·exact c137_8 f cv n fl lb nb w hs
 ·exact c137_9 f cv n fl lb nb w hs
theorem c171 [Bd] (f:Nat→Value) (nv:V1) (pos:Int) (cv:V1) (n:Nat) (fl:Nat→Nat) (lb nb:Nat) (w:World) (hs:Sat [lb,nb] (HL f (o1 nv) pos cv n fl) w):
  Calls Tryz.prog 171 #[.pointer (some ⟨lb,35,none⟩)] w fun e w'=>e=.returned (.int .i64 0)∧Ext w w':=by
 refine gs (bs:=[lb,nb]) [.p 0 35] _ Tryz.func171 hs (fun hW=>?_)
 refine ga0 200 ⟨[],2,[],[],0⟩ hW (Fr.refl _ _ _) fun w1 hF1 hW1=>?_
 exact gt (.it .i64 0) hW1.sat ⟨rfl,hF1.kept⟩
theorem c139_a [Bd] (f:Nat→Value) (pos:Int) (cv:V1) (n:Nat) (hn:n≤10) (h0: -1≤pos) (h1:pos+1 < n) (fl:Nat→Nat) (lb nb:Nat) (w:World) (hs:Sat [lb,nb] (HL f (.p 1 0) pos cv n fl) w):
  Calls Tryz.prog 139 #[.pointer (some ⟨lb,31,none⟩)] w fun e w'=>e=.returned (.tuple #[])∧Kept [330] w w'∧Sat [lb,nb] (HL f (.p 1 0) (pos+1) cv n fl) w':=by
 have hw16:=wrap16 (pos+1)
 refine gs (bs:=[lb,nb]) [.p 0 31] _ Tryz.func139 hs (fun hW=>?_)
 refine ga0 200 ⟨[330],2,[],[(27,true),(47,true)],1⟩ hW (Fr.refl _ _ _) (fun w5 hF5 hW5=>?_) [(decide (pos < n),true),(decide (IntKind.i16.wrap (pos+1) < n),true)] ⟨by simp;omega,by simp [hw16 (by omega) (by omega)];omega,trivial⟩
 have hs5:=hW5.satD (HL f (.p 1 0) (IntKind.i16.wrap (pos+1)) cv n fl) (by kernel_rfl)
 rw [hw16 (by omega) (by omega)] at hs5
 exact gt (.tup []) hW5.sat ⟨rfl,hF5.kept,hs5⟩
theorem c139_b [Bd] (f:Nat→Value) (pos:Int) (cv:V1) (n:Nat) (hn:n≤10) (h0: -1≤pos) (h1:pos+1=n) (fl:Nat→Nat) (lb nb:Nat) (w:World) (hs:Sat [lb,nb] (HL f (.p 1 0) pos cv n fl) w):
  Calls Tryz.prog 139 #[.pointer (some ⟨lb,31,none⟩)] w fun e w'=>e=.returned (.tuple #[])∧Kept [330] w w'∧Sat [lb,nb] (HL f (.p 1 0) (pos+1) cv n fl) w':=by
 have hw16:=wrap16 (pos+1)
 refine gs (bs:=[lb,nb]) [.p 0 31] _ Tryz.func139 hs (fun hW=>?_)
 refine ga0 200 ⟨[330],2,[],[(27,true),(47,false)],1⟩ hW (Fr.refl _ _ _) (fun w5 hF5 hW5=>?_) [(decide (pos < n),true),(decide (IntKind.i16.wrap (pos+1) < n),false)] ⟨by simp;omega,by simp [hw16 (by omega) (by omega)];omega,trivial⟩
 refine gd [] [] hW5 (fun hW6=>?_)
 refine ga0 (bs:=[lb,nb]) 200 ⟨[330],2,[],[],1⟩ hW6 hF5.drew fun w7 hF7 hW7=>?_
 have hs7:=hW7.satD (HL f (.p 1 0) (IntKind.i16.wrap (pos+1)) cv n fl) (by kernel_rfl)
 refine gcd 171 [.p 0 35] [] w5.drew hW7 (fun hC=>?_)
 refine (c171 f (nbV nb) (IntKind.i16.wrap (pos+1)) cv n fl lb nb w7 (hs7.vals (by kernel_rfl))).mono ?_
 rintro e w8 ⟨rfl,hE8⟩
 have hs8:Sat [lb,nb] (HL f (.p 1 0) (IntKind.i16.wrap (pos+1)) cv n fl) w8:=hs7.kq hE8
 refine ⟨.it .i64 0,[],_,rfl,hs8,hC.trans hE8,fun hW8=>?_⟩
 refine ga0 (bs:=[lb,nb]) 200 ⟨[330],2,[],[],1⟩ hW8 (hF7.call (nw:=[]) hE8) fun w9 hF9 hW9=>?_
 have hs9:=hW9.satD (HL f (.p 1 0) (IntKind.i16.wrap (pos+1)) cv n fl) (by kernel_rfl)
 rw [hw16 (by omega) (by omega)] at hs9
 exact gt (.tup []) hW9.sat ⟨rfl,hF9.kept,hs9⟩
theorem c139_c [Bd] (f:Nat→Value) (pos:Int) (cv:V1) (n:Nat) (hn:n≤10) (h0: -1≤pos) (h1:pos=n) (fl:Nat→Nat) (lb nb:Nat) (w:World) (hs:Sat [lb,nb] (HL f (.p 1 0) pos cv n fl) w):
  Calls Tryz.prog 139 #[.pointer (some ⟨lb,31,none⟩)] w fun e w'=>e=.returned (.tuple #[])∧Kept [330] w w'∧Sat [lb,nb] (HL f (.p 1 0) pos cv n fl) w':=by
 have hw16:=wrap16 (pos+1)
 refine gs (bs:=[lb,nb]) [.p 0 31] _ Tryz.func139 hs (fun hW=>?_)
 refine ga0 200 ⟨[330],2,[],[(27,false),(47,false)],1⟩ hW (Fr.refl _ _ _) (fun w5 hF5 hW5=>?_) [(decide (pos < n),false),(decide (pos < n),false)] ⟨by simp;omega,by simp;omega,trivial⟩
 refine gd [] [] hW5 (fun hW6=>?_)
 refine ga0 (bs:=[lb,nb]) 200 ⟨[330],2,[],[],1⟩ hW6 hF5.drew fun w7 hF7 hW7=>?_
 have hs7:=hW7.sq (HL f (.p 1 0) pos cv n fl)
 refine gcd 171 [.p 0 35] [] w5.drew hW7 (fun hC=>?_)
 refine (c171 f (nbV nb) pos cv n fl lb nb w7 (hs7.vals (by kernel_rfl))).mono ?_
 rintro e w8 ⟨rfl,hE8⟩
 have hs8:Sat [lb,nb] (HL f (.p 1 0) pos cv n fl) w8:=hs7.kq hE8
 refine ⟨.it .i64 0,[],_,rfl,hs8,hC.trans hE8,fun hW8=>?_⟩
 refine ga0 (bs:=[lb,nb]) 200 ⟨[330],2,[],[],1⟩ hW8 (hF7.call (nw:=[]) hE8) fun w9 hF9 hW9=>?_
 have hs9:=hW9.sq (HL f (.p 1 0) pos cv n fl)
 skip
 exact gt (.tup []) hW9.sat ⟨rfl,hF9.kept,hs9⟩
def nextP (pos:Int) (n:Nat):Int:=if pos < n then pos+1 else pos
theorem c139 [Bd] (f:Nat→Value) (pos:Int) (cv:V1) (n:Nat) (hn:n≤10) (h0: -1≤pos) (h1:pos≤n) (fl:Nat→Nat) (lb nb:Nat) (w:World) (hs:Sat [lb,nb] (HL f (.p 1 0) pos cv n fl) w):
  Calls Tryz.prog 139 #[.pointer (some ⟨lb,31,none⟩)] w fun e w'=>e=.returned (.tuple #[])∧Kept [330] w w'∧Sat [lb,nb] (HL f (.p 1 0) (nextP pos n) cv n fl) w':=by
 unfold nextP
 by_cases h2:pos+1 < n
 ·rw [if_pos (by omega)];exact c139_a f pos cv n hn h0 h2 fl lb nb w hs
 ·by_cases h3:pos+1=n
  ·rw [if_pos (by omega)];exact c139_b f pos cv n hn h0 h3 fl lb nb w hs
  ·rw [if_neg (by omega)];exact c139_c f pos cv n hn h0 (by omega) fl lb nb w hs
theorem c264_a [Bd] (f:Nat→Value) (pos:Int) (cv:V1) (n:Nat) (hn:n≤10) (h0:1≤pos) (h2:pos≤n) (fl:Nat→Nat) (lb nb:Nat) (w:World) (hs:Sat [lb,nb] (HL f (.p 1 0) pos cv n fl) w):
  Calls Tryz.prog 264 #[.pointer (some ⟨lb,31,none⟩)] w fun e w'=>e=.returned (.tuple #[])∧Kept [330] w w'∧Sat [lb,nb] (HL f (.p 1 0) (pos - 1) cv n fl) w':=by
 have hw16:=wrap16 (pos - 1) (by omega) (by omega)
 refine gs (bs:=[lb,nb]) [.p 0 31] _ Tryz.func264 hs (fun hW=>?_)
 refine ga0 200 ⟨[330],2,[],[(26,true)],1⟩ hW (Fr.refl _ _ _) (fun w1 hF1 hW1=>?_) [(decide (IntKind.i16.wrap (pos - 1)≥0),true)] ⟨by simp [hw16];omega,trivial⟩
 have hs1:=hW1.satD (HL f (.p 1 0) (IntKind.i16.wrap (pos - 1)) cv n fl) (by kernel_rfl)
 rw [hw16] at hs1
 exact gt (.tup []) hW1.sat ⟨rfl,hF1.kept,hs1⟩
theorem c264_b [Bd] (f:Nat→Value) (pos:Int) (cv:V1) (n:Nat) (hn:n≤10) (h0:0=pos) (h2:pos≤n) (fl:Nat→Nat) (lb nb:Nat) (w:World) (hs:Sat [lb,nb] (HL f (.p 1 0) pos cv n fl) w):
  Calls Tryz.prog 264 #[.pointer (some ⟨lb,31,none⟩)] w fun e w'=>e=.returned (.tuple #[])∧Kept [330] w w'∧Sat [lb,nb] (HL f (.p 1 0) (pos - 1) cv n fl) w':=by
 have hw16:=wrap16 (pos - 1) (by omega) (by omega)
 refine gs (bs:=[lb,nb]) [.p 0 31] _ Tryz.func264 hs (fun hW=>?_)
 refine ga0 200 ⟨[330],2,[],[(26,false)],1⟩ hW (Fr.refl _ _ _) (fun w1 hF1 hW1=>?_) [(decide (IntKind.i16.wrap (pos - 1)≥0),false)] ⟨by simp [hw16];omega,trivial⟩
 have hs1:=hW1.satD (HL f (.p 1 0) (IntKind.i16.wrap (pos - 1)) cv n fl) (by kernel_rfl)
 refine gc 171 [.p 0 35] hW1 ?_
 refine (c171 f (nbV nb) (IntKind.i16.wrap (pos - 1)) cv n fl lb nb w1 (hs1.vals (by kernel_rfl))).mono ?_
 rintro e w8 ⟨rfl,hE8⟩
 have hs8:Sat [lb,nb] (HL f (.p 1 0) (IntKind.i16.wrap (pos - 1)) cv n fl) w8:=hs1.kq hE8
 refine ⟨.it .i64 0,[],_,rfl,hs8,fun hW8=>?_⟩
 refine ga0 (bs:=[lb,nb]) 200 ⟨[330],2,[],[],1⟩ hW8 (hF1.call (nw:=[]) hE8) fun w9 hF9 hW9=>?_
 have hs9:=hW9.satD (HL f (.p 1 0) (IntKind.i16.wrap (pos - 1)) cv n fl) (by kernel_rfl)
 rw [hw16] at hs9
 exact gt (.tup []) hW9.sat ⟨rfl,hF9.kept,hs9⟩
theorem c264 [Bd] (f:Nat→Value) (pos:Int) (cv:V1) (n:Nat) (hn:n≤10) (h0:0≤pos) (h2:pos≤n) (fl:Nat→Nat) (lb nb:Nat) (w:World) (hs:Sat [lb,nb] (HL f (.p 1 0) pos cv n fl) w):
  Calls Tryz.prog 264 #[.pointer (some ⟨lb,31,none⟩)] w fun e w'=>e=.returned (.tuple #[])∧Kept [330] w w'∧Sat [lb,nb] (HL f (.p 1 0) (pos - 1) cv n fl) w':=by
 by_cases h1:1≤pos
 ·exact c264_a f pos cv n hn h1 h2 fl lb nb w hs
 ·exact c264_b f pos cv n hn (by omega) h2 fl lb nb w hs
theorem c169 [Bd] (v:V1) (w:World) (hB0:autoParam (Bd.B≤w.heap.size) sz0._auto_1):Calls Tryz.prog 169 #[v.1,.int .i8 0] w fun e w'=>e=.returned (.bool true)∧Ext w w':=by
 refine gs (bs:=[]) [o1 v,.it .i8 0] _ Tryz.func169 (sat0 w) (fun hW=>?_)
 refine ga0 200 ⟨[],0,[],[],0⟩ hW (Fr.refl _ _ _) fun w1 hF1 hW1=>?_
 exact gt (.bl true) hW1.sat ⟨rfl,hF1.kept⟩
theorem c136_n [Bd] (f:Nat→Value) (pos:Int) (cv:V1) (n:Nat) (fl:Nat→Nat) (lb nb:Nat) (w:World) (hs:Sat [lb,nb] (HL f (.p 1 0) pos cv n fl) w):
  Calls Tryz.prog 136 #[.pointer (some ⟨lb,31,none⟩),.pointer none] w fun e w'=>e=.returned (.pointer none)∧Ext w w':=by
 refine gs (bs:=[lb,nb]) [.p 0 31,.np] _ Tryz.func136 hs (fun hW=>?_)
 refine go_runA 200 ⟨[],2,[],[],1⟩ (by kernel_rfl) hW (Fr.refl _ _ _) rfl [] (by kernel_rfl) trivial ?_
 intro nw w1 hF1 hW1
 exact gt .np hW1.sat ⟨rfl,hF1.kept⟩
theorem c136 [Bd] (f:Nat→Value) (pos:Int) (cv:V1) (n:Nat) (fl:Nat→Nat) (lb nb:Nat) (a:Addr) (w:World) (hs:Sat [lb,nb] (HL f (.p 1 0) pos cv n fl) w):
  Calls Tryz.prog 136 #[.pointer (some ⟨lb,31,none⟩),.pointer (some a)] w fun e w'=>e=.returned (.pointer (some a))∧Ext w w':=by
 refine gs (bs:=[lb,nb]) [.p 0 31,.ptr a] _ Tryz.func136 hs (fun hW=>?_)
 refine ga0 200 ⟨[],2,[],[],1⟩ hW (Fr.refl _ _ _) fun w1 hF1 hW1=>?_
 have hs1:=hW1.sq (HL f (.p 1 0) pos cv n fl)
 refine gc 169 [.ptr a,.it .i8 0] hW1 ?_
 refine (c169 ⟨.pointer (some a),rfl⟩ w1).mono ?_
 rintro e w2 ⟨rfl,hE2⟩
 refine ⟨.bl true,[],HL f (.p 1 0) pos cv n fl,rfl,hs1.kq hE2,fun hW2=>?_⟩
 refine go_runA (bs:=[lb,nb]) 200 ⟨[],2,[],[],1⟩ (by kernel_rfl) hW2 (hF1.call (nw:=[]) hE2) rfl [] (by kernel_rfl) trivial ?_
 intro nw w3 hF3 hW3
 exact gt (.ptr a) hW3.sat ⟨rfl,hF3.kept⟩
theorem c263_n [Bd] (f:Nat→Value) (pos:Int) (cv:V1) (n:Nat) (fl:Nat→Nat) (lb nb:Nat) (w:World) (hs:Sat [lb,nb] (HL f (.p 1 0) pos cv n fl) w):
  Calls Tryz.prog 263 #[.pointer (some ⟨lb,31,none⟩),.pointer none] w fun e w'=>e=.returned (.pointer none)∧Ext w w':=by
 refine gs (bs:=[lb,nb]) [.p 0 31,.np] _ Tryz.func263 hs (fun hW=>?_)
 refine go_runA 200 ⟨[],2,[],[],1⟩ (by kernel_rfl) hW (Fr.refl _ _ _) rfl [] (by kernel_rfl) trivial ?_
 intro nw w1 hF1 hW1
 exact gt .np hW1.sat ⟨rfl,hF1.kept⟩
theorem c263 [Bd] (f:Nat→Value) (pos:Int) (cv:V1) (n:Nat) (fl:Nat→Nat) (lb nb:Nat) (a:Addr) (w:World) (hs:Sat [lb,nb] (HL f (.p 1 0) pos cv n fl) w):
  Calls Tryz.prog 263 #[.pointer (some ⟨lb,31,none⟩),.pointer (some a)] w fun e w'=>e=.returned (.pointer (some a))∧Ext w w':=by
 refine gs (bs:=[lb,nb]) [.p 0 31,.ptr a] _ Tryz.func263 hs (fun hW=>?_)
 refine ga0 200 ⟨[],2,[],[],1⟩ hW (Fr.refl _ _ _) fun w1 hF1 hW1=>?_
 have hs1:=hW1.sq (HL f (.p 1 0) pos cv n fl)
 refine gc 169 [.ptr a,.it .i8 0] hW1 ?_
 refine (c169 ⟨.pointer (some a),rfl⟩ w1).mono ?_
 rintro e w2 ⟨rfl,hE2⟩
 refine ⟨.bl true,[],HL f (.p 1 0) pos cv n fl,rfl,hs1.kq hE2,fun hW2=>?_⟩
 refine go_runA (bs:=[lb,nb]) 200 ⟨[],2,[],[],1⟩ (by kernel_rfl) hW2 (hF1.call (nw:=[]) hE2) rfl [] (by kernel_rfl) trivial ?_
 intro nw w3 hF3 hW3
 exact gt (.ptr a) hW3.sat ⟨rfl,hF3.kept⟩
def iterQ (r n' pos cv:SV):List SV:=[r,n',pos,cv,.np,.it .i16 0,.np,.it .i16 0,.np,.it .i16 0,.it .i16 0,.ns]
theorem c166 [Bd] (a:Addr) (nv:V1) (pos:Int) (cv:V1) (w:World) (hB0:autoParam (Bd.B≤w.heap.size) sz0._auto_1):Calls Tryz.prog 166 (SV.denL [] [.agg (iterQ (.ptr a) (o1 nv) (.si .i16 pos) (o1 cv)),.np,.np]).toArray w fun e w'=>e=.returned (.bool false)∧Ext w w':=by
 refine gs (bs:=[]) [.agg (iterQ (.ptr a) (o1 nv) (.si .i16 pos) (o1 cv)),.np,.np] _ Tryz.func166 (sat0 w) (fun hW=>?_)
 refine go_runA 200 ⟨[],0,[],[],0⟩ (by kernel_rfl) hW (Fr.refl _ _ _) rfl [] (by kernel_rfl) trivial ?_
 intro nw w1 hF1 hW1
 exact gt (.bl false) hW1.sat ⟨rfl,hF1.kept⟩
theorem c133 [Bd] (f:Nat→Value) (nv:V1) (pos:Int) (cv:V1) (n:Nat) (fl:Nat→Nat) (lb nb:Nat) (w:World) (hs:Sat [lb,nb] (HL f (o1 nv) pos cv n fl) w):
  Calls Tryz.prog 133 #[.pointer (some ⟨lb,31,none⟩)] w fun e w'=>e=.returned (.bool false)∧Ext w w':=by
 refine gs (bs:=[lb,nb]) [.p 0 31] _ Tryz.func133 hs (fun hW=>?_)
 refine ga0 200 ⟨[],2,[],[],0⟩ hW (Fr.refl _ _ _) fun w1 hF1 hW1=>?_
 refine gd [] [] hW1 (fun hW2=>?_)
 refine ga0 (bs:=[lb,nb]) 200 ⟨[],2,[],[],0⟩ hW2 hF1.drew fun w3 hF3 hW3=>?_
 have hs3:=hW3.sq (HL f (o1 nv) pos cv n fl)
 refine gcd 166 [.agg (iterQ (.p 1 0) (o1 nv) (.si .i16 pos) (o1 cv)),.np,.np] [] w1.drew hW3 (fun hC=>?_)
 refine (c166 ⟨nb,0,none⟩ nv pos cv w3).mono ?_
 rintro e w4 ⟨rfl,hE4⟩
 refine ⟨.bl false,[],HL f (o1 nv) pos cv n fl,rfl,hs3.kq hE4,hC.trans hE4,fun hW4=>?_⟩
 refine go_runA (bs:=[lb,nb]) 200 ⟨[],2,[],[],0⟩ (by kernel_rfl) hW4 (hF3.call (nw:=[]) hE4) rfl [] (by kernel_rfl) trivial ?_
 intro nw w5 hF5 hW5
 exact gt (.bl false) hW5.sat ⟨rfl,hF5.kept⟩
theorem c106 [Bd] (f:Nat→Value) (nv:V1) (pos:Int) (cv:V1) (n:Nat) (hn1:1≤n) (hn:n≤10) (fl:Nat→Nat) (lb nb:Nat) (w:World) (hs:Sat [lb,nb] (HL f (o1 nv) pos cv n fl) w):
  Calls Tryz.prog 106 #[.pointer (some ⟨lb,31,none⟩)] w fun e w'=>e=.returned (.pointer (some ⟨fl (0),0,none⟩))∧Kept [330] w w'∧Sat [lb,nb] (HL f (.p 1 0) 0 cv n fl) w':=by
 refine gs (bs:=[lb,nb]) [.p 0 31] _ Tryz.func106 hs (fun hW=>?_)
 refine ga0 200 ⟨[330],2,[],[],0⟩ hW (Fr.refl _ _ _) fun w1 hF1 hW1=>?_
 have hs1:=hW1.sq (HL f (o1 nv) pos cv n fl)
 refine gc 133 [.p 0 31] hW1 ?_
 refine (c133 f nv pos cv n fl lb nb w1 hs1).mono ?_
 rintro e w2 ⟨rfl,hE2⟩
 have hs2:Sat [lb,nb] (HL f (o1 nv) pos cv n fl) w2:=hs1.kq hE2
 refine ⟨.bl false,[],HL f (o1 nv) pos cv n fl,rfl,hs2,fun hW2=>?_⟩
 refine ga0 (bs:=[lb,nb]) 200 ⟨[330],2,[],[],0⟩ hW2 (hF1.call (nw:=[]) hE2) fun w3 hF3 hW3=>?_
 have hs3:=hW3.sq (HL f (o1 nv) pos cv n fl)
 refine gc 134 [.p 0 31] hW3 ?_
 refine (c134 f nv pos cv n fl lb nb w3 hs3).mono ?_
 rintro e w4 ⟨rfl,hK4,hs4⟩
 refine ⟨.tup [],[],HL f (.p 1 0) 0 cv n fl,rfl,hs4,fun hW4=>?_⟩
 refine ga0 (bs:=[lb,nb]) 200 ⟨[330],2,[],[],0⟩ hW4 (hF3.call (nw:=[]) hK4) fun w5 hF5 hW5=>?_
 have hs5:=hW5.sq (HL f (.p 1 0) 0 cv n fl)
 refine gc 135 [.p 0 31] hW5 ?_
 refine (c135 f 0 n cv fl lb nb w5 hs5).mono ?_
 rintro e w6 ⟨rfl,hE6⟩
 have hb:onB 0 n=true:=by simp [onB]<;>omega
 rw [hb]
 have hs6:Sat [lb,nb] (HL f (.p 1 0) 0 cv n fl) w6:=hs5.kq hE6
 refine ⟨.bl true,[],HL f (.p 1 0) 0 cv n fl,rfl,hs6,fun hW6=>?_⟩
 refine ga0 (bs:=[lb,nb]) 200 ⟨[330],2,[],[],0⟩ hW6 (hF5.call (nw:=[]) hE6) fun w7 hF7 hW7=>?_
 have hs7:=hW7.sq (HL f (.p 1 0) 0 cv n fl)
 refine gc 137 [.p 0 31] hW7 ?_
 refine (c137 f (0) cv n (by omega) hn fl lb nb w7 hs7).mono ?_
 rintro e w8 ⟨rfl,hE8⟩
 have hs8:Sat [lb,nb] (HL f (.p 1 0) 0 cv n fl) w8:=hs7.kq hE8
 refine ⟨.ptr ⟨fl (0),0,none⟩,[],HL f (.p 1 0) 0 cv n fl,rfl,hs8,fun hW8=>?_⟩
 refine ga0 (bs:=[lb,nb]) 200 ⟨[330],2,[],[],0⟩ hW8 (hF7.call (nw:=[]) hE8) fun w9 hF9 hW9=>?_
 have hs9:=hW9.sq (HL f (.p 1 0) 0 cv n fl)
 refine gc 136 [.p 0 31,.ptr ⟨fl (0),0,none⟩] hW9 ?_
 refine (c136 f 0 cv n fl lb nb ⟨fl (0),0,none⟩ w9 hs9).mono ?_
 rintro e w10 ⟨rfl,hE10⟩
 have hs10:Sat [lb,nb] (HL f (.p 1 0) 0 cv n fl) w10:=hs9.kq hE10
 refine ⟨.ptr ⟨fl (0),0,none⟩,[],HL f (.p 1 0) 0 cv n fl,rfl,hs10,fun hW10=>?_⟩
 refine ga0 (bs:=[lb,nb]) 200 ⟨[330],2,[],[],0⟩ hW10 (hF9.call (nw:=[]) hE10) fun w11 hF11 hW11=>?_
 exact gt (.ptr ⟨fl (0),0,none⟩) hW11.sat ⟨rfl,hF11.kept,hW11.sq _⟩
theorem c253 [Bd] (f:Nat→Value) (nv:V1) (pos:Int) (cv:V1) (n:Nat) (hn1:1≤n) (hn:n≤10) (fl:Nat→Nat) (lb nb:Nat) (w:World) (hs:Sat [lb,nb] (HL f (o1 nv) pos cv n fl) w):
  Calls Tryz.prog 253 #[.pointer (some ⟨lb,31,none⟩)] w fun e w'=>e=.returned (.pointer (some ⟨fl (n - 1),0,none⟩))∧Kept [330] w w'∧Sat [lb,nb] (HL f (.p 1 0) ((n:Int) - 1) cv n fl) w':=by
 refine gs (bs:=[lb,nb]) [.p 0 31] _ Tryz.func253 hs (fun hW=>?_)
 refine ga0 200 ⟨[330],2,[],[],0⟩ hW (Fr.refl _ _ _) fun w1 hF1 hW1=>?_
 have hs1:=hW1.sq (HL f (o1 nv) pos cv n fl)
 refine gc 133 [.p 0 31] hW1 ?_
 refine (c133 f nv pos cv n fl lb nb w1 hs1).mono ?_
 rintro e w2 ⟨rfl,hE2⟩
 have hs2:Sat [lb,nb] (HL f (o1 nv) pos cv n fl) w2:=hs1.kq hE2
 refine ⟨.bl false,[],HL f (o1 nv) pos cv n fl,rfl,hs2,fun hW2=>?_⟩
 refine ga0 (bs:=[lb,nb]) 200 ⟨[330],2,[],[],0⟩ hW2 (hF1.call (nw:=[]) hE2) fun w3 hF3 hW3=>?_
 have hs3:=hW3.sq (HL f (o1 nv) pos cv n fl)
 refine gc 262 [.p 0 31] hW3 ?_
 refine (c262 f nv pos cv n hn fl lb nb w3 hs3).mono ?_
 rintro e w4 ⟨rfl,hK4,hs4⟩
 refine ⟨.tup [],[],HL f (.p 1 0) ((n:Int) - 1) cv n fl,rfl,hs4,fun hW4=>?_⟩
 refine ga0 (bs:=[lb,nb]) 200 ⟨[330],2,[],[],0⟩ hW4 (hF3.call (nw:=[]) hK4) fun w5 hF5 hW5=>?_
 have hs5:=hW5.satD (HL f (.p 1 0) ((n:Int) - 1) cv n fl) (by kernel_rfl)
 refine gc 135 [.p 0 31] hW5 ?_
 refine (c135 f ((n:Int) - 1) n cv fl lb nb w5 hs5).mono ?_
 rintro e w6 ⟨rfl,hE6⟩
 have hb:onB ((n:Int) - 1) n=true:=by simp [onB]<;>omega
 rw [hb]
 have hs6:Sat [lb,nb] (HL f (.p 1 0) ((n:Int) - 1) cv n fl) w6:=hs5.kq hE6
 refine ⟨.bl true,[],HL f (.p 1 0) ((n:Int) - 1) cv n fl,rfl,hs6,fun hW6=>?_⟩
 refine ga0 (bs:=[lb,nb]) 200 ⟨[330],2,[],[],0⟩ hW6 (hF5.call (nw:=[]) hE6) fun w7 hF7 hW7=>?_
 have hs7:=hW7.satD (HL f (.p 1 0) ((n:Int) - 1) cv n fl) (by kernel_rfl)
 refine gc 137 [.p 0 31] hW7 ?_
 refine (c137 f (n - 1) cv n (by omega) hn fl lb nb w7 (by rw [show ((n - 1:Nat):Int)=(n:Int) - 1 by omega];exact hs7)).mono ?_
 rintro e w8 ⟨rfl,hE8⟩
 have hs8:Sat [lb,nb] (HL f (.p 1 0) ((n:Int) - 1) cv n fl) w8:=hs7.kq hE8
 refine ⟨.ptr ⟨fl (n - 1),0,none⟩,[],HL f (.p 1 0) ((n:Int) - 1) cv n fl,rfl,hs8,fun hW8=>?_⟩
 refine ga0 (bs:=[lb,nb]) 200 ⟨[330],2,[],[],0⟩ hW8 (hF7.call (nw:=[]) hE8) fun w9 hF9 hW9=>?_
 have hs9:=hW9.satD (HL f (.p 1 0) ((n:Int) - 1) cv n fl) (by kernel_rfl)
 refine gc 263 [.p 0 31,.ptr ⟨fl (n - 1),0,none⟩] hW9 ?_
 refine (c263 f ((n:Int) - 1) cv n fl lb nb ⟨fl (n - 1),0,none⟩ w9 hs9).mono ?_
 rintro e w10 ⟨rfl,hE10⟩
 have hs10:Sat [lb,nb] (HL f (.p 1 0) ((n:Int) - 1) cv n fl) w10:=hs9.kq hE10
 refine ⟨.ptr ⟨fl (n - 1),0,none⟩,[],HL f (.p 1 0) ((n:Int) - 1) cv n fl,rfl,hs10,fun hW10=>?_⟩
 refine ga0 (bs:=[lb,nb]) 200 ⟨[330],2,[],[],0⟩ hW10 (hF9.call (nw:=[]) hE10) fun w11 hF11 hW11=>?_
 exact gt (.ptr ⟨fl (n - 1),0,none⟩) hW11.sat ⟨rfl,hF11.kept,hW11.sq _⟩
theorem c107_t [Bd] (f:Nat→Value) (pos:Int) (k:Nat) (cv:V1) (n:Nat) (hn1:1≤n) (hn:n≤10) (h:pos+1=k) (hk:k < n) (fl:Nat→Nat) (lb nb:Nat) (w:World) (hs:Sat [lb,nb] (HL f (.p 1 0) pos cv n fl) w):
  Calls Tryz.prog 107 #[.pointer (some ⟨lb,31,none⟩)] w fun e w'=>e=.returned (.pointer (some ⟨fl (k),0,none⟩))∧Kept [330] w w'∧Sat [lb,nb] (HL f (.p 1 0) (k:Int) cv n fl) w':=by
 refine gs (bs:=[lb,nb]) [.p 0 31] _ Tryz.func107 hs (fun hW=>?_)
 refine ga0 200 ⟨[330],2,[],[],0⟩ hW (Fr.refl _ _ _) fun w3 hF3 hW3=>?_
 have hs3:=hW3.sq (HL f (.p 1 0) pos cv n fl)
 have hs3:=hW3.sq (HL f (.p 1 0) pos cv n fl)
 refine gc 139 [.p 0 31] hW3 ?_
 refine (c139 f pos cv n hn (by omega) (by omega) fl lb nb w3 hs3).mono ?_
 rintro e w4 ⟨rfl,hK4,hs4⟩
 rw [show nextP pos n=(k:Int) by unfold nextP;rw [if_pos (by omega)];omega] at hs4
 refine ⟨.tup [],[],HL f (.p 1 0) (k:Int) cv n fl,rfl,hs4,fun hW4=>?_⟩
 refine ga0 (bs:=[lb,nb]) 200 ⟨[330],2,[],[],0⟩ hW4 (hF3.call (nw:=[]) hK4) fun w5 hF5 hW5=>?_
 have hs5:=hW5.sq (HL f (.p 1 0) (k:Int) cv n fl)
 refine gc 135 [.p 0 31] hW5 ?_
 refine (c135 f (k:Int) n cv fl lb nb w5 hs5).mono ?_
 rintro e w6 ⟨rfl,hE6⟩
 have hb:onB (k:Int) n=true:=by simp [onB]<;>omega
 rw [hb]
 have hs6:Sat [lb,nb] (HL f (.p 1 0) (k:Int) cv n fl) w6:=hs5.kq hE6
 refine ⟨.bl true,[],HL f (.p 1 0) (k:Int) cv n fl,rfl,hs6,fun hW6=>?_⟩
 refine ga0 (bs:=[lb,nb]) 200 ⟨[330],2,[],[],0⟩ hW6 (hF5.call (nw:=[]) hE6) fun w7 hF7 hW7=>?_
 have hs7:=hW7.sq (HL f (.p 1 0) (k:Int) cv n fl)
 refine gc 137 [.p 0 31] hW7 ?_
 refine (c137 f (k) cv n (by omega) hn fl lb nb w7 hs7).mono ?_
 rintro e w8 ⟨rfl,hE8⟩
 have hs8:Sat [lb,nb] (HL f (.p 1 0) (k:Int) cv n fl) w8:=hs7.kq hE8
 refine ⟨.ptr ⟨fl (k),0,none⟩,[],HL f (.p 1 0) (k:Int) cv n fl,rfl,hs8,fun hW8=>?_⟩
 refine ga0 (bs:=[lb,nb]) 200 ⟨[330],2,[],[],0⟩ hW8 (hF7.call (nw:=[]) hE8) fun w9 hF9 hW9=>?_
 have hs9:=hW9.sq (HL f (.p 1 0) (k:Int) cv n fl)
 refine gc 136 [.p 0 31,.ptr ⟨fl (k),0,none⟩] hW9 ?_
 refine (c136 f (k:Int) cv n fl lb nb ⟨fl (k),0,none⟩ w9 hs9).mono ?_
 rintro e w10 ⟨rfl,hE10⟩
 have hs10:Sat [lb,nb] (HL f (.p 1 0) (k:Int) cv n fl) w10:=hs9.kq hE10
 refine ⟨.ptr ⟨fl (k),0,none⟩,[],HL f (.p 1 0) (k:Int) cv n fl,rfl,hs10,fun hW10=>?_⟩
 refine ga0 (bs:=[lb,nb]) 200 ⟨[330],2,[],[],0⟩ hW10 (hF9.call (nw:=[]) hE10) fun w11 hF11 hW11=>?_
 exact gt (.ptr ⟨fl (k),0,none⟩) hW11.sat ⟨rfl,hF11.kept,hW11.sq _⟩
theorem c107_f [Bd] (f:Nat→Value) (pos:Int) (cv:V1) (n:Nat) (hn1:1≤n) (hn:n≤10) (h:n≤pos+1) (h2:pos≤n) (fl:Nat→Nat) (lb nb:Nat) (w:World) (hs:Sat [lb,nb] (HL f (.p 1 0) pos cv n fl) w):
  Calls Tryz.prog 107 #[.pointer (some ⟨lb,31,none⟩)] w fun e w'=>e=.returned (.pointer none)∧Kept [330] w w'∧Sat [lb,nb] (HL f (.p 1 0) (n:Int) cv n fl) w':=by
 refine gs (bs:=[lb,nb]) [.p 0 31] _ Tryz.func107 hs (fun hW=>?_)
 refine ga0 200 ⟨[330],2,[],[],0⟩ hW (Fr.refl _ _ _) fun w3 hF3 hW3=>?_
 have hs3:=hW3.sq (HL f (.p 1 0) pos cv n fl)
 have hs3:=hW3.sq (HL f (.p 1 0) pos cv n fl)
 refine gc 139 [.p 0 31] hW3 ?_
 refine (c139 f pos cv n hn (by omega) (by omega) fl lb nb w3 hs3).mono ?_
 rintro e w4 ⟨rfl,hK4,hs4⟩
 rw [show nextP pos n=(n:Int) by unfold nextP;by_cases hq:pos < (n:Int)<;>simp [hq]<;>omega] at hs4
 refine ⟨.tup [],[],HL f (.p 1 0) (n:Int) cv n fl,rfl,hs4,fun hW4=>?_⟩
 refine ga0 (bs:=[lb,nb]) 200 ⟨[330],2,[],[],0⟩ hW4 (hF3.call (nw:=[]) hK4) fun w5 hF5 hW5=>?_
 have hs5:=hW5.sq (HL f (.p 1 0) (n:Int) cv n fl)
 refine gc 135 [.p 0 31] hW5 ?_
 refine (c135 f (n:Int) n cv fl lb nb w5 hs5).mono ?_
 rintro e w6 ⟨rfl,hE6⟩
 have hb:onB (n:Int) n=false:=by simp [onB]<;>omega
 rw [hb]
 have hs6:Sat [lb,nb] (HL f (.p 1 0) (n:Int) cv n fl) w6:=hs5.kq hE6
 refine ⟨.bl false,[],HL f (.p 1 0) (n:Int) cv n fl,rfl,hs6,fun hW6=>?_⟩
 refine ga0 (bs:=[lb,nb]) 200 ⟨[330],2,[],[],0⟩ hW6 (hF5.call (nw:=[]) hE6) fun w7 hF7 hW7=>?_
 exact gt .np hW7.sat ⟨rfl,hF7.kept,hW7.sq _⟩
theorem c255_t [Bd] (f:Nat→Value) (pos:Int) (k:Nat) (cv:V1) (n:Nat) (hn1:1≤n) (hn:n≤10) (h:pos=(k:Int)+1) (hk:k < n) (fl:Nat→Nat) (lb nb:Nat) (w:World) (hs:Sat [lb,nb] (HL f (.p 1 0) pos cv n fl) w):
  Calls Tryz.prog 255 #[.pointer (some ⟨lb,31,none⟩)] w fun e w'=>e=.returned (.pointer (some ⟨fl (k),0,none⟩))∧Kept [330] w w'∧Sat [lb,nb] (HL f (.p 1 0) (k:Int) cv n fl) w':=by
 refine gs (bs:=[lb,nb]) [.p 0 31] _ Tryz.func255 hs (fun hW=>?_)
 refine ga0 200 ⟨[330],2,[],[],0⟩ hW (Fr.refl _ _ _) fun w3 hF3 hW3=>?_
 have hs3:=hW3.sq (HL f (.p 1 0) pos cv n fl)
 have hs3:=hW3.sq (HL f (.p 1 0) pos cv n fl)
 refine gc 264 [.p 0 31] hW3 ?_
 refine (c264 f pos cv n hn (by omega) (by omega) fl lb nb w3 hs3).mono ?_
 rintro e w4 ⟨rfl,hK4,hs4⟩
 rw [show pos - 1=(k:Int) by omega] at hs4
 refine ⟨.tup [],[],HL f (.p 1 0) (k:Int) cv n fl,rfl,hs4,fun hW4=>?_⟩
 refine ga0 (bs:=[lb,nb]) 200 ⟨[330],2,[],[],0⟩ hW4 (hF3.call (nw:=[]) hK4) fun w5 hF5 hW5=>?_
 have hs5:=hW5.sq (HL f (.p 1 0) (k:Int) cv n fl)
 refine gc 135 [.p 0 31] hW5 ?_
 refine (c135 f (k:Int) n cv fl lb nb w5 hs5).mono ?_
 rintro e w6 ⟨rfl,hE6⟩
 have hb:onB (k:Int) n=true:=by simp [onB]<;>omega
 rw [hb]
 have hs6:Sat [lb,nb] (HL f (.p 1 0) (k:Int) cv n fl) w6:=hs5.kq hE6
 refine ⟨.bl true,[],HL f (.p 1 0) (k:Int) cv n fl,rfl,hs6,fun hW6=>?_⟩
 refine ga0 (bs:=[lb,nb]) 200 ⟨[330],2,[],[],0⟩ hW6 (hF5.call (nw:=[]) hE6) fun w7 hF7 hW7=>?_
 have hs7:=hW7.sq (HL f (.p 1 0) (k:Int) cv n fl)
 refine gc 137 [.p 0 31] hW7 ?_
 refine (c137 f (k) cv n (by omega) hn fl lb nb w7 hs7).mono ?_
 rintro e w8 ⟨rfl,hE8⟩
 have hs8:Sat [lb,nb] (HL f (.p 1 0) (k:Int) cv n fl) w8:=hs7.kq hE8
 refine ⟨.ptr ⟨fl (k),0,none⟩,[],HL f (.p 1 0) (k:Int) cv n fl,rfl,hs8,fun hW8=>?_⟩
 refine ga0 (bs:=[lb,nb]) 200 ⟨[330],2,[],[],0⟩ hW8 (hF7.call (nw:=[]) hE8) fun w9 hF9 hW9=>?_
 have hs9:=hW9.sq (HL f (.p 1 0) (k:Int) cv n fl)
 refine gc 263 [.p 0 31,.ptr ⟨fl (k),0,none⟩] hW9 ?_
 refine (c263 f (k:Int) cv n fl lb nb ⟨fl (k),0,none⟩ w9 hs9).mono ?_
 rintro e w10 ⟨rfl,hE10⟩
 have hs10:Sat [lb,nb] (HL f (.p 1 0) (k:Int) cv n fl) w10:=hs9.kq hE10
 refine ⟨.ptr ⟨fl (k),0,none⟩,[],HL f (.p 1 0) (k:Int) cv n fl,rfl,hs10,fun hW10=>?_⟩
 refine ga0 (bs:=[lb,nb]) 200 ⟨[330],2,[],[],0⟩ hW10 (hF9.call (nw:=[]) hE10) fun w11 hF11 hW11=>?_
 exact gt (.ptr ⟨fl (k),0,none⟩) hW11.sat ⟨rfl,hF11.kept,hW11.sq _⟩
theorem c255_f [Bd] (f:Nat→Value)  (cv:V1) (n:Nat) (hn1:1≤n) (hn:n≤10) (fl:Nat→Nat) (lb nb:Nat) (w:World) (hs:Sat [lb,nb] (HL f (.p 1 0) 0 cv n fl) w):
  Calls Tryz.prog 255 #[.pointer (some ⟨lb,31,none⟩)] w fun e w'=>e=.returned (.pointer none)∧Kept [330] w w'∧Sat [lb,nb] (HL f (.p 1 0) (-1) cv n fl) w':=by
 refine gs (bs:=[lb,nb]) [.p 0 31] _ Tryz.func255 hs (fun hW=>?_)
 refine ga0 200 ⟨[330],2,[],[],0⟩ hW (Fr.refl _ _ _) fun w3 hF3 hW3=>?_
 have hs3:=hW3.sq (HL f (.p 1 0) 0 cv n fl)
 have hs3:=hW3.sq (HL f (.p 1 0) 0 cv n fl)
 refine gc 264 [.p 0 31] hW3 ?_
 refine (c264 f 0 cv n hn (by omega) (by omega) fl lb nb w3 hs3).mono ?_
 rintro e w4 ⟨rfl,hK4,hs4⟩
 rw [show (0:Int) - 1= -1 from rfl] at hs4
 refine ⟨.tup [],[],HL f (.p 1 0) (-1) cv n fl,rfl,hs4,fun hW4=>?_⟩
 refine ga0 (bs:=[lb,nb]) 200 ⟨[330],2,[],[],0⟩ hW4 (hF3.call (nw:=[]) hK4) fun w5 hF5 hW5=>?_
 have hs5:=hW5.sq (HL f (.p 1 0) (-1) cv n fl)
 refine gc 135 [.p 0 31] hW5 ?_
 refine (c135 f (-1) n cv fl lb nb w5 hs5).mono ?_
 rintro e w6 ⟨rfl,hE6⟩
 have hb:onB (-1) n=false:=by simp [onB]<;>omega
 rw [hb]
 have hs6:Sat [lb,nb] (HL f (.p 1 0) (-1) cv n fl) w6:=hs5.kq hE6
 refine ⟨.bl false,[],HL f (.p 1 0) (-1) cv n fl,rfl,hs6,fun hW6=>?_⟩
 refine ga0 (bs:=[lb,nb]) 200 ⟨[330],2,[],[],0⟩ hW6 (hF5.call (nw:=[]) hE6) fun w7 hF7 hW7=>?_
 exact gt .np hW7.sat ⟨rfl,hF7.kept,hW7.sq _⟩
section
variable {P:Program} {Q:Exit→Act→World→Prop} {bs:List Nat} {w:World}
theorem go_indexP [Bd] {s:ST} (t:TypeId) (x j:Operand) (g o:Nat) (kk:IntKind) (i:Int) (nn:Nat) (e:TypeId) (sz:Nat) (H:List SB) (h:curOp s=some (.indexAddr t x j)) (hx:evS s.T x=.p g o) (hj:evS s.T j=.si kk i) (hu:arrT P t=some (nn,e)) (hsz:sizeT P e=some sz) (h0:0≤i) (h1:i < nn) (hs:Wk bs s w) (hH:s.H=H)
  (hk:Wk bs (afterC s (.ptr ⟨nmB bs g,o+i.toNat*sz,none⟩) H) w→kx P Q (afterC s (.ptr ⟨nmB bs g,o+i.toNat*sz,none⟩) H).K .normal (actS bs (afterC s (.ptr ⟨nmB bs g,o+i.toNat*sz,none⟩) H).T) w):kx P Q s.K .normal (actS bs s.T) w:=by
 refine go_op (.indexAddr t x j) h hs w (.ptr ⟨nmB bs g,o+i.toNat*sz,none⟩) [] H (.value ((SV.ptr ⟨nmB bs g,o+i.toNat*sz,none⟩).den bs)) (fun o' ho=>?_) (.inl (by rw [List.append_nil])) (by rw [List.append_nil];exact hs.satE H hH) (fun hW=>?_)
 ·have e1:(actS bs s.T).eval x=.pointer (some ⟨nmB bs g,o,none⟩):=by rw [ev_den,hx,SV.den]
  have e2:(actS bs s.T).eval j=.int kk i:=by rw [ev_den,hj,SV.den]
  have hu':P.underlying t=some (.array nn e):=by
   unfold arrT at hu
   split at hu
   ·rename_i n' e' hu2;simp only [Option.some.injEq,Prod.mk.injEq] at hu;obtain ⟨rfl,rfl⟩:=hu;exact hu2
   ·cases hu
  simp only [execOp,ho,e1,e2,SV.den,Instr.indexAt,asIntOf,Sem.run_bind,run_underlying hu',Result.andThen,Instr.sureAddr,Sem.run_pure]
  rw [if_pos ⟨h0,h1⟩]
  simp only [Sem.run_bind,sizeT_run hsz,Result.andThen,Sem.run_pure,add_none]
 ·rw [List.append_nil] at hW ⊢
  exact hk hW
end
abbrev k22_0 (kv:V1) (m:FM):List SB:=[⟨98,[.fn 65 []]⟩,⟨75,[o1 kv]⟩,⟨188,fmS m⟩]
theorem c270 [Bd] (cb kb fb:Nat) (kv:V1) (m:FM) (key s:List UInt8) (w:World) (hk:RdS w kv.1 key) (hm:RdS w m.u2 s) (hs:Sat [cb,kb,fb] (k22_0 kv m) w):
  Calls Tryz.prog 270 #[.pointer (some ⟨fb,0,none⟩),.pointer (some ⟨cb,0,none⟩),.pointer (some ⟨kb,0,none⟩)] w fun e w'=>e=.returned (.bool (decide (Lib.compareBytes s key≥0)))∧Ext w w':=by
 refine gs (bs:=[cb,kb,fb]) [.p 2 0,.p 0 0,.p 1 0] _ Tryz.func270 hs (fun hW=>?_)
 refine ga0 200 ⟨[],3,[],[],0⟩ hW (Fr.refl _ _ _) fun w1 hF1 hW1=>?_
 refine gd [] [] hW1 (fun hW2=>?_)
 refine ga0 (bs:=[cb,kb,fb]) 200 ⟨[],3,[],[],0⟩ hW2 hF1.drew fun w3 hF3 hW3=>?_
 refine gcd 65 [.oc m.u2 m.h2,o1 kv] [] w1.drew hW3 (fun hC=>?_)
 refine (compare_any m.u2 kv.1 s key w3 (hm.kept hF3.kept (by simp)) (hk.kept hF3.kept (by simp))).mono ?_
 rintro e w4 ⟨rfl,rfl⟩
 refine ⟨.si .i64 (Lib.compareBytes s key),[],(k22_0 kv m),rfl,hW3.satE _ (by kernel_rfl),hC,fun hW4=>?_⟩
 refine go_runA (bs:=[cb,kb,fb]) 200 ⟨[],3,[],[],0⟩ (by kernel_rfl) hW4 hF3 rfl [] (by kernel_rfl) trivial ?_
 intro nw w5 hF5 hW5
 exact gt (.sb (decide (Lib.compareBytes s key≥0))) hW5.sat ⟨rfl,hF5.kept⟩
theorem c272 [Bd] (cb kb fb:Nat) (kv:V1) (m:FM) (key s:List UInt8) (w:World) (hk:RdS w kv.1 key) (hm:RdS w m.u1 s) (hs:Sat [cb,kb,fb] (k22_0 kv m) w):
  Calls Tryz.prog 272 #[.pointer (some ⟨fb,0,none⟩),.pointer (some ⟨cb,0,none⟩),.pointer (some ⟨kb,0,none⟩)] w fun e w'=>e=.returned (.bool (decide (Lib.compareBytes s key≥0)))∧Ext w w':=by
 refine gs (bs:=[cb,kb,fb]) [.p 2 0,.p 0 0,.p 1 0] _ Tryz.func272 hs (fun hW=>?_)
 refine ga0 200 ⟨[],3,[],[],0⟩ hW (Fr.refl _ _ _) fun w1 hF1 hW1=>?_
 refine gd [] [] hW1 (fun hW2=>?_)
 refine ga0 (bs:=[cb,kb,fb]) 200 ⟨[],3,[],[],0⟩ hW2 hF1.drew fun w3 hF3 hW3=>?_
 refine gcd 65 [.oc m.u1 m.h1,o1 kv] [] w1.drew hW3 (fun hC=>?_)
 refine (compare_any m.u1 kv.1 s key w3 (hm.kept hF3.kept (by simp)) (hk.kept hF3.kept (by simp))).mono ?_
 rintro e w4 ⟨rfl,rfl⟩
 refine ⟨.si .i64 (Lib.compareBytes s key),[],(k22_0 kv m),rfl,hW3.satE _ (by kernel_rfl),hC,fun hW4=>?_⟩
 refine go_runA (bs:=[cb,kb,fb]) 200 ⟨[],3,[],[],0⟩ (by kernel_rfl) hW4 hF3 rfl [] (by kernel_rfl) trivial ?_
 intro nw w5 hF5 hW5
 exact gt (.sb (decide (Lib.compareBytes s key≥0))) hW5.sat ⟨rfl,hF5.kept⟩
noncomputable def A275 (f:Nat→Value) (nv:V1) (pos:Int) (cv:V1) (n:Nat) (fl:Nat→Nat) (g:FuncId) (capv:Array Value):ST:=runS Tryz.prog ⟨[330],2,[],[],0⟩ 200 (startS Tryz.f275 [.p 0 31,fnS g capv] (HL f (o1 nv) pos cv n fl))
noncomputable def B275 (f:Nat→Value) (nv:V1) (pos:Int) (cv:V1) (n:Nat) (fl:Nat→Nat) (g:FuncId) (capv:Array Value):ST:=runS Tryz.prog ⟨[330],2,[],[],1⟩ 16 (afterC (A275 f nv pos cv n fl g capv) (.tup []) (HL f (.p 1 0) (-1) cv n fl))
noncomputable def C275 (f:Nat→Value) (nv:V1) (pos:Int) (cv:V1) (n:Nat) (fl:Nat→Nat) (g:FuncId) (capv:Array Value):ST:=runS Tryz.prog ⟨[330],2,[],[],0⟩ 200 (B275 f nv pos cv n fl g capv)
def T275 (n:Nat) (g:FuncId) (capv:Array Value) (j k:Int) (xs:Nat→Value):List SV:=[.p 0 31,fnS g capv,.un,.un,.si .i64 j,.si .i64 k,.va (xs 6),.p 0 31,.tup [],.p 0 31,.p 0 31,.p 0 31,.p 1 0,.bl false,.p 0 31,.p 0 31,.p 0 32,.p 1 0,.p 1 0,.p 1 0,.p 1 1,.si .i16 n,.si .i64 (IntKind.i64.wrap n),.va (xs 23),.va (xs 24),.va (xs 25),.va (xs 26),.va (xs 27),.va (xs 28),.va (xs 29),.va (xs 30),.va (xs 31),.va (xs 32),.va (xs 33),.va (xs 34),.va (xs 35),.va (xs 36),.va (xs 37),.va (xs 38),.va (xs 39),.va (xs 40),.va (xs 41),.va (xs 42),.va (xs 43),.va (xs 44),.va (xs 45),.va (xs 46),.va (xs 47),.un,.un,.un,.un,.un,.un,.un,.un,.un,.un,.un,.un,.un,.un,.un,.un,.un,.un,.un,.un,.un,.un,.un,.un,.un,.un,.un,.un,.un,.un,.un,.un,.un,.un,.un,.un,.un,.un]
def J275 [Bd] (f:Nat→Value) (cv:V1) (n:Nat) (fl:Nat→Nat) (g:FuncId) (capv:Array Value) (lb nb q:Nat) (w0:World) (m:Nat) (bs:List Nat) (T:List SV) (H:List SB) (w:World):Prop:=
 ∃ (j k:Int) (xs:Nat→Value),0≤j∧j≤q∧(q:Int)≤k∧k≤n∧(m:Int)=k - j∧bs=[lb,nb]∧T=T275 n g capv j k xs∧H=HL f (.p 1 0) (-1) cv n fl∧Fr [330] w0 [lb,nb] bs w
def midI (j k:Int):Int:=IntKind.i64.wrap (Int.fdiv (IntKind.u64.wrap (IntKind.i64.wrap (j+k))) (2 ^ min (Int.toNat 1) IntKind.u64.bits))
theorem midI_eq [Bd] (j k:Int) (h0:0≤j) (h1:j≤100) (h2:0≤k) (h3:k≤100):midI j k=(j+k) / 2:=by
 unfold midI
 rw [IntWalk.i64_in (j+k) (by omega),IntKind.wrap_u64]
 rw [show (2 ^ min (Int.toNat 1) IntKind.u64.bits:Int)=2 from rfl,Int.fdiv_eq_ediv_of_nonneg _ (by omega)]
 rw [IntWalk.i64_in _ (by omega)]
 omega
theorem nodeS_item [Bd] (n:Nat) (fl:Nat→Nat) (j:Nat) (hj:j < n) (hn:n≤10):(nodeS n fl)[4+j]? =some (itemS n (flA fl) j):=by
 unfold nodeS
 rw [List.append_assoc,List.append_assoc,List.getElem?_append_right (by simp),List.getElem?_append_left (by simp;omega)]
 simp only [List.length_cons,List.length_nil,List.getElem?_map]
 rw [List.getElem?_range (by omega)]
 simp
theorem c275 [Bd] (f:Nat→Value) (nv:V1) (pos:Int) (cv:V1) (n:Nat) (hn:n≤10) (fl:Nat→Nat) (g:FuncId) (capv:Array Value) (hg:bodyB Tryz.prog g=true) (q:Nat) (hq:q≤n) (lb nb:Nat) (w:World) (hs:Sat [lb,nb] (HL f (o1 nv) pos cv n fl) w)
  (hc: ∀ i,i < n→ ∀ w',Kept [330] w w'→Calls Tryz.prog g (#[.pointer (some ⟨fl i,0,none⟩)]++capv) w' fun e w''=>e=.returned (.bool (decide (q≤i)))∧Ext w' w''):
  Calls Tryz.prog 275 #[.pointer (some ⟨lb,31,none⟩),.func (.func g) #[] capv] w fun e w'=>e=.returned (.tuple #[])∧Kept [330] w w'∧Sat [lb,nb] (HL f (.p 1 0) q cv n fl) w':=by
 refine gs (bs:=[lb,nb]) [.p 0 31,fnS g capv] _ Tryz.func275 hs (fun hW=>?_)
 refine ga0 200 ⟨[330],2,[],[],0⟩ hW (Fr.refl _ _ _) fun w1 hF1 hW1=>?_
 refine gc 167 [.p 0 31] hW1 ?_
 refine (c167 f nv pos cv n fl lb nb w1 (hW1.sq _)).mono ?_
 rintro e w2 ⟨rfl,hK2,hs2⟩
 refine ⟨.tup [],[],HL f (.p 1 0) (-1) cv n fl,rfl,hs2,fun hW2=>?_⟩
 refine ga0 (bs:=[lb,nb]) 16 ⟨[330],2,[],[],1⟩ hW2 (hF1.call (nw:=[]) hK2) fun w3 hF3 hW3=>?_
 refine ga0 (bs:=[lb,nb]) 200 ⟨[330],2,[],[],0⟩ hW3 hF3 fun w4 hF4 hW4=>?_
 have hwn:IntKind.i64.wrap (n:Int)=n:=IntWalk.i64_in _ (by omega)
 refine go_loop (s:=C275 f nv pos cv n fl g capv) (bs:=[lb,nb]) (J275 f cv n fl g capv lb nb q w) n (by kernel_rfl) hW4 (fun xs=>T275 n g capv 0 (IntKind.i64.wrap n) xs) (HL f (.p 1 0) (-1) cv n fl) (by kernel_rfl) (by kernel_rfl)
  (fun xs=>⟨0,IntKind.i64.wrap n,xs,by omega,by omega,by omega,by omega,by omega,rfl,rfl,rfl,hF4⟩) ?_ ?_
 ·rintro m bs' T H w' ⟨j,k,xs,_,_,_,_,_,rfl,_⟩
  exact ⟨[],rfl⟩
 ·rintro m bs' T H w' ⟨j,k,xs,hj0,hjq,hqk,hkn,hm,rfl,rfl,rfl,hF'⟩ hW'
  by_cases hlt:j < k
  ·have hmid:=midI_eq j k hj0 (by omega) (by omega) (by omega)
   have hlo:j≤midI j k:=by omega
   have hhi:midI j k < k:=by omega
   obtain ⟨h,hh⟩: ∃ h:Nat,midI j k=h:=⟨(midI j k).toNat,by omega⟩
   refine go_runA (s:=bodyS (C275 f nv pos cv n fl g capv) (Hand (J275 f cv n fl g capv lb nb q w) m) (T275 n g capv j k xs) (HL f (.p 1 0) (-1) cv n fl)) (bs:=[lb,nb]) 200 ⟨[330],2,[],[(25,true)],0⟩ (by kernel_rfl) hW' hF' rfl [(decide (j < k),true)] (by kernel_rfl) ⟨by simpa using hlt,trivial⟩ ?_
   intro nw w5 hF5 hW5
   obtain rfl:=nw0 (hW5.num 2 (by kernel_rfl)) rfl
   have hs5:=hW5.sq (HL f (.p 1 0) (-1) cv n fl)
   refine go_indexP 354 (.tmp 40) (.tmp 37) 1 4 .i64 (midI j k) 31 79 1 (HL f (.p 1 0) (-1) cv n fl) (by kernel_rfl) (by kernel_rfl) (by kernel_rfl) (by kernel_rfl) (by kernel_rfl) (by omega) (by omega) hW5 (by kernel_rfl) (fun hW6=>?_)
   refine go_load 79 (.tmp 41) ⟨nb,4+(midI j k).toNat*1,none⟩ (.ptr ⟨fl h,0,none⟩) (HL f (.p 1 0) (-1) cv n fl) (by kernel_rfl) (by kernel_rfl) (by kernel_rfl) hW6 (by kernel_rfl) ?_ (fun hW6'=>?_)
   ·have:=hs5.cell 1 360 (nodeS n fl) rfl (4+h) _ (nodeS_item n fl h (by omega) hn)
    rw [show (itemS n (flA fl) h).den ([lb,nb]++[])=itemV n (flA fl) h from rfl,itemV_lt n fl h (by omega)] at this
    rw [hh,Int.toNat_natCast,Nat.mul_one,SV.den]
    exact this
   refine ga0 (bs:=[lb,nb]) 200 ⟨[330],2,[],[],0⟩ hW6' hF5 fun w7 hF7 hW7=>?_
   have hs7:=hW7.sq (HL f (.p 1 0) (-1) cv n fl)
   refine go_callV (fnS g capv) [.ptr ⟨fl h,0,none⟩] g capv (by kernel_rfl) rfl hg hW7 ?_
   refine (hc h (by omega) w7 hF7.kept).mono ?_
   rintro e w8 ⟨rfl,hE8⟩
   have hs8:Sat [lb,nb] (HL f (.p 1 0) (-1) cv n fl) w8:=hs7.kq hE8
   have hF8:Fr [330] w [lb,nb] [lb,nb] w8:=hF7.call (nw:=[]) hE8
   by_cases hqh:q≤h
   ·rw [show decide (q≤h)=true by simpa using hqh]
    refine ⟨.bl true,[],HL f (.p 1 0) (-1) cv n fl,rfl,hs8,fun hW8=>?_⟩
    refine ga0 (bs:=[lb,nb]) 200 ⟨[330],2,[],[],0⟩ hW8 hF8 fun w9 hF9 hW9=>?_
    have hs9:=hW9.sq (HL f (.p 1 0) (-1) cv n fl)
    refine go_fin (Hand (J275 f cv n fl g capv lb nb q w) m) (by kernel_rfl) (fun xs=>T275 n g capv j (midI j k) xs) (by kernel_rfl) (fun xs=>?_)
    exact ⟨(midI j k - j).toNat,by omega,[lb,nb],T275 n g capv j (midI j k) xs,HL f (.p 1 0) (-1) cv n fl,rfl,hs9,j,midI j k,xs,by omega,by omega,by omega,by omega,by omega,rfl,rfl,rfl,hF9⟩
   ·rw [show decide (q≤h)=false by simpa using hqh]
    refine ⟨.bl false,[],HL f (.p 1 0) (-1) cv n fl,rfl,hs8,fun hW8=>?_⟩
    have hw1:IntKind.i64.wrap (midI j k+1)=midI j k+1:=IntWalk.i64_in _ (by omega)
    refine ga0 (bs:=[lb,nb]) 200 ⟨[330],2,[],[],0⟩ hW8 hF8 fun w9 hF9 hW9=>?_
    have hs9:=hW9.sq (HL f (.p 1 0) (-1) cv n fl)
    refine go_fin (Hand (J275 f cv n fl g capv lb nb q w) m) (by kernel_rfl) (fun xs=>T275 n g capv (IntKind.i64.wrap (midI j k+1)) k xs) (by kernel_rfl) (fun xs=>?_)
    exact ⟨(k - IntKind.i64.wrap (midI j k+1)).toNat,by omega,[lb,nb],T275 n g capv (IntKind.i64.wrap (midI j k+1)) k xs,HL f (.p 1 0) (-1) cv n fl,rfl,hs9,IntKind.i64.wrap (midI j k+1),k,xs,by omega,by omega,by omega,by omega,by omega,rfl,rfl,rfl,hF9⟩
  ·obtain rfl:j=q:=by omega
   have hw16:=wrap16 (q:Int) (by omega) (by omega)
   have hkq:k=q:=by omega
   by_cases hqn:q=n
   ·refine go_runA (s:=bodyS (C275 f nv pos cv n fl g capv) (Hand (J275 f cv n fl g capv lb nb q w) m) (T275 n g capv q k xs) (HL f (.p 1 0) (-1) cv n fl)) (bs:=[lb,nb]) 200 ⟨[330],2,[],[(25,false),(73,true)],0⟩ (by kernel_rfl) hW' hF' rfl [(decide ((q:Int) < k),false),(IntKind.i16.wrap q==n,true)] (by kernel_rfl) ⟨by simpa using hlt,by simp [hw16];omega,trivial⟩ ?_
    intro nw w5 hF5 hW5
    obtain rfl:=nw0 (hW5.num 2 (by kernel_rfl)) rfl
    have hs5:=hW5.sq (HL f (.p 1 0) (IntKind.i16.wrap q) cv n fl)
    rw [hw16] at hs5
    refine gc 139 [.p 0 31] hW5 ?_
    refine (c139 f q cv n hn (by omega) (by omega) fl lb nb w5 hs5).mono ?_
    rintro e w6 ⟨rfl,hK6,hs6⟩
    rw [show nextP (q:Int) n=q by unfold nextP;rw [if_neg (by omega)]] at hs6
    refine ⟨.tup [],[],HL f (.p 1 0) q cv n fl,rfl,hs6,fun hW6=>?_⟩
    refine ga0 (bs:=[lb,nb]) 200 ⟨[330],2,[],[],0⟩ hW6 (hF5.call (nw:=[]) hK6) fun w7 hF7 hW7=>?_
    exact gt (.tup []) hW7.sat ⟨rfl,hF7.kept,hW7.sq _⟩
   ·refine go_runA (s:=bodyS (C275 f nv pos cv n fl g capv) (Hand (J275 f cv n fl g capv lb nb q w) m) (T275 n g capv q k xs) (HL f (.p 1 0) (-1) cv n fl)) (bs:=[lb,nb]) 200 ⟨[330],2,[],[(25,false),(73,false)],0⟩ (by kernel_rfl) hW' hF' rfl [(decide ((q:Int) < k),false),(IntKind.i16.wrap q==n,false)] (by kernel_rfl) ⟨by simpa using hlt,by simp [hw16];omega,trivial⟩ ?_
    intro nw w5 hF5 hW5
    obtain rfl:=nw0 (hW5.num 2 (by kernel_rfl)) rfl
    have hs5:=hW5.sq (HL f (.p 1 0) (IntKind.i16.wrap q) cv n fl)
    rw [hw16] at hs5
    exact gt (.tup []) hW5.sat ⟨rfl,hF5.kept,hs5⟩
end Go.Proofs.YtghppnklhbbffaaGreatDoor.X
