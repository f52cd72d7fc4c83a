/- Part 8 of the proof that laws.FnTreeLevel answers true, for arguments of small bulk. -/
import Derived.Test.YtghppnklhbbffaaGreatDoorR07
import Derived.Test.YtghppnklhbbffaaGreatDoorR04
set_option linter.all false
set_option maxHeartbeats 4000000
set_option maxRecDepth 100000
namespace Go.Proofs.YtghppnklhbbffaaGreatDoor.PFnTreeLevel
open Go.RowKit Go.Proofs.YtghppnklhbbffaaGreatDoorW.PrintWords Go.Proofs.YtghppnklhbbffaaGreatDoorW.PrintLast Go.Proofs.YtghppnklhbbffaaGreatDoorW.PrintMore
attribute [local go_sem] max2_int min2_int max_two min_two max_three min_three max_four min_four   -- for this text's walks alone
mutual
def spec_CompareBytes.l0:Nat→ByteArray→ByteArray→Int→Option (Int)
 |0,_,_,_=>none
 |k+1,x0,x1,x5=>if x5=(x0.size:Int) then (spec_CompareBytes.j1 k x0 x1 x5 (x5==(x1.size:Int))) else (spec_CompareBytes.j1 k x0 x1 x5 false)
def spec_CompareBytes.j1:Nat→ByteArray→ByteArray→Int→Bool→Option (Int)
 |0,_,_,_,_=>none
 |k+1,x0,x1,x5,x8=>if x8=true then (some 0) else (if x5=(x0.size:Int) then (some (-1)) else (if x5=(x1.size:Int) then (some 1) else (if 0≤x5 then (if x5 < (x0.size:Int) then (if x5 < (x1.size:Int) then (if (bt x0 x5) < (bt x1 x5) then (some (-1)) else (if (bt x0 x5)>(bt x1 x5) then (some 1) else (spec_CompareBytes.l0 k x0 x1 (wrap64 (x5+1))))) else (none)) else (none)) else (none))))
end
def spec_CompareBytes.f (k:Nat) (a0:ByteArray) (a1:ByteArray):Option (Int):=spec_CompareBytes.l0 k a0 a1 0
set_option maxHeartbeats 8000000 in
theorem spec_CompareBytes.calls (k:Nat) (a0:ByteArray) (a1:ByteArray) (r:Int) (w:World) (h:spec_CompareBytes.f k a0 a1=some r):
  Calls Tryz.prog 29 #[.string a0,.string a1] w fun e w'=>e=.returned (.int .i64 r)∧Drawn0 w w':=by
 have H:(spec_CompareBytes.l0 k a0 a1 0)=some r:=h
 clear h
 have H':=Aside0.mk H
 clear H
 go_enter Tryz.func29,Tryz.ntmps29
 go_wp2
 repeat (go_quiet (fail);try go_wp2)
 go_loopg [5] k (fun kq v5 w'=> ∃ (x5_1:Int),v5=.int .i64 x5_1∧Aside0 (spec_CompareBytes.l0 kq a0 a1 x5_1=some r)∧Aside0 (kq≤k)∧Drawn0 w w')
 case atStart=>exact ⟨(0),(by first|rfl|(simp;done)|(simp [*];done)),H',⟨Nat.le_refl _⟩,by repeat (first|exact Drawn0.refl _|apply Drawn0.step)⟩
 case round=>
  clear H'
  try clear c2
  try clear p2
  obtain ⟨x5_1,rfl,HA,HK1,⟨m1,rfl⟩⟩:=hrel
  cases gk with
  |zero=>exact absurd HA.out (by simp [spec_CompareBytes.l0])
  |succ k1=>
   have H:=HA.out
   clear HA
   simp only [spec_CompareBytes.l0] at H
   have HC3:=Aside0.mk H
   clear H
   go_upto_region 3 with (fail)
   repeat (go_quiet (fail);go_upto_region 3 with (fail))
   go_cut [8] (fun v8 wc=> ∃ (kq:Nat) (x8_2:Bool),v8=.bool x8_2∧Aside0 (spec_CompareBytes.j1 kq a0 a1 x5_1 x8_2=some r)∧Aside0 (kq≤k1)∧Drawn0 w wc)
   case first=>
    have H:=HC3.out
    clear HC3
    by_cases c4:x5_1=(a0.size:Int)
    ·rw [if_pos c4] at H
     have c4b0:(x5_1==(a0.size:Int))=true:=beq_iff_eq.mpr c4
     have c4b1:(x5_1 !=(a0.size:Int))=false:=bne_eq_false_iff_eq.mpr c4
     clear c4
     (first|rw [c4b0]|(simp only [i64_w,i32_w];rw [c4b0])|skip)
     have H':=Aside0.mk H
     clear H
     go_wp2
     repeat (go_quiet (fail);try go_wp2)
     go_meet
     case rel=>exact ⟨_,((x5_1==(a1.size:Int))),(by first|rfl|(simp;done)|(simp [*];done)),H',⟨by have:=HK1.out;first|omega|exact Nat.le_refl _⟩,by repeat (first|exact Drawn0.refl _|apply Drawn0.step)⟩
    ·rw [if_neg c4] at H
     have c4b0:(x5_1==(a0.size:Int))=false:=beq_eq_false_iff_ne.mpr c4
     have c4b1:(x5_1 !=(a0.size:Int))=true:=bne_iff_ne.mpr c4
     (first|rw [c4b0]|(simp only [i64_w,i32_w];rw [c4b0])|skip)
     have H':=Aside0.mk H
     clear H
     go_wp2
     repeat (go_quiet (fail);try go_wp2)
     go_meet
     case rel=>exact ⟨_,(false),(by first|rfl|(simp;done)|(simp [*];done)),H',⟨by have:=HK1.out;first|omega|exact Nat.le_refl _⟩,by repeat (first|exact Drawn0.refl _|apply Drawn0.step)⟩
   case rest=>
    clear HC3
    try clear c2
    try clear p2
    try clear c4
    try clear c4b0
    try clear c4b1
    try clear p2
    obtain ⟨kq,x8_2,rfl,HA,HJ2,⟨mc2,rfl⟩⟩:=hcut
    cases kq with
    |zero=>exact absurd HA.out (by simp [spec_CompareBytes.j1])
    |succ kj2=>
     have H:=HA.out
     clear HA
     simp only [spec_CompareBytes.j1] at H
     by_cases c5:x8_2=true
     ·subst c5
      have H1:(some 0)=some r:=by rw [if_pos rfl] at H;exact H
      clear H
      have H:=H1
      clear H1
      obtain rfl:=Option.some.inj H
      go_wp2
      repeat (go_quiet (fail);try go_wp2)
      go_ret
      exact ⟨by first|rfl|(simp;done)|(simp [*];done),by repeat (first|exact Drawn0.refl _|apply Drawn0.step)⟩
     ·replace c5:=Bool.eq_false_iff.mpr c5
      subst c5
      have H1:(if x5_1=(a0.size:Int) then (some (-1)) else (if x5_1=(a1.size:Int) then (some 1) else (if 0≤x5_1 then (if x5_1 < (a0.size:Int) then (if x5_1 < (a1.size:Int) then (if (bt a0 x5_1) < (bt a1 x5_1) then (some (-1)) else (if (bt a0 x5_1)>(bt a1 x5_1) then (some 1) else (spec_CompareBytes.l0 kj2 a0 a1 (wrap64 (x5_1+1))))) else (none)) else (none)) else (none))))=some r:=by rw [if_neg (show ¬ (false=true) by decide)] at H;exact H
      clear H
      have H:=H1
      clear H1
      by_cases c6:x5_1=(a0.size:Int)
      ·rw [if_pos c6] at H
       have c6b0:(x5_1==(a0.size:Int))=true:=beq_iff_eq.mpr c6
       have c6b1:(x5_1 !=(a0.size:Int))=false:=bne_eq_false_iff_eq.mpr c6
       clear c6
       obtain rfl:=Option.some.inj H
       go_wp2
       repeat (go_quiet (fail);try go_wp2)
       go_ret
       exact ⟨by first|rfl|(simp;done)|(simp [*];done),by repeat (first|exact Drawn0.refl _|apply Drawn0.step)⟩
      ·rw [if_neg c6] at H
       have c6b0:(x5_1==(a0.size:Int))=false:=beq_eq_false_iff_ne.mpr c6
       have c6b1:(x5_1 !=(a0.size:Int))=true:=bne_iff_ne.mpr c6
       by_cases c7:x5_1=(a1.size:Int)
       ·rw [if_pos c7] at H
        have c7b0:(x5_1==(a1.size:Int))=true:=beq_iff_eq.mpr c7
        have c7b1:(x5_1 !=(a1.size:Int))=false:=bne_eq_false_iff_eq.mpr c7
        clear c7
        obtain rfl:=Option.some.inj H
        go_wp2
        repeat (go_quiet (fail);try go_wp2)
        go_ret
        exact ⟨by first|rfl|(simp;done)|(simp [*];done),by repeat (first|exact Drawn0.refl _|apply Drawn0.step)⟩
       ·rw [if_neg c7] at H
        have c7b0:(x5_1==(a1.size:Int))=false:=beq_eq_false_iff_ne.mpr c7
        have c7b1:(x5_1 !=(a1.size:Int))=true:=bne_iff_ne.mpr c7
        by_cases c8:0≤x5_1
        ·rw [if_pos c8] at H
         have c8b0:decide (0≤x5_1)=true:=decide_eq_true c8
         clear c8
         by_cases c9:x5_1 < (a0.size:Int)
         ·rw [if_pos c9] at H
          have c9b0:decide (x5_1 < (a0.size:Int))=true:=decide_eq_true c9
          clear c9
          by_cases c11:x5_1 < (a1.size:Int)
          ·rw [if_pos c11] at H
           have c11b0:decide (x5_1 < (a1.size:Int))=true:=decide_eq_true c11
           clear c11
           by_cases c13:(bt a0 x5_1) < (bt a1 x5_1)
           ·rw [if_pos c13] at H
            have c13b0:decide ((bt a0 x5_1) < (bt a1 x5_1))=true:=decide_eq_true c13
            clear c13
            obtain rfl:=Option.some.inj H
            have p10:0≤(x5_1:Int):=of_decide_eq_true (by first|(with_reducible assumption)|assumption)
            have q10:x5_1 < (a0.size:Int):=of_decide_eq_true (by first|(with_reducible assumption)|assumption)
            have hx10:=bt_at a0 x5_1
            replace p10:=eq_true p10
            replace q10:=eq_true q10
            have p12:0≤(x5_1:Int):=of_decide_eq_true (by first|(with_reducible assumption)|assumption)
            have q12:x5_1 < (a1.size:Int):=of_decide_eq_true (by first|(with_reducible assumption)|assumption)
            have hx12:=bt_at a1 x5_1
            replace p12:=eq_true p12
            replace q12:=eq_true q12
            go_wp2
            repeat (go_quiet (fail);try go_wp2)
            go_ret
            exact ⟨by first|rfl|(simp;done)|(simp [*];done),by repeat (first|exact Drawn0.refl _|apply Drawn0.step)⟩
           ·rw [if_neg c13] at H
            have c13b0:decide ((bt a0 x5_1) < (bt a1 x5_1))=false:=decide_eq_false c13
            clear c13
            by_cases c16:(bt a0 x5_1)>(bt a1 x5_1)
            ·rw [if_pos c16] at H
             have c16b0:decide ((bt a1 x5_1) < (bt a0 x5_1))=true:=decide_eq_true c16
             clear c16
             obtain rfl:=Option.some.inj H
             have p10:0≤(x5_1:Int):=of_decide_eq_true (by first|(with_reducible assumption)|assumption)
             have q10:x5_1 < (a0.size:Int):=of_decide_eq_true (by first|(with_reducible assumption)|assumption)
             have hx10:=bt_at a0 x5_1
             replace p10:=eq_true p10
             replace q10:=eq_true q10
             have p12:0≤(x5_1:Int):=of_decide_eq_true (by first|(with_reducible assumption)|assumption)
             have q12:x5_1 < (a1.size:Int):=of_decide_eq_true (by first|(with_reducible assumption)|assumption)
             have hx12:=bt_at a1 x5_1
             replace p12:=eq_true p12
             replace q12:=eq_true q12
             have p14:0≤(x5_1:Int):=of_decide_eq_true (by first|(with_reducible assumption)|assumption)
             have q14:x5_1 < (a0.size:Int):=of_decide_eq_true (by first|(with_reducible assumption)|assumption)
             have hx14:=bt_at a0 x5_1
             replace p14:=eq_true p14
             replace q14:=eq_true q14
             have p15:0≤(x5_1:Int):=of_decide_eq_true (by first|(with_reducible assumption)|assumption)
             have q15:x5_1 < (a1.size:Int):=of_decide_eq_true (by first|(with_reducible assumption)|assumption)
             have hx15:=bt_at a1 x5_1
             replace p15:=eq_true p15
             replace q15:=eq_true q15
             go_wp2
             repeat (go_quiet (fail);try go_wp2)
             go_ret
             exact ⟨by first|rfl|(simp;done)|(simp [*];done),by repeat (first|exact Drawn0.refl _|apply Drawn0.step)⟩
            ·rw [if_neg c16] at H
             have c16b0:decide ((bt a1 x5_1) < (bt a0 x5_1))=false:=decide_eq_false c16
             clear c16
             have H':=Aside0.mk H
             clear H
             have p10:0≤(x5_1:Int):=of_decide_eq_true (by first|(with_reducible assumption)|assumption)
             have q10:x5_1 < (a0.size:Int):=of_decide_eq_true (by first|(with_reducible assumption)|assumption)
             have hx10:=bt_at a0 x5_1
             replace p10:=eq_true p10
             replace q10:=eq_true q10
             have p12:0≤(x5_1:Int):=of_decide_eq_true (by first|(with_reducible assumption)|assumption)
             have q12:x5_1 < (a1.size:Int):=of_decide_eq_true (by first|(with_reducible assumption)|assumption)
             have hx12:=bt_at a1 x5_1
             replace p12:=eq_true p12
             replace q12:=eq_true q12
             have p14:0≤(x5_1:Int):=of_decide_eq_true (by first|(with_reducible assumption)|assumption)
             have q14:x5_1 < (a0.size:Int):=of_decide_eq_true (by first|(with_reducible assumption)|assumption)
             have hx14:=bt_at a0 x5_1
             replace p14:=eq_true p14
             replace q14:=eq_true q14
             have p15:0≤(x5_1:Int):=of_decide_eq_true (by first|(with_reducible assumption)|assumption)
             have q15:x5_1 < (a1.size:Int):=of_decide_eq_true (by first|(with_reducible assumption)|assumption)
             have hx15:=bt_at a1 x5_1
             replace p15:=eq_true p15
             replace q15:=eq_true q15
             go_wp2
             repeat (go_quiet (fail);try go_wp2)
             go_roundg kj2
             case measure=>have:=HK1.out;have:=HJ2.out;omega
             case rel=>exact ⟨(wrap64 (x5_1+1)),(by first|rfl|(simp;done)|(simp [*];done)),H',⟨by have:=HK1.out;have:=HJ2.out;omega⟩,by repeat (first|exact Drawn0.refl _|apply Drawn0.step)⟩
          ·rw [if_neg c11] at H
           exact absurd H (by simp)
         ·rw [if_neg c9] at H
          exact absurd H (by simp)
        ·rw [if_neg c8] at H
         exact absurd H (by simp)
def spec_Seq.f (a0:Int):Option (Int):=some (a0 / 256)
set_option maxHeartbeats 8000000 in
theorem spec_Seq.calls (a0:Int) (r:Int) (w:World) (h:spec_Seq.f a0=some r):
  Calls Tryz.prog 82 #[.int .u64 a0] w fun e w'=>e=.returned (.int .u64 r)∧Drawn0 w w':=by
 have H:(some (a0 / 256))=some r:=h
 clear h
 obtain rfl:=Option.some.inj H
 go_enter Tryz.func82,Tryz.ntmps82
 go_wp2
 go_ret
 exact ⟨by first|rfl|(simp;done)|(simp [*];done),by repeat (first|exact Drawn0.refl _|apply Drawn0.step)⟩
def spec_Kind.f (a0:Int):Option (Int):=some ((a0) % 256)
set_option maxHeartbeats 8000000 in
theorem spec_Kind.calls (a0:Int) (r:Int) (w:World) (h:spec_Kind.f a0=some r):
  Calls Tryz.prog 83 #[.int .u64 a0] w fun e w'=>e=.returned (.int .u8 r)∧Drawn0 w w':=by
 have H:(some ((a0) % 256))=some r:=h
 clear h
 obtain rfl:=Option.some.inj H
 go_enter Tryz.func83,Tryz.ntmps83
 go_wp2
 go_ret
 exact ⟨by first|rfl|(simp;done)|(simp [*];done),by repeat (first|exact Drawn0.refl _|apply Drawn0.step)⟩
def spec_IsPoint.f (a0:Int):Option (Bool):=if a0=0 then (some true) else (if a0=1 then (some true) else (if a0=2 then (some true) else (if a0=7 then (some true) else (if a0=18 then (some true) else (if a0=23 then (some true) else (some false))))))
set_option maxHeartbeats 8000000 in
theorem spec_IsPoint.calls (a0:Int) (r:Bool) (w:World) (h:spec_IsPoint.f a0=some r):
  Calls Tryz.prog 113 #[.int .u8 a0] w fun e w'=>e=.returned (.bool r)∧Drawn0 w w':=by
 have H:(if a0=0 then (some true) else (if a0=1 then (some true) else (if a0=2 then (some true) else (if a0=7 then (some true) else (if a0=18 then (some true) else (if a0=23 then (some true) else (some false)))))))=some r:=h
 clear h
 by_cases c2:a0=0
 ·rw [if_pos c2] at H
  have c2b0:(a0==0)=true:=beq_iff_eq.mpr c2
  have c2b1:(a0 !=0)=false:=bne_eq_false_iff_eq.mpr c2
  clear c2
  obtain rfl:=Option.some.inj H
  go_enter Tryz.func113,Tryz.ntmps113
  go_wp2
  go_ret
  exact ⟨by first|rfl|(simp;done)|(simp [*];done),by repeat (first|exact Drawn0.refl _|apply Drawn0.step)⟩
 ·rw [if_neg c2] at H
  have c2b0:(a0==0)=false:=beq_eq_false_iff_ne.mpr c2
  have c2b1:(a0 !=0)=true:=bne_iff_ne.mpr c2
  by_cases c3:a0=1
  ·rw [if_pos c3] at H
   have c3b0:(a0==1)=true:=beq_iff_eq.mpr c3
   have c3b1:(a0 !=1)=false:=bne_eq_false_iff_eq.mpr c3
   clear c3
   obtain rfl:=Option.some.inj H
   go_enter Tryz.func113,Tryz.ntmps113
   go_wp2
   go_ret
   exact ⟨by first|rfl|(simp;done)|(simp [*];done),by repeat (first|exact Drawn0.refl _|apply Drawn0.step)⟩
  ·rw [if_neg c3] at H
   have c3b0:(a0==1)=false:=beq_eq_false_iff_ne.mpr c3
   have c3b1:(a0 !=1)=true:=bne_iff_ne.mpr c3
   by_cases c4:a0=2
   ·rw [if_pos c4] at H
    have c4b0:(a0==2)=true:=beq_iff_eq.mpr c4
    have c4b1:(a0 !=2)=false:=bne_eq_false_iff_eq.mpr c4
    clear c4
    obtain rfl:=Option.some.inj H
    go_enter Tryz.func113,Tryz.ntmps113
    go_wp2
    go_ret
    exact ⟨by first|rfl|(simp;done)|(simp [*];done),by repeat (first|exact Drawn0.refl _|apply Drawn0.step)⟩
   ·rw [if_neg c4] at H
    have c4b0:(a0==2)=false:=beq_eq_false_iff_ne.mpr c4
    have c4b1:(a0 !=2)=true:=bne_iff_ne.mpr c4
    by_cases c5:a0=7
    ·rw [if_pos c5] at H
     have c5b0:(a0==7)=true:=beq_iff_eq.mpr c5
     have c5b1:(a0 !=7)=false:=bne_eq_false_iff_eq.mpr c5
     clear c5
     obtain rfl:=Option.some.inj H
     go_enter Tryz.func113,Tryz.ntmps113
     go_wp2
     go_ret
     exact ⟨by first|rfl|(simp;done)|(simp [*];done),by repeat (first|exact Drawn0.refl _|apply Drawn0.step)⟩
    ·rw [if_neg c5] at H
     have c5b0:(a0==7)=false:=beq_eq_false_iff_ne.mpr c5
     have c5b1:(a0 !=7)=true:=bne_iff_ne.mpr c5
     by_cases c6:a0=18
     ·rw [if_pos c6] at H
      have c6b0:(a0==18)=true:=beq_iff_eq.mpr c6
      have c6b1:(a0 !=18)=false:=bne_eq_false_iff_eq.mpr c6
      clear c6
      obtain rfl:=Option.some.inj H
      go_enter Tryz.func113,Tryz.ntmps113
      go_wp2
      go_ret
      exact ⟨by first|rfl|(simp;done)|(simp [*];done),by repeat (first|exact Drawn0.refl _|apply Drawn0.step)⟩
     ·rw [if_neg c6] at H
      have c6b0:(a0==18)=false:=beq_eq_false_iff_ne.mpr c6
      have c6b1:(a0 !=18)=true:=bne_iff_ne.mpr c6
      by_cases c7:a0=23
      ·rw [if_pos c7] at H
       have c7b0:(a0==23)=true:=beq_iff_eq.mpr c7
       have c7b1:(a0 !=23)=false:=bne_eq_false_iff_eq.mpr c7
       clear c7
       obtain rfl:=Option.some.inj H
       go_enter Tryz.func113,Tryz.ntmps113
       go_wp2
       go_ret
       exact ⟨by first|rfl|(simp;done)|(simp [*];done),by repeat (first|exact Drawn0.refl _|apply Drawn0.step)⟩
      ·rw [if_neg c7] at H
       have c7b0:(a0==23)=false:=beq_eq_false_iff_ne.mpr c7
       have c7b1:(a0 !=23)=true:=bne_iff_ne.mpr c7
       obtain rfl:=Option.some.inj H
       go_enter Tryz.func113,Tryz.ntmps113
       go_wp2
       go_ret
       exact ⟨by first|rfl|(simp;done)|(simp [*];done),by repeat (first|exact Drawn0.refl _|apply Drawn0.step)⟩
def spec_Sized.l0:Nat→ByteArray→Int→Int→Option (Bool)
 |0,_,_,_=>none
 |k+1,x0,x5,x6=>if x6 < x5 then (if 0≤x6 then (if x6 < (x0.size:Int) then (if ((decide ((bt x0 x6) < 128)) !=(x6==(wrap64 ((x0.size:Int) - 1))))=true then (some false) else (spec_Sized.l0 k x0 x5 (wrap64 (x6+1)))) else (none)) else (none)) else (some (decide ((x0.size:Int) < 10)))
def spec_Sized.f (k:Nat) (a0:ByteArray):Option (Bool):=spec_Sized.l0 k a0 (a0.size:Int) 0
set_option maxHeartbeats 8000000 in
theorem spec_Sized.calls (k:Nat) (a0:ByteArray) (r:Bool) (w:World) (h:spec_Sized.f k a0=some r):
  Calls Tryz.prog 114 #[.string a0] w fun e w'=>e=.returned (.bool r)∧Drawn0 w w':=by
 have H:(spec_Sized.l0 k a0 (a0.size:Int) 0)=some r:=h
 clear h
 have H':=Aside0.mk H
 clear H
 go_enter Tryz.func114,Tryz.ntmps114
 go_wp2
 go_loopg [6] k (fun kq v6 w'=> ∃ (x6_1:Int),v6=.int .i64 x6_1∧Aside0 (spec_Sized.l0 kq a0 (a0.size:Int) x6_1=some r)∧Aside0 (kq≤k)∧Drawn0 w w')
 case atStart=>exact ⟨(0),(by first|rfl|(simp;done)|(simp [*];done)),H',⟨Nat.le_refl _⟩,by repeat (first|exact Drawn0.refl _|apply Drawn0.step)⟩
 case round=>
  clear H'
  try clear c1
  obtain ⟨x6_1,rfl,HA,HK1,⟨m1,rfl⟩⟩:=hrel
  cases gk with
  |zero=>exact absurd HA.out (by simp [spec_Sized.l0])
  |succ k1=>
   have H:=HA.out
   clear HA
   simp only [spec_Sized.l0] at H
   by_cases c2:x6_1 < (a0.size:Int)
   ·rw [if_pos c2] at H
    have c2b0:decide (x6_1 < (a0.size:Int))=true:=decide_eq_true c2
    clear c2
    by_cases c3:0≤x6_1
    ·rw [if_pos c3] at H
     have c3b0:decide (0≤x6_1)=true:=decide_eq_true c3
     clear c3
     by_cases c4:x6_1 < (a0.size:Int)
     ·rw [if_pos c4] at H
      have c4b0:decide (x6_1 < (a0.size:Int))=true:=decide_eq_true c4
      clear c4
      by_cases c6:((decide ((bt a0 x6_1) < 128)) !=(x6_1==(wrap64 ((a0.size:Int) - 1))))=true
      ·rw [if_pos c6] at H
       have c6b0:((decide ((bt a0 x6_1) < 128)) !=(x6_1==(wrap64 ((a0.size:Int) - 1))))=true:=c6
       (try (have c6b1:decide ((decide ((bt a0 x6_1) < 128))=(x6_1==(wrap64 ((a0.size:Int) - 1))))=false:=by simpa using c6))
       (try (have c6b2:((decide ((bt a0 x6_1) < 128))==(x6_1==(wrap64 ((a0.size:Int) - 1))))=false:=by simpa using c6))
       (try (have c6b3: ¬ ((decide ((bt a0 x6_1) < 128))=(x6_1==(wrap64 ((a0.size:Int) - 1)))):=by simpa using c6))
       clear c6
       obtain rfl:=Option.some.inj H
       have p5:0≤(x6_1:Int):=of_decide_eq_true (by first|(with_reducible assumption)|assumption)
       have q5:x6_1 < (a0.size:Int):=of_decide_eq_true (by first|(with_reducible assumption)|assumption)
       have hx5:=bt_at a0 x6_1
       replace p5:=eq_true p5
       replace q5:=eq_true q5
       go_wp2
       go_ret
       exact ⟨by first|rfl|(simp;done)|(simp [*];done),by repeat (first|exact Drawn0.refl _|apply Drawn0.step)⟩
      ·rw [if_neg c6] at H
       have c6b0:((decide ((bt a0 x6_1) < 128)) !=(x6_1==(wrap64 ((a0.size:Int) - 1))))=false:=by simpa using c6
       (try (have c6b1:decide ((decide ((bt a0 x6_1) < 128))=(x6_1==(wrap64 ((a0.size:Int) - 1))))=true:=by simpa using c6))
       (try (have c6b2:((decide ((bt a0 x6_1) < 128))==(x6_1==(wrap64 ((a0.size:Int) - 1))))=true:=by simpa using c6))
       clear c6
       have H':=Aside0.mk H
       clear H
       have p5:0≤(x6_1:Int):=of_decide_eq_true (by first|(with_reducible assumption)|assumption)
       have q5:x6_1 < (a0.size:Int):=of_decide_eq_true (by first|(with_reducible assumption)|assumption)
       have hx5:=bt_at a0 x6_1
       replace p5:=eq_true p5
       replace q5:=eq_true q5
       go_wp2
       go_roundg k1
       case measure=>have:=HK1.out;omega
       case rel=>exact ⟨(wrap64 (x6_1+1)),(by first|rfl|(simp;done)|(simp [*];done)),H',⟨by have:=HK1.out;omega⟩,by repeat (first|exact Drawn0.refl _|apply Drawn0.step)⟩
     ·rw [if_neg c4] at H
      exact absurd H (by simp)
    ·rw [if_neg c3] at H
     exact absurd H (by simp)
   ·rw [if_neg c2] at H
    have c2b0:decide (x6_1 < (a0.size:Int))=false:=decide_eq_false c2
    clear c2
    obtain rfl:=Option.some.inj H
    go_wp2
    go_ret
    exact ⟨by first|rfl|(simp;done)|(simp [*];done),by repeat (first|exact Drawn0.refl _|apply Drawn0.step)⟩
end Go.Proofs.YtghppnklhbbffaaGreatDoor.PFnTreeLevel
namespace Go.Proofs.YtghppnklhbbffaaGreatDoor.TL
open Go Go.RowKit Go.Proofs.YtghppnklhbbffaaGreatDoor.PFnTreeLevel Go.Proofs.YtghppnklhbbffaaGreatDoorW.PrintWords
def cmpB (a b:ByteArray):Int:=Lib.compareBytes a.data.toList b.data.toList
theorem bt_get [Bd] (s:ByteArray) (i:Nat) (h:i < s.size):bt s (i:Int)=((s.data.toList[i]'(by simpa using h)).toNat:Int):=by
 unfold bt
 simp [h]
 rfl
theorem compareBytes_loop [Bd] (a b:ByteArray) (ha:a.size≤140737488351232): ∀ (d i:Nat),i≤a.size→i≤b.size→a.size - i=d→
  ∃ k,spec_CompareBytes.l0 k a b (i:Int)=some (Lib.compareBytes (a.data.toList.drop i) (b.data.toList.drop i)):=by
 intro d
 induction d with
 |zero=>
  intro i h1 h2 hd
  have hi:i=a.size:=by omega
  have hda:a.data.toList.drop i=[]:=List.drop_eq_nil_of_le (by simp;show a.size≤i;omega)
  refine ⟨2,?_⟩
  simp only [spec_CompareBytes.l0]
  rw [if_pos (by omega)]
  by_cases hb:i=b.size
  ·have hdb:b.data.toList.drop i=[]:=List.drop_eq_nil_of_le (by simp;show b.size≤i;omega)
   simp only [spec_CompareBytes.j1,hda,hdb,Lib.compareBytes]
   rw [if_pos (by simp [hb])]
  ·have hlt:i < b.data.toList.length:=by simp;show i < b.size;omega
   simp only [spec_CompareBytes.j1]
   rw [if_neg (by simp;omega),if_pos (by omega),hda,List.drop_eq_getElem_cons hlt]
   rfl
 |succ d ih=>
  intro i h1 h2 hd
  have hi:i < a.size:=by omega
  have hla:i < a.data.toList.length:=by simpa using hi
  by_cases hb:i=b.size
  ·refine ⟨2,?_⟩
   have hdb:b.data.toList.drop i=[]:=List.drop_eq_nil_of_le (by simp;show b.size≤i;omega)
   simp only [spec_CompareBytes.l0]
   rw [if_neg (by omega)]
   simp only [spec_CompareBytes.j1]
   rw [if_neg (by simp),if_neg (by omega),if_pos (by omega),hdb,List.drop_eq_getElem_cons hla]
   rfl
  ·have hib:i < b.size:=by omega
   have hlb:i < b.data.toList.length:=by simpa using hib
   obtain ⟨k,hk⟩:=ih (i+1) (by omega) (by omega) (by omega)
   refine ⟨k+2,?_⟩
   have hw:wrap64 ((i:Int)+1)=((i+1:Nat):Int):=by unfold wrap64;omega
   simp only [spec_CompareBytes.l0]
   rw [if_neg (by omega)]
   simp only [spec_CompareBytes.j1]
   rw [if_neg (by simp),if_neg (by omega),if_neg (by omega),if_pos (by omega),if_pos (by omega),if_pos (by omega),bt_get a i hi,bt_get b i hib,hw,hk,
    List.drop_eq_getElem_cons hla,List.drop_eq_getElem_cons hlb]
   simp only [Lib.compareBytes,UInt8.lt_iff_toNat_lt]
   by_cases c1:(a.data.toList[i]).toNat < (b.data.toList[i]).toNat
   ·rw [if_pos (by omega),if_pos c1]
   ·rw [if_neg (by omega),if_neg c1]
    by_cases c2:(b.data.toList[i]).toNat < (a.data.toList[i]).toNat
    ·rw [if_pos (by omega),if_pos c2]
    ·rw [if_neg (by omega),if_neg c2]
theorem compareBytes_f [Bd] (a b:ByteArray) (ha:a.size≤140737488351232): ∃ k,spec_CompareBytes.f k a b=some (cmpB a b):=by
 obtain ⟨k,hk⟩:=compareBytes_loop a b ha a.size 0 (by omega) (by omega) (by omega)
 exact ⟨k,hk⟩
theorem c29 [Bd] (a b:ByteArray) (ha:a.size≤140737488351232) (w:World):
  Calls Tryz.prog 29 #[.string a,.string b] w fun e w'=>e=.returned (.int .i64 (cmpB a b))∧Ext w w':=by
 obtain ⟨k,hk⟩:=compareBytes_f a b ha
 exact (spec_CompareBytes.calls k a b _ w hk).mono fun e w' ⟨he,hd⟩=>⟨he,Ext.of_below hd.below⟩
theorem drawn_ext [Bd] {w w':World} (h:Drawn0 w w'):Ext w w':=Ext.of_below h.below
theorem c82 [Bd] (t:Int) (w:World):Calls Tryz.prog 82 #[.int .u64 t] w fun e w'=>e=.returned (.int .u64 (t / 256))∧Ext w w':=
 (spec_Seq.calls t _ w rfl).mono fun _ _ ⟨he,hd⟩=>⟨he,drawn_ext hd⟩
theorem c83 [Bd] (t:Int) (w:World):Calls Tryz.prog 83 #[.int .u64 t] w fun e w'=>e=.returned (.int .u8 (t % 256))∧Ext w w':=
 (spec_Kind.calls t _ w rfl).mono fun _ _ ⟨he,hd⟩=>⟨he,drawn_ext hd⟩
theorem ret_i [Bd] {k:IntKind} {a b:Int} (h:a=b):Ending.returned (.int k a)=.returned (.int k b):=by rw [h]
def cmpK (a b:S57):Int:=
 if cmpB a.f0 b.f0≠0 then cmpB a.f0 b.f0
 else if b.f1 / 256 < a.f1 / 256 then -1 else if a.f1 / 256 < b.f1 / 256 then 1
 else if b.f1 % 256 < a.f1 % 256 then -1 else if a.f1 % 256 < b.f1 % 256 then 1 else 0
set_option maxHeartbeats 1000000 in
theorem c140 [Bd] (a b:S57) (ha:a.f0.size≤140737488351232) (w:World):
  Calls Tryz.prog 140 #[.agg #[.string a.f0,.int .u64 a.f1,.string a.f2],.agg #[.string b.f0,.int .u64 b.f1,.string b.f2]] w fun e w'=>e=.returned (.int .i64 (cmpK a b))∧Ext w w':=by
 by_cases h0:cmpB a.f0 b.f0=0
 ·have h0b:(cmpB a.f0 b.f0 !=0)=false:=by simp [h0]
  go_enter Tryz.func140,Tryz.ntmps140
  go_wp2_with (go_at_call 29;refine (c29 _ _ ha _).mono ?_;rintro e w' ⟨rfl,hk⟩;obtain ⟨x,rfl⟩:=hk.nx)
  repeat' (((first|refine wp_region_kb [] _ (by kernel_rfl) (lexB_of (by kernel_rfl)) ?_|refine wp_region_kt [] (by kernel_rfl) (lexB_of (by kernel_rfl)) ?_);(repeat (go_big_quiet_step (first|exact quiet_of (c82 _ _)|exact quiet_of (c83 _ _))));refine wpQuiet_nil ?_;rintro _ ⟨y,rfl⟩);go_wp2)
  all_goals (go_ret;exact ⟨ret_i (by unfold cmpK;(repeat' split)<;>omega),by (repeat (first|exact Kept.refl _ _|apply Kept.ktr|apply Kept.kt0|apply Kept.alloc|apply Kept.drew|apply Kept.drewN))⟩)
 ·have h0b:(cmpB a.f0 b.f0 !=0)=true:=by simp [h0]
  go_enter Tryz.func140,Tryz.ntmps140
  go_wp2_with (go_at_call 29;refine (c29 _ _ ha _).mono ?_;rintro e w' ⟨rfl,hk⟩;obtain ⟨x,rfl⟩:=hk.nx)
  go_ret
  exact ⟨ret_i (by unfold cmpK;(repeat' split)<;>omega),by (repeat (first|exact Kept.refl _ _|apply Kept.ktr|apply Kept.kt0|apply Kept.alloc|apply Kept.drew|apply Kept.drewN))⟩
theorem rd57 [Bd] (xs:List S57) (i:Nat) (h:i < xs.length):rd_T57 xs (i:Int)=xs[i]:=by
 unfold rd_T57
 simp [List.getD_eq_getElem?_getD,h]
theorem at57 [Bd] {w:World} {A:Option Addr} {xs:List S57} (h:Kd.C k57 w A xs.length xs) (i:Nat) (hi:i < xs.length):
  ∃ ad,A=some ad∧w.cell? (ad.add (i*3))=some (.string xs[i].f0)∧w.cell? ⟨(ad.add (i*3)).block,(ad.add (i*3)).off+1,none⟩=some (.int .u64 xs[i].f1)∧w.cell? ⟨(ad.add (i*3)).block,(ad.add (i*3)).off+2,none⟩=some (.string xs[i].f2)∧(ad.add (i*3)).block < w.heap.size:=by
 obtain ⟨ad,e1,g1,g2,g3⟩:=at_T57 h (i:Int) (by omega) (by omega)
 rw [rd57 xs i hi] at g1 g2 g3
 exact ⟨ad,e1,g1,g2,g3,World.block_lt_of_cell? _ _ g1⟩
def BoolRes (e:Ending) (F:Prop):Prop:= ∃ b,e=.returned (.bool b)∧(b=true→F)
theorem BoolRes.no [Bd] {F:Prop}:BoolRes (.returned (.bool false)) F:=⟨false,rfl,by simp⟩
theorem BoolRes.yes [Bd] {F:Prop} (h:F):BoolRes (.returned (.bool true)) F:=⟨true,rfl,fun _=>h⟩
theorem c115 [Bd] (A:Option Addr) (c:Nat) (xs:List S57) (hs: ∀ x∈xs,x.f0.size≤140737488351232) (w:World) (hr:Kd.C k57 w A xs.length xs) (hc:xs.length≤c) (hl:xs.length < 2^40):
  Calls Tryz.prog 115 #[.slice A xs.length c] w fun e w'=>BoolRes e (∀ i (h:i+1 < xs.length),cmpK xs[i] xs[i+1] < 0)∧Ext w w':=by
 have HR:=Lib.hid hr
 have HC:=Lib.hid hc
 have HL:=Lib.hid hl
 have HS:=Lib.hid hs
 clear hr hc hl hs
 have hu:=Tryz.underlying53
 go_enter Tryz.func115,Tryz.ntmps115
 go_wp2
 go_loopg [3] xs.length (fun kq v wr=> ∃ i:Nat,v=.int .i64 i∧Aside0 (1≤i∧i≤max 1 xs.length∧xs.length≤kq+i∧ ∀ j (h:j+1 < xs.length),j+1 < i→cmpK xs[j] xs[j+1] < 0)∧Aside0 (Ext w wr))
 case atStart=>exact ⟨1,rfl,⟨by omega,by omega,by omega,by intro j h1 h2;omega⟩,⟨by (repeat (first|exact Kept.refl _ _|apply Kept.ktr|apply Kept.kt0|apply Kept.alloc|apply Kept.drew|apply Kept.drewN))⟩⟩
 case round=>
  obtain ⟨i,rfl,⟨h1,h2,h3,hP⟩,⟨hE⟩⟩:=hrel
  obtain ⟨x,rfl⟩:=hE.nx
  have hlen:=HL.out
  by_cases hi:i < xs.length
  ·have d1:decide ((i:Int) < (xs.length:Int))=true:=by simp [hi]
   obtain ⟨ad,e1,g1,g2,g3,b1⟩:=at57 HR.out (i - 1) (by omega)
   obtain ⟨ad',e2,f1,f2,f3,b2⟩:=at57 HR.out i (by omega)
   obtain rfl:ad=ad':=Option.some.inj (e1.symm.trans e2)
   subst e1
   clear e2
   have hsz:=HS.out xs[i-1] (List.getElem_mem _)
   have HP:=Lib.hid hP
   clear hP
   generalize ha:xs[i-1]=a at *
   generalize hb:xs[i]=b at *
   have HA:=Lib.hid ha
   have HB:=Lib.hid hb
   clear ha hb
   by_cases hk:cmpK a b < 0
   ·have d2:decide (0≤cmpK a b)=false:=by simp;omega
    have HK:=Lib.hid hk
    clear hk
    go_wp2
    ((first|refine wp_region_kb [] _ (by kernel_rfl) (lexB_of (by kernel_rfl)) ?_|refine wp_region_kt [] (by kernel_rfl) (lexB_of (by kernel_rfl)) ?_);(repeat (go_big_quiet_step (first|exact quiet_of (c140 _ _ hsz _))));refine wpQuiet_nil ?_;rintro _ ⟨y,rfl⟩)
    go_wp2
    go_roundg (gk - 1)
    case measure=>omega
    case rel=>
     refine ⟨i+1,by go_num,⟨by omega,by omega,by omega,fun j h hj=>?_⟩,⟨by (repeat (first|exact Kept.refl _ _|apply Kept.ktr|apply Kept.kt0|apply Kept.alloc|apply Kept.drew|apply Kept.drewN))⟩⟩
     by_cases hji:j+1=i
     ·subst hji
      have:=HA.out;have:=HB.out
      simp_all
     ·exact HP.out j h (by omega)
   ·have d2:decide (0≤cmpK a b)=true:=by simp;omega
    have HK:=Lib.hid hk
    clear hk
    go_wp2
    ((first|refine wp_region_kb [] _ (by kernel_rfl) (lexB_of (by kernel_rfl)) ?_|refine wp_region_kt [] (by kernel_rfl) (lexB_of (by kernel_rfl)) ?_);(repeat (go_big_quiet_step (first|exact quiet_of (c140 _ _ hsz _))));refine wpQuiet_nil ?_;rintro _ ⟨y,rfl⟩)
    go_wp2
    go_ret
    exact ⟨.no,by (repeat (first|exact Kept.refl _ _|apply Kept.ktr|apply Kept.kt0|apply Kept.alloc|apply Kept.drew|apply Kept.drewN))⟩
  ·have d1:decide ((i:Int) < (xs.length:Int))=false:=by simp;omega
   go_wp2
   go_ret
   exact ⟨.yes fun j hj=>hP j hj (by omega),hE⟩
def ptB (k:Int):Bool:=k==0||k==1||k==2||k==7||k==18||k==23
theorem c113 [Bd] (k:Int) (w:World):Calls Tryz.prog 113 #[.int .u8 k] w fun e w'=>e=.returned (.bool (ptB k))∧Ext w w':=
 (spec_IsPoint.calls k (ptB k) w (by unfold spec_IsPoint.f ptB;(repeat' split)<;>simp_all)).mono fun _ _ ⟨he,hd⟩=>⟨he,drawn_ext hd⟩
theorem c114 [Bd] (s:ByteArray) (hs:s.size < 2^40) (w:World):Calls Tryz.prog 114 #[.string s] w fun e w'=> ∃ b,e=.returned (.bool b)∧Ext w w':=by
 have H: ∀ (d i:Nat),i≤s.size→s.size - i=d→ ∃ r,spec_Sized.l0 (d+1) s (s.size:Int) (i:Int)=some r:=by
  intro d
  induction d with
  |zero=>intro i h1 h2;simp only [spec_Sized.l0];rw [if_neg (by omega)];exact ⟨_,rfl⟩
  |succ d ih=>
   intro i h1 h2
   obtain ⟨r,hr⟩:=ih (i+1) (by omega) (by omega)
   have hw:wrap64 ((i:Int)+1)=((i+1:Nat):Int):=by unfold wrap64;omega
   rw [spec_Sized.l0]
   rw [if_pos (by omega),if_pos (by omega),if_pos (by omega),hw,hr]
   split<;>exact ⟨_,rfl⟩
 obtain ⟨r,hr⟩:=H s.size 0 (by omega) (by omega)
 exact (spec_Sized.calls _ s r w hr).mono fun _ _ ⟨he,hd⟩=>⟨r,he,drawn_ext hd⟩
def legE (x:S57):Prop:=x.f1 / 256 < 36028797018963968∧(ptB (x.f1 % 256)=true∨x.f1 % 256=15)∧x.f0.size≤1048576∧x.f2.size≤1048576
theorem c79 [Bd] (A:Option Addr) (c:Nat) (xs:List S57) (hs: ∀ x∈xs,x.f0.size < 2^31∧x.f2.size < 2^31) (w:World) (hr:Kd.C k57 w A xs.length xs) (hc:xs.length≤c) (hl:xs.length < 2^40):
  Calls Tryz.prog 79 #[.slice A xs.length c] w fun e w'=>BoolRes e ((∀ x∈xs,legE x)∧ ∀ i (h:i+1 < xs.length),cmpK xs[i] xs[i+1] < 0)∧Ext w w':=by
 have HR:=Lib.hid hr
 have HC:=Lib.hid hc
 have HL:=Lib.hid hl
 have HS:=Lib.hid hs
 clear hr hc hl hs
 have hu:=Tryz.underlying53
 have hu57:=Tryz.underlying57
 go_enter Tryz.func79,Tryz.ntmps79
 go_wp2
 go_loopg [12] xs.length (fun kq v wr=> ∃ i:Nat,v=.int .i64 i∧Aside0 (i≤xs.length∧xs.length≤kq+i∧ ∀ j (h:j < xs.length),j < i→legE xs[j])∧Aside0 (Ext w wr))
 case atStart=>exact ⟨0,rfl,⟨by omega,by omega,by intro j h1 h2;omega⟩,⟨by (repeat (first|exact Kept.refl _ _|apply Kept.ktr|apply Kept.kt0|apply Kept.alloc|apply Kept.drew|apply Kept.drewN))⟩⟩
 case round=>
  obtain ⟨gko,hgko⟩: ∃ n,n=gk:=⟨gk,rfl⟩
  subst hgko
  obtain ⟨i,rfl,⟨h1,h2,hP⟩,⟨hE⟩⟩:=hrel
  have HP:=Lib.hid hP
  clear hP
  have hlen:=HL.out
  by_cases hi:i < xs.length
  ·have d1:decide ((i:Int) < (xs.length:Int))=true:=by simp [hi]
   obtain ⟨ad,e1,g1,g2,g3,b1⟩:=at57 HR.out i hi
   subst e1
   replace g1:=hE.cell g1
   replace g2:=hE.cell g2
   replace g3:=hE.cell g3
   have b1:=World.block_lt_of_cell? _ _ g1
   have hsz:=HS.out xs[i] (List.getElem_mem _)
   generalize ha:xs[i]=a at *
   have HA:=Lib.hid ha
   clear ha
   have HZ:=Lib.hid hsz
   clear hsz
   have hic:i≤c:=by have:=HC.out;omega
   have HE:=Aside0.mk hE
   clear hE
   cases d9:(a.f1 % 256==23)
   all_goals go_wp2_with (first|(go_at_call 83;refine (c83 _ _).mono ?_;rintro e w2 ⟨rfl,hk⟩;have k0:=hk.cell (box_cell wr 0 rfl);have k1:=hk.cell (box_cell wr 1 rfl);have k2:=hk.cell (box_cell wr 2 rfl);have hE0:=Aside0.mk (((HE.out.alloc _).trans hk:Ext w w2));clear hk g1 g2 g3 b1 HE;generalize wr.heap.size=eb at *)|(go_at_call 82;refine (c82 _ _).mono ?_;rintro e w3 ⟨rfl,hk⟩;replace k0:=Ext.cell hk k0;replace k1:=Ext.cell hk k1;replace k2:=Ext.cell hk k2;have hE1:=Aside0.mk (hE0.out.trans hk);clear hE0;have hE0:=hE1;clear hE1;clear hk)|(go_at_call 113;refine (c113 _ _).mono ?_;rintro e w3 ⟨rfl,hk⟩;replace k0:=Ext.cell hk k0;replace k1:=Ext.cell hk k1;replace k2:=Ext.cell hk k2;have hE1:=Aside0.mk (hE0.out.trans hk);clear hE0;have hE0:=hE1;clear hE1;clear hk)|(go_at_call 114;refine (c114 _ (by have:=HZ.out;omega) _).mono ?_;rintro e w3 ⟨bz,rfl,hk⟩;replace k0:=Ext.cell hk k0;replace k1:=Ext.cell hk k1;replace k2:=Ext.cell hk k2;have hE1:=Aside0.mk (hE0.out.trans hk);clear hE0;have hE0:=hE1;clear hE1;clear hk;cases bz)|(go_at_call 29;refine (c29 _ _ (by have:=HZ.out;omega) _).mono ?_;rintro e w3 ⟨rfl,hk⟩;replace k0:=Ext.cell hk k0;replace k1:=Ext.cell hk k1;replace k2:=Ext.cell hk k2;have hE1:=Aside0.mk (hE0.out.trans hk);clear hE0;have hE0:=hE1;clear hE1;clear hk))
   all_goals try (go_ret;exact ⟨.no,hE0.out⟩)
   ·have HLE:Aside0 (legE a):=⟨⟨by assumption,by first|(left;assumption)|(right;simpa using ‹(a.f1 % 256==15)=true›),by omega,by omega⟩⟩
    go_loopg [77] xs.length (fun kq v wr=> ∃ j:Nat,v=.int .i64 j∧Aside0 (j≤xs.length∧xs.length≤kq+j)∧Aside0 (wr.cell? ⟨eb,0,none⟩=some (.string a.f0)∧wr.cell? ⟨eb,1,none⟩=some (.int .u64 a.f1)∧Aside0 (Ext w wr)))
    case atStart=>exact ⟨0,rfl,⟨by omega,by omega⟩,⟨k0,k1,hE0⟩⟩
    case round=>
     clear k0 k1 k2
     obtain ⟨j,rfl,⟨hj1,hj2⟩,⟨k0,k1,hE0⟩⟩:=hrel
     by_cases hj:j < xs.length
     ·have d7:decide ((j:Int) < (xs.length:Int))=true:=by simp [hj]
      obtain ⟨ad2,e2,g1,g2,g3,b1⟩:=at57 HR.out j (by omega)
      cases e2
      replace g1:=hE0.out.cell g1
      replace g2:=hE0.out.cell g2
      replace g3:=hE0.out.cell g3
      have b1:=World.block_lt_of_cell? _ _ g1
      have b2:=World.block_lt_of_cell? _ _ k0
      have hjx:j < xs.length:=by omega
      generalize xs[j]=b at *
      cases q1:(b.f0.toList==a.f0.toList)<;>cases q2:ptB (b.f1 % 256)
      all_goals go_wp2
      all_goals (refine wp_region_kt [] (by kernel_rfl) (lexB_of (by kernel_rfl)) ?_;(repeat (any_goals (first|go_big_quiet_step (first|exact quiet_of (c82 _ _)|exact quiet_of (c83 _ _)|exact quiet_of (c113 _ _))|(refine wpQuiet_split _ rfl rfl (fun hsp=>?_) (fun hsp=>?_)<;>simp only [hsp]))));all_goals (refine wpQuiet_nil ?_;rintro wq ⟨y,hy⟩;have hk:=kept_kt y;rw [←hy] at hk;clear hy y))
      all_goals (have hkk:Ext wr wq:=((Kept.refl [] wr).alloc _).trans hk;clear hk;replace k0:=hkk.cell k0;replace k1:=hkk.cell k1;have hE1:=Aside0.mk (hE0.out.trans hkk);clear hkk hE0)
      all_goals go_wp2
      all_goals first
       |(go_ret;exact ⟨.no,hE1.out⟩)
       |(go_roundg (gk - 1);(case measure=>omega);(case rel=>exact ⟨j+1,by go_num,⟨by omega,by omega⟩,⟨k0,k1,hE1⟩⟩))
     ·have d7:decide ((j:Int) < (xs.length:Int))=false:=by simp;omega
      go_wp2
      go_roundg (gko - 1)
      case measure=>omega
      case rel=>
       refine ⟨i+1,by go_num,⟨by omega,by omega,fun j h hj=>?_⟩,hE0⟩
       by_cases hji:j=i
       ·subst hji;rw [HA.out];exact HLE.out
       ·exact HP.out j h (by omega)
   ·have HLE:Aside0 (legE a):=⟨⟨by assumption,by first|(left;assumption)|(right;simpa using ‹(a.f1 % 256==15)=true›),by omega,by omega⟩⟩
    go_loopg [24] i (fun kq v wr=> ∃ j:Nat,v=.int .i64 j∧Aside0 (j≤i∧i≤kq+j)∧Aside0 (wr.cell? ⟨eb,0,none⟩=some (.string a.f0)∧wr.cell? ⟨eb,1,none⟩=some (.int .u64 a.f1)∧Aside0 (Ext w wr)))
    case atStart=>exact ⟨0,rfl,⟨by omega,by omega⟩,⟨k0,k1,hE0⟩⟩
    case round=>
     clear k0 k1 k2
     obtain ⟨j,rfl,⟨hj1,hj2⟩,⟨k0,k1,hE0⟩⟩:=hrel
     by_cases hj:j < i
     ·have d7:decide ((j:Int) < (i:Int))=true:=by simp [hj]
      obtain ⟨ad2,e2,g1,g2,g3,b1⟩:=at57 HR.out j (by omega)
      cases e2
      replace g1:=hE0.out.cell g1
      replace g2:=hE0.out.cell g2
      replace g3:=hE0.out.cell g3
      have b1:=World.block_lt_of_cell? _ _ g1
      have b2:=World.block_lt_of_cell? _ _ k0
      have hjx:j < xs.length:=by omega
      generalize xs[j]=b at *
      cases q1:(b.f0.toList==a.f0.toList)<;>cases q2:ptB (b.f1 % 256)
      all_goals go_wp2
      all_goals (refine wp_region_kt [] (by kernel_rfl) (lexB_of (by kernel_rfl)) ?_;(repeat (any_goals (first|go_big_quiet_step (first|exact quiet_of (c82 _ _)|exact quiet_of (c83 _ _)|exact quiet_of (c113 _ _))|(refine wpQuiet_split _ rfl rfl (fun hsp=>?_) (fun hsp=>?_)<;>simp only [hsp]))));all_goals (refine wpQuiet_nil ?_;rintro wq ⟨y,hy⟩;have hk:=kept_kt y;rw [←hy] at hk;clear hy y))
      all_goals (have hkk:Ext wr wq:=((Kept.refl [] wr).alloc _).trans hk;clear hk;replace k0:=hkk.cell k0;replace k1:=hkk.cell k1;have hE1:=Aside0.mk (hE0.out.trans hkk);clear hkk hE0)
      all_goals go_wp2
      all_goals first
       |(go_ret;exact ⟨.no,hE1.out⟩)
       |(go_roundg (gk - 1);(case measure=>omega);(case rel=>exact ⟨j+1,by go_num,⟨by omega,by omega⟩,⟨k0,k1,hE1⟩⟩))
     ·have d7:decide ((j:Int) < (i:Int))=false:=by simp;omega
      go_wp2
      go_roundg (gko - 1)
      case measure=>omega
      case rel=>
       refine ⟨i+1,by go_num,⟨by omega,by omega,fun j h hj=>?_⟩,hE0⟩
       by_cases hji:j=i
       ·subst hji;rw [HA.out];exact HLE.out
       ·exact HP.out j h (by omega)
   ·have HLE:Aside0 (legE a):=⟨⟨by assumption,by first|(left;assumption)|(right;simpa using ‹(a.f1 % 256==15)=true›),by omega,by omega⟩⟩
    go_loopg [24] i (fun kq v wr=> ∃ j:Nat,v=.int .i64 j∧Aside0 (j≤i∧i≤kq+j)∧Aside0 (wr.cell? ⟨eb,0,none⟩=some (.string a.f0)∧wr.cell? ⟨eb,1,none⟩=some (.int .u64 a.f1)∧Aside0 (Ext w wr)))
    case atStart=>exact ⟨0,rfl,⟨by omega,by omega⟩,⟨k0,k1,hE0⟩⟩
    case round=>
     clear k0 k1 k2
     obtain ⟨j,rfl,⟨hj1,hj2⟩,⟨k0,k1,hE0⟩⟩:=hrel
     by_cases hj:j < i
     ·have d7:decide ((j:Int) < (i:Int))=true:=by simp [hj]
      obtain ⟨ad2,e2,g1,g2,g3,b1⟩:=at57 HR.out j (by omega)
      cases e2
      replace g1:=hE0.out.cell g1
      replace g2:=hE0.out.cell g2
      replace g3:=hE0.out.cell g3
      have b1:=World.block_lt_of_cell? _ _ g1
      have b2:=World.block_lt_of_cell? _ _ k0
      have hjx:j < xs.length:=by omega
      generalize xs[j]=b at *
      cases q1:(b.f0.toList==a.f0.toList)<;>cases q2:ptB (b.f1 % 256)
      all_goals go_wp2
      all_goals (refine wp_region_kt [] (by kernel_rfl) (lexB_of (by kernel_rfl)) ?_;(repeat (any_goals (first|go_big_quiet_step (first|exact quiet_of (c82 _ _)|exact quiet_of (c83 _ _)|exact quiet_of (c113 _ _))|(refine wpQuiet_split _ rfl rfl (fun hsp=>?_) (fun hsp=>?_)<;>simp only [hsp]))));all_goals (refine wpQuiet_nil ?_;rintro wq ⟨y,hy⟩;have hk:=kept_kt y;rw [←hy] at hk;clear hy y))
      all_goals (have hkk:Ext wr wq:=((Kept.refl [] wr).alloc _).trans hk;clear hk;replace k0:=hkk.cell k0;replace k1:=hkk.cell k1;have hE1:=Aside0.mk (hE0.out.trans hkk);clear hkk hE0)
      all_goals go_wp2
      all_goals first
       |(go_ret;exact ⟨.no,hE1.out⟩)
       |(go_roundg (gk - 1);(case measure=>omega);(case rel=>exact ⟨j+1,by go_num,⟨by omega,by omega⟩,⟨k0,k1,hE1⟩⟩))
     ·have d7:decide ((j:Int) < (i:Int))=false:=by simp;omega
      go_wp2
      go_roundg (gko - 1)
      case measure=>omega
      case rel=>
       refine ⟨i+1,by go_num,⟨by omega,by omega,fun j h hj=>?_⟩,hE0⟩
       by_cases hji:j=i
       ·subst hji;rw [HA.out];exact HLE.out
       ·exact HP.out j h (by omega)
  ·have d1:decide ((i:Int) < (xs.length:Int))=false:=by simp;omega
   obtain rfl:i=xs.length:=by omega
   have HE0:=Aside0.mk hE
   clear hE
   go_wp2_with (go_at_call 115;refine (c115 A c xs (fun x hx=>by have:=(HS.out x hx).1;omega) _ (Kd.C_below HR.out HE0.out.below) HC.out HL.out).mono ?_;rintro e w2 ⟨⟨b,rfl,hb⟩,hk⟩;have HB:=Lib.hid hb;clear hb;have HK:=Aside0.mk hk;clear hk)
   go_ret
   exact ⟨⟨b,rfl,fun hbt=>⟨fun x hx=>by obtain ⟨j,hj,rfl⟩:=List.getElem_of_mem hx;exact HP.out j hj hj,HB.out hbt⟩⟩,HE0.out.trans HK.out⟩
end Go.Proofs.YtghppnklhbbffaaGreatDoor.TL
