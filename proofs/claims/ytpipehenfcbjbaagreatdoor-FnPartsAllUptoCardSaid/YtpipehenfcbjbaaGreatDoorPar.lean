/-
 What points and geometries say of themselves in words. Condition: the table of powers of ten lies as its initialiser lays it.
-/
import Derived.Test.YtpipehenfcbjbaaGreatDoorPaq
import Derived.Test.YtpipehenfcbjbaaGreatDoorPan
import Derived.Test.YtpipehenfcbjbaaGreatDoorPai
import Derived.Test.YtpipehenfcbjbaaGreatDoorPal
import Derived.Test.YtpipehenfcbjbaaGreatDoorPam
import Derived.Deep.RegionHeld3
set_option linter.unusedVariables false
set_option linter.unusedSimpArgs false
namespace Go.Proofs.YtpipehenfcbjbaaGreatDoor
open Go.ChangeShapes Go.WideShapes Go.ChangeAt Go.RowKit
set_option maxHeartbeats 8000000 in
set_option maxRecDepth 100000 in
theorem sum_1 {F:Nat→Prop} {cs:List Value} {g:Gm} (w:World) (h:Ob F w 1 cs g) (ht:Tab w):Calls Tryz.prog 147 #[.agg cs.toArray] w fun e w'=>e=.returned (.string (joinB [kName 1,⟨#[91]⟩,cName g.dim.toNat,⟨#[93,32,119,105,116,104,32]⟩,digits ((partsG g:Nat):Int),⟨#[32,112,111,105,110,116]⟩,sufS (partsG g)]))∧Bel w w':=by
 obtain ⟨x,y,z,m,c,full,rfl,hc,rfl⟩:=h.pt
 have hp:partsG (.mk 1 c (if full then numsOfPl c ⟨x,y,z,m⟩ else []) [])=if full then 1 else 0:=by
  rw [partsG_mk,if_pos (by decide),ct_nat hc]
  have hw:=wd_bd c
  cases full
  ·simp
  ·simp only [if_true]
   rw [numsOfPl_len,Nat.div_self (by omega)]
 have hdm:(Gm.mk 1 (c:Int) (if full then numsOfPl c ⟨x,y,z,m⟩ else []) []).dim.toNat=c:=by simp [Gm.dim]
 rw [hp,hdm]
 clear hp hdm h
 have HK:Hid (∀ W,Calls Tryz.prog 117 #[.int .i64 1] W fun e w'=>e=.returned (.string (kName 1))∧W=w'):=Lib.hid (kindStr_any 1 (by decide))
 have HC:=Lib.hid (ctStr_any c hc)
 have HT:=Lib.hid (type_1 x y z m c full)
 have HCT:=Lib.hid (pointType_any x y z m c full)
 have HEM:=Lib.hid (pointEmpty_any x y z m c full)
 show Calls Tryz.prog 147 #[.agg #[.float .f64 x,.float .f64 y,.float .f64 z,.float .f64 m,.int .u8 c,.bool full]] w _
 have s1:=kName_size 1
 have s2:=cName_size c
 generalize kName 1=kn at *
 generalize cName c=cn at *
 cases full
 ·have HI:Hid (∀ W,Bel w W→Calls Tryz.prog 190 #[.int .i64 0] W fun e w'=>e=.returned (.string (digits ((0:Nat):Int)))∧Bel W w'):=Lib.hid fun W hW=>itoa_any 0 (by omega) (by omega) W (ht.bel hW)
  have sz:=digits_size 0 (by omega)
  have hnum:(if false=true then 1 else 0)=0:=by decide
  rw [hnum]
  have HSUF:Hid (sufS 0=⟨#[115]⟩):=Lib.hid (by unfold sufS;decide)
  generalize digits ((0:Nat):Int)=dg at *
  have hS0:(9223372036854775807<kn.size+1)=False:=eq_false (by omega)
  have hS1:(9223372036854775807<kn.size+1+cn.size)=False:=eq_false (by omega)
  have hS2:(9223372036854775807<kn.size+1+cn.size+7)=False:=eq_false (by omega)
  have hS3:(9223372036854775807<kn.size+1+cn.size+7+dg.size)=False:=eq_false (by omega)
  have hS4:(9223372036854775807<kn.size+1+cn.size+7+dg.size+6)=False:=eq_false (by omega)
  have hS5:(9223372036854775807<kn.size+1+cn.size+7+dg.size+6+1)=False:=eq_false (by omega)
  clear s1 s2 sz ht hnum
  go_enter Tryz.func147,Tryz.ntmps147
  go_wp2_with (go_at_call 120;(with_reducible refine (HEM.out _).mono ?_);rintro e w1 ⟨rfl,hb1⟩;have hbw1:Bel w w1:=(show Bel w _ by exact EL).trans hb1;have C1:Blk w1 w.heap.size #[.float .f64 x,.float .f64 y,.float .f64 z,.float .f64 m,.int .u8 c,.bool false] 107:=Blk.bel (by exact KL) hb1;have HB1:=Lib.hid hbw1;have HC1:=Lib.hid C1;obtain ⟨r1,y1,u1⟩:=C1.facts;clear hbw1 C1 hb1)
  have hBB:=HB1.out
  have hCC:=HC1.out
  go_region_held3 (fun w'=>(∀ o,w'.cell? ⟨w.heap.size,o,none⟩=(#[Value.float .f64 x,.float .f64 y,.float .f64 z,.float .f64 m,.int .u8 c,.bool false]:Array Value)[o]?)∧Blk w' (w.heap.size) #[Value.float .f64 x,.float .f64 y,.float .f64 z,.float .f64 m,.int .u8 c,.bool false] 107∧Bel w w')
   (exact K1L)
   (first
   | (go_at_call 190;(with_reducible refine (HI.out _ ?hbi).mono ?_);(case hbi=>exact EL);rintro e w60 ⟨rfl,hb60⟩)
   | (go_at_call 189;(with_reducible refine (HC.out _).mono ?_);rintro e w53 ⟨rfl,hb53⟩)
   | (go_at_call 111;(with_reducible refine (HCT.out _).mono ?_);rintro e w52 ⟨rfl,hb52⟩)
   | (go_at_call 117;(with_reducible refine (HK.out _).mono ?_);rintro e w' ⟨rfl,rfl⟩)
   | (go_at_call 191;(with_reducible refine (HT.out _).mono ?_);rintro e w51 ⟨rfl,hb51⟩))
  go_wp2
  go_ret
  refine ⟨?_,by exact EL⟩
  rw [HSUF.out]
  first|rfl|simp [joinB]
 ·have HI:Hid (∀ W,Bel w W→Calls Tryz.prog 190 #[.int .i64 1] W fun e w'=>e=.returned (.string (digits ((1:Nat):Int)))∧Bel W w'):=Lib.hid fun W hW=>itoa_any 1 (by omega) (by omega) W (ht.bel hW)
  have sz:=digits_size 1 (by omega)
  have hnum:(if true=true then 1 else 0)=1:=by decide
  rw [hnum]
  have HSUF:Hid (sufS 1=⟨#[]⟩):=Lib.hid (by unfold sufS;decide)
  generalize digits ((1:Nat):Int)=dg at *
  have hS0:(9223372036854775807<kn.size+1)=False:=eq_false (by omega)
  have hS1:(9223372036854775807<kn.size+1+cn.size)=False:=eq_false (by omega)
  have hS2:(9223372036854775807<kn.size+1+cn.size+7)=False:=eq_false (by omega)
  have hS3:(9223372036854775807<kn.size+1+cn.size+7+dg.size)=False:=eq_false (by omega)
  have hS4:(9223372036854775807<kn.size+1+cn.size+7+dg.size+6)=False:=eq_false (by omega)
  clear s1 s2 sz ht hnum
  go_enter Tryz.func147,Tryz.ntmps147
  go_wp2_with (go_at_call 120;(with_reducible refine (HEM.out _).mono ?_);rintro e w1 ⟨rfl,hb1⟩;have hbw1:Bel w w1:=(show Bel w _ by exact EL).trans hb1;have C1:Blk w1 w.heap.size #[.float .f64 x,.float .f64 y,.float .f64 z,.float .f64 m,.int .u8 c,.bool true] 107:=Blk.bel (by exact KL) hb1;have HB1:=Lib.hid hbw1;have HC1:=Lib.hid C1;obtain ⟨r1,y1,u1⟩:=C1.facts;clear hbw1 C1 hb1)
  have hBB:=HB1.out
  have hCC:=HC1.out
  go_region_held3 (fun w'=>(∀ o,w'.cell? ⟨w.heap.size,o,none⟩=(#[Value.float .f64 x,.float .f64 y,.float .f64 z,.float .f64 m,.int .u8 c,.bool true]:Array Value)[o]?)∧Blk w' (w.heap.size) #[Value.float .f64 x,.float .f64 y,.float .f64 z,.float .f64 m,.int .u8 c,.bool true] 107∧Bel w w')
   (exact K1L)
   (first
   | (go_at_call 190;(with_reducible refine (HI.out _ ?hbi).mono ?_);(case hbi=>exact EL);rintro e w60 ⟨rfl,hb60⟩)
   | (go_at_call 189;(with_reducible refine (HC.out _).mono ?_);rintro e w53 ⟨rfl,hb53⟩)
   | (go_at_call 111;(with_reducible refine (HCT.out _).mono ?_);rintro e w52 ⟨rfl,hb52⟩)
   | (go_at_call 117;(with_reducible refine (HK.out _).mono ?_);rintro e w' ⟨rfl,rfl⟩)
   | (go_at_call 191;(with_reducible refine (HT.out _).mono ?_);rintro e w51 ⟨rfl,hb51⟩))
  go_wp2
  go_ret
  refine ⟨?_,by exact EL⟩
  rw [HSUF.out]
  first|rfl|simp [joinB]
end Go.Proofs.YtpipehenfcbjbaaGreatDoor
set_option linter.unusedVariables false
set_option linter.unusedSimpArgs false
namespace Go.Proofs.YtpipehenfcbjbaaGreatDoor
open Go.ChangeShapes Go.WideShapes Go.ChangeAt Go.RowKit
def sumG0 (g:Gm):ByteArray:=(joinB [kName 0,⟨#[91]⟩,cName g.dim.toNat,⟨#[93,32,119,105,116,104,32]⟩,digits ((totG g:Nat):Int),⟨#[32,99,104,105,108,100,32,103,101,111,109,101,116,114]⟩,sufY (totG g),⟨#[32,99,111,110,115,105,115,116,105,110,103,32,111,102,32]⟩,digits (((allOf g).length / wd g.dim.toNat:Nat):Int),⟨#[32,116,111,116,97,108,32,112,111,105,110,116]⟩,sufS ((allOf g).length / wd g.dim.toNat)])
def sumG1 (g:Gm):ByteArray:=(joinB [kName 1,⟨#[91]⟩,cName g.dim.toNat,⟨#[93,32,119,105,116,104,32]⟩,digits ((partsG g:Nat):Int),⟨#[32,112,111,105,110,116]⟩,sufS (partsG g)])
def sumG2 (g:Gm):ByteArray:=(joinB [kName 2,⟨#[91]⟩,cName g.dim.toNat,⟨#[93,32,119,105,116,104,32]⟩,digits (partsG g),⟨#[32,112,111,105,110,116,115]⟩])
def sumG3 (g:Gm):ByteArray:=(joinB [kName 3,⟨#[91]⟩,cName g.dim.toNat,⟨#[93,32,119,105,116,104,32]⟩,digits ((g.kids.length:Nat):Int),⟨#[32,114,105,110,103]⟩,sufS (g.kids.length),⟨#[32,99,111,110,115,105,115,116,105,110,103,32,111,102,32]⟩,digits (((allOf g).length / wd g.dim.toNat:Nat):Int),⟨#[32,116,111,116,97,108,32,112,111,105,110,116,115]⟩])
def sumG4 (g:Gm):ByteArray:=(joinB [kName 4,⟨#[91]⟩,cName g.dim.toNat,⟨#[93,32,119,105,116,104,32]⟩,digits ((g.kids.length:Nat):Int),⟨#[32,112,111,105,110,116]⟩,sufS (g.kids.length)])
def sumG5 (g:Gm):ByteArray:=(joinB [kName 5,⟨#[91]⟩,cName g.dim.toNat,⟨#[93,32,119,105,116,104,32]⟩,digits ((g.kids.length:Nat):Int),⟨#[32,108,105,110,101,115,116,114,105,110,103]⟩,sufS (g.kids.length),⟨#[32,99,111,110,115,105,115,116,105,110,103,32,111,102,32]⟩,digits (((allOf g).length / wd g.dim.toNat:Nat):Int),⟨#[32,116,111,116,97,108,32,112,111,105,110,116,115]⟩])
def sumG6 (g:Gm):ByteArray:=(joinB [kName 6,⟨#[91]⟩,cName g.dim.toNat,⟨#[93,32,119,105,116,104,32]⟩,digits ((g.kids.length:Nat):Int),⟨#[32,112,111,108,121,103,111,110]⟩,sufS (g.kids.length),⟨#[32,99,111,110,115,105,115,116,105,110,103,32,111,102,32]⟩,digits ((ringsN g.kids:Nat):Int),⟨#[32,116,111,116,97,108,32,114,105,110,103]⟩,sufS (ringsN g.kids),⟨#[32,97,110,100,32]⟩,digits (((allOf g).length / wd g.dim.toNat:Nat):Int),⟨#[32,116,111,116,97,108,32,112,111,105,110,116,115]⟩])
def sumG (g:Gm):ByteArray:=if g.kind=1 then sumG1 g else if g.kind=2 then sumG2 g else if g.kind=3 then sumG3 g else if g.kind=4 then sumG4 g else if g.kind=5 then sumG5 g else if g.kind=6 then sumG6 g else sumG0 g
set_option maxHeartbeats 8000000 in
set_option maxRecDepth 100000 in
theorem geoSum_any {F:Nat→Prop} {cs:List Value} {g:Gm} (w:World) (h:Ob F w 7 cs g) (ht:Tab w) {c:Nat} (hu:Uni c g) (hsz:g.size≤1048576):Calls Tryz.prog 53 #[.agg cs.toArray] w fun e w'=>e=.returned (.string (sumG g))∧Bel w w':=by
 obtain ⟨s,b,cl,rfl,hs6,hlt,hFb,hc,ho⟩:=h.gi
 clear h
 have h7:s=0∨s=1∨s=2∨s=3∨s=4∨s=5∨s=6:=by omega
 have HO:Hid (∀ W,Bel w W→Ob F W s cl g):=Lib.hid fun W hW=>ho.bel hW
 have HU:=Lib.hid hu
 have HSZ:=Lib.hid hsz
 have HT:Hid (∀ W,Bel w W→Tab W):=Lib.hid fun W hW=>ht.bel hW
 clear hsz hu ht
 rcases h7 with rfl|rfl|rfl|rfl|rfl|rfl|rfl
 ·have hk0:g.kind=0:=by
    obtain ⟨_,_,_,_,-,-,hge,-⟩:=ho.sl (e:=7) (k:=2) rfl
    rw [hge]
    rfl
  have hsg:sumG g=sumG0 g:=by
   simp [sumG,hk0]
  rw [hsg]
  obtain ⟨p,cap,c9,gs,hcs,-⟩:=ho.sl (e:=7) (k:=2) rfl
  subst hcs
  clear ho hk0 hsg
  show Calls Tryz.prog 53 #[.agg #[.int .i64 0,.iface 170 (.pointer (some ⟨b,0,none⟩))]] w _
  have HM:Hid (∀ W,Bel w W→Calls Tryz.prog 83 #[.agg #[.int .i64 0,.iface 170 (.pointer (some ⟨b,0,none⟩))]] W fun e w'=>e=.returned (.agg #[.slice p gs.length cap,.int .u8 c9])∧Bel W w'):=Lib.hid fun W hW=>mustAs_0 _ _ _ _ b W (cell_kept hW (hc 0 _ rfl)) (cell_kept hW (hc 1 _ rfl))
  have HC:Hid (∀ W,Bel w W→Calls Tryz.prog 146 #[.agg #[.slice p gs.length cap,.int .u8 c9]] W fun e w'=>e=.returned (.string (sumG0 g))∧Bel W w'):=Lib.hid fun W hW=>sum_0 W (HO.out W hW) (HT.out W hW) HU.out HSZ.out
  clear hc HO HT HU HSZ
  generalize gs.length=n at *
  generalize sumG0 g=sg at *
  go_enter Tryz.func53,Tryz.ntmps53
  go_wp2_with (first
   | (go_at_call 83;(with_reducible refine (HM.out _ ?hb).mono ?_);(case hb=>exact EL);rintro e w1 ⟨rfl,hb1⟩;have HB1:Hid (Bel w w1):=Lib.hid ((show Bel w _ by exact EL).trans hb1);clear hb1)
   | (go_at_call 146;(with_reducible refine (HC.out _ HB1.out).mono ?_);rintro e w2 ⟨rfl,hb2⟩;have HB2:Hid (Bel w w2):=Lib.hid (HB1.out.trans hb2);clear hb2))
  go_ret
  exact ⟨rfl,by have HB:=HB2.out;exact EL⟩
 ·have hk0:g.kind=1:=(ho.dimg (by decide) (by decide)).2
  have hsg:sumG g=sumG1 g:=by
   simp [sumG,hk0]
  rw [hsg]
  obtain ⟨x,y,z,m,c9,full,hcs,-⟩:=ho.pt
  subst hcs
  clear ho hk0 hsg
  show Calls Tryz.prog 53 #[.agg #[.int .i64 1,.iface 164 (.pointer (some ⟨b,0,none⟩))]] w _
  have HM:Hid (∀ W,Bel w W→Calls Tryz.prog 97 #[.agg #[.int .i64 1,.iface 164 (.pointer (some ⟨b,0,none⟩))]] W fun e w'=>e=.returned (.agg #[.float .f64 x,.float .f64 y,.float .f64 z,.float .f64 m,.int .u8 c9,.bool full])∧Bel W w'):=Lib.hid fun W hW=>mustAs_1 _ _ _ _ _ _ b W (cell_kept hW (hc 0 _ rfl)) (cell_kept hW (hc 1 _ rfl)) (cell_kept hW (hc 2 _ rfl)) (cell_kept hW (hc 3 _ rfl)) (cell_kept hW (hc 4 _ rfl)) (cell_kept hW (hc 5 _ rfl))
  have HC:Hid (∀ W,Bel w W→Calls Tryz.prog 147 #[.agg #[.float .f64 x,.float .f64 y,.float .f64 z,.float .f64 m,.int .u8 c9,.bool full]] W fun e w'=>e=.returned (.string (sumG1 g))∧Bel W w'):=Lib.hid fun W hW=>sum_1 W (HO.out W hW) (HT.out W hW)
  clear hc HO HT HU HSZ
  generalize sumG1 g=sg at *
  go_enter Tryz.func53,Tryz.ntmps53
  go_wp2_with (first
   | (go_at_call 97;(with_reducible refine (HM.out _ ?hb).mono ?_);(case hb=>exact EL);rintro e w1 ⟨rfl,hb1⟩;have HB1:Hid (Bel w w1):=Lib.hid ((show Bel w _ by exact EL).trans hb1);clear hb1)
   | (go_at_call 147;(with_reducible refine (HC.out _ HB1.out).mono ?_);rintro e w2 ⟨rfl,hb2⟩;have HB2:Hid (Bel w w2):=Lib.hid (HB1.out.trans hb2);clear hb2))
  go_ret
  exact ⟨rfl,by have HB:=HB2.out;exact EL⟩
 ·have hk0:g.kind=2:=(ho.dimg (by decide) (by decide)).2
  have hsg:sumG g=sumG2 g:=by
   simp [sumG,hk0]
  rw [hsg]
  obtain ⟨c9,p,n,cap,xs,hcs,-⟩:=ho.ln
  subst hcs
  clear ho hk0 hsg
  show Calls Tryz.prog 53 #[.agg #[.int .i64 2,.iface 162 (.pointer (some ⟨b,0,none⟩))]] w _
  have HM:Hid (∀ W,Bel w W→Calls Tryz.prog 67 #[.agg #[.int .i64 2,.iface 162 (.pointer (some ⟨b,0,none⟩))]] W fun e w'=>e=.returned (.agg #[.int .u8 c9,.slice p n cap])∧Bel W w'):=Lib.hid fun W hW=>mustAs_2 _ _ _ _ b W (cell_kept hW (hc 0 _ rfl)) (cell_kept hW (hc 1 _ rfl))
  have HC:Hid (∀ W,Bel w W→Calls Tryz.prog 148 #[.agg #[.int .u8 c9,.slice p n cap]] W fun e w'=>e=.returned (.string (sumG2 g))∧Bel W w'):=Lib.hid fun W hW=>lineSum_any W (HO.out W hW) (HT.out W hW)
  clear hc HO HT HU HSZ
  generalize sumG2 g=sg at *
  go_enter Tryz.func53,Tryz.ntmps53
  go_wp2_with (first
   | (go_at_call 67;(with_reducible refine (HM.out _ ?hb).mono ?_);(case hb=>exact EL);rintro e w1 ⟨rfl,hb1⟩;have HB1:Hid (Bel w w1):=Lib.hid ((show Bel w _ by exact EL).trans hb1);clear hb1)
   | (go_at_call 148;(with_reducible refine (HC.out _ HB1.out).mono ?_);rintro e w2 ⟨rfl,hb2⟩;have HB2:Hid (Bel w w2):=Lib.hid (HB1.out.trans hb2);clear hb2))
  go_ret
  exact ⟨rfl,by have HB:=HB2.out;exact EL⟩
 ·have hk0:g.kind=3:=(ho.dimg (by decide) (by decide)).2
  have hsg:sumG g=sumG3 g:=by
   simp [sumG,hk0]
  rw [hsg]
  obtain ⟨p,cap,c9,gs,hcs,-⟩:=ho.sl (e:=2) (k:=2) rfl
  subst hcs
  clear ho hk0 hsg
  show Calls Tryz.prog 53 #[.agg #[.int .i64 3,.iface 165 (.pointer (some ⟨b,0,none⟩))]] w _
  have HM:Hid (∀ W,Bel w W→Calls Tryz.prog 72 #[.agg #[.int .i64 3,.iface 165 (.pointer (some ⟨b,0,none⟩))]] W fun e w'=>e=.returned (.agg #[.slice p gs.length cap,.int .u8 c9])∧Bel W w'):=Lib.hid fun W hW=>mustAs_3 _ _ _ _ b W (cell_kept hW (hc 0 _ rfl)) (cell_kept hW (hc 1 _ rfl))
  have HC:Hid (∀ W,Bel w W→Calls Tryz.prog 149 #[.agg #[.slice p gs.length cap,.int .u8 c9]] W fun e w'=>e=.returned (.string (sumG3 g))∧Bel W w'):=Lib.hid fun W hW=>sum_3 W (HO.out W hW) (HT.out W hW) HU.out HSZ.out
  clear hc HO HT HU HSZ
  generalize gs.length=n at *
  generalize sumG3 g=sg at *
  go_enter Tryz.func53,Tryz.ntmps53
  go_wp2_with (first
   | (go_at_call 72;(with_reducible refine (HM.out _ ?hb).mono ?_);(case hb=>exact EL);rintro e w1 ⟨rfl,hb1⟩;have HB1:Hid (Bel w w1):=Lib.hid ((show Bel w _ by exact EL).trans hb1);clear hb1)
   | (go_at_call 149;(with_reducible refine (HC.out _ HB1.out).mono ?_);rintro e w2 ⟨rfl,hb2⟩;have HB2:Hid (Bel w w2):=Lib.hid (HB1.out.trans hb2);clear hb2))
  go_ret
  exact ⟨rfl,by have HB:=HB2.out;exact EL⟩
 ·have hk0:g.kind=4:=(ho.dimg (by decide) (by decide)).2
  have hsg:sumG g=sumG4 g:=by
   simp [sumG,hk0]
  rw [hsg]
  obtain ⟨p,cap,c9,gs,hcs,-⟩:=ho.sl (e:=1) (k:=6) rfl
  subst hcs
  clear ho hk0 hsg
  show Calls Tryz.prog 53 #[.agg #[.int .i64 4,.iface 167 (.pointer (some ⟨b,0,none⟩))]] w _
  have HM:Hid (∀ W,Bel w W→Calls Tryz.prog 76 #[.agg #[.int .i64 4,.iface 167 (.pointer (some ⟨b,0,none⟩))]] W fun e w'=>e=.returned (.agg #[.slice p gs.length cap,.int .u8 c9])∧Bel W w'):=Lib.hid fun W hW=>mustAs_4 _ _ _ _ b W (cell_kept hW (hc 0 _ rfl)) (cell_kept hW (hc 1 _ rfl))
  have HC:Hid (∀ W,Bel w W→Calls Tryz.prog 150 #[.agg #[.slice p gs.length cap,.int .u8 c9]] W fun e w'=>e=.returned (.string (sumG4 g))∧Bel W w'):=Lib.hid fun W hW=>sum_4 W (HO.out W hW) (HT.out W hW)
  clear hc HO HT HU HSZ
  generalize gs.length=n at *
  generalize sumG4 g=sg at *
  go_enter Tryz.func53,Tryz.ntmps53
  go_wp2_with (first
   | (go_at_call 76;(with_reducible refine (HM.out _ ?hb).mono ?_);(case hb=>exact EL);rintro e w1 ⟨rfl,hb1⟩;have HB1:Hid (Bel w w1):=Lib.hid ((show Bel w _ by exact EL).trans hb1);clear hb1)
   | (go_at_call 150;(with_reducible refine (HC.out _ HB1.out).mono ?_);rintro e w2 ⟨rfl,hb2⟩;have HB2:Hid (Bel w w2):=Lib.hid (HB1.out.trans hb2);clear hb2))
  go_ret
  exact ⟨rfl,by have HB:=HB2.out;exact EL⟩
 ·have hk0:g.kind=5:=(ho.dimg (by decide) (by decide)).2
  have hsg:sumG g=sumG5 g:=by
   simp [sumG,hk0]
  rw [hsg]
  obtain ⟨p,cap,c9,gs,hcs,-⟩:=ho.sl (e:=2) (k:=2) rfl
  subst hcs
  clear ho hk0 hsg
  show Calls Tryz.prog 53 #[.agg #[.int .i64 5,.iface 168 (.pointer (some ⟨b,0,none⟩))]] w _
  have HM:Hid (∀ W,Bel w W→Calls Tryz.prog 78 #[.agg #[.int .i64 5,.iface 168 (.pointer (some ⟨b,0,none⟩))]] W fun e w'=>e=.returned (.agg #[.slice p gs.length cap,.int .u8 c9])∧Bel W w'):=Lib.hid fun W hW=>mustAs_5 _ _ _ _ b W (cell_kept hW (hc 0 _ rfl)) (cell_kept hW (hc 1 _ rfl))
  have HC:Hid (∀ W,Bel w W→Calls Tryz.prog 151 #[.agg #[.slice p gs.length cap,.int .u8 c9]] W fun e w'=>e=.returned (.string (sumG5 g))∧Bel W w'):=Lib.hid fun W hW=>sum_5 W (HO.out W hW) (HT.out W hW) HU.out HSZ.out
  clear hc HO HT HU HSZ
  generalize gs.length=n at *
  generalize sumG5 g=sg at *
  go_enter Tryz.func53,Tryz.ntmps53
  go_wp2_with (first
   | (go_at_call 78;(with_reducible refine (HM.out _ ?hb).mono ?_);(case hb=>exact EL);rintro e w1 ⟨rfl,hb1⟩;have HB1:Hid (Bel w w1):=Lib.hid ((show Bel w _ by exact EL).trans hb1);clear hb1)
   | (go_at_call 151;(with_reducible refine (HC.out _ HB1.out).mono ?_);rintro e w2 ⟨rfl,hb2⟩;have HB2:Hid (Bel w w2):=Lib.hid (HB1.out.trans hb2);clear hb2))
  go_ret
  exact ⟨rfl,by have HB:=HB2.out;exact EL⟩
 ·have hk0:g.kind=6:=(ho.dimg (by decide) (by decide)).2
  have hsg:sumG g=sumG6 g:=by
   simp [sumG,hk0]
  rw [hsg]
  obtain ⟨p,cap,c9,gs,hcs,-⟩:=ho.sl (e:=3) (k:=2) rfl
  subst hcs
  clear ho hk0 hsg
  show Calls Tryz.prog 53 #[.agg #[.int .i64 6,.iface 169 (.pointer (some ⟨b,0,none⟩))]] w _
  have HM:Hid (∀ W,Bel w W→Calls Tryz.prog 80 #[.agg #[.int .i64 6,.iface 169 (.pointer (some ⟨b,0,none⟩))]] W fun e w'=>e=.returned (.agg #[.slice p gs.length cap,.int .u8 c9])∧Bel W w'):=Lib.hid fun W hW=>mustAs_6 _ _ _ _ b W (cell_kept hW (hc 0 _ rfl)) (cell_kept hW (hc 1 _ rfl))
  have HC:Hid (∀ W,Bel w W→Calls Tryz.prog 152 #[.agg #[.slice p gs.length cap,.int .u8 c9]] W fun e w'=>e=.returned (.string (sumG6 g))∧Bel W w'):=Lib.hid fun W hW=>sum_6 W (HO.out W hW) (HT.out W hW) HU.out HSZ.out
  clear hc HO HT HU HSZ
  generalize gs.length=n at *
  generalize sumG6 g=sg at *
  go_enter Tryz.func53,Tryz.ntmps53
  go_wp2_with (first
   | (go_at_call 80;(with_reducible refine (HM.out _ ?hb).mono ?_);(case hb=>exact EL);rintro e w1 ⟨rfl,hb1⟩;have HB1:Hid (Bel w w1):=Lib.hid ((show Bel w _ by exact EL).trans hb1);clear hb1)
   | (go_at_call 152;(with_reducible refine (HC.out _ HB1.out).mono ?_);rintro e w2 ⟨rfl,hb2⟩;have HB2:Hid (Bel w w2):=Lib.hid (HB1.out.trans hb2);clear hb2))
  go_ret
  exact ⟨rfl,by have HB:=HB2.out;exact EL⟩
set_option maxHeartbeats 8000000 in
set_option maxRecDepth 100000 in
theorem geoStr_any {F:Nat→Prop} {cs:List Value} {g:Gm} (w:World) (h:Ob F w 7 cs g) (ht:Tab w) {c:Nat} (hu:Uni c g) (hsz:g.size≤1048576):Calls Tryz.prog 54 #[.agg cs.toArray] w fun e w'=>e=.returned (.string (sumG g))∧Bel w w':=by
 have HC:Hid (∀ W,Bel w W→Calls Tryz.prog 53 #[.agg cs.toArray] W fun e w'=>e=.returned (.string (sumG g))∧Bel W w'):=Lib.hid fun W hW=>geoSum_any W (h.bel hW) (ht.bel hW) hu hsz
 obtain ⟨s,b,cl,rfl,-⟩:=h.gi
 clear h ht hu hsz
 generalize sumG g=sg at *
 generalize ptrT s=T at *
 show Calls Tryz.prog 54 #[.agg #[.int .i64 s,.iface T (.pointer (some ⟨b,0,none⟩))]] w _
 go_enter Tryz.func54,Tryz.ntmps54
 go_wp2_with (go_at_call 53;(with_reducible refine (HC.out _ ?hb).mono ?_);(case hb=>exact EL);rintro e w1 ⟨rfl,hb1⟩;have HB1:Hid (Bel w w1):=Lib.hid ((show Bel w _ by exact EL).trans hb1);clear hb1)
 go_ret
 exact ⟨rfl,by have HB:=HB1.out;exact EL⟩
end Go.Proofs.YtpipehenfcbjbaaGreatDoor
set_option linter.unusedVariables false
set_option linter.unusedSimpArgs false
namespace Go.Proofs.YtpipehenfcbjbaaGreatDoor
open Go.ChangeShapes Go.WideShapes Go.ChangeAt Go.RowKit
theorem blk16 {x:World} {p:Nat} {T:TypeId} {a0 a1 a2 a3 a4 a5 a6 a7 a8 a9 a10 a11 a12 a13 a14 a15:Value} (v0 v1 v2 v3 v4 v5 v6 v7 v8 v9 v10 v11 v12 v13 v14 v15:Value) (h:Blk x p #[a0,a1,a2,a3,a4,a5,a6,a7,a8,a9,a10,a11,a12,a13,a14,a15] T):Blk (World.setCell (World.setCell (World.setCell (World.setCell (World.setCell (World.setCell (World.setCell (World.setCell (World.setCell (World.setCell (World.setCell (World.setCell (World.setCell (World.setCell (World.setCell (World.setCell x ⟨p,0,none⟩ v0) ⟨p,1,none⟩ v1) ⟨p,2,none⟩ v2) ⟨p,3,none⟩ v3) ⟨p,4,none⟩ v4) ⟨p,5,none⟩ v5) ⟨p,6,none⟩ v6) ⟨p,7,none⟩ v7) ⟨p,8,none⟩ v8) ⟨p,9,none⟩ v9) ⟨p,10,none⟩ v10) ⟨p,11,none⟩ v11) ⟨p,12,none⟩ v12) ⟨p,13,none⟩ v13) ⟨p,14,none⟩ v14) ⟨p,15,none⟩ v15) p #[v0,v1,v2,v3,v4,v5,v6,v7,v8,v9,v10,v11,v12,v13,v14,v15] T:=by
 have h0:Blk (World.setCell x ⟨p,0,none⟩ v0) p #[v0,a1,a2,a3,a4,a5,a6,a7,a8,a9,a10,a11,a12,a13,a14,a15] T:=(h.set 0 v0).cast (by simp)
 have h1:Blk (World.setCell (World.setCell x ⟨p,0,none⟩ v0) ⟨p,1,none⟩ v1) p #[v0,v1,a2,a3,a4,a5,a6,a7,a8,a9,a10,a11,a12,a13,a14,a15] T:=(h0.set 1 v1).cast (by simp)
 have h2:Blk (World.setCell (World.setCell (World.setCell x ⟨p,0,none⟩ v0) ⟨p,1,none⟩ v1) ⟨p,2,none⟩ v2) p #[v0,v1,v2,a3,a4,a5,a6,a7,a8,a9,a10,a11,a12,a13,a14,a15] T:=(h1.set 2 v2).cast (by simp)
 have h3:Blk (World.setCell (World.setCell (World.setCell (World.setCell x ⟨p,0,none⟩ v0) ⟨p,1,none⟩ v1) ⟨p,2,none⟩ v2) ⟨p,3,none⟩ v3) p #[v0,v1,v2,v3,a4,a5,a6,a7,a8,a9,a10,a11,a12,a13,a14,a15] T:=(h2.set 3 v3).cast (by simp)
 have h4:Blk (World.setCell (World.setCell (World.setCell (World.setCell (World.setCell x ⟨p,0,none⟩ v0) ⟨p,1,none⟩ v1) ⟨p,2,none⟩ v2) ⟨p,3,none⟩ v3) ⟨p,4,none⟩ v4) p #[v0,v1,v2,v3,v4,a5,a6,a7,a8,a9,a10,a11,a12,a13,a14,a15] T:=(h3.set 4 v4).cast (by simp)
 have h5:Blk (World.setCell (World.setCell (World.setCell (World.setCell (World.setCell (World.setCell x ⟨p,0,none⟩ v0) ⟨p,1,none⟩ v1) ⟨p,2,none⟩ v2) ⟨p,3,none⟩ v3) ⟨p,4,none⟩ v4) ⟨p,5,none⟩ v5) p #[v0,v1,v2,v3,v4,v5,a6,a7,a8,a9,a10,a11,a12,a13,a14,a15] T:=(h4.set 5 v5).cast (by simp)
 have h6:Blk (World.setCell (World.setCell (World.setCell (World.setCell (World.setCell (World.setCell (World.setCell x ⟨p,0,none⟩ v0) ⟨p,1,none⟩ v1) ⟨p,2,none⟩ v2) ⟨p,3,none⟩ v3) ⟨p,4,none⟩ v4) ⟨p,5,none⟩ v5) ⟨p,6,none⟩ v6) p #[v0,v1,v2,v3,v4,v5,v6,a7,a8,a9,a10,a11,a12,a13,a14,a15] T:=(h5.set 6 v6).cast (by simp)
 have h7:Blk (World.setCell (World.setCell (World.setCell (World.setCell (World.setCell (World.setCell (World.setCell (World.setCell x ⟨p,0,none⟩ v0) ⟨p,1,none⟩ v1) ⟨p,2,none⟩ v2) ⟨p,3,none⟩ v3) ⟨p,4,none⟩ v4) ⟨p,5,none⟩ v5) ⟨p,6,none⟩ v6) ⟨p,7,none⟩ v7) p #[v0,v1,v2,v3,v4,v5,v6,v7,a8,a9,a10,a11,a12,a13,a14,a15] T:=(h6.set 7 v7).cast (by simp)
 have h8:Blk (World.setCell (World.setCell (World.setCell (World.setCell (World.setCell (World.setCell (World.setCell (World.setCell (World.setCell x ⟨p,0,none⟩ v0) ⟨p,1,none⟩ v1) ⟨p,2,none⟩ v2) ⟨p,3,none⟩ v3) ⟨p,4,none⟩ v4) ⟨p,5,none⟩ v5) ⟨p,6,none⟩ v6) ⟨p,7,none⟩ v7) ⟨p,8,none⟩ v8) p #[v0,v1,v2,v3,v4,v5,v6,v7,v8,a9,a10,a11,a12,a13,a14,a15] T:=(h7.set 8 v8).cast (by simp)
 have h9:Blk (World.setCell (World.setCell (World.setCell (World.setCell (World.setCell (World.setCell (World.setCell (World.setCell (World.setCell (World.setCell x ⟨p,0,none⟩ v0) ⟨p,1,none⟩ v1) ⟨p,2,none⟩ v2) ⟨p,3,none⟩ v3) ⟨p,4,none⟩ v4) ⟨p,5,none⟩ v5) ⟨p,6,none⟩ v6) ⟨p,7,none⟩ v7) ⟨p,8,none⟩ v8) ⟨p,9,none⟩ v9) p #[v0,v1,v2,v3,v4,v5,v6,v7,v8,v9,a10,a11,a12,a13,a14,a15] T:=(h8.set 9 v9).cast (by simp)
 have h10:Blk (World.setCell (World.setCell (World.setCell (World.setCell (World.setCell (World.setCell (World.setCell (World.setCell (World.setCell (World.setCell (World.setCell x ⟨p,0,none⟩ v0) ⟨p,1,none⟩ v1) ⟨p,2,none⟩ v2) ⟨p,3,none⟩ v3) ⟨p,4,none⟩ v4) ⟨p,5,none⟩ v5) ⟨p,6,none⟩ v6) ⟨p,7,none⟩ v7) ⟨p,8,none⟩ v8) ⟨p,9,none⟩ v9) ⟨p,10,none⟩ v10) p #[v0,v1,v2,v3,v4,v5,v6,v7,v8,v9,v10,a11,a12,a13,a14,a15] T:=(h9.set 10 v10).cast (by simp)
 have h11:Blk (World.setCell (World.setCell (World.setCell (World.setCell (World.setCell (World.setCell (World.setCell (World.setCell (World.setCell (World.setCell (World.setCell (World.setCell x ⟨p,0,none⟩ v0) ⟨p,1,none⟩ v1) ⟨p,2,none⟩ v2) ⟨p,3,none⟩ v3) ⟨p,4,none⟩ v4) ⟨p,5,none⟩ v5) ⟨p,6,none⟩ v6) ⟨p,7,none⟩ v7) ⟨p,8,none⟩ v8) ⟨p,9,none⟩ v9) ⟨p,10,none⟩ v10) ⟨p,11,none⟩ v11) p #[v0,v1,v2,v3,v4,v5,v6,v7,v8,v9,v10,v11,a12,a13,a14,a15] T:=(h10.set 11 v11).cast (by simp)
 have h12:Blk (World.setCell (World.setCell (World.setCell (World.setCell (World.setCell (World.setCell (World.setCell (World.setCell (World.setCell (World.setCell (World.setCell (World.setCell (World.setCell x ⟨p,0,none⟩ v0) ⟨p,1,none⟩ v1) ⟨p,2,none⟩ v2) ⟨p,3,none⟩ v3) ⟨p,4,none⟩ v4) ⟨p,5,none⟩ v5) ⟨p,6,none⟩ v6) ⟨p,7,none⟩ v7) ⟨p,8,none⟩ v8) ⟨p,9,none⟩ v9) ⟨p,10,none⟩ v10) ⟨p,11,none⟩ v11) ⟨p,12,none⟩ v12) p #[v0,v1,v2,v3,v4,v5,v6,v7,v8,v9,v10,v11,v12,a13,a14,a15] T:=(h11.set 12 v12).cast (by simp)
 have h13:Blk (World.setCell (World.setCell (World.setCell (World.setCell (World.setCell (World.setCell (World.setCell (World.setCell (World.setCell (World.setCell (World.setCell (World.setCell (World.setCell (World.setCell x ⟨p,0,none⟩ v0) ⟨p,1,none⟩ v1) ⟨p,2,none⟩ v2) ⟨p,3,none⟩ v3) ⟨p,4,none⟩ v4) ⟨p,5,none⟩ v5) ⟨p,6,none⟩ v6) ⟨p,7,none⟩ v7) ⟨p,8,none⟩ v8) ⟨p,9,none⟩ v9) ⟨p,10,none⟩ v10) ⟨p,11,none⟩ v11) ⟨p,12,none⟩ v12) ⟨p,13,none⟩ v13) p #[v0,v1,v2,v3,v4,v5,v6,v7,v8,v9,v10,v11,v12,v13,a14,a15] T:=(h12.set 13 v13).cast (by simp)
 have h14:Blk (World.setCell (World.setCell (World.setCell (World.setCell (World.setCell (World.setCell (World.setCell (World.setCell (World.setCell (World.setCell (World.setCell (World.setCell (World.setCell (World.setCell (World.setCell x ⟨p,0,none⟩ v0) ⟨p,1,none⟩ v1) ⟨p,2,none⟩ v2) ⟨p,3,none⟩ v3) ⟨p,4,none⟩ v4) ⟨p,5,none⟩ v5) ⟨p,6,none⟩ v6) ⟨p,7,none⟩ v7) ⟨p,8,none⟩ v8) ⟨p,9,none⟩ v9) ⟨p,10,none⟩ v10) ⟨p,11,none⟩ v11) ⟨p,12,none⟩ v12) ⟨p,13,none⟩ v13) ⟨p,14,none⟩ v14) p #[v0,v1,v2,v3,v4,v5,v6,v7,v8,v9,v10,v11,v12,v13,v14,a15] T:=(h13.set 14 v14).cast (by simp)
 have h15:Blk (World.setCell (World.setCell (World.setCell (World.setCell (World.setCell (World.setCell (World.setCell (World.setCell (World.setCell (World.setCell (World.setCell (World.setCell (World.setCell (World.setCell (World.setCell (World.setCell x ⟨p,0,none⟩ v0) ⟨p,1,none⟩ v1) ⟨p,2,none⟩ v2) ⟨p,3,none⟩ v3) ⟨p,4,none⟩ v4) ⟨p,5,none⟩ v5) ⟨p,6,none⟩ v6) ⟨p,7,none⟩ v7) ⟨p,8,none⟩ v8) ⟨p,9,none⟩ v9) ⟨p,10,none⟩ v10) ⟨p,11,none⟩ v11) ⟨p,12,none⟩ v12) ⟨p,13,none⟩ v13) ⟨p,14,none⟩ v14) ⟨p,15,none⟩ v15) p #[v0,v1,v2,v3,v4,v5,v6,v7,v8,v9,v10,v11,v12,v13,v14,v15] T:=(h14.set 15 v15).cast (by simp)
 exact h15
theorem oth16 {x:World} {b p:Nat} {cs:Array Value} {T:TypeId} (v0 v1 v2 v3 v4 v5 v6 v7 v8 v9 v10 v11 v12 v13 v14 v15:Value) (h:Blk x b cs T) (hn:b ≠ p):Blk (World.setCell (World.setCell (World.setCell (World.setCell (World.setCell (World.setCell (World.setCell (World.setCell (World.setCell (World.setCell (World.setCell (World.setCell (World.setCell (World.setCell (World.setCell (World.setCell x ⟨p,0,none⟩ v0) ⟨p,1,none⟩ v1) ⟨p,2,none⟩ v2) ⟨p,3,none⟩ v3) ⟨p,4,none⟩ v4) ⟨p,5,none⟩ v5) ⟨p,6,none⟩ v6) ⟨p,7,none⟩ v7) ⟨p,8,none⟩ v8) ⟨p,9,none⟩ v9) ⟨p,10,none⟩ v10) ⟨p,11,none⟩ v11) ⟨p,12,none⟩ v12) ⟨p,13,none⟩ v13) ⟨p,14,none⟩ v14) ⟨p,15,none⟩ v15) b cs T:=by
 exact (((((((((((((((h.other hn _).other hn _).other hn _).other hn _).other hn _).other hn _).other hn _).other hn _).other hn _).other hn _).other hn _).other hn _).other hn _).other hn _).other hn _).other hn _
theorem bel16 {w x:World} {p:Nat} (v0 v1 v2 v3 v4 v5 v6 v7 v8 v9 v10 v11 v12 v13 v14 v15:Value) (h:Bel w x) (hn:w.heap.size≤p):Bel w (World.setCell (World.setCell (World.setCell (World.setCell (World.setCell (World.setCell (World.setCell (World.setCell (World.setCell (World.setCell (World.setCell (World.setCell (World.setCell (World.setCell (World.setCell (World.setCell x ⟨p,0,none⟩ v0) ⟨p,1,none⟩ v1) ⟨p,2,none⟩ v2) ⟨p,3,none⟩ v3) ⟨p,4,none⟩ v4) ⟨p,5,none⟩ v5) ⟨p,6,none⟩ v6) ⟨p,7,none⟩ v7) ⟨p,8,none⟩ v8) ⟨p,9,none⟩ v9) ⟨p,10,none⟩ v10) ⟨p,11,none⟩ v11) ⟨p,12,none⟩ v12) ⟨p,13,none⟩ v13) ⟨p,14,none⟩ v14) ⟨p,15,none⟩ v15):=by
 exact (((((((((((((((h.setCell hn _).setCell hn _).setCell hn _).setCell hn _).setCell hn _).setCell hn _).setCell hn _).setCell hn _).setCell hn _).setCell hn _).setCell hn _).setCell hn _).setCell hn _).setCell hn _).setCell hn _).setCell hn _
theorem ob16 {F:Nat→Prop} {x:World} {s p:Nat} {cs:List Value} {g:Gm} (v0 v1 v2 v3 v4 v5 v6 v7 v8 v9 v10 v11 v12 v13 v14 v15:Value) (h:Ob F x s cs g) (hn:¬ F p):Ob F (World.setCell (World.setCell (World.setCell (World.setCell (World.setCell (World.setCell (World.setCell (World.setCell (World.setCell (World.setCell (World.setCell (World.setCell (World.setCell (World.setCell (World.setCell (World.setCell x ⟨p,0,none⟩ v0) ⟨p,1,none⟩ v1) ⟨p,2,none⟩ v2) ⟨p,3,none⟩ v3) ⟨p,4,none⟩ v4) ⟨p,5,none⟩ v5) ⟨p,6,none⟩ v6) ⟨p,7,none⟩ v7) ⟨p,8,none⟩ v8) ⟨p,9,none⟩ v9) ⟨p,10,none⟩ v10) ⟨p,11,none⟩ v11) ⟨p,12,none⟩ v12) ⟨p,13,none⟩ v13) ⟨p,14,none⟩ v14) ⟨p,15,none⟩ v15) s cs g:=by
 exact (((((((((((((((h.set hn _ _).set hn _ _).set hn _ _).set hn _ _).set hn _ _).set hn _ _).set hn _ _).set hn _ _).set hn _ _).set hn _ _).set hn _ _).set hn _ _).set hn _ _).set hn _ _).set hn _ _).set hn _ _
theorem Blk.set1 {x:World} {b:Nat} {u:Value} {T:TypeId} (h:Blk x b #[u] T) (v:Value):Blk (x.setCell ⟨b,0,none⟩ v) b #[v] T:=(h.set 0 v).cast (by simp)
theorem seven {F:Nat→Prop} {w:World} {s b:Nat} {T:TypeId} {g:Gm} (h:Ob F w 7 [.int .i64 s,.iface T (.pointer (some ⟨b,0,none⟩))] g):s≤6∧T=ptrT s∧g.kind=s∧∃ cl,(∀ (j:Nat) (u:Value),cl[j]?=some u→w.cell? ⟨b,j,none⟩=some u)∧Ob F w s cl g:=by
 obtain ⟨s',b',cl,he,h6,-,-,hc,ho⟩:=h.gi
 simp only [List.cons.injEq,Value.int.injEq,Value.iface.injEq,Value.pointer.injEq,Option.some.injEq,Addr.mk.injEq,true_and,and_true,Int.ofNat_inj] at he
 obtain ⟨rfl,rfl,rfl⟩:=he
 exact ⟨h6,rfl,ho.kind (by omega),cl,hc,ho⟩
/-- The object is a collection: it is taken as that, and counts what is in it. -/
theorem coll_yes {F:Nat→Prop} {w:World} {b s:Nat} {T:TypeId} {g:Gm} (hs:s=0) (h:Ob F w 7 [.int .i64 s,.iface T (.pointer (some ⟨b,0,none⟩))] g) (hsz:g.size≤1048576):∃ p n cap c,
  (∀ W,Bel w W→Calls Tryz.prog 55 #[.agg #[.int .i64 s,.iface T (.pointer (some ⟨b,0,none⟩))]] W fun e w'=>e=.returned (.tuple #[.agg #[.slice p n cap,.int .u8 c],.bool true])∧Bel W w') ∧
  (∀ W,Bel w W→Calls Tryz.prog 56 #[.agg #[.slice p n cap,.int .u8 c]] W fun e w'=>e=.returned (.int .i64 (totG g))∧Bel W w'):=by
 subst hs
 obtain ⟨-,rfl,hk,cl,hc,ho⟩:=seven h
 obtain ⟨p,cap,c,gs,rfl,hc3,hg,hn,-⟩:=ho.sl (e:=7) (k:=2) rfl
 have c0:=hc 0 _ rfl
 have c1:=hc 1 _ rfl
 refine ⟨p,gs.length,cap,((c:Nat):Int),fun W hW=>asGeometryCollection_yes p gs.length cap c b W (cell_kept hW c0) (cell_kept hW c1),fun W hW=>?_⟩
 exact totC_any g F [.slice p gs.length cap,.int .u8 c] W (ho.bel hW) hsz
/-- The object is a polygon: it is taken as that, and counts its holes. -/
theorem poly_yes {F:Nat→Prop} {w:World} {b s:Nat} {T:TypeId} {g:Gm} (hs:s=3) (h:Ob F w 7 [.int .i64 s,.iface T (.pointer (some ⟨b,0,none⟩))] g):∃ p n cap c,
  (∀ W,Bel w W→Calls Tryz.prog 57 #[.agg #[.int .i64 s,.iface T (.pointer (some ⟨b,0,none⟩))]] W fun e w'=>e=.returned (.tuple #[.agg #[.slice p n cap,.int .u8 c],.bool true])∧Bel W w') ∧
  (∀ W,Bel w W→Calls Tryz.prog 58 #[.agg #[.slice p n cap,.int .u8 c]] W fun e w'=>e=.returned (.int .i64 ((g.kids.length - 1:Nat):Int))∧Bel W w'):=by
 subst hs
 obtain ⟨-,rfl,hk,cl,hc,ho⟩:=seven h
 obtain ⟨p,cap,c,gs,rfl,hc3,hg,hn,-⟩:=ho.sl (e:=2) (k:=2) rfl
 have c0:=hc 0 _ rfl
 have c1:=hc 1 _ rfl
 refine ⟨p,gs.length,cap,((c:Nat):Int),fun W hW=>asPolygon_yes p gs.length cap c b W (cell_kept hW c0) (cell_kept hW c1),fun W hW=>?_⟩
 rw [hg]
 exact numInner_any p gs.length cap c hn W
end Go.Proofs.YtpipehenfcbjbaaGreatDoor
set_option linter.unusedVariables false
set_option linter.unusedSimpArgs false
namespace Go.Proofs.YtpipehenfcbjbaaGreatDoor
open Go.ChangeShapes Go.WideShapes Go.ChangeAt Go.RowKit
theorem lookIdle (p q:Addr) (w:World) :
  CallsD Tryz.prog 43 #[.pointer (some p),.pointer (some q)] .returning w fun e u' w'=>e=.returned (.tuple #[])∧u'=.returning∧w'=w:=by
 refine callsD_of_wpS Tryz.func43 rfl fun c₀ cs hu=>?_
 apply wpS_seq
 apply wpS_region
 simp [wpOpsS,go_sem,recoverD,hu,Tryz.ntmps43,Exit.thenS]
 refine wpS_cond (t:=false) (by simp [Act.eval,Array.replicate]) ?_
 simp only [Bool.false_eq_true,if_false]
 refine wpS_of_wp (wp_skip ?_)
 cases c₀
 simp_all [bodyPostS,results,Tryz.results43]
/-- What Look tells of a geometry. -/
def IsSight (g:Gm) (w:World) (e:Ending) (w':World):Prop:=∃ (f:Bool) (a b c d:Nat) (cw ccw:Bool),e=.returned (.tuple #[.agg #[.int .i64 g.kind,.int .i64 g.dim.toNat,.int .i64 (dimG g),.bool (emptyOf g),.int .i64 (partsG g),.int .i64 (if g.kind=0 then (totG g:Int) else 0),.int .i64 (if g.kind=3 then ((g.kids.length - 1:Nat):Int) else 0),.bool f,.float .f64 a,.float .f64 b,.float .f64 c,.float .f64 d,.bool cw,.bool ccw,.string (sumG g),.string (sumG g)],.bool true])∧EvW f a b c d (evOf g)∧(WholeG g→cw=cwG ltZ g∧ccw=cwG gtZ g)∧Bel w w'
end Go.Proofs.YtpipehenfcbjbaaGreatDoor
