/-
 FnLook: a geometry of bulk at most 1048576 tells its kind,its type,its dimension,whether it is empty,its parts,geometries and holes,and its envelope.
-/
import Derived.Test.YtpipehenfcbjbaaGreatDoorPbc
import Derived.Test.YtpipehenfcbjbaaGreatDoorPbi
import Derived.Test.YtpipehenfcbjbaaGreatDoorCards
import Derived.Test.YtpipehenfcbjbaaGreatDoorTie
import Derived.WalkKit
import Derived.ProofKit
import Derived.OpenShut
import Derived.Deep.DeepHandedRow
import Derived.Lib.LaidTab
set_option linter.unusedVariables false
set_option linter.unusedSimpArgs false
namespace Go.Proofs.YtpipehenfcbjbaaGreatDoor
open Go.ChangeShapes Go.WideShapes Go.ChangeAt Go.RowKit
set_option maxHeartbeats 8000000 in
set_option maxRecDepth 100000 in
theorem lookLaw_no (g:Gm) (hsz:g.size≤1048576) (hka:kAnyOf g=false):GmArg g fun v w=>Calls Tryz.prog 3 #[v] w fun e w'=>e=.returned (.bool true)∧Bel w w':=by
 intro F pn nn cn pk nk ck w hN hK
 have HFI:Hid (∀ (W:World),Bel w W→Calls Tryz.prog 6 #[.agg #[.int .i64 g.kind,.int .i64 g.dim,.slice pn nn cn,.slice pk nk ck]] W (IsBool W)):=Lib.hid fun W hW=>GmArg.of (fits_any g) hN hK hW
 have HKA:Hid (∀ (W:World),Bel w W→Calls Tryz.prog 7 #[.agg #[.int .i64 g.kind,.int .i64 g.dim,.slice pn nn cn,.slice pk nk ck]] W (IsB (kAnyOf g) W)):=Lib.hid fun W hW=>GmArg.of (kAny_any g hsz) hN hK hW
 clear hN hK
 rw [hka] at HKA
 generalize g.kind=kind at *
 generalize g.dim=dim at *
 go_enter Tryz.func3,Tryz.ntmps3
 go_wp2_with (first
  | (go_at_call 7;(with_reducible refine (HKA.out _ ?hb1a).mono ?_);(case hb1a=>(have HB:=HB1.out;exact EL));rintro e w2 ⟨rfl,hb2⟩;have HB2:Hid (Bel w w2):=Lib.hid ((show Bel w _ by (have HB:=HB1.out;exact EL)).trans hb2))
  | (go_at_call 6;(with_reducible refine (HFI.out _ ?hb).mono ?_);(case hb=>exact EL);rintro e w1 ⟨b1,rfl,hb1⟩;have HB1:Hid (Bel w w1):=Lib.hid ((Bel.alloc1 w _).trans hb1);have B1:=(Blk.new w #[.int .i64 kind,.int .i64 dim,.slice pn nn cn,.slice pk nk ck] 25).bel hb1;obtain ⟨r1,z1,l1⟩:=B1.facts;clear hb1 B1;cases b1))
 ·go_ret
  exact ⟨rfl,HB1.out⟩
 ·go_ret
  exact ⟨rfl,HB2.out⟩
set_option maxHeartbeats 8000000 in
set_option maxRecDepth 100000 in
theorem lookLaw_yes (g:Gm) (hsz:g.size≤1048576) (h64:N64 g) (hka:kAnyOf g=true):GmArg g fun v w=>Tab w→Calls Tryz.prog 3 #[v] w fun e w'=>e=.returned (.bool true)∧Bel w w':=by
 intro F pn nn cn pk nk ck w hN hK ht
 have hnn:NN (newOf g):=nn_newOf hka
 have hsn:(newOf g).size≤1048576:=Nat.le_trans (newOf_size g.size g (Nat.le_refl _)) hsz
 obtain ⟨s,c,hs,hc,hks,hdc⟩:=newOf_kd g
 have HFI:Hid (∀ (W:World),Bel w W→Calls Tryz.prog 6 #[.agg #[.int .i64 g.kind,.int .i64 g.dim,.slice pn nn cn,.slice pk nk ck]] W (IsBool W)):=Lib.hid fun W hW=>GmArg.of (fits_any g) hN hK hW
 have HKA:Hid (∀ (W:World),Bel w W→Calls Tryz.prog 7 #[.agg #[.int .i64 g.kind,.int .i64 g.dim,.slice pn nn cn,.slice pk nk ck]] W (IsB (kAnyOf g) W)):=Lib.hid fun W hW=>GmArg.of (kAny_any g hsz) hN hK hW
 have HSE:Hid (∀ (W:World),Bel w W→Calls Tryz.prog 8 #[.agg #[.int .i64 g.kind,.int .i64 g.dim,.slice pn nn cn,.slice pk nk ck]] W (IsSight (newOf g) W)):=Lib.hid fun W hW=>GmArg.of (kSee_any g hsz hnn) hN hK hW (ht.bel hW)
 have HNE:Hid (∀ (W:World),Bel w W→Calls Tryz.prog 10 #[.agg #[.int .i64 g.kind,.int .i64 g.dim,.slice pn nn cn,.slice pk nk ck]] W (IsGm (fun _=>True) (newOf g) W)):=Lib.hid fun W hW=>GmArg.of (spNew_any g hsz (fun _=>True)) hN hK hW (New.any W)
 have HSI:Hid (∀ (W:World) p1 n1 c1 p2 n2 c2,FlSl (fun _=>True) W (.slice p1 n1 c1) (newOf g).nums→GmSl (fun _=>True) W (.slice p2 n2 c2) (newOf g).kids→Calls Tryz.prog 9 #[.agg #[.int .i64 (newOf g).kind,.int .i64 (newOf g).dim,.slice p1 n1 c1,.slice p2 n2 c2]] W (IsSee (newOf g) W)):=Lib.hid fun W p1 n1 c1 p2 n2 c2 h1 h2=>sightOf_any (newOf g) hsn hnn (n64_newOf h64) hs hc hks hdc _ p1 n1 c1 p2 n2 c2 W h1 h2
 rw [hka] at HKA
 clear hN hK ht hsn hnn h64 hka
 generalize newOf g=g' at *
 obtain ⟨k2,hk2⟩:∃ k,k=dimG g':=⟨_,rfl⟩
 obtain ⟨k3,hk3⟩:∃ k,k=emptyOf g':=⟨_,rfl⟩
 obtain ⟨k4,hk4⟩:∃ k:Int,k=(partsG g':Int):=⟨_,rfl⟩
 obtain ⟨k5,hk5⟩:∃ k:Int,k=if g'.kind=0 then (totG g':Int) else 0:=⟨_,rfl⟩
 obtain ⟨k6,hk6⟩:∃ k:Int,k=if g'.kind=3 then ((g'.kids.length - 1:Nat):Int) else 0:=⟨_,rfl⟩
 have hdn:(g'.dim.toNat:Int)=(c:Int):=by rw [hdc];omega
 obtain ⟨ev,hev⟩:∃ ev,ev=evOf g':=⟨_,rfl⟩
 have HSE2:Hid (∀ (W:World),Bel w W→Calls Tryz.prog 8 #[.agg #[.int .i64 g.kind,.int .i64 g.dim,.slice pn nn cn,.slice pk nk ck]] W fun e w'=>∃ (f:Bool) (xa xb xc xd:Nat) (xw xv:Bool) (s1 s2:ByteArray),e=.returned (.tuple #[.agg #[.int .i64 (s:Int),.int .i64 (c:Int),.int .i64 k2,.bool k3,.int .i64 k4,.int .i64 k5,.int .i64 k6,.bool f,.float .f64 xa,.float .f64 xb,.float .f64 xc,.float .f64 xd,.bool xw,.bool xv,.string s1,.string s2],.bool true])∧EvW f xa xb xc xd ev∧Bel W w'):=Lib.hid fun W hW=>(HSE.out W hW).mono (by
  rintro e w' ⟨f,a,b,c',d,cw,ccw,rfl,h1,-,h3⟩
  refine ⟨f,a,b,c',d,cw,ccw,sumG g',sumG g',?_,hev▸h1,h3⟩
  rw [← hk5,← hk6,hks,hdn,← hk2,← hk3,← hk4])
 have HSI2:Hid (∀ (W:World) p1 n1 c1 p2 n2 c2,FlSl (fun _=>True) W (.slice p1 n1 c1) g'.nums→GmSl (fun _=>True) W (.slice p2 n2 c2) g'.kids→Calls Tryz.prog 9 #[.agg #[.int .i64 (s:Int),.int .i64 (c:Int),.slice p1 n1 c1,.slice p2 n2 c2]] W fun e w'=>∃ (h:Bool) (ya yb yc yd:Nat) (yw yv:Bool) (t1 t2:ByteArray) (wi:Bool),e=.returned (.tuple #[.agg #[.int .i64 (s:Int),.int .i64 (c:Int),.int .i64 k2,.bool k3,.int .i64 k4,.int .i64 k5,.int .i64 k6,.bool h,.float .f64 ya,.float .f64 yb,.float .f64 yc,.float .f64 yd,.bool yw,.bool yv,.string t1,.string t2],.bool wi])∧EvW h ya yb yc yd ev∧Bel W w'):=Lib.hid fun W p1 n1 c1 p2 n2 c2 h1 h2=>by
  have:=HSI.out W p1 n1 c1 p2 n2 c2 h1 h2
  rw [hks,hdc] at this
  refine this.mono ?_
  rintro e w' ⟨f,a,b,c',d,cw,ccw,s1,s2,wi,rfl,h1,-,h3⟩
  refine ⟨f,a,b,c',d,cw,ccw,s1,s2,wi,?_,hev▸h1,h3⟩
  rw [← hk5,← hk6,hks,hdc,← hk2,← hk3,← hk4]
 have HNE2:Hid (∀ (W:World),Bel w W→Calls Tryz.prog 10 #[.agg #[.int .i64 g.kind,.int .i64 g.dim,.slice pn nn cn,.slice pk nk ck]] W fun e w'=>∃ pn nn cn pk nk ck,e=.returned (.agg #[.int .i64 (s:Int),.int .i64 (c:Int),.slice pn nn cn,.slice pk nk ck])∧FlSl (fun _=>True) w' (.slice pn nn cn) g'.nums∧GmSl (fun _=>True) w' (.slice pk nk ck) g'.kids∧Bel W w'):=Lib.hid fun W hW=>(HNE.out W hW).mono (by
  rintro e w' ⟨p1,n1,c1,p2,n2,c2,rfl,h1,h2,h3⟩
  exact ⟨p1,n1,c1,p2,n2,c2,by rw [hks,hdc],h1,h2,h3⟩)
 clear HSE HSI HNE hk2 hk3 hk4 hk5 hk6 hev hdn hks hdc hs hc hsz
 generalize g.kind=kind at *
 generalize g.dim=dim at *
 go_enter Tryz.func3,Tryz.ntmps3
 go_wp2_with (first
  | (go_at_call 9;(with_reducible refine (HSI2.out _ _ _ _ _ _ _ ?hf4 ?hg4).mono ?_);(case hf4=>exact HF3.out);(case hg4=>exact HG3.out);rintro e w5 ⟨h,ya,yb,yc,yd,yw,yv,t1,t2,wi,rfl,hev5,hb5⟩;obtain ⟨rfl,e1,e2,e3,e4⟩:=evW_eq HEV.out hev5;have HB5:Hid (Bel w w5):=Lib.hid (HB4.out.trans hb5);have D5:Blk w5 w3.heap.size #[.int .i64 (s:Int),.int .i64 (c:Int),.int .i64 k2,.bool k3,.int .i64 k4,.int .i64 k5,.int .i64 k6,.bool f,.float .f64 xa,.float .f64 xb,.float .f64 xc,.float .f64 xd,.bool xw,.bool xv,.string s1,.string s2] 33:=Blk.bel HD4.out hb5;obtain ⟨r5,z5,l5⟩:=D5.facts;clear hb5 D5 hev5)
  | (go_at_call 10;(with_reducible refine (HNE2.out _ ?hbn).mono ?_);(case hbn=>(have HB:=HB3.out;exact EL));rintro e w4 ⟨p3,n3,c3,p4,n4,c4,rfl,hf3,hg3,hb4⟩;have HF3:=Lib.hid hf3;have HG3:=Lib.hid hg3;have HB4:Hid (Bel w w4):=Lib.hid ((show Bel w _ by (have HB:=HB3.out;exact EL)).trans hb4);have HD4:Hid (Blk w4 w3.heap.size #[.int .i64 (s:Int),.int .i64 (c:Int),.int .i64 k2,.bool k3,.int .i64 k4,.int .i64 k5,.int .i64 k6,.bool f,.float .f64 xa,.float .f64 xb,.float .f64 xc,.float .f64 xd,.bool xw,.bool xv,.string s1,.string s2] 33):=Lib.hid (Blk.bel (by exact KL) hb4);clear hf3 hg3 hb4)
  | (go_at_call 8;(with_reducible refine (HSE2.out _ ?hbs).mono ?_);(case hbs=>(have HB:=HB2.out;exact EL));rintro e w3 ⟨f,xa,xb,xc,xd,xw,xv,s1,s2,rfl,hev3,hb3⟩;have HEV:=Lib.hid hev3;have HB3:Hid (Bel w w3):=Lib.hid ((show Bel w _ by (have HB:=HB2.out;exact EL)).trans hb3);have B3:=HP2.out.bel hb3;obtain ⟨r3,z3,l3⟩:=B3.facts;have HP3:=Lib.hid B3;clear hb3 B3 hev3)
  | (go_at_call 7;(with_reducible refine (HKA.out _ ?hb1a).mono ?_);(case hb1a=>(have HB:=HB1.out;exact EL));rintro e w2 ⟨rfl,hb2⟩;have HB2:Hid (Bel w w2):=Lib.hid ((show Bel w _ by (have HB:=HB1.out;exact EL)).trans hb2);have B2:=HP1.out.bel hb2;obtain ⟨r2,z2,l2⟩:=B2.facts;have HP2:=Lib.hid B2;clear hb2 B2)
  | (go_at_call 6;(with_reducible refine (HFI.out _ ?hb).mono ?_);(case hb=>exact EL);rintro e w1 ⟨b1,rfl,hb1⟩;have HB1:Hid (Bel w w1):=Lib.hid ((Bel.alloc1 w _).trans hb1);have B1:=(Blk.new w #[.int .i64 kind,.int .i64 dim,.slice pn nn cn,.slice pk nk ck] 25).bel hb1;obtain ⟨r1,z1,l1⟩:=B1.facts;have HP1:=Lib.hid B1;clear hb1 B1;cases b1))
 ·go_ret
  exact ⟨rfl,HB1.out⟩
 ·go_ret
  exact ⟨rfl,by (have HB:=HB5.out;exact EL)⟩
end Go.Proofs.YtpipehenfcbjbaaGreatDoor
