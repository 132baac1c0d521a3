/-
 FnLookTurned: a geometry of bulk at most 1048576 and the same turned about tell the same of themselves,but that clockwise and counter-clockwise change places.
-/
import Derived.Test.YtpipehenfcbjbaaGreatDoorPza
import Derived.Test.YtpipehenfcbjbaaGreatDoorPbc
import Derived.Test.YtpipehenfcbjbaaGreatDoorPbi
set_option linter.unusedVariables false
set_option linter.unusedSimpArgs false
namespace Go.Proofs.YtpipehenfcbjbaaGreatDoor
open Go.ChangeShapes Go.WideShapes Go.ChangeAt Go.RowKit
set_option maxHeartbeats 8000000 in
set_option maxRecDepth 100000 in
theorem kAny_size {g:Gm} (h:kAnyOf g=true):g.size≤600:=by
 unfold kAnyOf at h
 simp only [Bool.and_eq_true,decide_eq_true_eq] at h
 exact h.2.1
set_option maxHeartbeats 8000000 in
set_option maxRecDepth 100000 in
theorem turnLaw_no (g:Gm) (hsz:g.size≤1048576) (hka:kAnyOf g=false):GmArg g fun v w=>Calls Tryz.prog 4 #[v] w fun e w'=>e=.returned (.bool true)∧Bel w w':=by
 intro F pn nn cn pk nk ck w hN hK
 have HFI:Hid (∀ (W:World),Bel w W→Calls Tryz.prog 6 #[.agg #[.int .i64 g.kind,.int .i64 g.dim,.slice pn nn cn,.slice pk nk ck]] W (IsBool W)):=Lib.hid fun W hW=>GmArg.of (fits_any g) hN hK hW
 have HKA:Hid (∀ (W:World),Bel w W→Calls Tryz.prog 7 #[.agg #[.int .i64 g.kind,.int .i64 g.dim,.slice pn nn cn,.slice pk nk ck]] W (IsB (kAnyOf g) W)):=Lib.hid fun W hW=>GmArg.of (kAny_any g hsz) hN hK hW
 clear hN hK
 rw [hka] at HKA
 generalize g.kind=kind at *
 generalize g.dim=dim at *
 go_enter Tryz.func4,Tryz.ntmps4
 go_wp2_with (first
  | (go_at_call 7;(with_reducible refine (HKA.out _ ?hb1a).mono ?_);(case hb1a=>(have HB:=HB1.out;exact EL));rintro e w2 ⟨rfl,hb2⟩;have HB2:Hid (Bel w w2):=Lib.hid ((show Bel w _ by (have HB:=HB1.out;exact EL)).trans hb2))
  | (go_at_call 6;(with_reducible refine (HFI.out _ ?hb).mono ?_);(case hb=>exact EL);rintro e w1 ⟨b1,rfl,hb1⟩;have HB1:Hid (Bel w w1):=Lib.hid ((Bel.alloc1 w _).trans hb1);have B1:=(Blk.new w #[.int .i64 kind,.int .i64 dim,.slice pn nn cn,.slice pk nk ck] 25).bel hb1;obtain ⟨r1,z1,l1⟩:=B1.facts;clear hb1 B1;cases b1))
 ·go_ret
  exact ⟨rfl,HB1.out⟩
 ·go_ret
  exact ⟨rfl,HB2.out⟩
set_option maxHeartbeats 8000000 in
set_option maxRecDepth 100000 in
theorem turnLaw_yes (g:Gm) (hsz:g.size≤1048576) (h64:N64 g) (hka:kAnyOf g=true):GmArg g fun v w=>Tab w→Calls Tryz.prog 4 #[v] w fun e w'=>e=.returned (.bool true)∧Bel w w':=by
 intro F pn nn cn pk nk ck w hN hK ht
 have hnn:NN (newOf g):=nn_newOf hka
 have hsn:(newOf g).size≤1048576:=Nat.le_trans (newOf_size g.size g (Nat.le_refl _)) hsz
 have hs6:(newOf g).size≤600:=Nat.le_trans (newOf_size g.size g (Nat.le_refl _)) (kAny_size hka)
 obtain ⟨s,c,hs,hc,hks,hdc⟩:=newOf_kd g
 obtain ⟨c',hc',hgd'⟩:=newOf_good g.size g (Nat.le_refl _)
 have hcc:c'=c:=by
  have:=hgd'.dim
  rw [hdc] at this
  omega
 subst hcc
 have hfix:newOf (newOf g)=newOf g:=newOf_fixed hc (newOf g).size (newOf g) (Nat.le_refl _) hgd'
 have hrg:=rev_good hc (newOf g) hgd'
 have hrz:=rev_size hc (newOf g) hgd'
 have hfix2:newOf (revG (newOf g))=revG (newOf g):=newOf_fixed hc (revG (newOf g)).size _ (Nat.le_refl _) hrg
 have hnr:NN (revG (newOf g)):=fun x hx=>hnn x (rev_mem (newOf g) hx)
 have HFI:Hid (∀ (W:World),Bel w W→Calls Tryz.prog 6 #[.agg #[.int .i64 g.kind,.int .i64 g.dim,.slice pn nn cn,.slice pk nk ck]] W (IsBool W)):=Lib.hid fun W hW=>GmArg.of (fits_any g) hN hK hW
 have HKA:Hid (∀ (W:World),Bel w W→Calls Tryz.prog 7 #[.agg #[.int .i64 g.kind,.int .i64 g.dim,.slice pn nn cn,.slice pk nk ck]] W (IsB (kAnyOf g) W)):=Lib.hid fun W hW=>GmArg.of (kAny_any g hsz) hN hK hW
 have HNE:Hid (∀ (W:World),Bel w W→Calls Tryz.prog 10 #[.agg #[.int .i64 g.kind,.int .i64 g.dim,.slice pn nn cn,.slice pk nk ck]] W (IsGm (fun _=>True) (newOf g) W)):=Lib.hid fun W hW=>GmArg.of (spNew_any g hsz (fun _=>True)) hN hK hW (New.any W)
 have HT:Hid (∀ W,Bel w W→Tab W):=Lib.hid fun W hW=>ht.bel hW
 rw [hka] at HKA
 have hkr:=(revG_kd (newOf g)).1
 have hdr:=(revG_kd (newOf g)).2.1
 rw [hks] at hkr
 rw [hdc] at hdr
 have HS1:Hid (∀ (W:World) p1 n1 c1 p2 n2 c2,FlSl (fun _=>True) W (.slice p1 n1 c1) (newOf g).nums→GmSl (fun _=>True) W (.slice p2 n2 c2) (newOf g).kids→Tab W→Calls Tryz.prog 8 #[.agg #[.int .i64 (s:Int),.int .i64 (c':Int),.slice p1 n1 c1,.slice p2 n2 c2]] W (IsSight (newOf g) W)):=Lib.hid fun W p1 n1 c1 p2 n2 c2 h1 h2 h3=>by
  have:=kSee_any (newOf g) hsn (by rw [hfix];exact hnn) _ p1 n1 c1 p2 n2 c2 W h1 h2 h3
  rw [hfix,hks,hdc] at this
  exact this
 have HS2:Hid (∀ (W:World) p1 n1 c1 p2 n2 c2,FlSl (fun _=>True) W (.slice p1 n1 c1) (revG (newOf g)).nums→GmSl (fun _=>True) W (.slice p2 n2 c2) (revG (newOf g)).kids→Tab W→Calls Tryz.prog 8 #[.agg #[.int .i64 (s:Int),.int .i64 (c':Int),.slice p1 n1 c1,.slice p2 n2 c2]] W (IsSight (revG (newOf g)) W)):=Lib.hid fun W p1 n1 c1 p2 n2 c2 h1 h2 h3=>by
  have:=kSee_any (revG (newOf g)) (by rw [hrz];exact hsn) (by rw [hfix2];exact hnr) _ p1 n1 c1 p2 n2 c2 W h1 h2 h3
  rw [hfix2,hkr,hdr] at this
  exact this
 have HRV:Hid (∀ (W:World) p1 n1 c1 p2 n2 c2,FlSl (fun _=>True) W (.slice p1 n1 c1) (newOf g).nums→GmSl (fun _=>True) W (.slice p2 n2 c2) (newOf g).kids→Calls Tryz.prog 11 #[.agg #[.int .i64 (s:Int),.int .i64 (c':Int),.slice p1 n1 c1,.slice p2 n2 c2]] W (IsGm (fun _=>True) (revG (newOf g)) W)):=Lib.hid fun W p1 n1 c1 p2 n2 c2 h1 h2=>by
  have:=spRev_any (newOf g) hsn (fun _=>True) _ p1 n1 c1 p2 n2 c2 W h1 h2 (New.any W)
  rw [hks,hdc] at this
  exact this
 have HSI:Hid (∀ (W:World) p1 n1 c1 p2 n2 c2,FlSl (fun _=>True) W (.slice p1 n1 c1) (newOf g).nums→GmSl (fun _=>True) W (.slice p2 n2 c2) (newOf g).kids→Calls Tryz.prog 9 #[.agg #[.int .i64 (s:Int),.int .i64 (c':Int),.slice p1 n1 c1,.slice p2 n2 c2]] W (IsSee (newOf g) W)):=Lib.hid fun W p1 n1 c1 p2 n2 c2 h1 h2=>by
  have:=sightOf_any (newOf g) hsn hnn (n64_newOf h64) hs hc hks hdc _ p1 n1 c1 p2 n2 c2 W h1 h2
  rw [hks,hdc] at this
  exact this
 have HBR:Hid (∀ (W:World) p1 n1 c1 p2 n2 c2,FlSl (fun _=>True) W (.slice p1 n1 c1) (newOf g).nums→GmSl (fun _=>True) W (.slice p2 n2 c2) (newOf g).kids→Calls Tryz.prog 12 #[.agg #[.int .i64 (s:Int),.int .i64 (c':Int),.slice p1 n1 c1,.slice p2 n2 c2]] W (IsBool W)):=Lib.hid fun W p1 n1 c1 p2 n2 c2 h1 h2=>by
  have:=broad_any (newOf g) hsn (n64_newOf h64) _ p1 n1 c1 p2 n2 c2 W h1 h2
  rw [hks,hdc] at this
  exact this
 have HHA:Hid (∀ (W:World) p1 n1 c1 p2 n2 c2,FlSl (fun _=>True) W (.slice p1 n1 c1) (newOf g).nums→GmSl (fun _=>True) W (.slice p2 n2 c2) (newOf g).kids→Calls Tryz.prog 13 #[.agg #[.int .i64 (s:Int),.int .i64 (c':Int),.slice p1 n1 c1,.slice p2 n2 c2]] W (IsBool W)):=Lib.hid fun W p1 n1 c1 p2 n2 c2 h1 h2=>by
  have:=has_any (newOf g) hsn _ p1 n1 c1 p2 n2 c2 W h1 h2
  rw [hks,hdc] at this
  exact this
 have HWH:Hid (Shp (newOf g)→WholeG (newOf g)):=Lib.hid fun h=>shp_whole (newOf g) h (by omega)
 have HWR:Hid (WholeG (newOf g)→WholeG (revG (newOf g))):=Lib.hid (whole_rev (newOf g))
 have e3:=rev_empty hc (newOf g) hgd'
 have e4:=partsG_rev (newOf g)
 have e5:=totG_rev (newOf g)
 have e8:=evOf_rev (newOf g)
 have e9:=sumG_rev hc (newOf g) hgd'
 have e10:=cwG_rev ltZ_neg (newOf g)
 have e11:=cwG_rev gtZ_neg (newOf g)
 clear hN hK ht hsn hnn h64 hka hfix hfix2 hrg hrz hnr hgd' hs6 hsz
 generalize revG (newOf g)=r' at *
 generalize newOf g=g' at *
 obtain ⟨k2,hk2⟩:∃ k,k=dimG g':=⟨_,rfl⟩
 obtain ⟨l2,hl2⟩:∃ k,k=dimG r':=⟨_,rfl⟩
 obtain ⟨k3,hk3⟩:∃ k,k=emptyOf g':=⟨_,rfl⟩
 obtain ⟨k4,hk4⟩:∃ k:Int,k=(partsG g':Int):=⟨_,rfl⟩
 obtain ⟨k5,hk5⟩:∃ k:Int,k=if g'.kind=0 then (totG g':Int) else 0:=⟨_,rfl⟩
 obtain ⟨k6,hk6⟩:∃ k:Int,k=if g'.kind=3 then ((g'.kids.length - 1:Nat):Int) else 0:=⟨_,rfl⟩
 obtain ⟨l6,hl6⟩:∃ k:Int,k=if r'.kind=3 then ((r'.kids.length - 1:Nat):Int) else 0:=⟨_,rfl⟩
 obtain ⟨sm,hsm⟩:∃ k,k=sumG g':=⟨_,rfl⟩
 obtain ⟨ev,hev⟩:∃ ev,ev=evOf g':=⟨_,rfl⟩
 obtain ⟨B1,hB1⟩:∃ b,b=cwG ltZ g':=⟨_,rfl⟩
 obtain ⟨B2,hB2⟩:∃ b,b=cwG gtZ g':=⟨_,rfl⟩
 have hdn:(g'.dim.toNat:Int)=(c':Int):=by rw [hdc];omega
 have hdn2:(r'.dim.toNat:Int)=(c':Int):=by rw [hdr];omega
 have HT1:Hid (∀ (W:World) p1 n1 c1 p2 n2 c2,FlSl (fun _=>True) W (.slice p1 n1 c1) g'.nums→GmSl (fun _=>True) W (.slice p2 n2 c2) g'.kids→Tab W→Calls Tryz.prog 8 #[.agg #[.int .i64 (s:Int),.int .i64 (c':Int),.slice p1 n1 c1,.slice p2 n2 c2]] W fun e w'=>∃ (f:Bool) (xa xb xc xd:Nat) (xw xv:Bool),e=.returned (.tuple #[.agg #[.int .i64 (s:Int),.int .i64 (c':Int),.int .i64 k2,.bool k3,.int .i64 k4,.int .i64 k5,.int .i64 k6,.bool f,.float .f64 xa,.float .f64 xb,.float .f64 xc,.float .f64 xd,.bool xw,.bool xv,.string sm,.string sm],.bool true])∧EvW f xa xb xc xd ev∧(WholeG g'→xw=B1∧xv=B2)∧Bel W w'):=Lib.hid fun W p1 n1 c1 p2 n2 c2 h1 h2 h3=>(HS1.out W p1 n1 c1 p2 n2 c2 h1 h2 h3).mono (by
  rintro e w' ⟨f,a,b,c'',d,cw,ccw,rfl,h1,h2,h3⟩
  refine ⟨f,a,b,c'',d,cw,ccw,?_,hev▸h1,hB1▸hB2▸h2,h3⟩
  rw [← hk5,← hk6,hks,hdn,← hk2,← hk3,← hk4,← hsm])
 have HT2:Hid (∀ (W:World) p1 n1 c1 p2 n2 c2,FlSl (fun _=>True) W (.slice p1 n1 c1) r'.nums→GmSl (fun _=>True) W (.slice p2 n2 c2) r'.kids→Tab W→Calls Tryz.prog 8 #[.agg #[.int .i64 (s:Int),.int .i64 (c':Int),.slice p1 n1 c1,.slice p2 n2 c2]] W fun e w'=>∃ (f2:Bool) (ya yb yc yd:Nat) (yw yv:Bool),e=.returned (.tuple #[.agg #[.int .i64 (s:Int),.int .i64 (c':Int),.int .i64 l2,.bool k3,.int .i64 k4,.int .i64 k5,.int .i64 l6,.bool f2,.float .f64 ya,.float .f64 yb,.float .f64 yc,.float .f64 yd,.bool yw,.bool yv,.string sm,.string sm],.bool true])∧EvW f2 ya yb yc yd ev∧(WholeG g'→yw=B2∧yv=B1)∧Bel W w'):=Lib.hid fun W p1 n1 c1 p2 n2 c2 h1 h2 h3=>(HS2.out W p1 n1 c1 p2 n2 c2 h1 h2 h3).mono (by
  rintro e w' ⟨f,a,b,c'',d,cw,ccw,rfl,h1,h2,h3⟩
  refine ⟨f,a,b,c'',d,cw,ccw,?_,by rw [hev,← e8];exact h1,fun hw=>?_,h3⟩
  ·rw [← hl6,hkr,hdn2,← hl2,e3,← hk3,e4,← hk4,e5,e9,← hsm,hk5,hks]
  ·obtain ⟨q1,q2⟩:=h2 (HWR.out hw)
   rw [e10] at q1
   rw [e11] at q2
   exact ⟨q1.trans hB2.symm,q2.trans hB1.symm⟩)
 have HSI2:Hid (∀ (W:World) p1 n1 c1 p2 n2 c2,FlSl (fun _=>True) W (.slice p1 n1 c1) g'.nums→GmSl (fun _=>True) W (.slice p2 n2 c2) g'.kids→Calls Tryz.prog 9 #[.agg #[.int .i64 (s:Int),.int .i64 (c':Int),.slice p1 n1 c1,.slice p2 n2 c2]] W fun e w'=>∃ (z0 z1 z2:Int) (z3:Bool) (z4 z5 z6:Int) (h:Bool) (za zb zc zd:Nat) (zw zv:Bool) (t1 t2:ByteArray) (wi:Bool),e=.returned (.tuple #[.agg #[.int .i64 z0,.int .i64 z1,.int .i64 z2,.bool z3,.int .i64 z4,.int .i64 z5,.int .i64 z6,.bool h,.float .f64 za,.float .f64 zb,.float .f64 zc,.float .f64 zd,.bool zw,.bool zv,.string t1,.string t2],.bool wi])∧(wi=true→WholeG g')∧Bel W w'):=Lib.hid fun W p1 n1 c1 p2 n2 c2 h1 h2=>(HSI.out W p1 n1 c1 p2 n2 c2 h1 h2).mono (by
  rintro e w' ⟨f,a,b,c'',d,cw,ccw,s1,s2,wi,rfl,-,h2,h3⟩
  exact ⟨_,_,_,_,_,_,_,_,_,_,_,_,_,_,_,_,_,rfl,fun h=>HWH.out (h2 h),h3⟩)
 have HRV2:Hid (∀ (W:World) p1 n1 c1 p2 n2 c2,FlSl (fun _=>True) W (.slice p1 n1 c1) g'.nums→GmSl (fun _=>True) W (.slice p2 n2 c2) g'.kids→Calls Tryz.prog 11 #[.agg #[.int .i64 (s:Int),.int .i64 (c':Int),.slice p1 n1 c1,.slice p2 n2 c2]] W fun e w'=>∃ pn nn cn pk nk ck,e=.returned (.agg #[.int .i64 (s:Int),.int .i64 (c':Int),.slice pn nn cn,.slice pk nk ck])∧FlSl (fun _=>True) w' (.slice pn nn cn) r'.nums∧GmSl (fun _=>True) w' (.slice pk nk ck) r'.kids∧Bel W w'):=Lib.hid fun W p1 n1 c1 p2 n2 c2 h1 h2=>(HRV.out W p1 n1 c1 p2 n2 c2 h1 h2).mono (by
  rintro e w' ⟨q1,m1,d1,q2,m2,d2,rfl,h1,h2,h3⟩
  exact ⟨q1,m1,d1,q2,m2,d2,by rw [hkr,hdr],h1,h2,h3⟩)
 have HNE2:Hid (∀ (W:World),Bel w W→Calls Tryz.prog 10 #[.agg #[.int .i64 g.kind,.int .i64 g.dim,.slice pn nn cn,.slice pk nk ck]] W fun e w'=>∃ pn nn cn pk nk ck,e=.returned (.agg #[.int .i64 (s:Int),.int .i64 (c':Int),.slice pn nn cn,.slice pk nk ck])∧FlSl (fun _=>True) w' (.slice pn nn cn) g'.nums∧GmSl (fun _=>True) w' (.slice pk nk ck) g'.kids∧Bel W w'):=Lib.hid fun W hW=>(HNE.out W hW).mono (by
  rintro e w' ⟨p1,n1,c1,p2,n2,c2,rfl,h1,h2,h3⟩
  exact ⟨p1,n1,c1,p2,n2,c2,by rw [hks,hdc],h1,h2,h3⟩)
 clear HS1 HS2 HSI HNE HRV HWH HWR hk2 hk3 hk4 hk5 hk6 hl2 hl6 hsm hev hB1 hB2 hdn hdn2 hks hdc hkr hdr hs hc hc' e3 e4 e5 e8 e9 e10 e11
 generalize WholeG g'=WG at *
 generalize g.kind=kind at *
 generalize g.dim=dim at *
 go_enter Tryz.func4,Tryz.ntmps4
 go_wp2_with (first
  | (go_at_call 13;(with_reducible refine (HHA.out _ _ _ _ _ _ _ (HF3.out.bel HX8.out) (HG3.out.bel HX8.out)).mono ?_);rintro e w9 ⟨b9,rfl,hb9⟩;have HB9:Hid (Bel w w9):=Lib.hid (HB8.out.trans hb9);have D4:=HD8.out.bel hb9;have D6:=HE8.out.bel hb9;obtain ⟨r4,z4,lt4⟩:=D4.facts;obtain ⟨r6,z6,lt6⟩:=D6.facts;clear hb9 D4 D6;cases b9)
  | (go_at_call 12;(with_reducible refine (HBR.out _ _ _ _ _ _ _ (HF3.out.bel ?hx) (HG3.out.bel ?hx)).mono ?_);(case hx=>(have HB:=HX7.out;exact EL));rintro e w8 ⟨b8,rfl,hb8⟩;have HX8:Hid (Bel w3 w8):=Lib.hid ((show Bel w3 _ by (have HB:=HX7.out;exact EL)).trans hb8);have HB8:Hid (Bel w w8):=Lib.hid (HB3.out.trans HX8.out);have D3:Blk w8 w3.heap.size #[.int .i64 (s:Int),.int .i64 (c':Int),.slice p1 n1 c1,.slice p2 n2 c2] 25:=Blk.bel (by (have HB:=HN7.out;exact KL)) hb8;obtain ⟨r3,z3,lt3⟩:=D3.facts;have HD8:Hid (Blk w8 w4.heap.size #[.int .i64 (s:Int),.int .i64 (c':Int),.int .i64 k2,.bool k3,.int .i64 k4,.int .i64 k5,.int .i64 k6,.bool f,.float .f64 xa,.float .f64 xb,.float .f64 xc,.float .f64 xd,.bool xw,.bool xv,.string sm,.string sm] 33):=Lib.hid (Blk.bel (by (have HB:=HD7.out;exact KL)) hb8);have HE8:Hid (Blk w8 w6.heap.size #[.int .i64 (s:Int),.int .i64 (c':Int),.int .i64 l2,.bool k3,.int .i64 k4,.int .i64 k5,.int .i64 l6,.bool f,.float .f64 ya,.float .f64 yb,.float .f64 yc,.float .f64 yd,.bool yw,.bool yv,.string sm,.string sm] 33):=Lib.hid (Blk.bel (by (have HB:=HE7.out;exact KL)) hb8);clear hb8 D3;cases b8)
  | (go_at_call 9;(with_reducible refine (HSI2.out _ _ _ _ _ _ _ (HF3.out.bel ?hx) (HG3.out.bel ?hx)).mono ?_);(case hx=>(have HB:=HX6.out;exact EL));rintro e w7 ⟨v0,v1,v2,v3,v4,v5,v6,h,za,zb,zc,zd,zw,zv,t1,t2,wi,rfl,hwi,hb7⟩;have HX7:Hid (Bel w3 w7):=Lib.hid ((show Bel w3 _ by (have HB:=HX6.out;exact EL)).trans hb7);have HB7:Hid (Bel w w7):=Lib.hid (HB3.out.trans HX7.out);have D3:Blk w7 w3.heap.size #[.int .i64 (s:Int),.int .i64 (c':Int),.slice p1 n1 c1,.slice p2 n2 c2] 25:=Blk.bel (by (have HB:=HN6.out;exact KL)) hb7;have HN7:=Lib.hid D3;obtain ⟨r3,y3,lt3⟩:=D3.facts;have HD7:Hid (Blk w7 w4.heap.size #[.int .i64 (s:Int),.int .i64 (c':Int),.int .i64 k2,.bool k3,.int .i64 k4,.int .i64 k5,.int .i64 k6,.bool f,.float .f64 xa,.float .f64 xb,.float .f64 xc,.float .f64 xd,.bool xw,.bool xv,.string sm,.string sm] 33):=Lib.hid (Blk.bel (by (have HB:=HD6.out;exact KL)) hb7);have HE7:Hid (Blk w7 w6.heap.size #[.int .i64 (s:Int),.int .i64 (c':Int),.int .i64 l2,.bool k3,.int .i64 k4,.int .i64 k5,.int .i64 l6,.bool f,.float .f64 ya,.float .f64 yb,.float .f64 yc,.float .f64 yd,.bool yw,.bool yv,.string sm,.string sm] 33):=Lib.hid (Blk.bel (by exact KL) hb7);clear hb7 D3;have HWI:=Lib.hid hwi;clear hwi;cases wi<;>(try (obtain ⟨hq1,hq2⟩:=HCW4.out (HWI.out rfl);obtain ⟨hq3,hq4⟩:=HCW6.out (HWI.out rfl);have hw1:=hq1.trans hq4.symm;have hw2:=hq2.trans hq3.symm;clear hq1 hq2 hq3 hq4)))
  | (go_at_call 8;(with_reducible refine (HT2.out _ _ _ _ _ _ _ (HF5.out.bel ?hx) (HG5.out.bel ?hx) (HT.out _ ?ht)).mono ?_);(case hx=>exact EL);(case ht=>(have HB:=HB5.out;exact EL));rintro e w6 ⟨f2,ya,yb,yc,yd,yw,yv,rfl,hev6,hcw6,hb6⟩;obtain ⟨rfl,e1,e2,e3,e4⟩:=evW_eq HEV4.out hev6;have HCW6:=Lib.hid hcw6;have HX6:Hid (Bel w3 w6):=Lib.hid ((show Bel w3 _ by (have HB:=HX5.out;exact EL)).trans hb6);have HB6:Hid (Bel w w6):=Lib.hid (HB3.out.trans HX6.out);have D3:Blk w6 w3.heap.size #[.int .i64 (s:Int),.int .i64 (c':Int),.slice p1 n1 c1,.slice p2 n2 c2] 25:=Blk.bel (by (have HB:=HN5.out;exact KL)) hb6;have HN6:=Lib.hid D3;obtain ⟨r3,y3,lt3⟩:=D3.facts;have D4:Blk w6 w4.heap.size #[.int .i64 (s:Int),.int .i64 (c':Int),.int .i64 k2,.bool k3,.int .i64 k4,.int .i64 k5,.int .i64 k6,.bool f,.float .f64 xa,.float .f64 xb,.float .f64 xc,.float .f64 xd,.bool xw,.bool xv,.string sm,.string sm] 33:=Blk.bel (by (have HB:=HD5.out;exact KL)) hb6;have HD6:=Lib.hid D4;obtain ⟨r4,y4,lt4⟩:=D4.facts;clear hb6 D3 D4 hev6 hcw6)
  | (go_at_call 11;(with_reducible refine (HRV2.out _ _ _ _ _ _ _ (HF3.out.bel ?hx) (HG3.out.bel ?hx)).mono ?_);(case hx=>(have HB:=HX4.out;exact EL));rintro e w5 ⟨p3,n3,c3,p4,n4,c4,rfl,hf5,hg5,hb5⟩;have HF5:=Lib.hid hf5;have HG5:=Lib.hid hg5;have HX5:Hid (Bel w3 w5):=Lib.hid ((show Bel w3 _ by (have HB:=HX4.out;exact EL)).trans hb5);have HB5:Hid (Bel w w5):=Lib.hid (HB3.out.trans HX5.out);have HN5:Hid (Blk w5 w3.heap.size #[.int .i64 (s:Int),.int .i64 (c':Int),.slice p1 n1 c1,.slice p2 n2 c2] 25):=Lib.hid (Blk.bel (by (have HB:=HN4.out;exact KL)) hb5);have HD5:Hid (Blk w5 w4.heap.size #[.int .i64 (s:Int),.int .i64 (c':Int),.int .i64 k2,.bool k3,.int .i64 k4,.int .i64 k5,.int .i64 k6,.bool f,.float .f64 xa,.float .f64 xb,.float .f64 xc,.float .f64 xd,.bool xw,.bool xv,.string sm,.string sm] 33):=Lib.hid (Blk.bel (by exact KL) hb5);clear hb5 hf5 hg5)
  | (go_at_call 8;(with_reducible refine (HT1.out _ _ _ _ _ _ _ (HF3.out.bel ?hx) (HG3.out.bel ?hx) (HT.out _ ?ht)).mono ?_);(case hx=>exact EL);(case ht=>(have HB:=HB3.out;exact EL));rintro e w4 ⟨f,xa,xb,xc,xd,xw,xv,rfl,hev4,hcw4,hb4⟩;have HEV4:=Lib.hid hev4;have HCW4:=Lib.hid hcw4;have HX4:Hid (Bel w3 w4):=Lib.hid ((show Bel w3 _ by exact EL).trans hb4);have D3:Blk w4 w3.heap.size #[.int .i64 (s:Int),.int .i64 (c':Int),.slice p1 n1 c1,.slice p2 n2 c2] 25:=Blk.bel (by exact KL) hb4;have HN4:=Lib.hid D3;obtain ⟨r3,y3,lt3⟩:=D3.facts;clear hb4 D3 hev4 hcw4)
  | (go_at_call 10;(with_reducible refine (HNE2.out _ ?hbn).mono ?_);(case hbn=>(have HB:=HB2.out;exact EL));rintro e w3 ⟨p1,n1,c1,p2,n2,c2,rfl,hf3,hg3,hb3⟩;have HF3:=Lib.hid hf3;have HG3:=Lib.hid hg3;have HB3:Hid (Bel w w3):=Lib.hid ((show Bel w _ by (have HB:=HB2.out;exact EL)).trans hb3);clear hf3 hg3 hb3)
  | (go_at_call 7;(with_reducible refine (HKA.out _ ?hb1a).mono ?_);(case hb1a=>(have HB:=HB1.out;exact EL));rintro e w2 ⟨rfl,hb2⟩;have HB2:Hid (Bel w w2):=Lib.hid ((show Bel w _ by (have HB:=HB1.out;exact EL)).trans hb2);have B2:=HP1.out.bel hb2;obtain ⟨r2,z2,lt2⟩:=B2.facts;have HP2:=Lib.hid B2;clear hb2 B2)
  | (go_at_call 6;(with_reducible refine (HFI.out _ ?hb).mono ?_);(case hb=>exact EL);rintro e w1 ⟨b1,rfl,hb1⟩;have HB1:Hid (Bel w w1):=Lib.hid ((Bel.alloc1 w _).trans hb1);have B1:=(Blk.new w #[.int .i64 kind,.int .i64 dim,.slice pn nn cn,.slice pk nk ck] 25).bel hb1;obtain ⟨r1,z1,lt1⟩:=B1.facts;have HP1:=Lib.hid B1;clear hb1 B1;cases b1))
 all_goals
  go_ret
  first
  | exact ⟨by simp,HB9.out⟩
  | exact ⟨rfl,HB8.out⟩
  | exact ⟨rfl,by (have HB:=HB7.out;exact EL)⟩
  | exact ⟨rfl,HB1.out⟩
end Go.Proofs.YtpipehenfcbjbaaGreatDoor
