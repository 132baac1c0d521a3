/-
 FnPartsAll: a multi,polygon or collection of bulk at most 1048576 is made again of all its parts,as many as it tells;of none it has X and Y alone.
-/
import Derived.Test.YtpipehenfcbjbaaGreatDoorPyj
import Derived.Test.YtpipehenfcbjbaaGreatDoorPym
set_option linter.unusedVariables false
set_option linter.unusedSimpArgs false
namespace Go.Proofs.YtpipehenfcbjbaaGreatDoor
open Go.ChangeShapes Go.WideShapes Go.ChangeAt Go.RowKit
theorem kAny_sizeP {g:Gm} (h:kAnyOf g=true):g.size≤600:=by
 unfold kAnyOf at h
 simp only [Bool.and_eq_true,decide_eq_true_eq] at h
 exact h.2.1
theorem FlSl.noneAny {F G:Nat→Prop} {w w':World} {v:Value} (h:FlSl F w v []):FlSl G w' v []:=by
 obtain ⟨p,cap,hv,hl,hc,-⟩:=h
 exact ⟨p,cap,hv,hl,hc,fun e=>absurd rfl e⟩
theorem GmSl.noneAny {F G:Nat→Prop} {w w':World} {p:Option Addr} {n c:Nat} (h:GmSl F w (.slice p n c) []):GmSl G w' (.slice p 0 c) []:=by
 obtain ⟨_,_,hv,hl,hc⟩:=h.isSlice
 cases hv
 exact .intro p c [] (fun _=>.bool false) (fun _=>.bool false) hl hc (fun e=>absurd rfl e) (fun i r hr=>by simp at hr) (fun i r hr=>by simp at hr)
set_option maxHeartbeats 8000000 in
set_option maxRecDepth 100000 in
theorem partsLaw_no (g:Gm) (hsz:g.size≤1048576) (hka:kAnyOf g=false):GmArg g fun v w=>Calls Tryz.prog 5 #[v] w fun e w'=>e=.returned (.bool true)∧Bel w w':=by
 intro F pn nn cn pk nk ck w hN hK
 have HFI:Hid (∀ (W:World),Bel w W→Calls Tryz.prog 6 #[.agg #[.int .i64 g.kind,.int .i64 g.dim,.slice pn nn cn,.slice pk nk ck]] W (IsBool W)):=Lib.hid fun W hW=>GmArg.of (fits_any g) hN hK hW
 have HKA:Hid (∀ (W:World),Bel w W→Calls Tryz.prog 7 #[.agg #[.int .i64 g.kind,.int .i64 g.dim,.slice pn nn cn,.slice pk nk ck]] W (IsB (kAnyOf g) W)):=Lib.hid fun W hW=>GmArg.of (kAny_any g hsz) hN hK hW
 clear hN hK
 rw [hka] at HKA
 generalize g.kind=kind at *
 generalize g.dim=dim at *
 go_enter Tryz.func5,Tryz.ntmps5
 go_wp2_with (first
  | (go_at_call 7;(with_reducible refine (HKA.out _ ?hb1a).mono ?_);(case hb1a=>(have HB:=HB1.out;exact EL));rintro e w2 ⟨rfl,hb2⟩;have HB2:Hid (Bel w w2):=Lib.hid ((show Bel w _ by (have HB:=HB1.out;exact EL)).trans hb2))
  | (go_at_call 6;(with_reducible refine (HFI.out _ ?hb).mono ?_);(case hb=>exact EL);rintro e w1 ⟨b1,rfl,hb1⟩;have HB1:Hid (Bel w w1):=Lib.hid ((Bel.alloc1 w _).trans hb1);have B1:=(Blk.new w #[.int .i64 kind,.int .i64 dim,.slice pn nn cn,.slice pk nk ck] 25).bel hb1;obtain ⟨r1,z1,l1⟩:=B1.facts;clear hb1 B1;cases b1))
 ·go_ret
  exact ⟨rfl,HB1.out⟩
 ·go_ret
  exact ⟨rfl,HB2.out⟩
set_option maxHeartbeats 8000000 in
set_option maxRecDepth 100000 in
theorem partsLaw_leaf (g:Gm) (hsz:g.size≤1048576) (hka:kAnyOf g=true) (hlf:(newOf g).kind=1∨(newOf g).kind=2):GmArg g fun v w=>Tab w→Calls Tryz.prog 5 #[v] w fun e w'=>e=.returned (.bool true)∧Bel w w':=by
 intro F pn nn cn pk nk ck w hN hK ht
 have hnn:NN (newOf g):=nn_newOf hka
 have hs6:(newOf g).size≤600:=Nat.le_trans (newOf_size g.size g (Nat.le_refl _)) (kAny_sizeP hka)
 have hsn:(newOf g).size≤1048576:=by omega
 obtain ⟨s,c,hs,hc,hks,hdc⟩:=newOf_kd g
 obtain ⟨c',hc',hgd⟩:=newOf_good g.size g (Nat.le_refl _)
 have hcc:c'=c:=by
  have:=hgd.dim
  rw [hdc] at this
  omega
 subst hcc
 have HFI:Hid (∀ (W:World),Bel w W→Calls Tryz.prog 6 #[.agg #[.int .i64 g.kind,.int .i64 g.dim,.slice pn nn cn,.slice pk nk ck]] W (IsBool W)):=Lib.hid fun W hW=>GmArg.of (fits_any g) hN hK hW
 have HKA:Hid (∀ (W:World),Bel w W→Calls Tryz.prog 7 #[.agg #[.int .i64 g.kind,.int .i64 g.dim,.slice pn nn cn,.slice pk nk ck]] W (IsB (kAnyOf g) W)):=Lib.hid fun W hW=>GmArg.of (kAny_any g hsz) hN hK hW
 have HNE:Hid (∀ (W:World),Bel w W→Calls Tryz.prog 10 #[.agg #[.int .i64 g.kind,.int .i64 g.dim,.slice pn nn cn,.slice pk nk ck]] W (IsGm (fun _=>True) (newOf g) W)):=Lib.hid fun W hW=>GmArg.of (spNew_any g hsz (fun _=>True)) hN hK hW (New.any W)
 have HSE:Hid (∀ (W:World),Bel w W→Calls Tryz.prog 8 #[.agg #[.int .i64 g.kind,.int .i64 g.dim,.slice pn nn cn,.slice pk nk ck]] W (IsSight (newOf g) W)):=Lib.hid fun W hW=>GmArg.of (kSee_any g hsz hnn) hN hK hW (ht.bel hW)
 rw [hka] at HKA
 have HLF:Hid (∀ W,Calls Tryz.prog 14 #[.int .i64 (s:Int)] W fun e w'=>e=.returned (.bool true)∧W=w'):=Lib.hid fun W=>by
  have:=leaf_any (s:Int) W
  rw [← hks,decide_eq_true hlf,hks] at this
  exact this
 clear hN hK ht hnn hs6 hsn hka hgd hlf
 generalize newOf g=g' at *
 obtain ⟨n,hn⟩:∃ n,n=partsG g':=⟨_,rfl⟩
 obtain ⟨k2,hk2⟩:∃ k,k=dimG g':=⟨_,rfl⟩
 obtain ⟨k3,hk3⟩:∃ k,k=emptyOf g':=⟨_,rfl⟩
 obtain ⟨k5,hk5⟩:∃ k:Int,k=if g'.kind=0 then (totG g':Int) else 0:=⟨_,rfl⟩
 obtain ⟨k6,hk6⟩:∃ k:Int,k=if g'.kind=3 then ((g'.kids.length - 1:Nat):Int) else 0:=⟨_,rfl⟩
 obtain ⟨sm,hsm⟩:∃ k,k=sumG g':=⟨_,rfl⟩
 have hdn:(g'.dim.toNat:Int)=(c':Int):=by rw [hdc];omega
 have HSE2:Hid (∀ (W:World),Bel w W→Calls Tryz.prog 8 #[.agg #[.int .i64 g.kind,.int .i64 g.dim,.slice pn nn cn,.slice pk nk ck]] W fun e w'=>∃ (f:Bool) (xa xb xc xd:Nat) (xw xv:Bool),e=.returned (.tuple #[.agg #[.int .i64 (s:Int),.int .i64 (c':Int),.int .i64 k2,.bool k3,.int .i64 (n:Nat),.int .i64 k5,.int .i64 k6,.bool f,.float .f64 xa,.float .f64 xb,.float .f64 xc,.float .f64 xd,.bool xw,.bool xv,.string sm,.string sm],.bool true])∧Bel W w'):=Lib.hid fun W hW=>(HSE.out W hW).mono (by
  rintro e w' ⟨f,a,b,c'',d,cw,ccw,rfl,-,-,h3⟩
  exact ⟨f,a,b,c'',d,cw,ccw,by rw [← hk5,← hk6,hks,hdn,← hk2,← hk3,← hn,← hsm],h3⟩)
 have HNE2:Hid (∀ (W:World),Bel w W→Calls Tryz.prog 10 #[.agg #[.int .i64 g.kind,.int .i64 g.dim,.slice pn nn cn,.slice pk nk ck]] W fun e w'=>∃ pn nn cn pk nk ck,e=.returned (.agg #[.int .i64 (s:Int),.int .i64 (c':Int),.slice pn nn cn,.slice pk nk ck])∧Bel W w'):=Lib.hid fun W hW=>(HNE.out W hW).mono (by
  rintro e w' ⟨p1,n1,c1,p2,n2,c2,rfl,h1,h2,h3⟩
  exact ⟨p1,n1,c1,p2,n2,c2,by rw [hks,hdc],h3⟩)
 clear HSE HNE hk2 hk3 hk5 hk6 hsm hn hdn hks hdc hs hc hc'
 generalize g.kind=kind at *
 generalize g.dim=dim at *
 go_enter Tryz.func5,Tryz.ntmps5
 go_wp2_with (first
  | (go_at_call 14;(with_reducible refine (HLF.out _).mono ?_);rintro e w' ⟨rfl,rfl⟩)
  | (go_at_call 8;(with_reducible refine (HSE2.out _ ?hbs).mono ?_);(case hbs=>(have HB:=HB3.out;exact EL));rintro e w4 ⟨f,xa,xb,xc,xd,xw,xv,rfl,hb4⟩;have HX4:Hid (Bel w3 w4):=Lib.hid ((show Bel w3 _ by exact EL).trans hb4);have HB4:Hid (Bel w w4):=Lib.hid (HB3.out.trans HX4.out);have D1:Blk w4 w.heap.size #[.int .i64 kind,.int .i64 dim,.slice pn nn cn,.slice pk nk ck] 25:=Blk.bel (by (have HB:=HP3.out;exact KL)) hb4;have HP4:=Lib.hid D1;obtain ⟨r1,y1,t1⟩:=D1.facts;have D3:Blk w4 w3.heap.size #[.int .i64 (s:Int),.int .i64 (c':Int),.slice p1 n1 c1,.slice p2 n2 c2] 25:=Blk.bel (by exact KL) hb4;have HN4:=Lib.hid D3;obtain ⟨r3,y3,t3⟩:=D3.facts;clear hb4 D1 D3)
  | (go_at_call 10;(with_reducible refine (HNE2.out _ ?hbn).mono ?_);(case hbn=>(have HB:=HB2.out;exact EL));rintro e w3 ⟨p1,n1,c1,p2,n2,c2,rfl,hb3⟩;have HB3:Hid (Bel w w3):=Lib.hid ((show Bel w _ by (have HB:=HB2.out;exact EL)).trans hb3);have HP3:Hid (Blk w3 w.heap.size #[.int .i64 kind,.int .i64 dim,.slice pn nn cn,.slice pk nk ck] 25):=Lib.hid (Blk.bel (by (have HB:=HP2.out;exact KL)) hb3);obtain ⟨rr,yy,tt⟩:=HP3.out.facts;clear hb3)
  | (go_at_call 7;(with_reducible refine (HKA.out _ ?hb1a).mono ?_);(case hb1a=>(have HB:=HB1.out;exact EL));rintro e w2 ⟨rfl,hb2⟩;have HB2:Hid (Bel w w2):=Lib.hid ((show Bel w _ by (have HB:=HB1.out;exact EL)).trans hb2);have B2:=HP1.out.bel hb2;obtain ⟨ra,ya,ta⟩:=B2.facts;have HP2:=Lib.hid B2;clear hb2 B2)
  | (go_at_call 6;(with_reducible refine (HFI.out _ ?hb).mono ?_);(case hb=>exact EL);rintro e w1 ⟨b1,rfl,hb1⟩;have HB1:Hid (Bel w w1):=Lib.hid ((Bel.alloc1 w _).trans hb1);have B1:=(Blk.new w #[.int .i64 kind,.int .i64 dim,.slice pn nn cn,.slice pk nk ck] 25).bel hb1;obtain ⟨rb,yb,tb⟩:=B1.facts;have HP1:=Lib.hid B1;clear hb1 B1;cases b1))
 ·go_ret
  exact ⟨rfl,HB1.out⟩
 ·go_ret
  exact ⟨rfl,by (have HB:=HB4.out;exact EL)⟩
set_option maxHeartbeats 8000000 in
set_option maxRecDepth 100000 in
theorem partsLaw_multi (g:Gm) (hsz:g.size≤1048576) (hka:kAnyOf g=true) (hm:MultiK (newOf g).kind):GmArg g fun v w=>Tab w→Calls Tryz.prog 5 #[v] w fun e w'=>e=.returned (.bool true)∧Bel w w':=by
 intro F pn nn cn pk nk ck w hN hK ht
 have hnn:NN (newOf g):=nn_newOf hka
 have hs6:(newOf g).size≤600:=Nat.le_trans (newOf_size g.size g (Nat.le_refl _)) (kAny_sizeP hka)
 have hsn:(newOf g).size≤1048576:=by omega
 obtain ⟨s,c,hs,hc,hks,hdc⟩:=newOf_kd g
 obtain ⟨c',hc',hgd⟩:=newOf_good g.size g (Nat.le_refl _)
 have hcc:c'=c:=by
  have:=hgd.dim
  rw [hdc] at this
  omega
 subst hcc
 have HFI:Hid (∀ (W:World),Bel w W→Calls Tryz.prog 6 #[.agg #[.int .i64 g.kind,.int .i64 g.dim,.slice pn nn cn,.slice pk nk ck]] W (IsBool W)):=Lib.hid fun W hW=>GmArg.of (fits_any g) hN hK hW
 have HKA:Hid (∀ (W:World),Bel w W→Calls Tryz.prog 7 #[.agg #[.int .i64 g.kind,.int .i64 g.dim,.slice pn nn cn,.slice pk nk ck]] W (IsB (kAnyOf g) W)):=Lib.hid fun W hW=>GmArg.of (kAny_any g hsz) hN hK hW
 have HNE:Hid (∀ (W:World),Bel w W→Calls Tryz.prog 10 #[.agg #[.int .i64 g.kind,.int .i64 g.dim,.slice pn nn cn,.slice pk nk ck]] W (IsGm (fun _=>True) (newOf g) W)):=Lib.hid fun W hW=>GmArg.of (spNew_any g hsz (fun _=>True)) hN hK hW (New.any W)
 have HSE:Hid (∀ (W:World),Bel w W→Calls Tryz.prog 8 #[.agg #[.int .i64 g.kind,.int .i64 g.dim,.slice pn nn cn,.slice pk nk ck]] W (IsSight (newOf g) W)):=Lib.hid fun W hW=>GmArg.of (kSee_any g hsz hnn) hN hK hW (ht.bel hW)
 rw [hka] at HKA
 have hl6:(newOf g).kids.length≤600:=by
  have:=Gm.len_sizes (newOf g).kids
  have:=(newOf g).size_eq
  omega
 have HLF:Hid (∀ W,Calls Tryz.prog 14 #[.int .i64 (s:Int)] W fun e w'=>e=.returned (.bool false)∧W=w'):=Lib.hid fun W=>by
  have:=leaf_any (s:Int) W
  rw [← hks,decide_eq_false (by rcases hm with e|e|e|e|e<;>rw [e]<;>omega),hks] at this
  exact this
 have HPI:Hid (∀ (t:Nat) (kid:Gm) (W:World),(newOf g).kids[t]?=some kid→Bel w W→Calls Tryz.prog 15 #[.agg #[.int .i64 g.kind,.int .i64 g.dim,.slice pn nn cn,.slice pk nk ck],.int .i64 (t:Nat)] W (IsPd (fun b=>W.heap.size≤b) kid true W)):=Lib.hid fun t kid W hk hW=>partOf_in g kid hsz t (fun cs W h=>part_in (newOf g) kid t hk hm cs W h) (fun b=>W.heap.size≤b) F pn nn cn pk nk ck W (fun b hb=>hb) (hN.bel hW) (hK.bel hW)
 have HPO:Hid (∀ W,Bel w W→Calls Tryz.prog 15 #[.agg #[.int .i64 g.kind,.int .i64 g.dim,.slice pn nn cn,.slice pk nk ck],.int .i64 ((newOf g).kids.length:Nat)] W fun e w'=>∃ (a b:Int) (p1:Option Addr) (n1 c1:Nat) (p2:Option Addr) (n2 c2:Nat),e=.returned (.tuple #[.agg #[.int .i64 a,.int .i64 b,.slice p1 n1 c1,.slice p2 n2 c2],.bool (overB (newOf g))])∧Bel W w'):=Lib.hid fun W hW=>partOf_over g hsz hm hl6 F pn nn cn pk nk ck W (hN.bel hW) (hK.bel hW)
 have HNO:Hid (∀ (W:World) (p0:Option Addr) (c0:Nat),GmSl (fun _=>True) W (.slice p0 (newOf g).kids.length c0) (newOf g).kids→Calls Tryz.prog 16 #[.int .i64 (s:Int),.slice p0 (newOf g).kids.length c0] W (IsPd (fun _=>True) (againG (newOf g)) true W)):=Lib.hid fun W p0 c0 h=>newOfPd_any (againG (newOf g)) s p0 _ c0 W (fun _=>True) (New.any W) fun W' hW=>newOf_again hc' hgd hm s hks hsn (fun _=>True) p0 c0 W' (h.bel hW)
 have HAL:Hid (AlikeOk (againG (newOf g))):=Lib.hid (alike_any _ (again_size hsn) (again_nn hnn))
 have hnum:(newOf g).nums=[]:=by
  have hgd2:=hgd
  revert hgd2 hm
  cases newOf g with
  | mk kk d ns ks =>
   intro hm hgd2
   rw [Good] at hgd2
   refine hgd2.2.2.2.2.2.1 fun hl=>?_
   unfold leafB at hl
   rcases hm with e|e|e|e|e<;>(simp only [Gm.kind] at e;omega)
 have hov:overB (newOf g)=(decide ((s:Int)=3) && decide ((newOf g).kids.length=0)):=by
  unfold overB
  rw [hks]
 have hpg:partsG (newOf g)=(newOf g).kids.length:=by
  unfold partsG
  rw [if_neg (by rcases hm with e|e|e|e|e<;>rw [e]<;>omega)]
 have hag:againG (newOf g)=if (newOf g).kids=[] then .mk s 0 [] [] else newOf g:=by
  unfold againG
  rw [hks]
 rw [hov] at HPO
 clear hN hK ht hnn hs6 hsn hka hgd hov
 generalize againG (newOf g)=ag at *
 generalize newOf g=g' at *
 obtain ⟨k2,hk2⟩:∃ k,k=dimG g':=⟨_,rfl⟩
 obtain ⟨k3,hk3⟩:∃ k,k=emptyOf g':=⟨_,rfl⟩
 obtain ⟨k5,hk5⟩:∃ k:Int,k=if g'.kind=0 then (totG g':Int) else 0:=⟨_,rfl⟩
 obtain ⟨k6,hk6⟩:∃ k:Int,k=if g'.kind=3 then ((g'.kids.length - 1:Nat):Int) else 0:=⟨_,rfl⟩
 obtain ⟨sm,hsm⟩:∃ k,k=sumG g':=⟨_,rfl⟩
 have hdn:(g'.dim.toNat:Int)=(c':Int):=by rw [hdc];omega
 generalize hkd:g'.kids=ks at *
 generalize hn:ks.length=n at *
 have HSE2:Hid (∀ (W:World),Bel w W→Calls Tryz.prog 8 #[.agg #[.int .i64 g.kind,.int .i64 g.dim,.slice pn nn cn,.slice pk nk ck]] W fun e w'=>∃ (f:Bool) (xa xb xc xd:Nat) (xw xv:Bool),e=.returned (.tuple #[.agg #[.int .i64 (s:Int),.int .i64 (c':Int),.int .i64 k2,.bool k3,.int .i64 (n:Nat),.int .i64 k5,.int .i64 k6,.bool f,.float .f64 xa,.float .f64 xb,.float .f64 xc,.float .f64 xd,.bool xw,.bool xv,.string sm,.string sm],.bool true])∧Bel W w'):=Lib.hid fun W hW=>(HSE.out W hW).mono (by
  rintro e w' ⟨f,a,b,c'',d,cw,ccw,rfl,-,-,h3⟩
  exact ⟨f,a,b,c'',d,cw,ccw,by rw [hkd,hn] at *;rw [← hk5,← hk6,hks,hdn,← hk2,← hk3,hpg,← hsm],h3⟩)
 have HNE2:Hid (∀ (W:World),Bel w W→Calls Tryz.prog 10 #[.agg #[.int .i64 g.kind,.int .i64 g.dim,.slice pn nn cn,.slice pk nk ck]] W fun e w'=>∃ pn nn cn pk ck,e=.returned (.agg #[.int .i64 (s:Int),.int .i64 (c':Int),.slice pn nn cn,.slice pk n ck])∧FlSl (fun _=>True) w' (.slice pn nn cn) []∧GmSl (fun _=>True) w' (.slice pk n ck) ks∧Bel W w'):=Lib.hid fun W hW=>(HNE.out W hW).mono (by
  rintro e w' ⟨p1,n1,c1,p2,n2,c2,rfl,h1,h2,h3⟩
  rw [hnum] at h1
  rw [hkd] at h2
  obtain ⟨_,_,hve,-,-⟩:=h2.isSlice
  cases hve
  subst hn
  exact ⟨p1,n1,c1,p2,c2,by rw [hks,hdc],h1,h2,h3⟩)
 obtain ⟨D,hD⟩:∃ D:Int,D=if n=0 then 0 else (c':Int):=⟨_,rfl⟩
 have ha:ag.kind=(s:Int)∧ag.dim=D∧ag.nums=[]∧ag.kids=ks:=by
  rw [hag,hD]
  by_cases h0:ks=[]
  ·rw [if_pos h0,if_pos (by rw [← hn,h0];rfl)]
   exact ⟨rfl,rfl,rfl,h0.symm⟩
  ·rw [if_neg h0,if_neg (fun e=>h0 (List.length_eq_zero_iff.1 (by omega)))]
   exact ⟨hks,hdc,hnum,hkd⟩
 have HAL2:Hid (∀ (pm:Option Addr) (nm cm:Nat) (pl:Option Addr) (cl:Nat) (p1:Option Addr) (n1 c1:Nat) (p2:Option Addr) (c2:Nat) (W:World),FlSl (fun _=>True) W (.slice pm nm cm) []→GmSl (fun _=>True) W (.slice pl n cl) ks→FlSl (fun _=>True) W (.slice p1 n1 c1) []→GmSl (fun _=>True) W (.slice p2 n c2) ks→Calls Tryz.prog 17 #[.agg #[.int .i64 (s:Int),.int .i64 D,.slice pm nm cm,.slice pl n cl],.agg #[.int .i64 (s:Int),.int .i64 D,.slice p1 n1 c1,.slice p2 n c2]] W fun e w'=>e=.returned (.bool true)∧Bel W w'):=Lib.hid fun pm nm cm pl cl p1 n1 c1 p2 c2 W h1 h2 h3 h4=>by
  have:=HAL.out (fun _=>True) (fun _=>True) pm nm cm pl n cl p1 n1 c1 p2 n c2 W (by rw [ha.2.2.1];exact h1) (by rw [ha.2.2.2];exact h2) (by rw [ha.2.2.1];exact h3) (by rw [ha.2.2.2];exact h4)
  rw [ha.1,ha.2.1] at this
  exact this
 have HNO2:Hid (∀ (W:World) (p0:Option Addr) (c0:Nat),GmSl (fun _=>True) W (.slice p0 n c0) ks→Calls Tryz.prog 16 #[.int .i64 (s:Int),.slice p0 n c0] W fun e w'=>∃ (pm:Option Addr) (nm cm:Nat) (pl:Option Addr) (cl:Nat),e=.returned (.tuple #[.agg #[.int .i64 (s:Int),.int .i64 D,.slice pm nm cm,.slice pl n cl],.bool true])∧FlSl (fun _=>True) w' (.slice pm nm cm) []∧GmSl (fun _=>True) w' (.slice pl n cl) ks∧Bel W w'):=Lib.hid fun W p0 c0 h=>(HNO.out W p0 c0 h).mono (by
  rintro e w' ⟨pm,nm,cm,pl,nl,cl,rfl,h1,h2,h3⟩
  rw [ha.2.2.1] at h1
  rw [ha.2.2.2] at h2
  obtain ⟨_,_,hve,-,-⟩:=h2.isSlice
  cases hve
  subst hn
  exact ⟨pm,nm,cm,pl,cl,by rw [ha.1,ha.2.1],h1,h2,h3⟩)
 obtain ⟨b3,hb3⟩:∃ b,((s:Int) == 3)=b:=⟨_,rfl⟩
 obtain ⟨b0,hb0⟩:∃ b,((n:Int) == 0)=b:=⟨_,rfl⟩
 have hbb:(decide ((s:Int)=3) && decide (n=0))=(b3 && b0):=by
  rw [← hb3,← hb0]
  congr 1
  show decide (n=0)=decide ((n:Int)=0)
  exact decide_eq_decide.2 (by omega)
 rw [hbb] at HPO
 clear HSE HNE HAL HNO hk2 hk3 hk5 hk6 hsm hdn hks hdc hs hc hc' hnum hpg hag hkd hm hsz ha hbb
 have HN:=Lib.hid hn
 clear hn
 generalize g.kind=kind at *
 generalize g.dim=dim at *
 obtain ⟨i0,hi,hz0,hz1,hz2⟩:=info_parts infoGm
 have h1000:(n:Int)<1000:=by omega
 go_enter Tryz.func5,Tryz.ntmps5
 go_wp2_with (first
  | (go_at_call 14;(with_reducible refine (HLF.out _).mono ?_);rintro e w' ⟨rfl,rfl⟩)
  | (go_at_call 8;(with_reducible refine (HSE2.out _ ?hbs).mono ?_);(case hbs=>(have HB:=HB3.out;exact EL));rintro e w4 ⟨f,xa,xb,xc,xd,xw,xv,rfl,hb4⟩;have HX4:Hid (Bel w3 w4):=Lib.hid ((show Bel w3 _ by exact EL).trans hb4);have HB4:Hid (Bel w w4):=Lib.hid (HB3.out.trans HX4.out);have D1:Blk w4 w.heap.size #[.int .i64 kind,.int .i64 dim,.slice pn nn cn,.slice pk nk ck] 25:=Blk.bel (by (have HB:=HP3.out;exact KL)) hb4;have HP4:=Lib.hid D1;obtain ⟨r1,y1,t1⟩:=D1.facts;have D3:Blk w4 w3.heap.size #[.int .i64 (s:Int),.int .i64 (c':Int),.slice p1 n1 c1,.slice p2 n c2] 25:=Blk.bel (by exact KL) hb4;have HN4:=Lib.hid D3;obtain ⟨r3,y3,t3⟩:=D3.facts;clear hb4 D1 D3)
  | (go_at_call 10;(with_reducible refine (HNE2.out _ ?hbn).mono ?_);(case hbn=>(have HB:=HB2.out;exact EL));rintro e w3 ⟨p1,n1,c1,p2,c2,rfl,hf3,hg3,hb3⟩;have HF3:=Lib.hid hf3;have HG3:=Lib.hid hg3;have HB3:Hid (Bel w w3):=Lib.hid ((show Bel w _ by (have HB:=HB2.out;exact EL)).trans hb3);have HP3:Hid (Blk w3 w.heap.size #[.int .i64 kind,.int .i64 dim,.slice pn nn cn,.slice pk nk ck] 25):=Lib.hid (Blk.bel (by (have HB:=HP2.out;exact KL)) hb3);obtain ⟨rr,yy,tt⟩:=HP3.out.facts;clear hf3 hg3 hb3)
  | (go_at_call 7;(with_reducible refine (HKA.out _ ?hb1a).mono ?_);(case hb1a=>(have HB:=HB1.out;exact EL));rintro e w2 ⟨rfl,hb2⟩;have HB2:Hid (Bel w w2):=Lib.hid ((show Bel w _ by (have HB:=HB1.out;exact EL)).trans hb2);have B2:=HP1.out.bel hb2;obtain ⟨ra,ya,ta⟩:=B2.facts;have HP2:=Lib.hid B2;clear hb2 B2)
  | (go_at_call 6;(with_reducible refine (HFI.out _ ?hb).mono ?_);(case hb=>exact EL);rintro e w1 ⟨b1,rfl,hb1⟩;have HB1:Hid (Bel w w1):=Lib.hid ((Bel.alloc1 w _).trans hb1);have B1:=(Blk.new w #[.int .i64 kind,.int .i64 dim,.slice pn nn cn,.slice pk nk ck] 25).bel hb1;obtain ⟨rb,yb,tb⟩:=B1.facts;have HP1:=Lib.hid B1;clear hb1 B1;cases b1))
 ·go_ret
  exact ⟨rfl,HB1.out⟩
 go_loopw [6,7] (fun a iv wr=>∃ (t:Nat) (p0:Option Addr) (c0:Nat) (xs:List Value),a=.slice p0 t c0∧iv=.int .i64 t∧t≤n∧Bel w4 wr∧w4.heap.size<wr.heap.size∧Blk wr w4.heap.size #[.int .i64 (s:Int),.int .i64 (c':Int),.int .i64 k2,.bool k3,.int .i64 (n:Nat),.int .i64 k5,.int .i64 k6,.bool f,.float .f64 xa,.float .f64 xb,.float .f64 xc,.float .f64 xd,.bool xw,.bool xv,.string sm,.string sm] 33∧wr.ownsRow (w4.heap.size+1) 25 4 (.slice p0 t c0) t xs∧RowGm (fun b=>w4.heap.size+1≤b∧Value.ownBlock (.slice p0 t c0) ≠ some b) wr xs (ks.take t)) (fun _ iv _=>n - (intOf iv).toNat)
 case atStart=>exact ⟨0,none,0,[],rfl,rfl,Nat.zero_le _,by exact EL,by simp,by exact KL,World.ownsRow_nil _ _ _ _,fun i g hg=>by simp at hg⟩
 case round =>
  obtain ⟨t,p0,c0,xs,rfl,rfl,ht,hbel,hgrow,hb4,hown,hrow⟩:=hrel
  have HBEL:=Lib.hid hbel
  have HBW:=Lib.hid (HB4.out.trans hbel)
  have HGROW:=Lib.hid hgrow
  have HG4:=Lib.hid hb4
  have HOWN:=Lib.hid hown
  have HROW:=Lib.hid hrow
  obtain ⟨r4,y4,t4⟩:=hb4.facts
  have HPR:=Lib.hid (HP4.out.bel hbel)
  have HNR:=Lib.hid (HN4.out.bel hbel)
  obtain ⟨r5,y5,t5⟩:=HPR.out.facts
  obtain ⟨r6,y6,t6⟩:=HNR.out.facts
  clear hb4 hown hrow hbel hgrow
  by_cases htn:t<n
  ·obtain ⟨kd,hkd⟩:∃ kd,ks[t]?=some kd:=⟨_,List.getElem?_eq_getElem (by have:=HN.out;omega)⟩
   have HPT:Hid (∀ W,Bel w W→Calls Tryz.prog 15 #[.agg #[.int .i64 kind,.int .i64 dim,.slice pn nn cn,.slice pk nk ck],.int .i64 (t:Nat)] W (IsPd (fun b=>W.heap.size≤b) kd true W)):=Lib.hid fun W hW=>HPI.out t kd W hkd hW
   have HTK:Hid (ks.take (t+1)=ks.take t ++ [kd]):=Lib.hid (by rw [List.take_add_one,hkd];rfl)
   have HLT2:Hid ((ks.take t).length=t):=Lib.hid (by rw [List.length_take,HN.out];omega)
   have ht1000:(t:Int)<1000:=by omega
   clear hkd
   go_wp2_with (first
    | (at_builtin;(refine wpList_append_row _ rfl (.tmp 53) (.tmp 55) 23 rfl (w4.heap.size+1) 25 i0 _ 4 64 Tryz.underlying23 hi hz0 hz1 hz2 rfl (by decide) (.slice p0 t c0) t xs rfl (own_kept HOWN.out (show Bel wr _ by (have HB:=HX5.out;exact EL))) ⟨w5.heap.size+1,0,none⟩ 1 1 [.int .i64 kd.kind,.int .i64 kd.dim,.slice p4 n4 c4,.slice p5 n5 c5] rfl rfl (blk_arr (cs:=#[.int .i64 kd.kind,.int .i64 kd.dim,.slice p4 n4 c4,.slice p5 n5 c5]) (t:=25) (by exact KL)) (by simp [Value.oneCell']) (by decide) (by unfold maxLen;omega) (by omega) (by have:=HGROW.out;have:=HX5.out.size;simp;omega) ?_;intro v' w6 ho6 hg6 hb6;obtain ⟨p6,c6,rfl⟩:=ho6.isSlice;have HO6:=Lib.hid ho6;have HG6:=Lib.hid hg6;have HB6:=Lib.hid hb6;have E1:=grownBy_blk hg6 (show Blk _ w4.heap.size #[.int .i64 (s:Int),.int .i64 (c':Int),.int .i64 k2,.bool k3,.int .i64 (n:Nat),.int .i64 k5,.int .i64 k6,.bool f,.float .f64 xa,.float .f64 xb,.float .f64 xc,.float .f64 xd,.bool xw,.bool xv,.string sm,.string sm] 33 by (have HB:=HH5.out;exact KL)) (fun e=>by have:=(HOWN.out.lt _ e.symm).1;omega);have HE6:=Lib.hid E1;clear ho6 hg6 hb6 E1))
    | (go_at_call 15;(with_reducible refine (HPT.out _ HBW.out).mono ?_);rintro e w5 ⟨p4,n4,c4,p5,n5,c5,rfl,hf4,hg4,hb5⟩;have HF4:=Lib.hid hf4;have HK4:=Lib.hid hg4;have HX5:Hid (Bel wr w5):=Lib.hid hb5;have HH5:=Lib.hid (HG4.out.bel hb5);clear hf4 hg4 hb5))
   go_roundw
   case rel =>
    have hs5:=HX5.out.size
    have hs6:=HG6.out.size
    have hgr:=HGROW.out
    simp at hs6
    have hne:∀ b,b<w5.heap.size→Value.ownBlock (.slice p0 t c0) ≠ some b→Value.ownBlock (.slice p6 (t+1) c6) ≠ some b:=fun b hb hn=>by
     rcases HB6.out with h|h
     ·rw [h]
      exact hn
     ·rw [h]
      intro e
      have:=Option.some.inj e
      simp at this
      omega
    have hblk:∀ b,b<w5.heap.size→Value.ownBlock (.slice p0 t c0) ≠ some b→w6.heap[b]?=w5.heap[b]?:=fun b hb hn=>by
     rw [HG6.out.block b (by simp;omega) (fun e=>hn e.symm),Below.heap_alloc _ _ _ (by simp;omega)]
     exact Below.heap_alloc _ _ _ hb
    refine ⟨t+1,p6,c6,_,rfl,by go_num,by omega,?_,by omega,HE6.out,HO6.out,?_⟩
    ·exact (((HBEL.out.trans HX5.out).alloc _).alloc _).of_row HG6.out (fun g hg=>by have:=(HOWN.out.lt g hg).1;omega)
    ·rw [HTK.out]
     refine RowGm.push (HROW.out.keep (by omega) (fun b hb hl=>?_) fun b hl hb=>⟨hb.1,hne b (by omega) hb.2⟩) HLT2.out HOWN.out.1 (HF4.out.keep (by omega) (fun b hb hl=>?_) fun b hl hb=>⟨?_,?_⟩) (HK4.out.keep (by omega) (fun b hb hl=>?_) fun b hl hb=>⟨?_,?_⟩)
     ·rw [hblk b (by omega) hb.2]
      exact HX5.out.block b hl
     ·exact hblk b hl (fun e=>by have h1:=(HOWN.out.lt _ e).2;omega)
     ·omega
     ·exact hne b hl (fun e=>by have h1:=(HOWN.out.lt _ e).2;omega)
     ·exact hblk b hl (fun e=>by have h1:=(HOWN.out.lt _ e).2;omega)
     ·omega
     ·exact hne b hl (fun e=>by have h1:=(HOWN.out.lt _ e).2;omega)
   case measure=>simp [intOf];omega
  ·obtain rfl:t=n:=by omega
   have hrow:=HROW.out
   rw [List.take_of_length_le (by have:=HN.out;omega)] at hrow
   have HGS:Hid (GmSl (fun _=>True) wr (.slice p0 t c0) ks):=Lib.hid (RowGm.sl HOWN.out hrow HN.out (fun b hb=>trivial) fun b _ hb=>trivial)
   have hlt3:w3.heap.size<w4.heap.size:=t3
   clear hrow
   cases b0 with
   | false =>
    have hn0:¬ t=0:=fun e=>by
     rw [e] at hb0
     simp at hb0
    rw [if_neg hn0] at hD
    subst hD
    cases b3<;>go_wp2_with (first
     | (go_at_call 17;(with_reducible refine (HAL2.out _ _ _ _ _ _ _ _ _ _ _ (HF6.out.bel ?hx) (HK6.out.bel ?hx) (HF3.out.bel ?hy) (HG3.out.bel ?hy)).mono ?_);(case hx=>exact EL);(case hy=>(have HB:=HX7.out;exact EL));rintro e w8 ⟨rfl,hb8⟩;have HB8:Hid (Bel w w8):=Lib.hid ((show Bel w _ by (have HB:=HB7.out;exact EL)).trans hb8);clear hb8)
     | (go_at_call 16;(with_reducible refine (HNO2.out _ _ _ (HGS.out.bel ?hx)).mono ?_);(case hx=>(have HB:=HX6.out;exact EL));rintro e w7 ⟨pm,nm,cm,pl,cl,rfl,hf6,hk6,hb7⟩;have HF6:=Lib.hid hf6;have HK6:=Lib.hid hk6;have HX6':Hid (Bel wr w7):=Lib.hid ((show Bel wr _ by (have HB:=HX6.out;exact EL)).trans hb7);have HX7:Hid (Bel w3 w7):=Lib.hid (HX4.out.trans (HBEL.out.trans HX6'.out));have HB7:Hid (Bel w w7):=Lib.hid (HBW.out.trans HX6'.out);have D3:=HNR.out.bel HX6'.out;have HN7:=Lib.hid D3;obtain ⟨r8,y8,t8⟩:=D3.facts;clear hf6 hk6 hb7 D3)
     | (go_at_call 15;(with_reducible refine (HPO.out _ HBW.out).mono ?_);rintro e w6 ⟨o1,o2,o3,o4,o5,o6,o7,o8,rfl,hb6⟩;have HX6:Hid (Bel wr w6):=Lib.hid hb6;have D3:=HNR.out.bel hb6;obtain ⟨r7,y7,t7⟩:=D3.facts;clear hb6 D3))
    all_goals
     go_ret
     exact ⟨rfl,by (have HB:=HB8.out;exact EL)⟩
   | true =>
    have hn0:t=0:=by
     have:=of_decide_eq_true (show decide ((t:Int)=0)=true from hb0)
     omega
    rw [if_pos hn0] at hD
    subst hD
    subst hn0
    have hk0:ks=[]:=List.length_eq_zero_iff.1 HN.out
    subst hk0
    have hw3:w.heap.size≤w3.heap.size:=HB3.out.size
    change Hid (∀ W,Bel w W→Calls Tryz.prog 15 #[.agg #[.int .i64 kind,.int .i64 dim,.slice pn nn cn,.slice pk nk ck],.int .i64 0] W _) at HPO
    cases b3<;>go_wp2_with (first
     | (go_at_call 17;(with_reducible refine (HAL2.out _ _ _ _ _ _ _ _ _ _ _ HF6.out.noneAny HK6.out.noneAny HF3.out.noneAny HG3.out.noneAny).mono ?_);rintro e w8 ⟨rfl,hb8⟩;have HB8:Hid (Bel w w8):=Lib.hid ((show Bel w _ by (have HB:=HB7.out;exact EL)).trans hb8);clear hb8)
     | (go_at_call 16;(with_reducible refine (HNO2.out _ _ _ (HGS.out.bel ?hx)).mono ?_);(case hx=>(have HB:=HX6.out;exact EL));rintro e w7 ⟨pm,nm,cm,pl,cl,rfl,hf6,hk6,hb7⟩;have HF6:=Lib.hid hf6;have HK6:=Lib.hid hk6;have HX6':Hid (Bel wr w7):=Lib.hid ((show Bel wr _ by (have HB:=HX6.out;exact EL)).trans hb7);have HX7:Hid (Bel w3 w7):=Lib.hid (HX4.out.trans (HBEL.out.trans HX6'.out));have HB7:Hid (Bel w w7):=Lib.hid (HBW.out.trans HX6'.out);have D3:=HNR.out.bel HX6'.out;have HN7:=Lib.hid D3;obtain ⟨r8,y8,t8⟩:=D3.facts;clear hf6 hk6 hb7 D3)
     | (go_at_call 15;(with_reducible refine (HPO.out _ HBW.out).mono ?_);rintro e w6 ⟨o1,o2,o3,o4,o5,o6,o7,o8,rfl,hb6⟩;have HX6:Hid (Bel wr w6):=Lib.hid hb6;have D3:=HNR.out.bel hb6;obtain ⟨r7,y7,t7⟩:=D3.facts;clear hb6 D3))
    all_goals
     go_ret
     exact ⟨rfl,by (have HB:=HB8.out;exact EL)⟩
end Go.Proofs.YtpipehenfcbjbaaGreatDoor
