/-
 impl.Look of one kind of geometry (a collection): what it tells of itself.
-/
import Derived.Test.YtpipehenfcbjbaaGreatDoorPar
import Derived.Test.YtpipehenfcbjbaaGreatDoorPam
import Derived.Test.YtpipehenfcbjbaaGreatDoorPan
import Derived.Test.YtpipehenfcbjbaaGreatDoorPai
import Derived.Deep.RegionHeld3
set_option linter.unusedVariables false
set_option linter.unusedSimpArgs false
namespace Go.Proofs.YtpipehenfcbjbaaGreatDoor
open Go.ChangeShapes Go.WideShapes Go.ChangeAt Go.RowKit
set_option maxHeartbeats 8000000 in
set_option maxRecDepth 100000 in
theorem look_0 (F:Nat→Prop) (g:Gm) (hsz:g.size≤1048576) (hsn:(newOf g).size≤1048576) (hkind:(newOf g).kind=0) (hnn:NN (newOf g)) {c0:Nat} (hu:Uni c0 (newOf g)) (pn:Option Addr) (nn cn:Nat) (pk:Option Addr) (nk ck:Nat) (w:World) (ht:Tab w) (hF:New F w) (hN:FlSl F w (.slice pn nn cn) g.nums) (hK:GmSl F w (.slice pk nk ck) g.kids) :
  Calls Tryz.prog 21 #[.agg #[.int .i64 g.kind,.int .i64 g.dim,.slice pn nn cn,.slice pk nk ck]] w (IsSight (newOf g) w):=by
 have HC:Hid (∀ W,Bel w W→w.heap.size+3≤W.heap.size→Calls Tryz.prog 39 #[.agg #[.int .i64 g.kind,.int .i64 g.dim,.slice pn nn cn,.slice pk nk ck]] W (IsOb (Loc F w.heap.size 3) W 7 (newOf g))):=Lib.hid fun W hW h3=>geometry_any g hsz (Loc F w.heap.size 3) pn nn cn pk nk ck W (hF.loc h3) ((hN.loc 3).bel hW) ((hK.mono fun _ hl hF=>⟨hF,Or.inl hl⟩).bel hW)
 have HT:Hid (∀ W,Bel w W→Tab W):=Lib.hid fun W hW=>ht.bel hW
 have HNN:=Lib.hid hnn
 have HU:=Lib.hid hu
 have HKI:=Lib.hid hkind
 have HSN:=Lib.hid hsn
 clear hN hK ht hnn hu hsn hsz hkind
 generalize g.kind=kind at *
 generalize g.dim=dim at *
 generalize newOf g=g' at *
 have hmf:∀ (fn:Fn) (first cap:Array Value) (w:World),(Instr.makeFunc fn first cap).run Tryz.prog w=.ok (.func fn first cap) w:=fun _ _ _ _=>rfl
 go_enter_defers Tryz.func21,Tryz.ntmps21
 go_wp2_with (go_at_call 39;(with_reducible refine (HC.out _ ?hb ?h3).mono ?_);(case hb=>exact EL);(case h3=>(simp<;>omega));rintro e w1 ⟨cs,rfl,ho,hb1⟩;have HB1:Hid (Bel w w1):=Lib.hid ((show Bel w _ by exact EL).trans hb1);obtain ⟨s,b,cl,rfl,hs6,-⟩:=ho.gi;have HS6:=Lib.hid hs6;have HO:=Lib.hid ho;have C2:Blk w1 (w.heap.size+1) #[.int .i64 0,.int .i64 0,.int .i64 0,.bool false,.int .i64 0,.int .i64 0,.int .i64 0,.bool false,.float .f64 0,.float .f64 0,.float .f64 0,.float .f64 0,.bool false,.bool false,.string ⟨#[]⟩,.string ⟨#[]⟩] 33:=Blk.bel (by exact KL) hb1;have C3:Blk w1 (w.heap.size+1+1) #[.bool false] 4:=Blk.bel (by exact KL) hb1;have HC2:=Lib.hid C2;have HC3:=Lib.hid C3;obtain ⟨r2,y2,u2⟩:=C2.facts;obtain ⟨r3,y3,u3⟩:=C3.facts;clear ho hb1 C2 C3 hs6)
 obtain ⟨dn,hdn⟩:∃ dn,g'.dim.toNat=dn:=⟨_,rfl⟩
 have HF0:Hid (∀ W,Bel w1 W→Calls Tryz.prog 44 #[.agg #[.int .i64 s,.iface (ptrT s) (.pointer (some ⟨b,0,none⟩))]] W (fun e w'=>e=.returned (.int .i64 s)∧Bel W w')):=Lib.hid fun W hW=>geoKind_any s _ W
 have HF1:Hid (∀ W,Bel w1 W→Calls Tryz.prog 45 #[.agg #[.int .i64 s,.iface (ptrT s) (.pointer (some ⟨b,0,none⟩))]] W (fun e w'=>e=.returned (.int .u8 dn)∧Bel W w')):=Lib.hid fun W hW=>(by have:=geoType_any W (HO.out.bel hW);rw [hdn] at this;exact this)
 have HF2:Hid (∀ W,Bel w1 W→Calls Tryz.prog 46 #[.agg #[.int .i64 s,.iface (ptrT s) (.pointer (some ⟨b,0,none⟩))]] W (fun e w'=>e=.returned (.int .i64 (dimG g'))∧Bel W w')):=Lib.hid fun W hW=>geoDimAll_any g' _ _ W (HO.out.bel hW)
 have HF3:Hid (∀ W,Bel w1 W→Calls Tryz.prog 47 #[.agg #[.int .i64 s,.iface (ptrT s) (.pointer (some ⟨b,0,none⟩))]] W (fun e w'=>e=.returned (.bool (emptyOf g'))∧Bel W w')):=Lib.hid fun W hW=>geoEmpty_any g' _ _ W (HO.out.bel hW)
 have HF4:Hid (∀ W,Bel w1 W→Calls Tryz.prog 48 #[.agg #[.int .i64 s,.iface (ptrT s) (.pointer (some ⟨b,0,none⟩))]] W (fun e w'=>e=.returned (.int .i64 (partsG g'))∧Bel W w')):=Lib.hid fun W hW=>partsOf_any _ _ g' W (HO.out.bel hW)
 have HF5:Hid (∀ W,Bel w1 W→Calls Tryz.prog 50 #[.agg #[.int .i64 s,.iface (ptrT s) (.pointer (some ⟨b,0,none⟩))]] W (IsEnv (evOf g') W)):=Lib.hid fun W hW=>geoEnv_any g' _ _ W (HO.out.bel hW) HNN.out
 have HF6:Hid (∀ W,Bel w1 W→Calls Tryz.prog 51 #[.agg #[.int .i64 s,.iface (ptrT s) (.pointer (some ⟨b,0,none⟩))]] W (IsCw (WholeG g') (cwG ltZ g') W)):=Lib.hid fun W hW=>geoIsCW_any g' _ _ W (HO.out.bel hW)
 have HF7:Hid (∀ W,Bel w1 W→Calls Tryz.prog 52 #[.agg #[.int .i64 s,.iface (ptrT s) (.pointer (some ⟨b,0,none⟩))]] W (IsCw (WholeG g') (cwG gtZ g') W)):=Lib.hid fun W hW=>geoIsCCW_any g' _ _ W (HO.out.bel hW)
 have HF8:Hid (∀ W,Bel w1 W→Calls Tryz.prog 53 #[.agg #[.int .i64 s,.iface (ptrT s) (.pointer (some ⟨b,0,none⟩))]] W (fun e w'=>e=.returned (.string (sumG g'))∧Bel W w')):=Lib.hid fun W hW=>geoSum_any W (HO.out.bel hW) ((HT.out w1 HB1.out).bel hW) HU.out HSN.out
 have HF9:Hid (∀ W,Bel w1 W→Calls Tryz.prog 54 #[.agg #[.int .i64 s,.iface (ptrT s) (.pointer (some ⟨b,0,none⟩))]] W (fun e w'=>e=.returned (.string (sumG g'))∧Bel W w')):=Lib.hid fun W hW=>geoStr_any W (HO.out.bel hW) ((HT.out w1 HB1.out).bel hW) HU.out HSN.out
 have HDN:=Lib.hid hdn
 have hdw:IntKind.i64.wrap ((dn:Nat):Int)=((dn:Nat):Int):=by
  obtain ⟨c,hc,hd⟩:=HO.out.dim
  rw [IntKind.wrap_i64]
  omega
 clear hdn
 generalize ptrT s=T at *
 have hbw1:=HB1.out
 go_region_held3 (fun w'=>(∀ o,w'.cell? ⟨w1.heap.size,o,none⟩=(#[.int .i64 s,.iface T (.pointer (some ⟨b,0,none⟩))]:Array Value)[o]?)∧Blk w' (w1.heap.size) #[.int .i64 s,.iface T (.pointer (some ⟨b,0,none⟩))] 64∧Bel w w')
  (exact K1L)
  (first
  | (go_at_call 54;(with_reducible refine (HF9.out _ ?hb).mono ?_);(case hb=>(have HB:=HA8.out;exact EL));rintro e x9 ⟨rfl,hb9⟩;have HA9:Hid (Bel w1 x9):=Lib.hid ((show Bel w1 _ by (have HB:=HA8.out;exact EL)).trans hb9);have C2:=HC2.out.bel HA9.out;obtain ⟨r9,y9,u9⟩:=C2.facts;clear C2)
  | (go_at_call 53;(with_reducible refine (HF8.out _ ?hb).mono ?_);(case hb=>(have HB:=HA7.out;exact EL));rintro e x8 ⟨rfl,hb8⟩;have HA8:Hid (Bel w1 x8):=Lib.hid ((show Bel w1 _ by (have HB:=HA7.out;exact EL)).trans hb8))
  | (go_at_call 52;(with_reducible refine (HF7.out _ ?hb).mono ?_);(case hb=>(have HB:=HA6.out;exact EL));rintro e x7 ⟨ccw,rfl,hccw,hb7⟩;have HCCW:=Lib.hid hccw;have HA7:Hid (Bel w1 x7):=Lib.hid ((show Bel w1 _ by (have HB:=HA6.out;exact EL)).trans hb7))
  | (go_at_call 51;(with_reducible refine (HF6.out _ ?hb).mono ?_);(case hb=>(have HB:=HA5b.out;exact EL));rintro e x6 ⟨cw,rfl,hcw,hb6⟩;have HCW:=Lib.hid hcw;have HA6:Hid (Bel w1 x6):=Lib.hid ((show Bel w1 _ by (have HB:=HA5b.out;exact EL)).trans hb6))
  | (go_at_call 49;(with_reducible refine (plainEnv_any HEV.out _).mono ?_);rintro e y5 ⟨f',a',b',c',d',rfl,hev',hbp⟩;have HEV':=Lib.hid hev';have HA5b:Hid (Bel w1 y5):=Lib.hid ((show Bel w1 _ by (have HB:=HA5.out;exact EL)).trans hbp))
  | (go_at_call 50;(with_reducible refine (HF5.out _ ?hb).mono ?_);(case hb=>(have HB:=HA4.out;exact EL));rintro e x5 ⟨f,a,bb,c,d,rfl,hev,hb5⟩;have HEV:=Lib.hid hev;have HA5:Hid (Bel w1 x5):=Lib.hid ((show Bel w1 _ by (have HB:=HA4.out;exact EL)).trans hb5))
  | (go_at_call 48;(with_reducible refine (HF4.out _ ?hb).mono ?_);(case hb=>(have HB:=HA3.out;exact EL));rintro e x4 ⟨rfl,hb4⟩;have HA4:Hid (Bel w1 x4):=Lib.hid ((show Bel w1 _ by (have HB:=HA3.out;exact EL)).trans hb4))
  | (go_at_call 47;(with_reducible refine (HF3.out _ ?hb).mono ?_);(case hb=>(have HB:=HA2.out;exact EL));rintro e x3 ⟨rfl,hb3⟩;have HA3:Hid (Bel w1 x3):=Lib.hid ((show Bel w1 _ by (have HB:=HA2.out;exact EL)).trans hb3))
  | (go_at_call 46;(with_reducible refine (HF2.out _ ?hb).mono ?_);(case hb=>(have HB:=HA1.out;exact EL));rintro e x2 ⟨rfl,hb2⟩;have HA2:Hid (Bel w1 x2):=Lib.hid ((show Bel w1 _ by (have HB:=HA1.out;exact EL)).trans hb2))
  | (go_at_call 45;(with_reducible refine (HF1.out _ ?hb).mono ?_);(case hb=>(have HB:=HA0.out;exact EL));rintro e x1 ⟨rfl,hb1⟩;have HA1:Hid (Bel w1 x1):=Lib.hid ((show Bel w1 _ by (have HB:=HA0.out;exact EL)).trans hb1))
  | (go_at_call 44;(with_reducible refine (HF0.out _ ?hb).mono ?_);(case hb=>exact EL);rintro e x0 ⟨rfl,hb0⟩;have HA0:Hid (Bel w1 x0):=Lib.hid ((show Bel w1 _ by exact EL).trans hb0)))
 generalize hW5:World.setCell _ ⟨_,15,none⟩ _=w5
 have C2:Blk w5 (w.heap.size+1) #[.int .i64 s,.int .i64 dn,.int .i64 (dimG g'),.bool (emptyOf g'),.int .i64 (partsG g'),.int .i64 0,.int .i64 0,.bool f',.float .f64 a',.float .f64 b',.float .f64 c',.float .f64 d',.bool cw,.bool ccw,.string (sumG g'),.string (sumG g')] 33:=by
  rw [← hW5]
  with_reducible exact blk16 _ _ _ _ _ _ _ _ _ _ _ _ _ _ _ _ (HC2.out.bel HA9.out)
 have C3:Blk w5 (w.heap.size+1+1) #[.bool false] 4:=by
  rw [← hW5]
  with_reducible exact oth16 _ _ _ _ _ _ _ _ _ _ _ _ _ _ _ _ (HC3.out.bel HA9.out) (by omega)
 have hK:(∀ o,w5.cell? ⟨w1.heap.size,o,none⟩=(#[.int .i64 s,.iface T (.pointer (some ⟨b,0,none⟩))]:Array Value)[o]?)∧Blk w5 w1.heap.size #[.int .i64 s,.iface T (.pointer (some ⟨b,0,none⟩))] 64∧Bel w w5:=by
  rw [← hW5]
  with_reducible assumption
 have C4:=hK.2.1
 have HB5:=Lib.hid hK.2.2
 have HO5:Hid (Ob (Loc F w.heap.size 3) w5 7 [.int .i64 s,.iface T (.pointer (some ⟨b,0,none⟩))] g'):=Lib.hid (by
  rw [← hW5]
  with_reducible exact ob16 _ _ _ _ _ _ _ _ _ _ _ _ _ _ _ _ (HO.out.bel HA9.out) (Loc.not (by omega) (by omega)))
 obtain ⟨r5,y5',u5⟩:=C2.facts
 obtain ⟨r6,y6,u6⟩:=C3.facts
 obtain ⟨r7,y7,u7⟩:=C4.facts
 have HD2:=Lib.hid C2
 have HD3:=Lib.hid C3
 have HD4:=Lib.hid C4
 have HKS:Hid (g'.kind=s):=Lib.hid (seven HO5.out).2.2.1
 have hl1:=HC3.out.facts.2.2
 have hne1:w1.heap.size ≠ w.heap.size+1:=by omega
 have hne2:w.heap.size+1 ≠ w1.heap.size:=by omega
 have hne3:w1.heap.size ≠ w.heap.size+1+1:=by omega
 have hne4:w.heap.size+1+1 ≠ w1.heap.size:=by omega
 clear C2 C3 C4 hK hW5 HA9 HA8 HA7 HA6 HA5b HA5 HA4 HA3 HA2 HA1 HA0 HF0 HF1 HF2 HF3 HF4 HF5 HF6 HF7 HF8 HF9 hl1
 have hs0:s=0:=by have h1:=HKS.out;have h2:=HKI.out;omega
 ·obtain ⟨p,n,cap,c,hq1,hq2⟩:=coll_yes hs0 HO5.out HSN.out
  have HQ1:=Lib.hid hq1
  have HQ2:=Lib.hid hq2
  have HNP:=Lib.hid (asPolygon_no s (.iface T (.pointer (some ⟨b,0,none⟩))) (by omega))
  have HS0:=Lib.hid hs0
  clear hq1 hq2 hs0
  go_wp2_with (first
   | (go_at_call 55;(with_reducible refine (HQ1.out _ ?hb).mono ?_);(case hb=>exact EL);rintro e x1 ⟨rfl,hz1⟩;have HZ1:Hid (Bel w5 x1):=Lib.hid ((show Bel w5 _ by exact EL).trans hz1);have D2:=HD2.out.bel HZ1.out;have D4:=HD4.out.bel HZ1.out;obtain ⟨q2,t2,l2⟩:=D2.facts;obtain ⟨q4,t4,l4⟩:=D4.facts;clear hz1 D2 D4)
   | (go_at_call 56;(with_reducible refine (HQ2.out _ ?hb).mono ?_);(case hb=>(have HB:=HZ1.out;exact EL));rintro e x2 ⟨rfl,hz2⟩;have HZ2:Hid (Bel w5 x2):=Lib.hid ((show Bel w5 _ by (have HB:=HZ1.out;exact EL)).trans hz2);have D2:=HD2.out.bel HZ2.out;have D4:=HD4.out.bel HZ2.out;obtain ⟨p2,o2,m2⟩:=D2.facts;obtain ⟨p4,o4,m4⟩:=D4.facts;clear hz2 D2 D4)
   | (go_at_call 57;(with_reducible refine (HNP.out _).mono ?_);rintro e x3 ⟨rfl,hz3⟩;have D2:Blk x3 (w.heap.size+1) #[.int .i64 s,.int .i64 dn,.int .i64 (dimG g'),.bool (emptyOf g'),.int .i64 (partsG g'),.int .i64 (totG g'),.int .i64 0,.bool f',.float .f64 a',.float .f64 b',.float .f64 c',.float .f64 d',.bool cw,.bool ccw,.string (sumG g'),.string (sumG g')] 33:=Blk.bel (((HD2.out.bel HZ2.out).set 5 (.int .i64 (totG g'))).cast (by simp)) hz3;have D3:Blk x3 (w.heap.size+1+1) #[.bool false] 4:=Blk.bel ((HD3.out.bel HZ2.out).other (by simp) _) hz3;have HZ3:Hid (Bel w x3):=Lib.hid (((HB5.out.trans HZ2.out).setCell (by simp) _).trans hz3);have HE2:=Lib.hid D2;have HE3:=Lib.hid D3;obtain ⟨g2,h2,i2⟩:=D2.facts;obtain ⟨g3,h3,i3⟩:=D3.facts;clear hz3 D2 D3))
  generalize hW9:World.setCell (World.setCell _ ⟨_,15,none⟩ _) ⟨_,0,none⟩ _=w9
  have C2:Blk w9 (w.heap.size+1) #[.int .i64 s,.int .i64 dn,.int .i64 (dimG g'),.bool (emptyOf g'),.int .i64 (partsG g'),.int .i64 (totG g'),.int .i64 0,.bool f',.float .f64 a',.float .f64 b',.float .f64 c',.float .f64 d',.bool cw,.bool ccw,.string (sumG g'),.string (sumG g')] 33:=by
   rw [← hW9]
   with_reducible exact Blk.other (blk16 _ _ _ _ _ _ _ _ _ _ _ _ _ _ _ _ (by (have HB:=HE2.out;exact KL))) (by simp) _
  have C3:Blk w9 (w.heap.size+1+1) #[.bool true] 4:=by
   rw [← hW9]
   with_reducible exact Blk.set1 (oth16 _ _ _ _ _ _ _ _ _ _ _ _ _ _ _ _ (by (have HB:=HE3.out;exact KL)) (by omega)) _
  have HB9:Hid (Bel w w9):=Lib.hid (by
   rw [← hW9]
   with_reducible exact Bel.setCell (bel16 _ _ _ _ _ _ _ _ _ _ _ _ _ _ _ _ (by (have HB:=HZ3.out;exact EL)) (by omega)) (by simp;omega) _)
  generalize hWA:World.alloc w9 _=wA
  have D2:Blk wA (w.heap.size+1) #[.int .i64 s,.int .i64 dn,.int .i64 (dimG g'),.bool (emptyOf g'),.int .i64 (partsG g'),.int .i64 (totG g'),.int .i64 0,.bool f',.float .f64 a',.float .f64 b',.float .f64 c',.float .f64 d',.bool cw,.bool ccw,.string (sumG g'),.string (sumG g')] 33:=by
   rw [← hWA]
   exact C2.alloc _
  have D3:Blk wA (w.heap.size+1+1) #[.bool true] 4:=by
   rw [← hWA]
   exact C3.alloc _
  have HBA:Hid (Bel w wA):=Lib.hid (by
   rw [← hWA]
   exact HB9.out.alloc _)
  have q3:=D3.rules.1 0
  simp at q3
  clear hW9 hWA r5 y5' u5 r6 y6 u6 r7 y7 u7
  refine leaves_cons (f:=43) (args:=#[.pointer (some ⟨w.heap.size+1,0,none⟩),.pointer (some ⟨w.heap.size+1+1,0,none⟩)]) (by simp) (by simp [go_sem]) ?_
  refine (lookIdle ⟨w.heap.size+1,0,none⟩ ⟨w.heap.size+1+1,0,none⟩ _).mono ?_
  rintro e u' w'' ⟨rfl,rfl,rfl⟩
  simp only [Leaves,settle]
  refine ⟨_,results_two rfl (resIs_agg (n:=16) (cs:=#[.int .i64 s,.int .i64 dn,.int .i64 (dimG g'),.bool (emptyOf g'),.int .i64 (partsG g'),.int .i64 (totG g'),.int .i64 0,.bool f',.float .f64 a',.float .f64 b',.float .f64 c',.float .f64 d',.bool cw,.bool ccw,.string (sumG g'),.string (sumG g')]) (by rfl) Tryz.underlying33 (by kernel_rfl) (T:=33) D2 rfl) (resIs_cell (a:=⟨w.heap.size+1+1,0,none⟩) (v:=.bool true) (by rfl) (by simp [go_sem,q3])),f',a',b',c',d',cw,ccw,?_,HEV'.out,fun h=>⟨HCW.out h,HCCW.out h⟩,HBA.out⟩
  rw [HKS.out,HDN.out,if_pos (show ((s:Nat):Int)=0 by have:=HS0.out;omega),if_neg (show ¬ ((s:Nat):Int)=3 by have:=HS0.out;omega)]
end Go.Proofs.YtpipehenfcbjbaaGreatDoor
