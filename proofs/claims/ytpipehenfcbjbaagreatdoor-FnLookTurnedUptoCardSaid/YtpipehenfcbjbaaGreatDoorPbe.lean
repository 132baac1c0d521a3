/-
 spec.SightOf where s=1.
-/
import Derived.Test.YtpipehenfcbjbaaGreatDoorPbb
import Derived.StillTailTactics
import Derived.JoinedCond
set_option linter.unusedVariables false
set_option linter.unusedSimpArgs false
namespace Go.Proofs.YtpipehenfcbjbaaGreatDoor
open Go.ChangeShapes Go.WideShapes Go.ChangeAt Go.RowKit
@[local go_sem] theorem yielded_undef1b (f:Bool→Option Bool) (g:Option Value→Option Bool):yielded.match_1 (fun _=>Option Bool) (some undef) f g=g (some undef):=rfl
set_option maxHeartbeats 8000000 in
set_option maxRecDepth 100000 in
theorem sightOf_1b (g:Gm) (hsz:g.size≤1048576) (hnn:NN g) (h64:N64 g) {s c:Nat} (hs:s≤6) (hc:c≤3) (hks:g.kind=s) (hdc:g.dim=c) (hk:s=1):GmArg g fun v w=>Calls Tryz.prog 9 #[v] w (IsSee g w):=by
 intro F pn nn cn pk nk ck w hN hK
 have HDI:Hid (∀ W,Bel w W→Calls Tryz.prog 22 #[.agg #[.int .i64 g.kind,.int .i64 g.dim,.slice pn nn cn,.slice pk nk ck]] W (fun e w'=>e=.returned (.int .i64 (dimG g))∧Bel W w')):=Lib.hid fun W hW=>GmArg.of (spDim_any g) hN hK hW
 have HEM:Hid (∀ W,Bel w W→Calls Tryz.prog 23 #[.agg #[.int .i64 g.kind,.int .i64 g.dim,.slice pn nn cn,.slice pk nk ck]] W (fun e w'=>e=.returned (.bool (emptyOf g))∧Bel W w')):=Lib.hid fun W hW=>GmArg.of (spEmpty_any g) hN hK hW
 have HEN:Hid (∀ W,Bel w W→Calls Tryz.prog 24 #[.agg #[.int .i64 g.kind,.int .i64 g.dim,.slice pn nn cn,.slice pk nk ck]] W (IsPlainEnv (evOf g) W)):=Lib.hid fun W hW=>GmArg.of (envSp_any g hsz hnn) hN hK hW
 have HSU:Hid (∀ W,Bel w W→Calls Tryz.prog 25 #[.agg #[.int .i64 g.kind,.int .i64 g.dim,.slice pn nn cn,.slice pk nk ck]] W (IsText W)):=Lib.hid fun W hW=>GmArg.of (summaryOf_any g hsz hs hc hks hdc) hN hK hW
 have HTO:Hid (∀ W,Bel w W→Calls Tryz.prog 27 #[.agg #[.int .i64 g.kind,.int .i64 g.dim,.slice pn nn cn,.slice pk nk ck]] W (fun e w'=>e=.returned (.int .i64 (totG g))∧Bel W w')):=Lib.hid fun W hW=>GmArg.of (totSp_any g hsz) hN hK hW
 have HWN:Hid (∀ W,Bel w W→Calls Tryz.prog 28 #[.agg #[.int .i64 g.kind,.int .i64 g.dim,.slice pn nn cn,.slice pk nk ck]] W (IsTwo W)):=Lib.hid fun W hW=>GmArg.of (winds_any g hsz h64) hN hK hW
 have HWX:Hid (∀ W,Bel w W→Calls Tryz.prog 29 #[.agg #[.int .i64 g.kind,.int .i64 g.dim,.slice pn nn cn,.slice pk nk ck],.int .i64 1048576] W (fun e w'=>e=.returned (.bool (whG g))∧(whG g=true→Shp g)∧Bel W w')):=Lib.hid fun W hW=>GmArg.of (wholeXY_any g h64 hsz) hN hK hW
 have HRI:Hid (∀ W,Bel w W→Calls Tryz.prog 30 #[.agg #[.int .i64 g.kind,.int .i64 g.dim,.slice pn nn cn,.slice pk nk ck]] W (IsBool W)):=Lib.hid fun W hW=>GmArg.of (ringed_any g hsz) hN hK hW
 have HWI:=Lib.hid (fun W=>width_any g.dim W)
 have hct:ct g.dim=c:=by rw [hdc];unfold ct;omega
 obtain ⟨_,_,hve,hkl,hkc⟩:=hK.isSlice
 cases hve
 have hnl:=hN.len.1
 have hn31:g.kids.length≤1048576:=by
  have:=Gm.len_sizes g.kids
  rw [g.size_eq] at hsz
  omega
 have hnn31:nn≤1048576:=by
  rw [g.size_eq] at hsz
  omega
 have HPA:Hid (partsG g=if (s:Int)=1∨(s:Int)=2 then nn / wd c else g.kids.length):=Lib.hid (by unfold partsG;rw [hks,hct,hnl])
 rw [hct] at HWI
 have hw2:=(wd_bd c).1
 rw [hks,hdc] at HDI HEM HEN HSU HTO HWN HWX HRI
 rw [hdc] at HWI
 rw [hks,hdc]
 have HKS:=Lib.hid hks
 have HDC:=Lib.hid hdc
 clear hN hK hks hdc hct hsz hnn h64 hnl
 generalize hnk:g.kids.length=n at *
 have HNK:=Lib.hid hnk
 clear hnk
 generalize whG g=bw at *
 generalize hdmg:dimG g=dm at *
 generalize hemg:emptyOf g=em at *
 generalize htog:totG g=tot at *
 generalize hwq:wd c=q at *
 have HDM:=Lib.hid hdmg
 have HEMG:=Lib.hid hemg
 have HTOG:=Lib.hid htog
 clear hdmg hemg htog hwq
 obtain ⟨pq,hpq⟩:∃ pq,nn / q=pq:=⟨_,rfl⟩
 have hpb:pq≤1048576:=by have:=Nat.div_le_self nn q;omega
 have hzq:wrap64 ((nn:Int) / (q:Int))=(pq:Int):=by rw [← Int.natCast_ediv,hpq];unfold wrap64;omega
 have hq0:¬ (q:Int)=0:=by omega
 have hq0n:¬ q=0:=by omega
 rw [hpq] at HPA
 clear hpq
 have e0:((s:Int) == 0)=false:=beq_eq_false_iff_ne.2 (by omega)
 have e1:((s:Int) == 1)=true:=by simp [hk]
 have e2:((s:Int) == 2)=false:=beq_eq_false_iff_ne.2 (by omega)
 have e3:((s:Int) == 3)=false:=beq_eq_false_iff_ne.2 (by omega)
 have HKC:=Lib.hid hk
 clear hk
 go_enter Tryz.func9,Tryz.ntmps9
 go_wp2
 have hbw:=Bel.alloc1 w (.cells #[.int .i64 (s:Int),.int .i64 (c:Int),.slice pn nn cn,.slice pk n ck] 25)
 go_region_held3 (fun w'=>(∀ o,w'.cell? ⟨w.heap.size,o,none⟩=(#[.int .i64 (s:Int),.int .i64 (c:Int),.slice pn nn cn,.slice pk n ck]:Array Value)[o]?)∧Blk w' (w.heap.size) #[.int .i64 (s:Int),.int .i64 (c:Int),.slice pn nn cn,.slice pk n ck] 25∧Bel w w')
  (exact K1L)
  (first
  | (go_at_call 25;(with_reducible refine (HSU.out _ ?hb).mono ?_);(case hb=>(have HB:=HA4.out;exact EL));rintro e x5 ⟨s2,rfl,hb5⟩;have HA5:Hid (Bel w x5):=Lib.hid ((show Bel w _ by (have HB:=HA4.out;exact EL)).trans hb5);have HC5:Hid (Blk x5 (w.heap.size+1) #[.int .i64 0,.int .i64 0,.int .i64 0,.bool false,.int .i64 0,.int .i64 0,.int .i64 0,.bool false,.float .f64 0,.float .f64 0,.float .f64 0,.float .f64 0,.bool false,.bool false,.string ⟨#[]⟩,.string ⟨#[]⟩] 33):=Lib.hid (Blk.bel (by (have HB:=HC4.out;exact KL)) hb5);have C5:=HC5.out;obtain ⟨r9,y9,u9⟩:=C5.facts;clear C5)
  | (go_at_call 25;(with_reducible refine (HSU.out _ ?hb).mono ?_);(case hb=>(have HB:=HA3.out;exact EL));rintro e x4 ⟨s1,rfl,hb4⟩;have HA4:Hid (Bel w x4):=Lib.hid ((show Bel w _ by (have HB:=HA3.out;exact EL)).trans hb4);have HC4:Hid (Blk x4 (w.heap.size+1) #[.int .i64 0,.int .i64 0,.int .i64 0,.bool false,.int .i64 0,.int .i64 0,.int .i64 0,.bool false,.float .f64 0,.float .f64 0,.float .f64 0,.float .f64 0,.bool false,.bool false,.string ⟨#[]⟩,.string ⟨#[]⟩] 33):=Lib.hid (Blk.bel (by (have HB:=HC3.out;exact KL)) hb4))
  | (go_at_call 24;(with_reducible refine (HEN.out _ ?hb).mono ?_);(case hb=>(have HB:=HA2.out;exact EL));rintro e x3 ⟨f,a,b,cc,d,rfl,hev,hb3⟩;have HEV:=Lib.hid hev;have HA3:Hid (Bel w x3):=Lib.hid ((show Bel w _ by (have HB:=HA2.out;exact EL)).trans hb3);have HC3:Hid (Blk x3 (w.heap.size+1) #[.int .i64 0,.int .i64 0,.int .i64 0,.bool false,.int .i64 0,.int .i64 0,.int .i64 0,.bool false,.float .f64 0,.float .f64 0,.float .f64 0,.float .f64 0,.bool false,.bool false,.string ⟨#[]⟩,.string ⟨#[]⟩] 33):=Lib.hid (Blk.bel (by (have HB:=HC2.out;exact KL)) hb3))
  | (go_at_call 23;(with_reducible refine (HEM.out _ ?hb).mono ?_);(case hb=>(have HB:=HA1.out;exact EL));rintro e x2 ⟨rfl,hb2⟩;have HA2:Hid (Bel w x2):=Lib.hid ((show Bel w _ by (have HB:=HA1.out;exact EL)).trans hb2);have HC2:Hid (Blk x2 (w.heap.size+1) #[.int .i64 0,.int .i64 0,.int .i64 0,.bool false,.int .i64 0,.int .i64 0,.int .i64 0,.bool false,.float .f64 0,.float .f64 0,.float .f64 0,.float .f64 0,.bool false,.bool false,.string ⟨#[]⟩,.string ⟨#[]⟩] 33):=Lib.hid (Blk.bel (by (have HB:=HC1.out;exact KL)) hb2))
  | (go_at_call 22;(with_reducible refine (HDI.out _ ?hb).mono ?_);(case hb=>exact EL);rintro e x1 ⟨rfl,hb1⟩;have HA1:Hid (Bel w x1):=Lib.hid ((show Bel w _ by exact EL).trans hb1);have HC1:Hid (Blk x1 (w.heap.size+1) #[.int .i64 0,.int .i64 0,.int .i64 0,.bool false,.int .i64 0,.int .i64 0,.int .i64 0,.bool false,.float .f64 0,.float .f64 0,.float .f64 0,.float .f64 0,.bool false,.bool false,.string ⟨#[]⟩,.string ⟨#[]⟩] 33):=Lib.hid (Blk.bel (by exact KL) hb1)))
 generalize hW5:World.setCell _ ⟨_,15,none⟩ _=w5
 have C2:Blk w5 (w.heap.size+1) #[.int .i64 (s:Int),.int .i64 (c:Int),.int .i64 dm,.bool em,.int .i64 0,.int .i64 0,.int .i64 0,.bool f,.float .f64 a,.float .f64 b,.float .f64 cc,.float .f64 d,.bool false,.bool false,.string s1,.string s2] 33:=by
  rw [← hW5]
  with_reducible exact blk16 _ _ _ _ _ _ _ _ _ _ _ _ _ _ _ _ HC5.out
 have hK:(∀ o,w5.cell? ⟨w.heap.size,o,none⟩=(#[.int .i64 (s:Int),.int .i64 (c:Int),.slice pn nn cn,.slice pk n ck]:Array Value)[o]?)∧Blk w5 w.heap.size #[.int .i64 (s:Int),.int .i64 (c:Int),.slice pn nn cn,.slice pk n ck] 25∧Bel w w5:=by
  rw [← hW5]
  with_reducible assumption
 have C1:=hK.2.1
 have HB5:=Lib.hid hK.2.2
 have HK1:=Lib.hid C1
 have HK2:=Lib.hid C2
 obtain ⟨m1,m2,m3⟩:=C1.facts
 obtain ⟨m4,m5,m6⟩:=C2.facts
 clear C1 C2 hK hW5 r9 y9 u9 HA1 HA2 HA3 HA4 HA5 HC1 HC2 HC3 HC4 HC5 hbw
 clear hb1 hb2 hb3 hb4 hb5
 go_wp2
 have hb5p:=HB5.out
 have hk1p:=HK1.out
 go_region_held3 (fun w'=>(∀ o,w'.cell? ⟨w.heap.size,o,none⟩=(#[.int .i64 (s:Int),.int .i64 (c:Int),.slice pn nn cn,.slice pk n ck]:Array Value)[o]?)∧Blk w' (w.heap.size) #[.int .i64 (s:Int),.int .i64 (c:Int),.slice pn nn cn,.slice pk n ck] 25∧Bel w w')
  (exact K1L)
  (first
  | (go_at_call 26;(with_reducible refine (HWI.out _).mono ?_);rintro e x2 ⟨rfl,rfl⟩))
 clear hk1p
 go_wp2_with ((go_at_call 28;(with_reducible refine (HWN.out _ ?hb).mono ?_);(case hb=>(have HB:=HB5.out;exact EL));rintro e z1 ⟨cw,ccw,rfl,hz1⟩;have HZ1:Hid (Bel w z1):=Lib.hid ((show Bel w _ by (have HB:=HB5.out;exact EL)).trans hz1);have D1:Blk z1 w.heap.size #[.int .i64 (s:Int),.int .i64 (c:Int),.slice pn nn cn,.slice pk n ck] 25:=Blk.bel (by (have HB:=HK1.out;exact KL)) hz1;have D2:Blk z1 (w.heap.size+1) #[.int .i64 (s:Int),.int .i64 (c:Int),.int .i64 dm,.bool em,.int .i64 (pq:Int),.int .i64 0,.int .i64 0,.bool f,.float .f64 a,.float .f64 b,.float .f64 cc,.float .f64 d,.bool false,.bool false,.string s1,.string s2] 33:=Blk.bel (by (have HB:=HK2.out;exact SL)) hz1;have HD1:=Lib.hid D1;have HD2:=Lib.hid D2;obtain ⟨n1,n2,n3⟩:=D1.facts;obtain ⟨n4,n5,n6⟩:=D2.facts;clear hz1 D1 D2))
 generalize hW6:World.setCell _ ⟨_,13,none⟩ _=w6
 have C2:Blk w6 (w.heap.size+1) #[.int .i64 (s:Int),.int .i64 (c:Int),.int .i64 dm,.bool em,.int .i64 (pq:Int),.int .i64 0,.int .i64 0,.bool f,.float .f64 a,.float .f64 b,.float .f64 cc,.float .f64 d,.bool cw,.bool ccw,.string s1,.string s2] 33:=by
  rw [← hW6]
  have HB:=HD2.out
  exact SL
 have C1:Blk w6 w.heap.size #[.int .i64 (s:Int),.int .i64 (c:Int),.slice pn nn cn,.slice pk n ck] 25:=by
  rw [← hW6]
  have HB:=HD1.out
  exact KL
 have HB6:Hid (Bel w w6):=Lib.hid (by
  rw [← hW6]
  have HB:=HZ1.out
  exact EL)
 have HJ5:=Lib.hid C1
 have HJ6:=Lib.hid C2
 obtain ⟨j1,j2,j3⟩:=C1.facts
 obtain ⟨j4,j5,j6⟩:=C2.facts
 clear C1 C2 hW6
 cases bw
 ·have hbw6:=HB6.out
  have hj5:=HJ5.out
  have hj6:=HJ6.out
  refine wp_region_held_drew (S:=(fun w'=>(∀ o,w'.cell? ⟨w.heap.size,o,none⟩=(#[.int .i64 (s:Int),.int .i64 (c:Int),.slice pn nn cn,.slice pk n ck]:Array Value)[o]?)∧(∀ o,w'.cell? ⟨w.heap.size+1,o,none⟩=(#[.int .i64 (s:Int),.int .i64 (c:Int),.int .i64 dm,.bool em,.int .i64 (pq:Int),.int .i64 0,.int .i64 0,.bool f,.float .f64 a,.float .f64 b,.float .f64 cc,.float .f64 d,.bool cw,.bool ccw,.string s1,.string s2]:Array Value)[o]?)∧Blk w' (w.heap.size) #[.int .i64 (s:Int),.int .i64 (c:Int),.slice pn nn cn,.slice pk n ck] 25∧Blk w' (w.heap.size+1) #[.int .i64 (s:Int),.int .i64 (c:Int),.int .i64 dm,.bool em,.int .i64 (pq:Int),.int .i64 0,.int .i64 0,.bool f,.float .f64 a,.float .f64 b,.float .f64 cc,.float .f64 d,.bool cw,.bool ccw,.string s1,.string s2] 33∧Bel w w')) (by kernel_rfl) ?_ (fun hHeld=>?_)
  ·(exact K2L)
  refine wpAnyH_take (i:=0) (oi:=_) (v:=.agg #[.int .i64 (s:Int),.int .i64 (c:Int),.int .i64 dm,.bool em,.int .i64 (pq:Int),.int .i64 0,.int .i64 0,.bool f,.float .f64 a,.float .f64 b,.float .f64 cc,.float .f64 d,.bool cw,.bool ccw,.string s1,.string s2]) rfl (by kernel_rfl) (by kernel_rfl) (by kernel_rfl) (fun _ _ _ h=>h) (Or.inl ⟨by rfl,?_⟩) (by assumption) ?_
  ·intro w hSw
   obtain ⟨q1,q2,q3,q4,q5⟩:=hSw
   go_simp
  try simp only [Act.put,List.getElem_toArray,List.getElem_cons_zero,List.getElem_cons_succ,List.setIfInBounds_toArray,List.set_cons_zero,List.set_cons_succ]
  refine wpAnyH_take (i:=1) (oi:=_) (v:=.agg #[.int .i64 (s:Int),.int .i64 (c:Int),.slice pn nn cn,.slice pk n ck]) rfl (by kernel_rfl) (by kernel_rfl) (by kernel_rfl) (fun _ _ _ h=>h) (Or.inl ⟨by rfl,?_⟩) (by assumption) ?_
  ·intro w hSw
   obtain ⟨q1,q2,q3,q4,q5⟩:=hSw
   go_simp
  try simp only [Act.put,List.getElem_toArray,List.getElem_cons_zero,List.getElem_cons_succ,List.setIfInBounds_toArray,List.set_cons_zero,List.set_cons_succ]
  refine wpAnyH_ready (rs:=[2]) (by kernel_rfl) (by simp) ?_
  refine AllReadyH.cons (o:=_) rfl (fun K hK=>?_) AllReadyH.nil
  go_simp
  (go_at_call 29;(with_reducible refine (HWX.out _ ?hb).mono ?_);(case hb=>(have HB:=HB6.out;exact EL));rintro e v1 ⟨rfl,hbw,hv1⟩;have HSHP:=Lib.hid hbw;have HV1:Hid (Bel w v1):=Lib.hid ((show Bel w _ by (have HB:=HB6.out;exact EL)).trans hv1);have D1:Blk v1 w.heap.size #[.int .i64 (s:Int),.int .i64 (c:Int),.slice pn nn cn,.slice pk n ck] 25:=Blk.bel (by (have HB:=HJ5.out;exact KL)) hv1;have D2:Blk v1 (w.heap.size+1) #[.int .i64 (s:Int),.int .i64 (c:Int),.int .i64 dm,.bool em,.int .i64 (pq:Int),.int .i64 0,.int .i64 0,.bool f,.float .f64 a,.float .f64 b,.float .f64 cc,.float .f64 d,.bool cw,.bool ccw,.string s1,.string s2] 33:=Blk.bel (by (have HB:=HJ6.out;exact KL)) hv1;have HR1:=Lib.hid D1;have HR2:=Lib.hid D2;obtain ⟨b1,b2,b3⟩:=D1.facts;obtain ⟨b4,b5,b6⟩:=D2.facts;clear hbw D1 D2)
  refine hK.out _ _ ?_ (fun hHeld2=>?_)
  ·(exact K2L)
  clear hK K
  try simp only [Act.put,List.getElem_toArray,List.getElem_cons_zero,List.getElem_cons_succ,List.setIfInBounds_toArray,List.set_cons_zero,List.set_cons_succ]
  refine wpAnyH_take (i:=3) (oi:=_) (v:=.bool false) rfl (by kernel_rfl) (by kernel_rfl) (by kernel_rfl) (fun _ _ _ h=>h) (Or.inl ⟨by rfl,?_⟩) (by assumption) ?_
  ·intro w hSw
   obtain ⟨q1,q2,q3,q4,q5⟩:=hSw
   go_simp
  try simp only [Act.put,List.getElem_toArray,List.getElem_cons_zero,List.getElem_cons_succ,List.setIfInBounds_toArray,List.set_cons_zero,List.set_cons_succ]
  refine wpAnyH_take (i:=4) (oi:=_) (v:=undef) rfl (by kernel_rfl) (by kernel_rfl) (by kernel_rfl) (fun _ _ _ h=>h) (Or.inr ⟨by rfl,rfl⟩) (by assumption) ?_
  try simp only [Act.put,List.getElem_toArray,List.getElem_cons_zero,List.getElem_cons_succ,List.setIfInBounds_toArray,List.set_cons_zero,List.set_cons_succ]
  refine wpAnyH_take (i:=5) (oi:=_) (v:=undef) rfl (by kernel_rfl) (by kernel_rfl) (by kernel_rfl) (fun _ _ _ h=>h) (Or.inr ⟨by rfl,rfl⟩) (by assumption) ?_
  try simp only [Act.put,List.getElem_toArray,List.getElem_cons_zero,List.getElem_cons_succ,List.setIfInBounds_toArray,List.set_cons_zero,List.set_cons_succ]
  refine wpAnyH_take (i:=6) (oi:=_) (v:=.bool false) rfl (by kernel_rfl) (by kernel_rfl) (by kernel_rfl) (fun _ _ _ h=>h) (Or.inl ⟨by rfl,?_⟩) (by assumption) ?_
  ·intro w hSw
   obtain ⟨q1,q2,q3,q4,q5⟩:=hSw
   go_simp
  try simp only [Act.put,List.getElem_toArray,List.getElem_cons_zero,List.getElem_cons_succ,List.setIfInBounds_toArray,List.set_cons_zero,List.set_cons_succ]
  refine wpAnyH_ready (rs:=[7]) (by kernel_rfl) (by simp) ?_
  refine AllReadyH.cons (o:=_) rfl (fun K hK=>?_) AllReadyH.nil
  go_simp
  refine hK.out _ _ ?_ (fun hHeld3=>?_)
  ·(exact K2L)
  clear hK K
  try simp only [Act.put,List.getElem_toArray,List.getElem_cons_zero,List.getElem_cons_succ,List.setIfInBounds_toArray,List.set_cons_zero,List.set_cons_succ]
  refine wpAnyH_take (i:=8) (oi:=_) (v:=.bool false) rfl (by kernel_rfl) (by kernel_rfl) (by kernel_rfl) (fun _ _ _ h=>h) (Or.inl ⟨by rfl,?_⟩) (by assumption) ?_
  ·intro w hSw
   obtain ⟨q1,q2,q3,q4,q5⟩:=hSw
   go_simp
  try simp only [Act.put,List.getElem_toArray,List.getElem_cons_zero,List.getElem_cons_succ,List.setIfInBounds_toArray,List.set_cons_zero,List.set_cons_succ]
  refine wpAnyH_done (by kernel_rfl) ?_ _
  go_wp2
  generalize hW7:World.setCell _ ⟨_,15,none⟩ _=w7
  have C2:Blk w7 (w.heap.size+1) #[.int .i64 (s:Int),.int .i64 (c:Int),.int .i64 dm,.bool em,.int .i64 (pq:Int),.int .i64 0,.int .i64 0,.bool f,.float .f64 a,.float .f64 b,.float .f64 cc,.float .f64 d,.bool cw,.bool ccw,.string s1,.string s2] 33:=by
   rw [← hW7]
   with_reducible exact blk16 _ _ _ _ _ _ _ _ _ _ _ _ _ _ _ _ HR2.out
  have HB7:Hid (Bel w w7):=Lib.hid (by
   rw [← hW7]
   with_reducible exact bel16 _ _ _ _ _ _ _ _ _ _ _ _ _ _ _ _ HV1.out (by omega))
  clear hW7
  refine post_ret (results_two rfl (resIs_agg (n:=16) (cs:=#[.int .i64 (s:Int),.int .i64 (c:Int),.int .i64 dm,.bool em,.int .i64 (pq:Int),.int .i64 0,.int .i64 0,.bool f,.float .f64 a,.float .f64 b,.float .f64 cc,.float .f64 d,.bool cw,.bool ccw,.string s1,.string s2]) (by rfl) Tryz.underlying33 (by kernel_rfl) (T:=33) C2 rfl) (resIs_tmp rfl)) ⟨f,a,b,cc,d,cw,ccw,s1,s2,false,?_,HEV.out,(fun h=>absurd h (by simp)),HB7.out⟩
  rw [HKS.out,HDC.out,HDM.out,HEMG.out,HTOG.out,HPA.out,HNK.out]
  rw [if_pos (Or.inl (by have:=HKC.out;omega)),if_neg (by have:=HKC.out;omega),if_neg (by have:=HKC.out;omega)]
  rfl
 ·have hbw6:=HB6.out
  have hj5:=HJ5.out
  have hj6:=HJ6.out
  go_region_held3 (fun w'=>(∀ o,w'.cell? ⟨w.heap.size,o,none⟩=(#[.int .i64 (s:Int),.int .i64 (c:Int),.slice pn nn cn,.slice pk n ck]:Array Value)[o]?)∧(∀ o,w'.cell? ⟨w.heap.size+1,o,none⟩=(#[.int .i64 (s:Int),.int .i64 (c:Int),.int .i64 dm,.bool em,.int .i64 (pq:Int),.int .i64 0,.int .i64 0,.bool f,.float .f64 a,.float .f64 b,.float .f64 cc,.float .f64 d,.bool cw,.bool ccw,.string s1,.string s2]:Array Value)[o]?)∧Blk w' (w.heap.size) #[.int .i64 (s:Int),.int .i64 (c:Int),.slice pn nn cn,.slice pk n ck] 25∧Blk w' (w.heap.size+1) #[.int .i64 (s:Int),.int .i64 (c:Int),.int .i64 dm,.bool em,.int .i64 (pq:Int),.int .i64 0,.int .i64 0,.bool f,.float .f64 a,.float .f64 b,.float .f64 cc,.float .f64 d,.bool cw,.bool ccw,.string s1,.string s2] 33∧Bel w w')
   (exact K2L)
   (first
   | (go_at_call 30;(with_reducible refine (HRI.out _ ?hb).mono ?_);(case hb=>(have HB:=HV1.out;exact EL));rintro e v2 ⟨br,rfl,hv2⟩;have HV2:Hid (Bel w v2):=Lib.hid ((show Bel w _ by (have HB:=HV1.out;exact EL)).trans hv2);have D1:Blk v2 w.heap.size #[.int .i64 (s:Int),.int .i64 (c:Int),.slice pn nn cn,.slice pk n ck] 25:=Blk.bel (by (have HB:=HR1.out;exact KL)) hv2;have D2:Blk v2 (w.heap.size+1) #[.int .i64 (s:Int),.int .i64 (c:Int),.int .i64 dm,.bool em,.int .i64 (pq:Int),.int .i64 0,.int .i64 0,.bool f,.float .f64 a,.float .f64 b,.float .f64 cc,.float .f64 d,.bool cw,.bool ccw,.string s1,.string s2] 33:=Blk.bel (by (have HB:=HR2.out;exact KL)) hv2;have HS2:=Lib.hid D2;obtain ⟨a1,a2,a3⟩:=D1.facts;obtain ⟨a4,a5,a6⟩:=D2.facts;clear D1 D2)
   | (go_at_call 29;(with_reducible refine (HWX.out _ ?hb).mono ?_);(case hb=>(have HB:=HB6.out;exact EL));rintro e v1 ⟨rfl,hbw,hv1⟩;have HSHP:=Lib.hid hbw;have HV1:Hid (Bel w v1):=Lib.hid ((show Bel w _ by (have HB:=HB6.out;exact EL)).trans hv1);have D1:Blk v1 w.heap.size #[.int .i64 (s:Int),.int .i64 (c:Int),.slice pn nn cn,.slice pk n ck] 25:=Blk.bel (by (have HB:=HJ5.out;exact KL)) hv1;have D2:Blk v1 (w.heap.size+1) #[.int .i64 (s:Int),.int .i64 (c:Int),.int .i64 dm,.bool em,.int .i64 (pq:Int),.int .i64 0,.int .i64 0,.bool f,.float .f64 a,.float .f64 b,.float .f64 cc,.float .f64 d,.bool cw,.bool ccw,.string s1,.string s2] 33:=Blk.bel (by (have HB:=HJ6.out;exact KL)) hv1;have HR1:=Lib.hid D1;have HR2:=Lib.hid D2;obtain ⟨b1,b2,b3⟩:=D1.facts;obtain ⟨b4,b5,b6⟩:=D2.facts;clear hbw D1 D2))
  go_wp2
  generalize hW7:World.setCell _ ⟨_,15,none⟩ _=w7
  have C2:Blk w7 (w.heap.size+1) #[.int .i64 (s:Int),.int .i64 (c:Int),.int .i64 dm,.bool em,.int .i64 (pq:Int),.int .i64 0,.int .i64 0,.bool f,.float .f64 a,.float .f64 b,.float .f64 cc,.float .f64 d,.bool cw,.bool ccw,.string s1,.string s2] 33:=by
   rw [← hW7]
   with_reducible exact blk16 _ _ _ _ _ _ _ _ _ _ _ _ _ _ _ _ HS2.out
  have HB7:Hid (Bel w w7):=Lib.hid (by
   rw [← hW7]
   with_reducible exact bel16 _ _ _ _ _ _ _ _ _ _ _ _ _ _ _ _ HV2.out (by omega))
  clear hW7
  refine post_ret (results_two rfl (resIs_agg (n:=16) (cs:=#[.int .i64 (s:Int),.int .i64 (c:Int),.int .i64 dm,.bool em,.int .i64 (pq:Int),.int .i64 0,.int .i64 0,.bool f,.float .f64 a,.float .f64 b,.float .f64 cc,.float .f64 d,.bool cw,.bool ccw,.string s1,.string s2]) (by rfl) Tryz.underlying33 (by kernel_rfl) (T:=33) C2 rfl) (resIs_tmp rfl)) ⟨f,a,b,cc,d,cw,ccw,s1,s2,br,?_,HEV.out,(fun _=>HSHP.out (by simp)),HB7.out⟩
  rw [HKS.out,HDC.out,HDM.out,HEMG.out,HTOG.out,HPA.out,HNK.out]
  rw [if_pos (Or.inl (by have:=HKC.out;omega)),if_neg (by have:=HKC.out;omega),if_neg (by have:=HKC.out;omega)]
  rfl
end Go.Proofs.YtpipehenfcbjbaaGreatDoor
