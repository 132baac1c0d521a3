/-
 Sequence.ForceCoordinatesType: numbers under another type. No panic;what stood in memory has not turned.
-/
import Derived.Test.YtpipehenfcbjbaaGreatDoorPac
import Derived.Test.YtpipehenfcbjbaaGreatDoorPad
set_option linter.unusedVariables false
namespace Go.Proofs.YtpipehenfcbjbaaGreatDoor
open Go.ChangeShapes Go.WideShapes Go.ChangeAt Go.RowKit
theorem flat_at {α β:Type} (f:α→List β) (W:Nat) (hf:∀ a,(f a).length=W):∀ (l:List α) (k:Nat) (a:α) (j:Nat),l[k]?=some a→j<W→(l.flatMap f)[k*W+j]?=(f a)[j]?
 | [],k,a,j,h,_=>by simp at h
 | y :: t,0,a,j,h,hj=>by
  simp at h
  subst h
  rw [Nat.zero_mul,Nat.zero_add,List.flatMap_cons,List.getElem?_append_left (by rw [hf];exact hj)]
 | y :: t,k+1,a,j,h,hj=>by
  have ih:=flat_at f W hf t k a j (by simpa using h) hj
  rw [List.flatMap_cons,List.getElem?_append_right (by rw [hf,Nat.add_mul];omega),hf]
  rw [← ih]
  congr 1
  rw [Nat.add_mul]
  omega
theorem forceN_at (c c':Nat) (xs:List Nat) {k j:Nat} (hk:k<xs.length / wd c) (hj:j<wd c'):(forceN c c' xs)[k*wd c'+j]?=(numsOfPl c' (plAt c xs k))[j]? :=
 flat_at _ _ (numsOfPl_len c') _ k _ j (plsOf_get hk) hj
theorem mul_succ_lt {j k W:Nat} (h:j<(k+1)*W):j<k*W∨∃ i,i<W∧j=k*W+i:=by
 rcases Nat.lt_or_ge j (k*W) with g|g
 ·exact Or.inl g
 ·rw [Nat.add_mul,Nat.one_mul] at h
  exact Or.inr ⟨j - k*W,by omega,by omega⟩
theorem filled {cs:Array Value} {ys:List Nat} {n:Nat} (h1:cs.size=n) (h2:ys.length=n) (h:∀ j,j<n→cs[j]?=ys[j]?.map flv):cs=(ys.map flv).toArray:=by
 apply Array.ext_getElem?
 intro j
 have e:(List.map flv ys).toArray[j]?=(List.map flv ys)[j]?:=by simp
 rw [e,List.getElem?_map]
 rcases Nat.lt_or_ge j n with g|g
 ·exact h j g
 ·rw [Array.getElem?_eq_none (by omega),List.getElem?_eq_none (by omega)]
  rfl
theorem forceN_empty {c c' n:Nat} {xs:List Nat} (hl:xs.length=n) (h0:n=0):forceN c c' xs=[]:=by
 have:xs=[]:=List.length_eq_zero_iff.1 (by omega)
 rw [this]
 simp [forceN,plsOf]
theorem fill_0 {cs:Array Value} {ys:List Nat} {k n:Nat} {q:Pl} (hs:cs.size=n) (hk:k*2+2≤n) (h:∀ j,j<k*2→cs[j]?=ys[j]?.map flv) (hy:∀ j,j<2→ys[k*2+j]?=(numsOfPl 0 q)[j]?) :
  ∀ j,j<(k+1)*2→((cs.setIfInBounds (2*k) (.float .f64 q.x)).setIfInBounds (2*k+1) (.float .f64 q.y))[j]?=ys[j]?.map flv:=by
 intro j hj
 rcases mul_succ_lt hj with g|⟨i,hi,rfl⟩
 ·rw [Array.getElem?_setIfInBounds_ne (by omega),Array.getElem?_setIfInBounds_ne (by omega)]
  exact h j g
 ·rw [hy i hi]
  have hkw:2*k=k*2:=Nat.mul_comm _ _
  rw [hkw]
  have hn:numsOfPl 0 q=[q.x,q.y]:=rfl
  rw [hn]
  match i,hi with
  | 0,_=>simp only [Nat.add_zero];rw [Array.getElem?_setIfInBounds_ne (by omega),Array.getElem?_setIfInBounds_self_of_lt (by (try simp only [Array.size_setIfInBounds]);omega)];rfl
  | 1,_=>rw [Array.getElem?_setIfInBounds_self_of_lt (by (try simp only [Array.size_setIfInBounds]);omega)];rfl
set_option maxHeartbeats 4000000 in
set_option maxRecDepth 100000 in
theorem seqForce_0 (F:Nat→Prop) (c:Nat) (p:Option Addr) (n cap:Nat) (xs:List Nat) (hc:c≤3) (hne:c ≠ 0) (hn0:0<n) (w:World) (hF:New F w) (h:FlSl F w (.slice p n cap) xs) (hw:n % wd c=0) (hb:n / wd c≤1048576) :
  Calls Tryz.prog 201 #[.agg #[.int .u8 c,.slice p n cap],.int .u8 0] w (IsSeq F w 0 (forceN c 0 xs)):=by
 have HX:=Lib.hid h
 have hlen:=h.len
 obtain ⟨hl0,hl1,hl2⟩:=hlen
 have h31:n≤2147483647:=by
  have:=Nat.div_add_mod n (wd c)
  have h2:wd c*(n / wd c)≤4*1048576:=Nat.mul_le_mul (wd_bd c).2 hb
  omega
 have hd:=fun w=>dimension_any 0 (by decide) w
 have hq:wd 0=2:=by decide
 rw [hq] at hd
 have HD:=Lib.hid hd
 have hce:((c:Int) == 0)=false:=by simp;omega
 have hn0':((n:Int) == 0)=false:=by simp;omega
 have HLEN:=Lib.hid (fun w=>length_any p n cap c hc (by omega) w)
 have HGET:Hid (∀ W,Bel w W→∀ i,i<n / wd c→Calls Tryz.prog 69 #[.agg #[.int .u8 c,.slice p n cap],.int .i64 i] W fun e w'=>e=.returned (.agg #[.float .f64 (plAt c xs i).x,.float .f64 (plAt c xs i).y,.float .f64 (plAt c xs i).z,.float .f64 (plAt c xs i).m,.int .u8 c])∧Bel W w'):=Lib.hid fun W hW i hi=>get_any p n cap i c xs hc W (HX.out.bel hW) hi h31
 have HY:Hid (∀ k j,k<n / wd c→j<2→(forceN c 0 xs)[k*2+j]?=(numsOfPl 0 (plAt c xs k))[j]?):=Lib.hid fun k j hk hj=>by
  have:=forceN_at c 0 xs (k:=k) (j:=j) (by rw [hl0];exact hk) (by rw [hq];exact hj)
  rw [hq] at this
  exact this
 have HYL:Hid ((forceN c 0 xs).length=n / wd c*2):=Lib.hid (by rw [forceN_len,hl0,hq])
 clear h hw hd hq hl0 hne
 generalize hqq:n / wd c=q0 at *
 clear hqq
 obtain ⟨i0,hi,hz0,hz1,hz2⟩:=info_parts infoF
 have hmi:(2:Int)*(q0:Int)=((q0*2:Nat):Int):=by omega
 have HMI:=Lib.hid hmi
 clear hmi
 go_enter Tryz.func201,Tryz.ntmps201
 go_wp2_with (first
  | (go_at_call 126;(with_reducible refine (HLEN.out _).mono ?_);rintro e w1 ⟨rfl,hb1⟩;have B1:=((Blk.new w #[.int .u8 c,.slice p n cap] 109).alloc (.cells #[.int .u8 0,.slice none 0 0] 109)).bel hb1;have B2:=(Blk.new' (w.alloc (.cells #[.int .u8 c,.slice p n cap] 109)) #[.int .u8 0,.slice none 0 0] 109 (b:=w.heap.size+1) (by simp)).bel hb1;have HB1:Hid (Bel w w1):=Lib.hid (((Bel.alloc1 w _).alloc _).trans hb1);obtain ⟨r1,z1,l1⟩:=B1.facts;obtain ⟨r2,z2,l2⟩:=B2.facts;have HP1:=Lib.hid B1;have HP2:=Lib.hid B2;clear hb1 B1 B2)
  | (go_at_call 161;refine (HD.out _).mono ?_;rintro e w' ⟨rfl,rfl⟩)
  | (at_make;refine wpList_make_full _ rfl (.tmp 27) (.tmp 27) 22 rfl w1.heap.size 27 i0 (.float .f64 0) 1 Tryz.underlying22 hi hz0 hz1 .i64 .i64 _ _ (q0*2) rfl rfl HMI.out HMI.out ?b2 ?b3 ?b4 ?_;(case b2=>(rw [hz2];omega));(case b3=>(unfold maxLen;omega));(case b4=>simp);intro w2 hown hgrow;obtain ⟨cs0,hB0,hs0⟩:=hown.blk;have HB0:=Lib.hid hB0;have HS0:=Lib.hid hs0;have HW1:Hid (Bel w1 w2):=Lib.hid (Bel.of_grown0 hgrow);clear hown hgrow hB0 hs0))
 have hw12:=l2
 have E1:=HP1.out.bel HW1.out
 have E2:=HP2.out.bel HW1.out
 have HE1:=Lib.hid E1
 have HE2:=Lib.hid E2
 clear r1 z1 r2 z2
 have HB2:Hid (Bel w w2):=Lib.hid (HB1.out.trans HW1.out)
 go_loopw [8] (fun iv wr=>∃ (k:Nat) (cs:Array Value),iv=.int .i64 k∧k≤q0∧Bel w wr∧Blk wr w.heap.size #[.int .u8 c,.slice p n cap] 109∧Blk wr (w.heap.size+1) #[.int .u8 0,.slice none 0 0] 109∧Blk wr w1.heap.size cs 27∧cs.size=q0*2∧∀ j,j<k*2→cs[j]?=(forceN c 0 xs)[j]?.map flv) (fun iv _=>q0 - (intOf iv).toNat)
 case atStart=>exact ⟨0,cs0,rfl,Nat.zero_le _,HB2.out,HE1.out,HE2.out,HB0.out,by have:=HS0.out;omega,fun j hj=>by omega⟩
 case round =>
  obtain ⟨k,cs,rfl,hk,hbel,hb1,hb2,hb3,hcs,hfill⟩:=hrel
  have HBEL:=Lib.hid hbel
  have HG1:=Lib.hid hb1
  have HG2:=Lib.hid hb2
  have HG3:=Lib.hid hb3
  have HFILL:=Lib.hid hfill
  obtain ⟨r1,z1,l1⟩:=hb1.facts
  obtain ⟨r2,z2,l2⟩:=hb2.facts
  have z3:=hb3.rules.2
  have l3:=hb3.lt
  clear E1 E2 hfill hbel hb1 hb2 hb3
  by_cases hkq:k<q0
  ·have HG:=Lib.hid (fun W hW=>HGET.out W hW k hkq)
   have HYK:=Lib.hid (fun j hj=>HY.out k j hkq hj)
   generalize hpa:plAt c xs k=q at *
   clear hpa
   go_wp2_with (go_at_call 69;(with_reducible refine (HG.out _ HBEL.out).mono ?_);rintro e w3 ⟨rfl,hb⟩;have C1:=HG1.out.bel hb;have C2:=HG2.out.bel hb;have C3:=HG3.out.bel hb;have HB3:=Lib.hid hb;have HC1:=Lib.hid C1;have HC2:=Lib.hid C2;have HC3:=Lib.hid C3;obtain ⟨s1,t1,m1⟩:=C1.facts;have c0:∀ o,o<cs.size→∃ u,w3.cell? ⟨w1.heap.size,o,none⟩=some u:=(fun o ho=>⟨cs[o],(C3.rules.1 o).trans (Array.getElem?_eq_getElem ho)⟩);obtain ⟨u0,k0⟩:=c0 (2*k) (by omega);obtain ⟨u1,k1⟩:=c0 (2*k+1) (by omega);have t3:=C3.rules.2;have m3:=C3.lt;clear hb C1 C2 C3 c0)
   go_roundw
   case rel =>
    have hs1:=HB1.out.size
    refine ⟨k+1,((cs.setIfInBounds (2*k) (.float .f64 q.x)).setIfInBounds (2*k+1) (.float .f64 q.y)),by go_num,by omega,?_,?_,?_,?_,by simp [hcs],fill_0 hcs (by omega) HFILL.out HYK.out⟩
    ·have HB:=HBEL.out.trans HB3.out
     exact EL
    ·have HB:=HC1.out
     exact KL
    ·have HB:=HC2.out
     exact KL
    ·exact (((HC3.out.set (2*k) _).set (2*k+1) _)).alloc _
   case measure=>simp [intOf];omega
  ·obtain rfl:k=q0:=by omega
   have hfin:=filled hcs HYL.out HFILL.out
   have HD2:=Lib.hid (FlSl.of_blk (F:=fun b=>F b∧b ≠ w.heap.size+1) (by rw [← hfin];exact HG3.out) HYL.out (by omega) ⟨hF _ (by omega),by omega⟩)
   clear hfin
   go_wp2
   refine post_ret (results_one rfl (resIs_agg (n:=2) (cs:=#[.int .u8 0,.slice (some ⟨w1.heap.size,0,none⟩) (k*2) (k*2)]) (by rfl) Tryz.underlying109 (by kernel_rfl) (T:=109) ?_ rfl)) ⟨_,_,_,rfl,?_,?_⟩
   ·have HB:=HG2.out
    exact SL
   ·exact ((HD2.out.set (fun h=>h.2 rfl) _ _).set (fun h=>h.2 rfl) _ _).mono fun _ _ h=>h.1
   ·have HB:=HBEL.out
    exact EL
theorem fill_1 {cs:Array Value} {ys:List Nat} {k n:Nat} {q:Pl} (hs:cs.size=n) (hk:k*3+3≤n) (h:∀ j,j<k*3→cs[j]?=ys[j]?.map flv) (hy:∀ j,j<3→ys[k*3+j]?=(numsOfPl 1 q)[j]?) :
  ∀ j,j<(k+1)*3→(((cs.setIfInBounds (3*k) (.float .f64 q.x)).setIfInBounds (3*k+1) (.float .f64 q.y)).setIfInBounds (3*k+2) (.float .f64 q.z))[j]?=ys[j]?.map flv:=by
 intro j hj
 rcases mul_succ_lt hj with g|⟨i,hi,rfl⟩
 ·rw [Array.getElem?_setIfInBounds_ne (by omega),Array.getElem?_setIfInBounds_ne (by omega),Array.getElem?_setIfInBounds_ne (by omega)]
  exact h j g
 ·rw [hy i hi]
  have hkw:3*k=k*3:=Nat.mul_comm _ _
  rw [hkw]
  have hn:numsOfPl 1 q=[q.x,q.y,q.z]:=rfl
  rw [hn]
  match i,hi with
  | 0,_=>simp only [Nat.add_zero];rw [Array.getElem?_setIfInBounds_ne (by omega),Array.getElem?_setIfInBounds_ne (by omega),Array.getElem?_setIfInBounds_self_of_lt (by (try simp only [Array.size_setIfInBounds]);omega)];rfl
  | 1,_=>rw [Array.getElem?_setIfInBounds_ne (by omega),Array.getElem?_setIfInBounds_self_of_lt (by (try simp only [Array.size_setIfInBounds]);omega)];rfl
  | 2,_=>rw [Array.getElem?_setIfInBounds_self_of_lt (by (try simp only [Array.size_setIfInBounds]);omega)];rfl
set_option maxHeartbeats 4000000 in
set_option maxRecDepth 100000 in
theorem seqForce_1 (F:Nat→Prop) (c:Nat) (p:Option Addr) (n cap:Nat) (xs:List Nat) (hc:c≤3) (hne:c ≠ 1) (hn0:0<n) (w:World) (hF:New F w) (h:FlSl F w (.slice p n cap) xs) (hw:n % wd c=0) (hb:n / wd c≤1048576) :
  Calls Tryz.prog 201 #[.agg #[.int .u8 c,.slice p n cap],.int .u8 1] w (IsSeq F w 1 (forceN c 1 xs)):=by
 have HX:=Lib.hid h
 have hlen:=h.len
 obtain ⟨hl0,hl1,hl2⟩:=hlen
 have h31:n≤2147483647:=by
  have:=Nat.div_add_mod n (wd c)
  have h2:wd c*(n / wd c)≤4*1048576:=Nat.mul_le_mul (wd_bd c).2 hb
  omega
 have hd:=fun w=>dimension_any 1 (by decide) w
 have hq:wd 1=3:=by decide
 rw [hq] at hd
 have HD:=Lib.hid hd
 have hce:((c:Int) == 1)=false:=by simp;omega
 have hn0':((n:Int) == 0)=false:=by simp;omega
 have HLEN:=Lib.hid (fun w=>length_any p n cap c hc (by omega) w)
 have HGET:Hid (∀ W,Bel w W→∀ i,i<n / wd c→Calls Tryz.prog 69 #[.agg #[.int .u8 c,.slice p n cap],.int .i64 i] W fun e w'=>e=.returned (.agg #[.float .f64 (plAt c xs i).x,.float .f64 (plAt c xs i).y,.float .f64 (plAt c xs i).z,.float .f64 (plAt c xs i).m,.int .u8 c])∧Bel W w'):=Lib.hid fun W hW i hi=>get_any p n cap i c xs hc W (HX.out.bel hW) hi h31
 have HY:Hid (∀ k j,k<n / wd c→j<3→(forceN c 1 xs)[k*3+j]?=(numsOfPl 1 (plAt c xs k))[j]?):=Lib.hid fun k j hk hj=>by
  have:=forceN_at c 1 xs (k:=k) (j:=j) (by rw [hl0];exact hk) (by rw [hq];exact hj)
  rw [hq] at this
  exact this
 have HYL:Hid ((forceN c 1 xs).length=n / wd c*3):=Lib.hid (by rw [forceN_len,hl0,hq])
 clear h hw hd hq hl0 hne
 generalize hqq:n / wd c=q0 at *
 clear hqq
 obtain ⟨i0,hi,hz0,hz1,hz2⟩:=info_parts infoF
 have hmi:(3:Int)*(q0:Int)=((q0*3:Nat):Int):=by omega
 have HMI:=Lib.hid hmi
 clear hmi
 go_enter Tryz.func201,Tryz.ntmps201
 go_wp2_with (first
  | (go_at_call 126;(with_reducible refine (HLEN.out _).mono ?_);rintro e w1 ⟨rfl,hb1⟩;have B1:=((Blk.new w #[.int .u8 c,.slice p n cap] 109).alloc (.cells #[.int .u8 0,.slice none 0 0] 109)).bel hb1;have B2:=(Blk.new' (w.alloc (.cells #[.int .u8 c,.slice p n cap] 109)) #[.int .u8 0,.slice none 0 0] 109 (b:=w.heap.size+1) (by simp)).bel hb1;have HB1:Hid (Bel w w1):=Lib.hid (((Bel.alloc1 w _).alloc _).trans hb1);obtain ⟨r1,z1,l1⟩:=B1.facts;obtain ⟨r2,z2,l2⟩:=B2.facts;have HP1:=Lib.hid B1;have HP2:=Lib.hid B2;clear hb1 B1 B2)
  | (go_at_call 161;refine (HD.out _).mono ?_;rintro e w' ⟨rfl,rfl⟩)
  | (at_make;refine wpList_make_full _ rfl (.tmp 27) (.tmp 27) 22 rfl w1.heap.size 27 i0 (.float .f64 0) 1 Tryz.underlying22 hi hz0 hz1 .i64 .i64 _ _ (q0*3) rfl rfl HMI.out HMI.out ?b2 ?b3 ?b4 ?_;(case b2=>(rw [hz2];omega));(case b3=>(unfold maxLen;omega));(case b4=>simp);intro w2 hown hgrow;obtain ⟨cs0,hB0,hs0⟩:=hown.blk;have HB0:=Lib.hid hB0;have HS0:=Lib.hid hs0;have HW1:Hid (Bel w1 w2):=Lib.hid (Bel.of_grown0 hgrow);clear hown hgrow hB0 hs0))
 have hw12:=l2
 have E1:=HP1.out.bel HW1.out
 have E2:=HP2.out.bel HW1.out
 have HE1:=Lib.hid E1
 have HE2:=Lib.hid E2
 clear r1 z1 r2 z2
 have HB2:Hid (Bel w w2):=Lib.hid (HB1.out.trans HW1.out)
 go_loopw [8] (fun iv wr=>∃ (k:Nat) (cs:Array Value),iv=.int .i64 k∧k≤q0∧Bel w wr∧Blk wr w.heap.size #[.int .u8 c,.slice p n cap] 109∧Blk wr (w.heap.size+1) #[.int .u8 0,.slice none 0 0] 109∧Blk wr w1.heap.size cs 27∧cs.size=q0*3∧∀ j,j<k*3→cs[j]?=(forceN c 1 xs)[j]?.map flv) (fun iv _=>q0 - (intOf iv).toNat)
 case atStart=>exact ⟨0,cs0,rfl,Nat.zero_le _,HB2.out,HE1.out,HE2.out,HB0.out,by have:=HS0.out;omega,fun j hj=>by omega⟩
 case round =>
  obtain ⟨k,cs,rfl,hk,hbel,hb1,hb2,hb3,hcs,hfill⟩:=hrel
  have HBEL:=Lib.hid hbel
  have HG1:=Lib.hid hb1
  have HG2:=Lib.hid hb2
  have HG3:=Lib.hid hb3
  have HFILL:=Lib.hid hfill
  obtain ⟨r1,z1,l1⟩:=hb1.facts
  obtain ⟨r2,z2,l2⟩:=hb2.facts
  have z3:=hb3.rules.2
  have l3:=hb3.lt
  clear E1 E2 hfill hbel hb1 hb2 hb3
  by_cases hkq:k<q0
  ·have HG:=Lib.hid (fun W hW=>HGET.out W hW k hkq)
   have HYK:=Lib.hid (fun j hj=>HY.out k j hkq hj)
   generalize hpa:plAt c xs k=q at *
   clear hpa
   go_wp2_with (go_at_call 69;(with_reducible refine (HG.out _ HBEL.out).mono ?_);rintro e w3 ⟨rfl,hb⟩;have C1:=HG1.out.bel hb;have C2:=HG2.out.bel hb;have C3:=HG3.out.bel hb;have HB3:=Lib.hid hb;have HC1:=Lib.hid C1;have HC2:=Lib.hid C2;have HC3:=Lib.hid C3;obtain ⟨s1,t1,m1⟩:=C1.facts;have c0:∀ o,o<cs.size→∃ u,w3.cell? ⟨w1.heap.size,o,none⟩=some u:=(fun o ho=>⟨cs[o],(C3.rules.1 o).trans (Array.getElem?_eq_getElem ho)⟩);obtain ⟨u0,k0⟩:=c0 (3*k) (by omega);obtain ⟨u1,k1⟩:=c0 (3*k+1) (by omega);obtain ⟨u2,k2⟩:=c0 (3*k+2) (by omega);have t3:=C3.rules.2;have m3:=C3.lt;clear hb C1 C2 C3 c0)
   go_roundw
   case rel =>
    have hs1:=HB1.out.size
    refine ⟨k+1,(((cs.setIfInBounds (3*k) (.float .f64 q.x)).setIfInBounds (3*k+1) (.float .f64 q.y)).setIfInBounds (3*k+2) (.float .f64 q.z)),by go_num,by omega,?_,?_,?_,?_,by simp [hcs],fill_1 hcs (by omega) HFILL.out HYK.out⟩
    ·have HB:=HBEL.out.trans HB3.out
     exact EL
    ·have HB:=HC1.out
     exact KL
    ·have HB:=HC2.out
     exact KL
    ·exact ((((HC3.out.set (3*k) _).set (3*k+1) _).set (3*k+2) _)).alloc _
   case measure=>simp [intOf];omega
  ·obtain rfl:k=q0:=by omega
   have hfin:=filled hcs HYL.out HFILL.out
   have HD2:=Lib.hid (FlSl.of_blk (F:=fun b=>F b∧b ≠ w.heap.size+1) (by rw [← hfin];exact HG3.out) HYL.out (by omega) ⟨hF _ (by omega),by omega⟩)
   clear hfin
   go_wp2
   refine post_ret (results_one rfl (resIs_agg (n:=2) (cs:=#[.int .u8 1,.slice (some ⟨w1.heap.size,0,none⟩) (k*3) (k*3)]) (by rfl) Tryz.underlying109 (by kernel_rfl) (T:=109) ?_ rfl)) ⟨_,_,_,rfl,?_,?_⟩
   ·have HB:=HG2.out
    exact SL
   ·exact ((HD2.out.set (fun h=>h.2 rfl) _ _).set (fun h=>h.2 rfl) _ _).mono fun _ _ h=>h.1
   ·have HB:=HBEL.out
    exact EL
theorem fill_2 {cs:Array Value} {ys:List Nat} {k n:Nat} {q:Pl} (hs:cs.size=n) (hk:k*3+3≤n) (h:∀ j,j<k*3→cs[j]?=ys[j]?.map flv) (hy:∀ j,j<3→ys[k*3+j]?=(numsOfPl 2 q)[j]?) :
  ∀ j,j<(k+1)*3→(((cs.setIfInBounds (3*k) (.float .f64 q.x)).setIfInBounds (3*k+1) (.float .f64 q.y)).setIfInBounds (3*k+2) (.float .f64 q.m))[j]?=ys[j]?.map flv:=by
 intro j hj
 rcases mul_succ_lt hj with g|⟨i,hi,rfl⟩
 ·rw [Array.getElem?_setIfInBounds_ne (by omega),Array.getElem?_setIfInBounds_ne (by omega),Array.getElem?_setIfInBounds_ne (by omega)]
  exact h j g
 ·rw [hy i hi]
  have hkw:3*k=k*3:=Nat.mul_comm _ _
  rw [hkw]
  have hn:numsOfPl 2 q=[q.x,q.y,q.m]:=rfl
  rw [hn]
  match i,hi with
  | 0,_=>simp only [Nat.add_zero];rw [Array.getElem?_setIfInBounds_ne (by omega),Array.getElem?_setIfInBounds_ne (by omega),Array.getElem?_setIfInBounds_self_of_lt (by (try simp only [Array.size_setIfInBounds]);omega)];rfl
  | 1,_=>rw [Array.getElem?_setIfInBounds_ne (by omega),Array.getElem?_setIfInBounds_self_of_lt (by (try simp only [Array.size_setIfInBounds]);omega)];rfl
  | 2,_=>rw [Array.getElem?_setIfInBounds_self_of_lt (by (try simp only [Array.size_setIfInBounds]);omega)];rfl
set_option maxHeartbeats 4000000 in
set_option maxRecDepth 100000 in
theorem seqForce_2 (F:Nat→Prop) (c:Nat) (p:Option Addr) (n cap:Nat) (xs:List Nat) (hc:c≤3) (hne:c ≠ 2) (hn0:0<n) (w:World) (hF:New F w) (h:FlSl F w (.slice p n cap) xs) (hw:n % wd c=0) (hb:n / wd c≤1048576) :
  Calls Tryz.prog 201 #[.agg #[.int .u8 c,.slice p n cap],.int .u8 2] w (IsSeq F w 2 (forceN c 2 xs)):=by
 have HX:=Lib.hid h
 have hlen:=h.len
 obtain ⟨hl0,hl1,hl2⟩:=hlen
 have h31:n≤2147483647:=by
  have:=Nat.div_add_mod n (wd c)
  have h2:wd c*(n / wd c)≤4*1048576:=Nat.mul_le_mul (wd_bd c).2 hb
  omega
 have hd:=fun w=>dimension_any 2 (by decide) w
 have hq:wd 2=3:=by decide
 rw [hq] at hd
 have HD:=Lib.hid hd
 have hce:((c:Int) == 2)=false:=by simp;omega
 have hn0':((n:Int) == 0)=false:=by simp;omega
 have HLEN:=Lib.hid (fun w=>length_any p n cap c hc (by omega) w)
 have HGET:Hid (∀ W,Bel w W→∀ i,i<n / wd c→Calls Tryz.prog 69 #[.agg #[.int .u8 c,.slice p n cap],.int .i64 i] W fun e w'=>e=.returned (.agg #[.float .f64 (plAt c xs i).x,.float .f64 (plAt c xs i).y,.float .f64 (plAt c xs i).z,.float .f64 (plAt c xs i).m,.int .u8 c])∧Bel W w'):=Lib.hid fun W hW i hi=>get_any p n cap i c xs hc W (HX.out.bel hW) hi h31
 have HY:Hid (∀ k j,k<n / wd c→j<3→(forceN c 2 xs)[k*3+j]?=(numsOfPl 2 (plAt c xs k))[j]?):=Lib.hid fun k j hk hj=>by
  have:=forceN_at c 2 xs (k:=k) (j:=j) (by rw [hl0];exact hk) (by rw [hq];exact hj)
  rw [hq] at this
  exact this
 have HYL:Hid ((forceN c 2 xs).length=n / wd c*3):=Lib.hid (by rw [forceN_len,hl0,hq])
 clear h hw hd hq hl0 hne
 generalize hqq:n / wd c=q0 at *
 clear hqq
 obtain ⟨i0,hi,hz0,hz1,hz2⟩:=info_parts infoF
 have hmi:(3:Int)*(q0:Int)=((q0*3:Nat):Int):=by omega
 have HMI:=Lib.hid hmi
 clear hmi
 go_enter Tryz.func201,Tryz.ntmps201
 go_wp2_with (first
  | (go_at_call 126;(with_reducible refine (HLEN.out _).mono ?_);rintro e w1 ⟨rfl,hb1⟩;have B1:=((Blk.new w #[.int .u8 c,.slice p n cap] 109).alloc (.cells #[.int .u8 0,.slice none 0 0] 109)).bel hb1;have B2:=(Blk.new' (w.alloc (.cells #[.int .u8 c,.slice p n cap] 109)) #[.int .u8 0,.slice none 0 0] 109 (b:=w.heap.size+1) (by simp)).bel hb1;have HB1:Hid (Bel w w1):=Lib.hid (((Bel.alloc1 w _).alloc _).trans hb1);obtain ⟨r1,z1,l1⟩:=B1.facts;obtain ⟨r2,z2,l2⟩:=B2.facts;have HP1:=Lib.hid B1;have HP2:=Lib.hid B2;clear hb1 B1 B2)
  | (go_at_call 161;refine (HD.out _).mono ?_;rintro e w' ⟨rfl,rfl⟩)
  | (at_make;refine wpList_make_full _ rfl (.tmp 27) (.tmp 27) 22 rfl w1.heap.size 27 i0 (.float .f64 0) 1 Tryz.underlying22 hi hz0 hz1 .i64 .i64 _ _ (q0*3) rfl rfl HMI.out HMI.out ?b2 ?b3 ?b4 ?_;(case b2=>(rw [hz2];omega));(case b3=>(unfold maxLen;omega));(case b4=>simp);intro w2 hown hgrow;obtain ⟨cs0,hB0,hs0⟩:=hown.blk;have HB0:=Lib.hid hB0;have HS0:=Lib.hid hs0;have HW1:Hid (Bel w1 w2):=Lib.hid (Bel.of_grown0 hgrow);clear hown hgrow hB0 hs0))
 have hw12:=l2
 have E1:=HP1.out.bel HW1.out
 have E2:=HP2.out.bel HW1.out
 have HE1:=Lib.hid E1
 have HE2:=Lib.hid E2
 clear r1 z1 r2 z2
 have HB2:Hid (Bel w w2):=Lib.hid (HB1.out.trans HW1.out)
 go_loopw [8] (fun iv wr=>∃ (k:Nat) (cs:Array Value),iv=.int .i64 k∧k≤q0∧Bel w wr∧Blk wr w.heap.size #[.int .u8 c,.slice p n cap] 109∧Blk wr (w.heap.size+1) #[.int .u8 0,.slice none 0 0] 109∧Blk wr w1.heap.size cs 27∧cs.size=q0*3∧∀ j,j<k*3→cs[j]?=(forceN c 2 xs)[j]?.map flv) (fun iv _=>q0 - (intOf iv).toNat)
 case atStart=>exact ⟨0,cs0,rfl,Nat.zero_le _,HB2.out,HE1.out,HE2.out,HB0.out,by have:=HS0.out;omega,fun j hj=>by omega⟩
 case round =>
  obtain ⟨k,cs,rfl,hk,hbel,hb1,hb2,hb3,hcs,hfill⟩:=hrel
  have HBEL:=Lib.hid hbel
  have HG1:=Lib.hid hb1
  have HG2:=Lib.hid hb2
  have HG3:=Lib.hid hb3
  have HFILL:=Lib.hid hfill
  obtain ⟨r1,z1,l1⟩:=hb1.facts
  obtain ⟨r2,z2,l2⟩:=hb2.facts
  have z3:=hb3.rules.2
  have l3:=hb3.lt
  clear E1 E2 hfill hbel hb1 hb2 hb3
  by_cases hkq:k<q0
  ·have HG:=Lib.hid (fun W hW=>HGET.out W hW k hkq)
   have HYK:=Lib.hid (fun j hj=>HY.out k j hkq hj)
   generalize hpa:plAt c xs k=q at *
   clear hpa
   go_wp2_with (go_at_call 69;(with_reducible refine (HG.out _ HBEL.out).mono ?_);rintro e w3 ⟨rfl,hb⟩;have C1:=HG1.out.bel hb;have C2:=HG2.out.bel hb;have C3:=HG3.out.bel hb;have HB3:=Lib.hid hb;have HC1:=Lib.hid C1;have HC2:=Lib.hid C2;have HC3:=Lib.hid C3;obtain ⟨s1,t1,m1⟩:=C1.facts;have c0:∀ o,o<cs.size→∃ u,w3.cell? ⟨w1.heap.size,o,none⟩=some u:=(fun o ho=>⟨cs[o],(C3.rules.1 o).trans (Array.getElem?_eq_getElem ho)⟩);obtain ⟨u0,k0⟩:=c0 (3*k) (by omega);obtain ⟨u1,k1⟩:=c0 (3*k+1) (by omega);obtain ⟨u2,k2⟩:=c0 (3*k+2) (by omega);have t3:=C3.rules.2;have m3:=C3.lt;clear hb C1 C2 C3 c0)
   go_roundw
   case rel =>
    have hs1:=HB1.out.size
    refine ⟨k+1,(((cs.setIfInBounds (3*k) (.float .f64 q.x)).setIfInBounds (3*k+1) (.float .f64 q.y)).setIfInBounds (3*k+2) (.float .f64 q.m)),by go_num,by omega,?_,?_,?_,?_,by simp [hcs],fill_2 hcs (by omega) HFILL.out HYK.out⟩
    ·have HB:=HBEL.out.trans HB3.out
     exact EL
    ·have HB:=HC1.out
     exact KL
    ·have HB:=HC2.out
     exact KL
    ·exact ((((HC3.out.set (3*k) _).set (3*k+1) _).set (3*k+2) _)).alloc _
   case measure=>simp [intOf];omega
  ·obtain rfl:k=q0:=by omega
   have hfin:=filled hcs HYL.out HFILL.out
   have HD2:=Lib.hid (FlSl.of_blk (F:=fun b=>F b∧b ≠ w.heap.size+1) (by rw [← hfin];exact HG3.out) HYL.out (by omega) ⟨hF _ (by omega),by omega⟩)
   clear hfin
   go_wp2
   refine post_ret (results_one rfl (resIs_agg (n:=2) (cs:=#[.int .u8 2,.slice (some ⟨w1.heap.size,0,none⟩) (k*3) (k*3)]) (by rfl) Tryz.underlying109 (by kernel_rfl) (T:=109) ?_ rfl)) ⟨_,_,_,rfl,?_,?_⟩
   ·have HB:=HG2.out
    exact SL
   ·exact ((HD2.out.set (fun h=>h.2 rfl) _ _).set (fun h=>h.2 rfl) _ _).mono fun _ _ h=>h.1
   ·have HB:=HBEL.out
    exact EL
theorem fill_3 {cs:Array Value} {ys:List Nat} {k n:Nat} {q:Pl} (hs:cs.size=n) (hk:k*4+4≤n) (h:∀ j,j<k*4→cs[j]?=ys[j]?.map flv) (hy:∀ j,j<4→ys[k*4+j]?=(numsOfPl 3 q)[j]?) :
  ∀ j,j<(k+1)*4→((((cs.setIfInBounds (4*k) (.float .f64 q.x)).setIfInBounds (4*k+1) (.float .f64 q.y)).setIfInBounds (4*k+2) (.float .f64 q.z)).setIfInBounds (4*k+3) (.float .f64 q.m))[j]?=ys[j]?.map flv:=by
 intro j hj
 rcases mul_succ_lt hj with g|⟨i,hi,rfl⟩
 ·rw [Array.getElem?_setIfInBounds_ne (by omega),Array.getElem?_setIfInBounds_ne (by omega),Array.getElem?_setIfInBounds_ne (by omega),Array.getElem?_setIfInBounds_ne (by omega)]
  exact h j g
 ·rw [hy i hi]
  have hkw:4*k=k*4:=Nat.mul_comm _ _
  rw [hkw]
  have hn:numsOfPl 3 q=[q.x,q.y,q.z,q.m]:=rfl
  rw [hn]
  match i,hi with
  | 0,_=>simp only [Nat.add_zero];rw [Array.getElem?_setIfInBounds_ne (by omega),Array.getElem?_setIfInBounds_ne (by omega),Array.getElem?_setIfInBounds_ne (by omega),Array.getElem?_setIfInBounds_self_of_lt (by (try simp only [Array.size_setIfInBounds]);omega)];rfl
  | 1,_=>rw [Array.getElem?_setIfInBounds_ne (by omega),Array.getElem?_setIfInBounds_ne (by omega),Array.getElem?_setIfInBounds_self_of_lt (by (try simp only [Array.size_setIfInBounds]);omega)];rfl
  | 2,_=>rw [Array.getElem?_setIfInBounds_ne (by omega),Array.getElem?_setIfInBounds_self_of_lt (by (try simp only [Array.size_setIfInBounds]);omega)];rfl
  | 3,_=>rw [Array.getElem?_setIfInBounds_self_of_lt (by (try simp only [Array.size_setIfInBounds]);omega)];rfl
set_option maxHeartbeats 4000000 in
set_option maxRecDepth 100000 in
theorem seqForce_3 (F:Nat→Prop) (c:Nat) (p:Option Addr) (n cap:Nat) (xs:List Nat) (hc:c≤3) (hne:c ≠ 3) (hn0:0<n) (w:World) (hF:New F w) (h:FlSl F w (.slice p n cap) xs) (hw:n % wd c=0) (hb:n / wd c≤1048576) :
  Calls Tryz.prog 201 #[.agg #[.int .u8 c,.slice p n cap],.int .u8 3] w (IsSeq F w 3 (forceN c 3 xs)):=by
 have HX:=Lib.hid h
 have hlen:=h.len
 obtain ⟨hl0,hl1,hl2⟩:=hlen
 have h31:n≤2147483647:=by
  have:=Nat.div_add_mod n (wd c)
  have h2:wd c*(n / wd c)≤4*1048576:=Nat.mul_le_mul (wd_bd c).2 hb
  omega
 have hd:=fun w=>dimension_any 3 (by decide) w
 have hq:wd 3=4:=by decide
 rw [hq] at hd
 have HD:=Lib.hid hd
 have hce:((c:Int) == 3)=false:=by simp;omega
 have hn0':((n:Int) == 0)=false:=by simp;omega
 have HLEN:=Lib.hid (fun w=>length_any p n cap c hc (by omega) w)
 have HGET:Hid (∀ W,Bel w W→∀ i,i<n / wd c→Calls Tryz.prog 69 #[.agg #[.int .u8 c,.slice p n cap],.int .i64 i] W fun e w'=>e=.returned (.agg #[.float .f64 (plAt c xs i).x,.float .f64 (plAt c xs i).y,.float .f64 (plAt c xs i).z,.float .f64 (plAt c xs i).m,.int .u8 c])∧Bel W w'):=Lib.hid fun W hW i hi=>get_any p n cap i c xs hc W (HX.out.bel hW) hi h31
 have HY:Hid (∀ k j,k<n / wd c→j<4→(forceN c 3 xs)[k*4+j]?=(numsOfPl 3 (plAt c xs k))[j]?):=Lib.hid fun k j hk hj=>by
  have:=forceN_at c 3 xs (k:=k) (j:=j) (by rw [hl0];exact hk) (by rw [hq];exact hj)
  rw [hq] at this
  exact this
 have HYL:Hid ((forceN c 3 xs).length=n / wd c*4):=Lib.hid (by rw [forceN_len,hl0,hq])
 clear h hw hd hq hl0 hne
 generalize hqq:n / wd c=q0 at *
 clear hqq
 obtain ⟨i0,hi,hz0,hz1,hz2⟩:=info_parts infoF
 have hmi:(4:Int)*(q0:Int)=((q0*4:Nat):Int):=by omega
 have HMI:=Lib.hid hmi
 clear hmi
 go_enter Tryz.func201,Tryz.ntmps201
 go_wp2_with (first
  | (go_at_call 126;(with_reducible refine (HLEN.out _).mono ?_);rintro e w1 ⟨rfl,hb1⟩;have B1:=((Blk.new w #[.int .u8 c,.slice p n cap] 109).alloc (.cells #[.int .u8 0,.slice none 0 0] 109)).bel hb1;have B2:=(Blk.new' (w.alloc (.cells #[.int .u8 c,.slice p n cap] 109)) #[.int .u8 0,.slice none 0 0] 109 (b:=w.heap.size+1) (by simp)).bel hb1;have HB1:Hid (Bel w w1):=Lib.hid (((Bel.alloc1 w _).alloc _).trans hb1);obtain ⟨r1,z1,l1⟩:=B1.facts;obtain ⟨r2,z2,l2⟩:=B2.facts;have HP1:=Lib.hid B1;have HP2:=Lib.hid B2;clear hb1 B1 B2)
  | (go_at_call 161;refine (HD.out _).mono ?_;rintro e w' ⟨rfl,rfl⟩)
  | (at_make;refine wpList_make_full _ rfl (.tmp 27) (.tmp 27) 22 rfl w1.heap.size 27 i0 (.float .f64 0) 1 Tryz.underlying22 hi hz0 hz1 .i64 .i64 _ _ (q0*4) rfl rfl HMI.out HMI.out ?b2 ?b3 ?b4 ?_;(case b2=>(rw [hz2];omega));(case b3=>(unfold maxLen;omega));(case b4=>simp);intro w2 hown hgrow;obtain ⟨cs0,hB0,hs0⟩:=hown.blk;have HB0:=Lib.hid hB0;have HS0:=Lib.hid hs0;have HW1:Hid (Bel w1 w2):=Lib.hid (Bel.of_grown0 hgrow);clear hown hgrow hB0 hs0))
 have hw12:=l2
 have E1:=HP1.out.bel HW1.out
 have E2:=HP2.out.bel HW1.out
 have HE1:=Lib.hid E1
 have HE2:=Lib.hid E2
 clear r1 z1 r2 z2
 have HB2:Hid (Bel w w2):=Lib.hid (HB1.out.trans HW1.out)
 go_loopw [8] (fun iv wr=>∃ (k:Nat) (cs:Array Value),iv=.int .i64 k∧k≤q0∧Bel w wr∧Blk wr w.heap.size #[.int .u8 c,.slice p n cap] 109∧Blk wr (w.heap.size+1) #[.int .u8 0,.slice none 0 0] 109∧Blk wr w1.heap.size cs 27∧cs.size=q0*4∧∀ j,j<k*4→cs[j]?=(forceN c 3 xs)[j]?.map flv) (fun iv _=>q0 - (intOf iv).toNat)
 case atStart=>exact ⟨0,cs0,rfl,Nat.zero_le _,HB2.out,HE1.out,HE2.out,HB0.out,by have:=HS0.out;omega,fun j hj=>by omega⟩
 case round =>
  obtain ⟨k,cs,rfl,hk,hbel,hb1,hb2,hb3,hcs,hfill⟩:=hrel
  have HBEL:=Lib.hid hbel
  have HG1:=Lib.hid hb1
  have HG2:=Lib.hid hb2
  have HG3:=Lib.hid hb3
  have HFILL:=Lib.hid hfill
  obtain ⟨r1,z1,l1⟩:=hb1.facts
  obtain ⟨r2,z2,l2⟩:=hb2.facts
  have z3:=hb3.rules.2
  have l3:=hb3.lt
  clear E1 E2 hfill hbel hb1 hb2 hb3
  by_cases hkq:k<q0
  ·have HG:=Lib.hid (fun W hW=>HGET.out W hW k hkq)
   have HYK:=Lib.hid (fun j hj=>HY.out k j hkq hj)
   generalize hpa:plAt c xs k=q at *
   clear hpa
   go_wp2_with (go_at_call 69;(with_reducible refine (HG.out _ HBEL.out).mono ?_);rintro e w3 ⟨rfl,hb⟩;have C1:=HG1.out.bel hb;have C2:=HG2.out.bel hb;have C3:=HG3.out.bel hb;have HB3:=Lib.hid hb;have HC1:=Lib.hid C1;have HC2:=Lib.hid C2;have HC3:=Lib.hid C3;obtain ⟨s1,t1,m1⟩:=C1.facts;have c0:∀ o,o<cs.size→∃ u,w3.cell? ⟨w1.heap.size,o,none⟩=some u:=(fun o ho=>⟨cs[o],(C3.rules.1 o).trans (Array.getElem?_eq_getElem ho)⟩);obtain ⟨u0,k0⟩:=c0 (4*k) (by omega);obtain ⟨u1,k1⟩:=c0 (4*k+1) (by omega);obtain ⟨u2,k2⟩:=c0 (4*k+2) (by omega);obtain ⟨u3,k3⟩:=c0 (4*k+3) (by omega);have t3:=C3.rules.2;have m3:=C3.lt;clear hb C1 C2 C3 c0)
   go_roundw
   case rel =>
    have hs1:=HB1.out.size
    refine ⟨k+1,((((cs.setIfInBounds (4*k) (.float .f64 q.x)).setIfInBounds (4*k+1) (.float .f64 q.y)).setIfInBounds (4*k+2) (.float .f64 q.z)).setIfInBounds (4*k+3) (.float .f64 q.m)),by go_num,by omega,?_,?_,?_,?_,by simp [hcs],fill_3 hcs (by omega) HFILL.out HYK.out⟩
    ·have HB:=HBEL.out.trans HB3.out
     exact EL
    ·have HB:=HC1.out
     exact KL
    ·have HB:=HC2.out
     exact KL
    ·exact (((((HC3.out.set (4*k) _).set (4*k+1) _).set (4*k+2) _).set (4*k+3) _)).alloc _
   case measure=>simp [intOf];omega
  ·obtain rfl:k=q0:=by omega
   have hfin:=filled hcs HYL.out HFILL.out
   have HD2:=Lib.hid (FlSl.of_blk (F:=fun b=>F b∧b ≠ w.heap.size+1) (by rw [← hfin];exact HG3.out) HYL.out (by omega) ⟨hF _ (by omega),by omega⟩)
   clear hfin
   go_wp2
   refine post_ret (results_one rfl (resIs_agg (n:=2) (cs:=#[.int .u8 3,.slice (some ⟨w1.heap.size,0,none⟩) (k*4) (k*4)]) (by rfl) Tryz.underlying109 (by kernel_rfl) (T:=109) ?_ rfl)) ⟨_,_,_,rfl,?_,?_⟩
   ·have HB:=HG2.out
    exact SL
   ·exact ((HD2.out.set (fun h=>h.2 rfl) _ _).set (fun h=>h.2 rfl) _ _).mono fun _ _ h=>h.1
   ·have HB:=HBEL.out
    exact EL
set_option maxRecDepth 100000 in
theorem seqForce_any (F:Nat→Prop) (c c':Nat) (p:Option Addr) (n cap:Nat) (xs:List Nat) (hc:c≤3) (hc':c'≤3) (w:World) (hF:New F w) (h:FlSl F w (.slice p n cap) xs) (hw:n % wd c=0) (hb:n / wd c≤1048576) :
  Calls Tryz.prog 201 #[.agg #[.int .u8 c,.slice p n cap],.int .u8 c'] w (IsSeq F w c' (forceN c c' xs)):=by
 have hl:=h.len.1
 by_cases he:c=c'
 ·subst he
  rw [forceN_self hc xs (by rw [hl];exact hw)]
  have HX:=Lib.hid h
  have hce:((c:Int) == c)=true:=by simp
  clear h hl
  go_enter Tryz.func201,Tryz.ntmps201
  go_wp2
  refine post_ret (results_one rfl (resIs_agg (n:=2) (cs:=#[.int .u8 c,.slice p n cap]) (by rfl) Tryz.underlying109 (by kernel_rfl) (T:=109) ?_ rfl)) ⟨_,_,_,rfl,?_,?_⟩
  ·exact SL
  ·exact HX.out.bel (show Bel w _ by exact EL)
  ·exact EL
 ·by_cases h0:n=0
  ·rw [forceN_empty hl h0]
   subst h0
   have hce:((c:Int) == c')=false:=by simp;omega
   clear h hl
   go_enter Tryz.func201,Tryz.ntmps201
   go_wp2
   refine post_ret (results_one rfl (resIs_agg (n:=2) (cs:=#[.int .u8 c',.slice none 0 0]) (by rfl) Tryz.underlying109 (by kernel_rfl) (T:=109) ?_ rfl)) ⟨_,_,_,rfl,FlSl.nil _ _,?_⟩
   ·exact SL
   ·exact EL
  ·have h4:c'=0∨c'=1∨c'=2∨c'=3:=by omega
   rcases h4 with rfl|rfl|rfl|rfl
   ·exact seqForce_0 F c p n cap xs hc he (by omega) w hF h hw hb
   ·exact seqForce_1 F c p n cap xs hc he (by omega) w hF h hw hb
   ·exact seqForce_2 F c p n cap xs hc he (by omega) w hF h hw hb
   ·exact seqForce_3 F c p n cap xs hc he (by omega) w hF h hw hb
end Go.Proofs.YtpipehenfcbjbaaGreatDoor
