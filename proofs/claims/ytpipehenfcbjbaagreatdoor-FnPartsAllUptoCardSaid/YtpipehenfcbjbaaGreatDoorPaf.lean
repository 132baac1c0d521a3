/-
 Points: NewPoint,NewEmptyPoint,impl.point,their types. No panic;what stood in memory has not turned.
-/
import Derived.Test.YtpipehenfcbjbaaGreatDoorPac
import Derived.Test.YtpipehenfcbjbaaGreatDoorPad
set_option linter.unusedVariables false
namespace Go.Proofs.YtpipehenfcbjbaaGreatDoor
open Go.ChangeShapes Go.WideShapes Go.ChangeAt Go.RowKit
def IsOb (F:Nat→Prop) (w:World) (s:Nat) (g:Gm) (e:Ending) (w':World):Prop:=∃ cs:List Value,e=.returned (.agg cs.toArray)∧Ob F w' s cs g∧Bel w w'
theorem newPoint_any (x y z m c:Nat) (w:World):Calls Tryz.prog 162 #[.agg #[.float .f64 x,.float .f64 y,.float .f64 z,.float .f64 m,.int .u8 c]] w fun e w'=>e=.returned (.agg #[.float .f64 x,.float .f64 y,.float .f64 z,.float .f64 m,.int .u8 c,.bool true])∧Bel w w':=by
 go_enter Tryz.func162,Tryz.ntmps162
 go_wp2
 refine post_ret (results_one rfl (resIs_agg (n:=6) (cs:=#[.float .f64 x,.float .f64 y,.float .f64 z,.float .f64 m,.int .u8 c,.bool true]) (by rfl) Tryz.underlying107 (by kernel_rfl) (T:=107) ?_ rfl)) ⟨rfl,?_⟩
 ·exact SL
 ·exact EL
theorem newEmptyPoint_any (c:Nat) (w:World):Calls Tryz.prog 165 #[.int .u8 c] w fun e w'=>e=.returned (.agg #[.float .f64 0,.float .f64 0,.float .f64 0,.float .f64 0,.int .u8 c,.bool false])∧Bel w w':=by
 go_enter Tryz.func165,Tryz.ntmps165
 go_wp2
 refine post_ret (results_one rfl (resIs_agg (n:=6) (cs:=#[.float .f64 0,.float .f64 0,.float .f64 0,.float .f64 0,.int .u8 c,.bool false]) (by rfl) Tryz.underlying107 (by kernel_rfl) (T:=107) ?_ rfl)) ⟨rfl,?_⟩
 ·exact SL
 ·exact EL
def newPt (c:Nat) (ns:List Nat):Gm:=.mk 1 c (ns.take (min (ns.length / wd c) 1*wd c)) []
theorem newPt_full {c:Nat} (hc:c≤3) (ns:List Nat) (h:0<ns.length / wd c):newPt c ns=.mk 1 c (numsOfPl c (plAt c (ns.take (ns.length - ns.length % wd c)) 0)) []:=by
 have hm:min (ns.length / wd c) 1=1:=by omega
 have h0:=wd_bd c
 have h1:wd c≤ns.length - ns.length % wd c:=by
  have:=Nat.div_add_mod ns.length (wd c)
  have:wd c*1≤wd c*(ns.length / wd c):=Nat.mul_le_mul_left _ h
  omega
 unfold newPt
 rw [hm,Nat.one_mul,numsOfPl_at hc _ 0 (by rw [List.length_take];omega),Nat.zero_mul,List.drop_zero,List.take_take,Nat.min_eq_left h1]
set_option maxHeartbeats 1000000 in
set_option maxRecDepth 100000 in
theorem point_any (F:Nat→Prop) (dim:Int) (pn:Option Addr) (nn cn:Nat) (ns:List Nat) (pk:Option Addr) (nk ck:Nat) (w:World) (hF:New F w) (h:FlSl F w (.slice pn nn cn) ns) (h31:nn≤2147483647) :
  Calls Tryz.prog 85 #[.agg #[.int .i64 1,.int .i64 dim,.slice pn nn cn,.slice pk nk ck]] w (IsOb F w 1 (newPt (ct dim) ns)):=by
 have HX:=Lib.hid h
 have hlen:=h.len
 have hc:=ct_le dim
 have HDO:=Lib.hid (dimOf_any dim)
 have hwd:=wd_bd (ct dim)
 obtain ⟨hl0,hl1,hl2⟩:=hlen
 have HSEQ:Hid (∀ W,Bel w W→Calls Tryz.prog 164 #[.slice pn nn cn,.int .i64 dim] W (IsSeq (fun b=>W.heap.size≤b∨F b) W (ct dim) (ns.take (nn - nn % wd (ct dim))))):=Lib.hid fun W hW=>sequence_any _ pn nn cn ns dim W (fun b hb=>Or.inl hb) ((HX.out.bel hW).mono fun _ _ hb=>Or.inr hb) h31
 have hq:(nn - nn % wd (ct dim)) / wd (ct dim)=nn / wd (ct dim):=by
  have:=Nat.div_add_mod nn (wd (ct dim))
  have e:nn - nn % wd (ct dim)=wd (ct dim)*(nn / wd (ct dim)):=by omega
  rw [e,Nat.mul_div_cancel_left _ (by omega)]
 have HQ:=Lib.hid hq
 have HL0:=Lib.hid hl0
 clear h hq hl0
 by_cases h0:nn / wd (ct dim)=0
 ·have HR:Hid (newPt (ct dim) ns=.mk 1 (ct dim) [] []):=Lib.hid (by
   unfold newPt
   rw [HL0.out,h0]
   simp)
  have HZ:=Lib.hid h0
  clear h0
  generalize ct dim=c at *
  go_enter Tryz.func85,Tryz.ntmps85
  go_wp2_with (first
   | (go_at_call 164;(with_reducible refine (HSEQ.out _ ?hb).mono ?_);(case hb=>exact EL);rintro e w1 ⟨p1,n1,c1,rfl,hf1,hb1⟩;have HF1:=Lib.hid hf1;have B1:=((Blk.new w #[.int .i64 1,.int .i64 dim,.slice pn nn cn,.slice pk nk ck] 25).alloc (.cells #[.float .f64 0,.float .f64 0,.float .f64 0,.float .f64 0,.int .u8 0,.bool false] 107)).bel hb1;have B2:=(Blk.new' (w.alloc (.cells #[.int .i64 1,.int .i64 dim,.slice pn nn cn,.slice pk nk ck] 25)) #[.float .f64 0,.float .f64 0,.float .f64 0,.float .f64 0,.int .u8 0,.bool false] 107 (b:=w.heap.size+1) (by simp)).bel hb1;have HB1:Hid (Bel w w1):=Lib.hid (((Bel.alloc1 w _).alloc _).trans hb1);obtain ⟨r1,z1,l1⟩:=B1.facts;obtain ⟨r2,z2,l2⟩:=B2.facts;have HP1:=Lib.hid B1;have HP2:=Lib.hid B2;clear hf1 hb1 B1 B2)
   | (go_at_call 126;refine (length_any _ _ _ _ hc (by have:=HF1.out.len;omega) _).mono ?_;rintro e w2 ⟨rfl,hb2⟩;have hz:n1 / wd c=0:=(by have hl:=HF1.out.len.1;rw [List.length_take,HL0.out,Nat.min_eq_left (Nat.sub_le _ _)] at hl;rw [← hl,HQ.out,HZ.out]);rw [hz];have B1:=HP1.out.bel ((Bel.alloc1 _ _).trans hb2);have B2:=HP2.out.bel ((Bel.alloc1 _ _).trans hb2);have HB2:Hid (Bel w w2):=Lib.hid (HB1.out.trans ((Bel.alloc1 _ _).trans hb2));obtain ⟨r3,z3,l3⟩:=B1.facts;obtain ⟨r4,z4,l4⟩:=B2.facts;have HP3:=Lib.hid B1;have HP4:=Lib.hid B2;clear hb2 B1 B2 hz)
   | (go_at_call 166;refine (HDO.out _).mono ?_;rintro e w' ⟨rfl,rfl⟩)
   | (go_at_call 165;refine (newEmptyPoint_any _ _).mono ?_;rintro e w3 ⟨rfl,hb3⟩;have B2:=HP4.out.bel hb3;have HB3:Hid (Bel w w3):=Lib.hid (HB2.out.trans hb3);obtain ⟨r5,z5,l5⟩:=B2.facts;have HP5:=Lib.hid B2;clear hb3 B2))
  refine post_ret (results_one rfl (resIs_agg (n:=6) (cs:=#[.float .f64 0,.float .f64 0,.float .f64 0,.float .f64 0,.int .u8 c,.bool false]) (by rfl) Tryz.underlying107 (by kernel_rfl) (T:=107) ?_ rfl)) ⟨_,rfl,?_,?_⟩
  ·have HB:=HP5.out
   exact SL
  ·rw [HR.out]
   exact .point 0 0 0 0 c false hc
  ·have HB:=HB3.out
   exact EL
 ·have HR:Hid (newPt (ct dim) ns=.mk 1 (ct dim) (numsOfPl (ct dim) (plAt (ct dim) (ns.take (nn - nn % wd (ct dim))) 0)) []):=Lib.hid (by
   have h1:=newPt_full hc ns (by rw [HL0.out];exact Nat.pos_of_ne_zero h0)
   rw [HL0.out] at h1
   exact h1)
  have hpos:0<nn / wd (ct dim):=Nat.pos_of_ne_zero h0
  have HZ:=Lib.hid hpos
  have HLE:Hid ((ns.take (nn - nn % wd (ct dim))).length=nn - nn % wd (ct dim)):=Lib.hid (by rw [List.length_take,HL0.out];exact Nat.min_eq_left (Nat.sub_le _ _))
  clear h0 hpos
  generalize ct dim=c at *
  generalize ns.take (nn - nn % wd c)=xs at *
  generalize hpa:plAt c xs 0=q at *
  have HPA:=Lib.hid hpa
  clear hpa
  go_enter Tryz.func85,Tryz.ntmps85
  go_wp2_with (first
   | (go_at_call 164;(with_reducible refine (HSEQ.out _ ?hb).mono ?_);(case hb=>exact EL);rintro e w1 ⟨p1,n1,c1,rfl,hf1,hb1⟩;have HF1:=Lib.hid hf1;have B1:=((Blk.new w #[.int .i64 1,.int .i64 dim,.slice pn nn cn,.slice pk nk ck] 25).alloc (.cells #[.float .f64 0,.float .f64 0,.float .f64 0,.float .f64 0,.int .u8 0,.bool false] 107)).bel hb1;have B2:=(Blk.new' (w.alloc (.cells #[.int .i64 1,.int .i64 dim,.slice pn nn cn,.slice pk nk ck] 25)) #[.float .f64 0,.float .f64 0,.float .f64 0,.float .f64 0,.int .u8 0,.bool false] 107 (b:=w.heap.size+1) (by simp)).bel hb1;have HB1:Hid (Bel w w1):=Lib.hid (((Bel.alloc1 w _).alloc _).trans hb1);obtain ⟨r1,z1,l1⟩:=B1.facts;obtain ⟨r2,z2,l2⟩:=B2.facts;have HP1:=Lib.hid B1;have HP2:=Lib.hid B2;have B7:=Blk.new w1 #[.int .u8 c,.slice p1 n1 c1] 109;have HP7:=Lib.hid B7;have HN1:Hid (n1 / wd c=nn / wd c∧n1≤nn):=Lib.hid (by have hl:=hf1.len.1;have hle:=HLE.out;rw [hle] at hl;rw [← hl];exact ⟨HQ.out,Nat.sub_le _ _⟩);clear hf1 hb1 B1 B2 B7)
   | (go_at_call 126;refine (length_any _ _ _ _ hc (by have:=HF1.out.len;omega) _).mono ?_;rintro e w2 ⟨rfl,hb2⟩;rw [HN1.out.1];have B1:=HP1.out.bel ((Bel.alloc1 _ _).trans hb2);have B2:=HP2.out.bel ((Bel.alloc1 _ _).trans hb2);have HB2:Hid (Bel w1 w2):=Lib.hid ((Bel.alloc1 _ _).trans hb2);have B3:=HP7.out.bel hb2;obtain ⟨r3,z3,l3⟩:=B1.facts;obtain ⟨r4,z4,l4⟩:=B2.facts;obtain ⟨r6,z6,l6⟩:=B3.facts;have HP4:=Lib.hid B2;have hq0:(((nn / wd c:Nat):Int) == 0)=false:=(by have:=HZ.out;simp;omega);clear hb2 B1 B2 B3)
   | (go_at_call 69;refine (get_any _ _ _ 0 c xs hc _ (HF1.out.bel HB2.out) (by rw [HN1.out.1];exact HZ.out) (by have:=HN1.out.2;omega)).mono ?_;rw [HPA.out];rintro e w4 ⟨rfl,hb4⟩;have B2:=HP4.out.bel hb4;have HB4:Hid (Bel w1 w4):=Lib.hid (HB2.out.trans hb4);have HP5:=Lib.hid B2;clear hb4 B2)
   | (go_at_call 162;refine (newPoint_any _ _ _ _ _ _).mono ?_;rintro e w5 ⟨rfl,hb5⟩;have B2:=HP5.out.bel hb5;have HB5:Hid (Bel w w5):=Lib.hid (HB1.out.trans (HB4.out.trans hb5));obtain ⟨r5,z5,l5⟩:=B2.facts;have HP6:=Lib.hid B2;clear hb5 B2))
  refine post_ret (results_one rfl (resIs_agg (n:=6) (cs:=#[.float .f64 q.x,.float .f64 q.y,.float .f64 q.z,.float .f64 q.m,.int .u8 c,.bool true]) (by rfl) Tryz.underlying107 (by kernel_rfl) (T:=107) ?_ rfl)) ⟨_,rfl,?_,?_⟩
  ·have HB:=HP6.out
   exact SL
  ·rw [HR.out]
   exact .point q.x q.y q.z q.m c true hc
  ·have HB:=HB5.out
   exact EL
theorem ct_nat {c:Nat} (hc:c≤3):ct (c:Int)=c:=by unfold ct;omega
theorem forceN_one {c:Nat} (hc:c≤3) (c':Nat) (p:Pl):forceN c c' (numsOfPl c p)=numsOfPl c' ⟨p.x,p.y,if c % 2=1 then p.z else 0,if c / 2 % 2=1 then p.m else 0⟩:=by
 have h0:=wd_bd c
 unfold forceN plsOf
 rw [numsOfPl_len,Nat.div_self (by omega)]
 have e:(List.range 1).map (plAt c (numsOfPl c p))=[plAt c (numsOfPl c p) 0]:=rfl
 rw [e,List.flatMap_cons,List.flatMap_nil,List.append_nil]
 congr 1
 have h4:c=0∨c=1∨c=2∨c=3:=by omega
 rcases h4 with rfl|rfl|rfl|rfl<;>rfl
theorem forceN_nil (c c':Nat):forceN c c' []=[]:=by simp [forceN,plsOf]
theorem numsOfPl_zm (c:Nat) (x y z m z' m':Nat) (hz:c % 2=1→z=z') (hm:c / 2 % 2=1→m=m'):numsOfPl c ⟨x,y,z,m⟩=numsOfPl c ⟨x,y,z',m'⟩:=by
 unfold numsOfPl
 simp only
 by_cases h1:c % 2=1
 ·rw [hz h1]
  by_cases h2:c / 2 % 2=1
  ·rw [hm h2]
  ·rw [if_neg h2,if_neg h2]
 ·rw [if_neg h1,if_neg h1]
  by_cases h2:c / 2 % 2=1
  ·rw [hm h2]
  ·rw [if_neg h2,if_neg h2]
theorem force_pt {c:Nat} (hc:c≤3) (c':Nat) (x y z m:Nat) (full:Bool):force c' (.mk 1 c (if full then numsOfPl c ⟨x,y,z,m⟩ else []) [])=.mk 1 c' (if full then numsOfPl c' ⟨x,y,if c % 2=1 then z else 0,if c / 2 % 2=1 then m else 0⟩ else []) []:=by
 simp only [force,forceAll,ct_nat hc]
 cases full
 ·simp [forceN_nil]
 ·simp [forceN_one hc]
theorem pointType_any (x y z m c:Nat) (full:Bool) (w:World):Calls Tryz.prog 111 #[.agg #[.float .f64 x,.float .f64 y,.float .f64 z,.float .f64 m,.int .u8 c,.bool full]] w fun e w'=>e=.returned (.int .u8 c)∧Bel w w':=by
 go_enter Tryz.func111,Tryz.ntmps111
 go_wp2
 go_ret
 exact ⟨rfl,by exact EL⟩
theorem pointEmpty_any (x y z m c:Nat) (full:Bool) (w:World):Calls Tryz.prog 120 #[.agg #[.float .f64 x,.float .f64 y,.float .f64 z,.float .f64 m,.int .u8 c,.bool full]] w fun e w'=>e=.returned (.bool (!full))∧Bel w w':=by
 go_enter Tryz.func120,Tryz.ntmps120
 go_wp2
 go_ret
 exact ⟨rfl,by exact EL⟩
def IsPtForced (x y z m c c':Nat) (full:Bool) (w:World) (e:Ending) (w':World):Prop:=∃ x' y' z' m',e=.returned (.agg #[.float .f64 x',.float .f64 y',.float .f64 z',.float .f64 m',.int .u8 c',.bool full])∧(full=true→x'=x∧y'=y∧(c' % 2=1→z'=if c % 2=1 then z else 0)∧(c' / 2 % 2=1→m'=if c / 2 % 2=1 then m else 0))∧Bel w w'
set_option maxHeartbeats 4000000 in
set_option maxRecDepth 100000 in
theorem pointForce_raw (x y z m c c':Nat) (full:Bool) (hc:c≤3) (hc':c'≤3) (w:World):Calls Tryz.prog 203 #[.agg #[.float .f64 x,.float .f64 y,.float .f64 z,.float .f64 m,.int .u8 c,.bool full],.int .u8 c'] w (IsPtForced x y z m c c' full w):=by
 cases full
 ·go_enter Tryz.func203,Tryz.ntmps203
  go_wp2_with (go_at_call 165;refine (newEmptyPoint_any _ _).mono ?_;rintro e w1 ⟨rfl,hb1⟩;have B1:=(Blk.new' (w.alloc (.cells #[.float .f64 x,.float .f64 y,.float .f64 z,.float .f64 m,.int .u8 c,.bool false] 107)) #[.float .f64 0,.float .f64 0,.float .f64 0,.float .f64 0,.int .u8 0,.bool false] 107 (b:=w.heap.size+1) (by simp)).bel hb1;have HB1:Hid (Bel w w1):=Lib.hid (((Bel.alloc1 w _).alloc _).trans hb1);obtain ⟨r1,z1,l1⟩:=B1.facts;have HP1:=Lib.hid B1;clear hb1 B1)
  refine post_ret (results_one rfl (resIs_agg (n:=6) (cs:=#[.float .f64 0,.float .f64 0,.float .f64 0,.float .f64 0,.int .u8 c',.bool false]) (by rfl) Tryz.underlying107 (by kernel_rfl) (T:=107) ?_ rfl)) ⟨0,0,0,0,rfl,(fun h=>by cases h),?_⟩
  ·have HB:=HP1.out
   exact SL
  ·have HB:=HB1.out
   exact EL
 ·have h3:=Lib.hid (is3D_any c hc)
  have h3':=Lib.hid (is3D_any c' hc')
  have hm:=Lib.hid (isMeasured_any c hc)
  have hm':=Lib.hid (isMeasured_any c' hc')
  have HZ:Hid (∀ z',(decide (c' % 2=1) != decide (c % 2=1))=true→z'=0→c' % 2=1→z'=if c % 2=1 then z else 0):=Lib.hid fun z' h1 h2 h3=>by
   simp [h3] at h1
   rw [h2,if_neg (by omega)]
  have HZ0:Hid ((decide (c' % 2=1) != decide (c % 2=1))=false→c' % 2=1→z=if c % 2=1 then z else 0):=Lib.hid fun h1 h3=>by
   simp [h3] at h1
   rw [if_pos (by omega)]
  have HM:Hid (∀ m',(decide (c' / 2 % 2=1) != decide (c / 2 % 2=1))=true→m'=0→c' / 2 % 2=1→m'=if c / 2 % 2=1 then m else 0):=Lib.hid fun z' h1 h2 h3=>by
   simp [h3] at h1
   rw [h2,if_neg (by omega)]
  have HM0:Hid ((decide (c' / 2 % 2=1) != decide (c / 2 % 2=1))=false→c' / 2 % 2=1→m=if c / 2 % 2=1 then m else 0):=Lib.hid fun h1 h3=>by
   simp [h3] at h1
   rw [if_pos (by omega)]
  generalize decide (c' % 2=1)=b1 at *
  generalize decide (c % 2=1)=b2 at *
  generalize decide (c' / 2 % 2=1)=b3 at *
  generalize decide (c / 2 % 2=1)=b4 at *
  cases b1<;>cases b2<;>cases b3<;>cases b4
  all_goals
   go_enter Tryz.func203,Tryz.ntmps203
   go_wp2
   go_quiet ((go_at_call 174;first|with_reducible exact Calls.quiet_of_same ((h3'.out _).mono fun _ _ h=>⟨h.1,h.2.symm⟩)|with_reducible exact Calls.quiet_of_same ((h3.out _).mono fun _ _ h=>⟨h.1,h.2.symm⟩)))
   generalize hW:World.drewN _ nq=w2 at *
   have B1:Blk w2 w.heap.size #[.float .f64 x,.float .f64 y,.float .f64 z,.float .f64 m,.int .u8 c,.bool true] 107:=by
    subst hW
    exact ((Blk.new w _ _).alloc _).drewN _
   have B2:Blk w2 (w.heap.size+1) #[.float .f64 0,.float .f64 0,.float .f64 0,.float .f64 0,.int .u8 0,.bool false] 107:=by
    subst hW
    exact (Blk.new' _ _ _ (by simp)).drewN _
   have HB:Hid (Bel w w2):=Lib.hid (by
    subst hW
    exact ((Bel.alloc1 w _).alloc _).drewN _)
   obtain ⟨r1,z1,l1⟩:=B1.facts
   obtain ⟨r2,z2,l2⟩:=B2.facts
   clear hW nq
   go_wp2
   go_quiet ((go_at_call 175;first|exact Calls.quiet_of_same ((hm'.out _).mono fun _ _ h=>⟨h.1,h.2.symm⟩)|exact Calls.quiet_of_same ((hm.out _).mono fun _ _ h=>⟨h.1,h.2.symm⟩)))
   go_wp2
   first
    | (refine post_ret (results_one rfl (resIs_agg (n:=6) (cs:=#[.float .f64 x,.float .f64 y,.float .f64 z,.float .f64 m,.int .u8 c',.bool true]) (by rfl) Tryz.underlying107 (by kernel_rfl) (T:=107) ?hz rfl)) ⟨x,y,z,m,rfl,fun _=>⟨rfl,rfl,HZ0.out rfl,HM0.out rfl⟩,?hb⟩;(case hz=>exact SL);(case hb=>(have HBB:=HB.out;exact EL)))
    | (refine post_ret (results_one rfl (resIs_agg (n:=6) (cs:=#[.float .f64 x,.float .f64 y,.float .f64 z,.float .f64 0,.int .u8 c',.bool true]) (by rfl) Tryz.underlying107 (by kernel_rfl) (T:=107) ?hz rfl)) ⟨x,y,z,0,rfl,fun _=>⟨rfl,rfl,HZ0.out rfl,HM.out 0 rfl rfl⟩,?hb⟩;(case hz=>exact SL);(case hb=>(have HBB:=HB.out;exact EL)))
    | (refine post_ret (results_one rfl (resIs_agg (n:=6) (cs:=#[.float .f64 x,.float .f64 y,.float .f64 0,.float .f64 m,.int .u8 c',.bool true]) (by rfl) Tryz.underlying107 (by kernel_rfl) (T:=107) ?hz rfl)) ⟨x,y,0,m,rfl,fun _=>⟨rfl,rfl,HZ.out 0 rfl rfl,HM0.out rfl⟩,?hb⟩;(case hz=>exact SL);(case hb=>(have HBB:=HB.out;exact EL)))
    | (refine post_ret (results_one rfl (resIs_agg (n:=6) (cs:=#[.float .f64 x,.float .f64 y,.float .f64 0,.float .f64 0,.int .u8 c',.bool true]) (by rfl) Tryz.underlying107 (by kernel_rfl) (T:=107) ?hz rfl)) ⟨x,y,0,0,rfl,fun _=>⟨rfl,rfl,HZ.out 0 rfl rfl,HM.out 0 rfl rfl⟩,?hb⟩;(case hz=>exact SL);(case hb=>(have HBB:=HB.out;exact EL)))
theorem Ob.pt {F:Nat→Prop} {w:World} {cs:List Value} {g:Gm} (h:Ob F w 1 cs g):∃ (x y z m c:Nat) (full:Bool),cs=[.float .f64 x,.float .f64 y,.float .f64 z,.float .f64 m,.int .u8 c,.bool full]∧c≤3∧g=.mk 1 c (if full then numsOfPl c ⟨x,y,z,m⟩ else []) []:=by
 cases h with
 | point x y z m c full hc=>exact ⟨x,y,z,m,c,full,rfl,hc,rfl⟩
 | parts s e k c p cap gs cs he hc hl hcap hb h0 hkk h1=>cases he
set_option maxRecDepth 100000 in
theorem pointForce_any {F:Nat→Prop} (cs:List Value) (g:Gm) (c':Nat) (hc':c'≤3) (w:World) (h:Ob F w 1 cs g):Calls Tryz.prog 203 #[.agg cs.toArray,.int .u8 c'] w (IsOb F w 1 (force c' g)):=by
 obtain ⟨x,y,z,m,c,full,rfl,hc,rfl⟩:=h.pt
 refine (pointForce_raw x y z m c c' full hc hc' w).mono ?_
 rintro e w1 ⟨x',y',z',m',rfl,hx,hb⟩
 refine ⟨[.float .f64 x',.float .f64 y',.float .f64 z',.float .f64 m',.int .u8 c',.bool full],rfl,?_,hb⟩
 rw [force_pt hc]
 have:=Ob.point (F:=F) (w:=w1) x' y' z' m' c' full hc'
 cases full
 ·exact this
 ·obtain ⟨rfl,rfl,hz,hm⟩:=hx rfl
  rw [if_pos rfl,numsOfPl_zm c' x' y' z' m' _ _ hz hm] at this
  rw [if_pos rfl]
  exact this
end Go.Proofs.YtpipehenfcbjbaaGreatDoor
