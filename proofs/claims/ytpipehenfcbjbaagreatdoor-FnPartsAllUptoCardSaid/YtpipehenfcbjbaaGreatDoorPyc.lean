/-
 impl.plainMultiPoint,plainMultiLine,plainMultiPolygon,plainCollection: as plain data. No panic;what stood in memory has not turned.
-/
import Derived.Test.YtpipehenfcbjbaaGreatDoorPyb
set_option linter.unusedVariables false
set_option linter.unusedSimpArgs false
namespace Go.Proofs.YtpipehenfcbjbaaGreatDoor
open Go.ChangeShapes Go.WideShapes Go.ChangeAt Go.RowKit
set_option maxHeartbeats 8000000 in
set_option maxRecDepth 100000 in
theorem plainMultiPoint_any (g:Gm) (hsub:∀ k ∈ g.kids,PlainOk 1 96 k):PlainOk 4 100 g:=fun F G cs w hG h=>by
 have HEL:Hid (∀ (t:Nat) (kid:Gm) (W:World),g.kids[t]?=some kid→Bel w W→Calls Tryz.prog 77 #[.agg cs.toArray,.int .i64 t] W (IsEl F 1 kid W)):=Lib.hid fun t kid W hk hW=>elem_4 h hk W hW
 obtain ⟨p,cap,c,ks,rfl,hc,rfl,hn31,-⟩:=h.sl (e:=1) (k:=6) rfl
 have HSUB:Hid (∀ kid ∈ ks,PlainOk 1 96 kid):=Lib.hid hsub
 show Calls Tryz.prog 100 #[.agg #[.slice p ks.length cap,.int .u8 c]] w (IsGm G (.mk (4:Nat) c [] ks) w)
 have HELS:Hid (∀ (t:Nat) (kid:Gm) (W:World),ks[t]?=some kid→Bel w W→Calls Tryz.prog 77 #[.agg #[.slice p ks.length cap,.int .u8 c],.int .i64 t] W (IsEl F 1 kid W)):=Lib.hid HEL.out
 clear HEL h hsub
 generalize hn:ks.length=n at *
 have HN:=Lib.hid hn
 clear hn
 have HTYP:=Lib.hid (rawType_4 c p n cap)
 have HNUM:=Lib.hid (num_4 p n cap c)
 have hcv:IntKind.i64.wrap (c:Int)=(c:Int):=by
  rw [IntKind.wrap_i64]
  omega
 obtain ⟨i0,hi,hz0,hz1,hz2⟩:=info_parts infoGm
 go_enter Tryz.func100,Tryz.ntmps100
 go_wp2_with (go_at_call 114;(with_reducible refine (HTYP.out _).mono ?_);rintro e w1 ⟨rfl,hb1⟩;have HB1:Hid (Bel w w1):=Lib.hid ((show Bel w _ by exact EL).trans hb1);have HLT:Hid (w.heap.size+1<w1.heap.size):=Lib.hid (by have:=hb1.size;simp at this;omega);have HQ1:Hid (Blk w1 w.heap.size #[.slice p n cap,.int .u8 c] 121):=Lib.hid (Blk.bel (by exact KL) hb1);have HR1:Hid (Blk w1 (w.heap.size+1) #[.int .i64 0,.int .i64 0,.slice none 0 0,.slice none 0 0] 25):=Lib.hid (Blk.bel (by exact KL) hb1);have hn3:w.heap.size+1 ≠ w1.heap.size:=Nat.ne_of_lt HLT.out;have hn4:w1.heap.size ≠ w.heap.size+1:=Nat.ne_of_gt HLT.out;have hn5:w.heap.size ≠ w1.heap.size:=Nat.ne_of_lt (Nat.lt_of_succ_lt HLT.out);have hn6:w1.heap.size ≠ w.heap.size:=Nat.ne_of_gt (Nat.lt_of_succ_lt HLT.out);clear hb1)
 go_loopw [4] (fun iv wr=>∃ (t:Nat) (p0:Option Addr) (c0:Nat) (xs:List Value),iv=.int .i64 t∧t≤n∧Bel w wr∧w1.heap.size<wr.heap.size∧Blk wr w.heap.size #[.slice p n cap,.int .u8 c] 121∧Blk wr (w.heap.size+1) #[.int .i64 0,.int .i64 0,.slice none 0 0,.slice none 0 0] 25∧Blk wr w1.heap.size #[.int .i64 4,.int .i64 c,.slice none 0 0,.slice p0 t c0] 25∧wr.ownsRow (w1.heap.size+1) 25 4 (.slice p0 t c0) t xs∧RowGm (fun b=>w1.heap.size+1≤b∧Value.ownBlock (.slice p0 t c0) ≠ some b) wr xs (ks.take t)) (fun iv _=>n - (intOf iv).toNat)
 case atStart =>
  refine ⟨0,none,0,[],rfl,Nat.zero_le _,?_,by simp,?_,?_,?_,World.ownsRow_nil _ _ _ _,fun i g hg=>by simp at hg⟩
  ·have HB:=HB1.out
   exact EL
  ·have HB:=HQ1.out
   exact KL
  ·have HB:=HR1.out
   exact KL
  ·exact KL
 case round =>
  obtain ⟨t,p0,c0,xs,rfl,ht,hbel,hlw,hb1,hb2,hb3,hown,hrow⟩:=hrel
  have HBEL:=Lib.hid hbel
  have HLW:=Lib.hid hlw
  have HQ2:=Lib.hid hb1
  have HR2:=Lib.hid hb2
  have HE2:=Lib.hid hb3
  have HOWN:=Lib.hid hown
  have HROW:=Lib.hid hrow
  obtain ⟨r1,y1,l1⟩:=hb1.facts
  obtain ⟨r2,y2,l2⟩:=hb2.facts
  obtain ⟨r3,y3,l3⟩:=hb3.facts
  clear hb1 hb2 hb3 hown hrow hbel hlw
  by_cases htn:t<n
  ·obtain ⟨kd,hkd⟩:∃ kd,ks[t]?=some kd:=⟨_,List.getElem?_eq_getElem (by have:=HN.out;omega)⟩
   have HEK:Hid (∀ W,Bel w W→Calls Tryz.prog 77 #[.agg #[.slice p n cap,.int .u8 c],.int .i64 t] W (IsEl F 1 kd W)):=Lib.hid fun W hW=>HELS.out t kd W hkd hW
   have HKD:Hid (∀ (cl:List Value) (W:World),Ob F W 1 cl kd→Calls Tryz.prog 96 #[.agg cl.toArray] W (IsGm (fun b=>W.heap.size≤b) kd W)):=Lib.hid fun cl W ho=>HSUB.out kd (List.mem_iff_getElem?.2 ⟨t,hkd⟩) F (fun b=>W.heap.size≤b) cl W (fun b hb=>hb) ho
   have HTK:Hid (ks.take (t+1)=ks.take t ++ [kd]):=Lib.hid (by rw [List.take_add_one,hkd];rfl)
   have HLT2:Hid ((ks.take t).length=t):=Lib.hid (by rw [List.length_take,HN.out];omega)
   clear hkd
   go_wp2_with (first
    | (go_at_call 128;(with_reducible refine (HNUM.out _).mono ?_);rintro e w2 ⟨rfl,hb2⟩;have HX2:Hid (Bel wr w2):=Lib.hid hb2;have C1:=HQ2.out.bel HX2.out;obtain ⟨f1a,f1b,f1c⟩:=C1.facts;have C3:=HE2.out.bel HX2.out;obtain ⟨f2a,f2b,f2c⟩:=C3.facts;clear hb2 C1 C3))
   go_region_law (first
    | (go_simp;go_at_call 77;(with_reducible refine (HEK.out _ ?hx).mono ?_);(case hx=>(have HB:=HBEL.out.trans HX2.out;exact EL));rintro e w3 ⟨cl,rfl,hob,hb3⟩;have HOB:=Lib.hid hob;have HX3:Hid (Bel wr w3):=Lib.hid ((show Bel wr _ by (have HB:=HX2.out;exact EL)).trans hb3);have D3:=HE2.out.bel HX3.out;obtain ⟨g3a,g3b,g3c⟩:=D3.facts;clear hb3 hob D3)
    | (go_simp;go_at_call 96;(with_reducible refine (HKD.out cl w3 HOB.out).mono ?_);rintro e w4 ⟨p4,n4,c4,p5,n5,c5,rfl,hf4,hg4,hb4⟩;have HF4:=Lib.hid hf4;have HG4:=Lib.hid hg4;have HX4:Hid (Bel wr w4):=Lib.hid (HX3.out.trans hb4);have HW34:Hid (wr.heap.size≤w3.heap.size∧w3.heap.size≤w4.heap.size):=Lib.hid ⟨HX3.out.size,hb4.size⟩;have C1:=HQ2.out.bel HX4.out;have C2:=HR2.out.bel HX4.out;have C3:=HE2.out.bel HX4.out;have HC1:=Lib.hid C1;have HC2:=Lib.hid C2;have HC3:=Lib.hid C3;obtain ⟨q3,q4,q5⟩:=C3.facts;clear hf4 hg4 hb4 C1 C2 C3)
    | (refine step_append_row _ rfl (.tmp 16) (.tmp 21) 23 rfl (w1.heap.size+1) 25 i0 _ 4 64 Tryz.underlying23 hi hz0 hz1 hz2 rfl (by decide) (.slice p0 t c0) t xs rfl ((own_kept HOWN.out HX4.out).alloc _) ⟨w4.heap.size,0,none⟩ 1 1 [.int .i64 kd.kind,.int .i64 kd.dim,.slice p4 n4 c4,.slice p5 n5 c5] rfl rfl (cells_arr _ _ _ (by simp)) (by simp [Value.oneCell']) (by decide) (by unfold maxLen;omega) (by omega) (by have:=HLW.out;have:=HX4.out.size;simp;omega) ?_;intro v' w6 ho6 hg6 hb6;obtain ⟨p6,c6,rfl⟩:=ho6.isSlice;have HO6:=Lib.hid ho6;have HG6:=Lib.hid hg6;have HB6:=Lib.hid hb6;have E1:=grownBy_blk hg6 (HC1.out.alloc _) (fun e=>by have:=(HOWN.out.lt _ e.symm).1;have:=HLT.out;omega);have E2:=grownBy_blk hg6 (HC2.out.alloc _) (fun e=>by have:=(HOWN.out.lt _ e.symm).1;have:=HLT.out;omega);have E3:=grownBy_blk hg6 (HC3.out.alloc _) (fun e=>by have:=(HOWN.out.lt _ e.symm).1;have:=HLT.out;omega);have HE1:=Lib.hid E1;have HE2':=Lib.hid E2;have HE3:=Lib.hid E3;obtain ⟨q6,y6,u6⟩:=E3.facts;clear ho6 hg6 hb6 E1 E2 E3))
   all_goals
    go_wp2
    go_roundw
    case rel =>
     have hs3:=HW34.out
     have hs6:=HG6.out.size
     have hlt:=HLT.out
     have hlw:=HLW.out
     simp at hs6
     have hne:∀ b,b<w4.heap.size→Value.ownBlock (.slice p0 t c0) ≠ some b→Value.ownBlock (.slice p6 (t+1) c6) ≠ some b:=fun b hb hn=>by
      rcases HB6.out with h|h
      ·rw [h]
       exact hn
      ·rw [h]
       intro e
       have:=Option.some.inj e
       simp at this
       omega
     have hblk:∀ b,b<w4.heap.size→Value.ownBlock (.slice p0 t c0) ≠ some b→w6.heap[b]?=w4.heap[b]?:=fun b hb hn=>by
      rw [HG6.out.block b (by simp;omega) (fun e=>hn e.symm)]
      exact Below.heap_alloc _ _ _ (by simpa using hb)
     refine ⟨t+1,p6,c6,_,by go_num,by omega,?_,by simp;omega,?_,?_,?_,(HO6.out.kept (grownBy_set _ _ _ _) (HO6.out.ne_of_lt' (by omega))),?_⟩
     ·exact Bel.setCellR (by show w.heap.size≤w1.heap.size;omega) (((HBEL.out.trans HX4.out).alloc _).of_row HG6.out (fun g hg=>by have:=(HOWN.out.lt g hg).1;omega))
     ·exact Blk.otherR (by show w.heap.size ≠ w1.heap.size;omega) HE1.out
     ·exact Blk.otherR (by show w.heap.size+1 ≠ w1.heap.size;omega) HE2'.out
     ·exact Blk.cast (HE3.out.set 3 _) (by rfl)
     ·rw [HTK.out]
      refine RowGm.push (HROW.out.keep (by simp;omega) (fun b hb hl=>?_) fun b hl hb=>⟨hb.1,hne b (by omega) hb.2⟩) HLT2.out HOWN.out.1 (HF4.out.keep (by simp;omega) (fun b hb hl=>?_) fun b hl hb=>⟨?_,?_⟩) (HG4.out.keep (by simp;omega) (fun b hb hl=>?_) fun b hl hb=>⟨?_,?_⟩)
      ·rw [Below.heap_setCell _ _ _ _ (by simp;omega),hblk b (by omega) hb.2]
       exact HX4.out.block b hl
      ·rw [Below.heap_setCell _ _ _ _ (by simp;omega),hblk b hl (fun e=>by have h1:=(HOWN.out.lt _ e).2;omega)]
      ·omega
      ·exact hne b hl (fun e=>by have h1:=(HOWN.out.lt _ e).2;omega)
      ·rw [Below.heap_setCell _ _ _ _ (by simp;omega),hblk b hl (fun e=>by have h1:=(HOWN.out.lt _ e).2;omega)]
      ·omega
      ·exact hne b hl (fun e=>by have h1:=(HOWN.out.lt _ e).2;omega)
    case measure=>simp [intOf];omega
  ·obtain rfl:t=n:=by omega
   have hrow:=HROW.out
   rw [List.take_of_length_le (by have:=HN.out;omega)] at hrow
   have HGS:Hid (GmSl (fun b=>w1.heap.size+1≤b) wr (.slice p0 t c0) ks):=Lib.hid (RowGm.sl HOWN.out hrow HN.out (fun b hb=>hb) fun b _ hb=>hb.1)
   clear hrow
   go_wp2_with (go_at_call 128;(with_reducible refine (HNUM.out _).mono ?_);rintro e w2 ⟨rfl,hb2⟩;have C1:=HE2.out.bel hb2;obtain ⟨f1a,f1b,f1c⟩:=C1.facts;have C2:=HR2.out.bel hb2;have HR3:=Lib.hid C2;obtain ⟨f2a,f2b,f2c⟩:=C2.facts;have HF2:=Lib.hid (HGS.out.bel hb2);have HB2:Hid (Bel w w2):=Lib.hid (HBEL.out.trans hb2);clear hb2 C1 C2)
   refine post_ret (results_one rfl (resIs_agg (n:=4) (cs:=#[.int .i64 4,.int .i64 c,.slice none 0 0,.slice p0 t c0]) (by rfl) Tryz.underlying25 (by kernel_rfl) (T:=25) ?_ rfl)) ⟨_,_,_,_,_,_,rfl,FlSl.nil _ _,?_,?_⟩
   ·have HB:=HR3.out
    exact SL
   ·have h2:=HLT.out
    refine HF2.out.keep (by simp) (fun b hb hl=>?_) (fun b _ hb=>hG b (by omega))
    repeat rw [Below.heap_setCell _ _ _ _ (by simp;omega)]
   ·have HB:=HB2.out
    exact EL
set_option maxHeartbeats 8000000 in
set_option maxRecDepth 100000 in
theorem plainMultiLine_any (g:Gm) (hsub:∀ k ∈ g.kids,PlainOk 2 98 k):PlainOk 5 101 g:=fun F G cs w hG h=>by
 have HEL:Hid (∀ (t:Nat) (kid:Gm) (W:World),g.kids[t]?=some kid→Bel w W→Calls Tryz.prog 79 #[.agg cs.toArray,.int .i64 t] W (IsEl F 2 kid W)):=Lib.hid fun t kid W hk hW=>elem_5 h hk W hW
 obtain ⟨p,cap,c,ks,rfl,hc,rfl,hn31,-⟩:=h.sl (e:=2) (k:=2) rfl
 have HSUB:Hid (∀ kid ∈ ks,PlainOk 2 98 kid):=Lib.hid hsub
 show Calls Tryz.prog 101 #[.agg #[.slice p ks.length cap,.int .u8 c]] w (IsGm G (.mk (5:Nat) c [] ks) w)
 have HELS:Hid (∀ (t:Nat) (kid:Gm) (W:World),ks[t]?=some kid→Bel w W→Calls Tryz.prog 79 #[.agg #[.slice p ks.length cap,.int .u8 c],.int .i64 t] W (IsEl F 2 kid W)):=Lib.hid HEL.out
 clear HEL h hsub
 generalize hn:ks.length=n at *
 have HN:=Lib.hid hn
 clear hn
 have HTYP:=Lib.hid (rawType_5 c p n cap)
 have HNUM:=Lib.hid (num_5 p n cap c)
 have hcv:IntKind.i64.wrap (c:Int)=(c:Int):=by
  rw [IntKind.wrap_i64]
  omega
 obtain ⟨i0,hi,hz0,hz1,hz2⟩:=info_parts infoGm
 go_enter Tryz.func101,Tryz.ntmps101
 go_wp2_with (go_at_call 115;(with_reducible refine (HTYP.out _).mono ?_);rintro e w1 ⟨rfl,hb1⟩;have HB1:Hid (Bel w w1):=Lib.hid ((show Bel w _ by exact EL).trans hb1);have HLT:Hid (w.heap.size+1<w1.heap.size):=Lib.hid (by have:=hb1.size;simp at this;omega);have HQ1:Hid (Blk w1 w.heap.size #[.slice p n cap,.int .u8 c] 125):=Lib.hid (Blk.bel (by exact KL) hb1);have HR1:Hid (Blk w1 (w.heap.size+1) #[.int .i64 0,.int .i64 0,.slice none 0 0,.slice none 0 0] 25):=Lib.hid (Blk.bel (by exact KL) hb1);have hn3:w.heap.size+1 ≠ w1.heap.size:=Nat.ne_of_lt HLT.out;have hn4:w1.heap.size ≠ w.heap.size+1:=Nat.ne_of_gt HLT.out;have hn5:w.heap.size ≠ w1.heap.size:=Nat.ne_of_lt (Nat.lt_of_succ_lt HLT.out);have hn6:w1.heap.size ≠ w.heap.size:=Nat.ne_of_gt (Nat.lt_of_succ_lt HLT.out);clear hb1)
 go_loopw [4] (fun iv wr=>∃ (t:Nat) (p0:Option Addr) (c0:Nat) (xs:List Value),iv=.int .i64 t∧t≤n∧Bel w wr∧w1.heap.size<wr.heap.size∧Blk wr w.heap.size #[.slice p n cap,.int .u8 c] 125∧Blk wr (w.heap.size+1) #[.int .i64 0,.int .i64 0,.slice none 0 0,.slice none 0 0] 25∧Blk wr w1.heap.size #[.int .i64 5,.int .i64 c,.slice none 0 0,.slice p0 t c0] 25∧wr.ownsRow (w1.heap.size+1) 25 4 (.slice p0 t c0) t xs∧RowGm (fun b=>w1.heap.size+1≤b∧Value.ownBlock (.slice p0 t c0) ≠ some b) wr xs (ks.take t)) (fun iv _=>n - (intOf iv).toNat)
 case atStart =>
  refine ⟨0,none,0,[],rfl,Nat.zero_le _,?_,by simp,?_,?_,?_,World.ownsRow_nil _ _ _ _,fun i g hg=>by simp at hg⟩
  ·have HB:=HB1.out
   exact EL
  ·have HB:=HQ1.out
   exact KL
  ·have HB:=HR1.out
   exact KL
  ·exact KL
 case round =>
  obtain ⟨t,p0,c0,xs,rfl,ht,hbel,hlw,hb1,hb2,hb3,hown,hrow⟩:=hrel
  have HBEL:=Lib.hid hbel
  have HLW:=Lib.hid hlw
  have HQ2:=Lib.hid hb1
  have HR2:=Lib.hid hb2
  have HE2:=Lib.hid hb3
  have HOWN:=Lib.hid hown
  have HROW:=Lib.hid hrow
  obtain ⟨r1,y1,l1⟩:=hb1.facts
  obtain ⟨r2,y2,l2⟩:=hb2.facts
  obtain ⟨r3,y3,l3⟩:=hb3.facts
  clear hb1 hb2 hb3 hown hrow hbel hlw
  by_cases htn:t<n
  ·obtain ⟨kd,hkd⟩:∃ kd,ks[t]?=some kd:=⟨_,List.getElem?_eq_getElem (by have:=HN.out;omega)⟩
   have HEK:Hid (∀ W,Bel w W→Calls Tryz.prog 79 #[.agg #[.slice p n cap,.int .u8 c],.int .i64 t] W (IsEl F 2 kd W)):=Lib.hid fun W hW=>HELS.out t kd W hkd hW
   have HKD:Hid (∀ (cl:List Value) (W:World),Ob F W 2 cl kd→Calls Tryz.prog 98 #[.agg cl.toArray] W (IsGm (fun b=>W.heap.size≤b) kd W)):=Lib.hid fun cl W ho=>HSUB.out kd (List.mem_iff_getElem?.2 ⟨t,hkd⟩) F (fun b=>W.heap.size≤b) cl W (fun b hb=>hb) ho
   have HTK:Hid (ks.take (t+1)=ks.take t ++ [kd]):=Lib.hid (by rw [List.take_add_one,hkd];rfl)
   have HLT2:Hid ((ks.take t).length=t):=Lib.hid (by rw [List.length_take,HN.out];omega)
   clear hkd
   go_wp2_with (first
    | (go_at_call 129;(with_reducible refine (HNUM.out _).mono ?_);rintro e w2 ⟨rfl,hb2⟩;have HX2:Hid (Bel wr w2):=Lib.hid hb2;have C1:=HQ2.out.bel HX2.out;obtain ⟨f1a,f1b,f1c⟩:=C1.facts;have C3:=HE2.out.bel HX2.out;obtain ⟨f2a,f2b,f2c⟩:=C3.facts;clear hb2 C1 C3))
   go_region_law (first
    | (go_simp;go_at_call 79;(with_reducible refine (HEK.out _ ?hx).mono ?_);(case hx=>(have HB:=HBEL.out.trans HX2.out;exact EL));rintro e w3 ⟨cl,rfl,hob,hb3⟩;have HOB:=Lib.hid hob;have HX3:Hid (Bel wr w3):=Lib.hid ((show Bel wr _ by (have HB:=HX2.out;exact EL)).trans hb3);have D3:=HE2.out.bel HX3.out;obtain ⟨g3a,g3b,g3c⟩:=D3.facts;clear hb3 hob D3)
    | (go_simp;go_at_call 98;(with_reducible refine (HKD.out cl w3 HOB.out).mono ?_);rintro e w4 ⟨p4,n4,c4,p5,n5,c5,rfl,hf4,hg4,hb4⟩;have HF4:=Lib.hid hf4;have HG4:=Lib.hid hg4;have HX4:Hid (Bel wr w4):=Lib.hid (HX3.out.trans hb4);have HW34:Hid (wr.heap.size≤w3.heap.size∧w3.heap.size≤w4.heap.size):=Lib.hid ⟨HX3.out.size,hb4.size⟩;have C1:=HQ2.out.bel HX4.out;have C2:=HR2.out.bel HX4.out;have C3:=HE2.out.bel HX4.out;have HC1:=Lib.hid C1;have HC2:=Lib.hid C2;have HC3:=Lib.hid C3;obtain ⟨q3,q4,q5⟩:=C3.facts;clear hf4 hg4 hb4 C1 C2 C3)
    | (refine step_append_row _ rfl (.tmp 16) (.tmp 21) 23 rfl (w1.heap.size+1) 25 i0 _ 4 64 Tryz.underlying23 hi hz0 hz1 hz2 rfl (by decide) (.slice p0 t c0) t xs rfl ((own_kept HOWN.out HX4.out).alloc _) ⟨w4.heap.size,0,none⟩ 1 1 [.int .i64 kd.kind,.int .i64 kd.dim,.slice p4 n4 c4,.slice p5 n5 c5] rfl rfl (cells_arr _ _ _ (by simp)) (by simp [Value.oneCell']) (by decide) (by unfold maxLen;omega) (by omega) (by have:=HLW.out;have:=HX4.out.size;simp;omega) ?_;intro v' w6 ho6 hg6 hb6;obtain ⟨p6,c6,rfl⟩:=ho6.isSlice;have HO6:=Lib.hid ho6;have HG6:=Lib.hid hg6;have HB6:=Lib.hid hb6;have E1:=grownBy_blk hg6 (HC1.out.alloc _) (fun e=>by have:=(HOWN.out.lt _ e.symm).1;have:=HLT.out;omega);have E2:=grownBy_blk hg6 (HC2.out.alloc _) (fun e=>by have:=(HOWN.out.lt _ e.symm).1;have:=HLT.out;omega);have E3:=grownBy_blk hg6 (HC3.out.alloc _) (fun e=>by have:=(HOWN.out.lt _ e.symm).1;have:=HLT.out;omega);have HE1:=Lib.hid E1;have HE2':=Lib.hid E2;have HE3:=Lib.hid E3;obtain ⟨q6,y6,u6⟩:=E3.facts;clear ho6 hg6 hb6 E1 E2 E3))
   all_goals
    go_wp2
    go_roundw
    case rel =>
     have hs3:=HW34.out
     have hs6:=HG6.out.size
     have hlt:=HLT.out
     have hlw:=HLW.out
     simp at hs6
     have hne:∀ b,b<w4.heap.size→Value.ownBlock (.slice p0 t c0) ≠ some b→Value.ownBlock (.slice p6 (t+1) c6) ≠ some b:=fun b hb hn=>by
      rcases HB6.out with h|h
      ·rw [h]
       exact hn
      ·rw [h]
       intro e
       have:=Option.some.inj e
       simp at this
       omega
     have hblk:∀ b,b<w4.heap.size→Value.ownBlock (.slice p0 t c0) ≠ some b→w6.heap[b]?=w4.heap[b]?:=fun b hb hn=>by
      rw [HG6.out.block b (by simp;omega) (fun e=>hn e.symm)]
      exact Below.heap_alloc _ _ _ (by simpa using hb)
     refine ⟨t+1,p6,c6,_,by go_num,by omega,?_,by simp;omega,?_,?_,?_,(HO6.out.kept (grownBy_set _ _ _ _) (HO6.out.ne_of_lt' (by omega))),?_⟩
     ·exact Bel.setCellR (by show w.heap.size≤w1.heap.size;omega) (((HBEL.out.trans HX4.out).alloc _).of_row HG6.out (fun g hg=>by have:=(HOWN.out.lt g hg).1;omega))
     ·exact Blk.otherR (by show w.heap.size ≠ w1.heap.size;omega) HE1.out
     ·exact Blk.otherR (by show w.heap.size+1 ≠ w1.heap.size;omega) HE2'.out
     ·exact Blk.cast (HE3.out.set 3 _) (by rfl)
     ·rw [HTK.out]
      refine RowGm.push (HROW.out.keep (by simp;omega) (fun b hb hl=>?_) fun b hl hb=>⟨hb.1,hne b (by omega) hb.2⟩) HLT2.out HOWN.out.1 (HF4.out.keep (by simp;omega) (fun b hb hl=>?_) fun b hl hb=>⟨?_,?_⟩) (HG4.out.keep (by simp;omega) (fun b hb hl=>?_) fun b hl hb=>⟨?_,?_⟩)
      ·rw [Below.heap_setCell _ _ _ _ (by simp;omega),hblk b (by omega) hb.2]
       exact HX4.out.block b hl
      ·rw [Below.heap_setCell _ _ _ _ (by simp;omega),hblk b hl (fun e=>by have h1:=(HOWN.out.lt _ e).2;omega)]
      ·omega
      ·exact hne b hl (fun e=>by have h1:=(HOWN.out.lt _ e).2;omega)
      ·rw [Below.heap_setCell _ _ _ _ (by simp;omega),hblk b hl (fun e=>by have h1:=(HOWN.out.lt _ e).2;omega)]
      ·omega
      ·exact hne b hl (fun e=>by have h1:=(HOWN.out.lt _ e).2;omega)
    case measure=>simp [intOf];omega
  ·obtain rfl:t=n:=by omega
   have hrow:=HROW.out
   rw [List.take_of_length_le (by have:=HN.out;omega)] at hrow
   have HGS:Hid (GmSl (fun b=>w1.heap.size+1≤b) wr (.slice p0 t c0) ks):=Lib.hid (RowGm.sl HOWN.out hrow HN.out (fun b hb=>hb) fun b _ hb=>hb.1)
   clear hrow
   go_wp2_with (go_at_call 129;(with_reducible refine (HNUM.out _).mono ?_);rintro e w2 ⟨rfl,hb2⟩;have C1:=HE2.out.bel hb2;obtain ⟨f1a,f1b,f1c⟩:=C1.facts;have C2:=HR2.out.bel hb2;have HR3:=Lib.hid C2;obtain ⟨f2a,f2b,f2c⟩:=C2.facts;have HF2:=Lib.hid (HGS.out.bel hb2);have HB2:Hid (Bel w w2):=Lib.hid (HBEL.out.trans hb2);clear hb2 C1 C2)
   refine post_ret (results_one rfl (resIs_agg (n:=4) (cs:=#[.int .i64 5,.int .i64 c,.slice none 0 0,.slice p0 t c0]) (by rfl) Tryz.underlying25 (by kernel_rfl) (T:=25) ?_ rfl)) ⟨_,_,_,_,_,_,rfl,FlSl.nil _ _,?_,?_⟩
   ·have HB:=HR3.out
    exact SL
   ·have h2:=HLT.out
    refine HF2.out.keep (by simp) (fun b hb hl=>?_) (fun b _ hb=>hG b (by omega))
    repeat rw [Below.heap_setCell _ _ _ _ (by simp;omega)]
   ·have HB:=HB2.out
    exact EL
set_option maxHeartbeats 8000000 in
set_option maxRecDepth 100000 in
theorem plainMultiPolygon_any (g:Gm) (hsub:∀ k ∈ g.kids,PlainOk 3 99 k):PlainOk 6 102 g:=fun F G cs w hG h=>by
 have HEL:Hid (∀ (t:Nat) (kid:Gm) (W:World),g.kids[t]?=some kid→Bel w W→Calls Tryz.prog 81 #[.agg cs.toArray,.int .i64 t] W (IsEl F 3 kid W)):=Lib.hid fun t kid W hk hW=>elem_6 h hk W hW
 obtain ⟨p,cap,c,ks,rfl,hc,rfl,hn31,-⟩:=h.sl (e:=3) (k:=2) rfl
 have HSUB:Hid (∀ kid ∈ ks,PlainOk 3 99 kid):=Lib.hid hsub
 show Calls Tryz.prog 102 #[.agg #[.slice p ks.length cap,.int .u8 c]] w (IsGm G (.mk (6:Nat) c [] ks) w)
 have HELS:Hid (∀ (t:Nat) (kid:Gm) (W:World),ks[t]?=some kid→Bel w W→Calls Tryz.prog 81 #[.agg #[.slice p ks.length cap,.int .u8 c],.int .i64 t] W (IsEl F 3 kid W)):=Lib.hid HEL.out
 clear HEL h hsub
 generalize hn:ks.length=n at *
 have HN:=Lib.hid hn
 clear hn
 have HTYP:=Lib.hid (rawType_6 c p n cap)
 have HNUM:=Lib.hid (num_6 p n cap c)
 have hcv:IntKind.i64.wrap (c:Int)=(c:Int):=by
  rw [IntKind.wrap_i64]
  omega
 obtain ⟨i0,hi,hz0,hz1,hz2⟩:=info_parts infoGm
 go_enter Tryz.func102,Tryz.ntmps102
 go_wp2_with (go_at_call 116;(with_reducible refine (HTYP.out _).mono ?_);rintro e w1 ⟨rfl,hb1⟩;have HB1:Hid (Bel w w1):=Lib.hid ((show Bel w _ by exact EL).trans hb1);have HLT:Hid (w.heap.size+1<w1.heap.size):=Lib.hid (by have:=hb1.size;simp at this;omega);have HQ1:Hid (Blk w1 w.heap.size #[.slice p n cap,.int .u8 c] 129):=Lib.hid (Blk.bel (by exact KL) hb1);have HR1:Hid (Blk w1 (w.heap.size+1) #[.int .i64 0,.int .i64 0,.slice none 0 0,.slice none 0 0] 25):=Lib.hid (Blk.bel (by exact KL) hb1);have hn3:w.heap.size+1 ≠ w1.heap.size:=Nat.ne_of_lt HLT.out;have hn4:w1.heap.size ≠ w.heap.size+1:=Nat.ne_of_gt HLT.out;have hn5:w.heap.size ≠ w1.heap.size:=Nat.ne_of_lt (Nat.lt_of_succ_lt HLT.out);have hn6:w1.heap.size ≠ w.heap.size:=Nat.ne_of_gt (Nat.lt_of_succ_lt HLT.out);clear hb1)
 go_loopw [4] (fun iv wr=>∃ (t:Nat) (p0:Option Addr) (c0:Nat) (xs:List Value),iv=.int .i64 t∧t≤n∧Bel w wr∧w1.heap.size<wr.heap.size∧Blk wr w.heap.size #[.slice p n cap,.int .u8 c] 129∧Blk wr (w.heap.size+1) #[.int .i64 0,.int .i64 0,.slice none 0 0,.slice none 0 0] 25∧Blk wr w1.heap.size #[.int .i64 6,.int .i64 c,.slice none 0 0,.slice p0 t c0] 25∧wr.ownsRow (w1.heap.size+1) 25 4 (.slice p0 t c0) t xs∧RowGm (fun b=>w1.heap.size+1≤b∧Value.ownBlock (.slice p0 t c0) ≠ some b) wr xs (ks.take t)) (fun iv _=>n - (intOf iv).toNat)
 case atStart =>
  refine ⟨0,none,0,[],rfl,Nat.zero_le _,?_,by simp,?_,?_,?_,World.ownsRow_nil _ _ _ _,fun i g hg=>by simp at hg⟩
  ·have HB:=HB1.out
   exact EL
  ·have HB:=HQ1.out
   exact KL
  ·have HB:=HR1.out
   exact KL
  ·exact KL
 case round =>
  obtain ⟨t,p0,c0,xs,rfl,ht,hbel,hlw,hb1,hb2,hb3,hown,hrow⟩:=hrel
  have HBEL:=Lib.hid hbel
  have HLW:=Lib.hid hlw
  have HQ2:=Lib.hid hb1
  have HR2:=Lib.hid hb2
  have HE2:=Lib.hid hb3
  have HOWN:=Lib.hid hown
  have HROW:=Lib.hid hrow
  obtain ⟨r1,y1,l1⟩:=hb1.facts
  obtain ⟨r2,y2,l2⟩:=hb2.facts
  obtain ⟨r3,y3,l3⟩:=hb3.facts
  clear hb1 hb2 hb3 hown hrow hbel hlw
  by_cases htn:t<n
  ·obtain ⟨kd,hkd⟩:∃ kd,ks[t]?=some kd:=⟨_,List.getElem?_eq_getElem (by have:=HN.out;omega)⟩
   have HEK:Hid (∀ W,Bel w W→Calls Tryz.prog 81 #[.agg #[.slice p n cap,.int .u8 c],.int .i64 t] W (IsEl F 3 kd W)):=Lib.hid fun W hW=>HELS.out t kd W hkd hW
   have HKD:Hid (∀ (cl:List Value) (W:World),Ob F W 3 cl kd→Calls Tryz.prog 99 #[.agg cl.toArray] W (IsGm (fun b=>W.heap.size≤b) kd W)):=Lib.hid fun cl W ho=>HSUB.out kd (List.mem_iff_getElem?.2 ⟨t,hkd⟩) F (fun b=>W.heap.size≤b) cl W (fun b hb=>hb) ho
   have HTK:Hid (ks.take (t+1)=ks.take t ++ [kd]):=Lib.hid (by rw [List.take_add_one,hkd];rfl)
   have HLT2:Hid ((ks.take t).length=t):=Lib.hid (by rw [List.length_take,HN.out];omega)
   clear hkd
   go_wp2_with (first
    | (go_at_call 130;(with_reducible refine (HNUM.out _).mono ?_);rintro e w2 ⟨rfl,hb2⟩;have HX2:Hid (Bel wr w2):=Lib.hid hb2;have C1:=HQ2.out.bel HX2.out;obtain ⟨f1a,f1b,f1c⟩:=C1.facts;have C3:=HE2.out.bel HX2.out;obtain ⟨f2a,f2b,f2c⟩:=C3.facts;clear hb2 C1 C3))
   go_region_law (first
    | (go_simp;go_at_call 81;(with_reducible refine (HEK.out _ ?hx).mono ?_);(case hx=>(have HB:=HBEL.out.trans HX2.out;exact EL));rintro e w3 ⟨cl,rfl,hob,hb3⟩;have HOB:=Lib.hid hob;have HX3:Hid (Bel wr w3):=Lib.hid ((show Bel wr _ by (have HB:=HX2.out;exact EL)).trans hb3);have D3:=HE2.out.bel HX3.out;obtain ⟨g3a,g3b,g3c⟩:=D3.facts;clear hb3 hob D3)
    | (go_simp;go_at_call 99;(with_reducible refine (HKD.out cl w3 HOB.out).mono ?_);rintro e w4 ⟨p4,n4,c4,p5,n5,c5,rfl,hf4,hg4,hb4⟩;have HF4:=Lib.hid hf4;have HG4:=Lib.hid hg4;have HX4:Hid (Bel wr w4):=Lib.hid (HX3.out.trans hb4);have HW34:Hid (wr.heap.size≤w3.heap.size∧w3.heap.size≤w4.heap.size):=Lib.hid ⟨HX3.out.size,hb4.size⟩;have C1:=HQ2.out.bel HX4.out;have C2:=HR2.out.bel HX4.out;have C3:=HE2.out.bel HX4.out;have HC1:=Lib.hid C1;have HC2:=Lib.hid C2;have HC3:=Lib.hid C3;obtain ⟨q3,q4,q5⟩:=C3.facts;clear hf4 hg4 hb4 C1 C2 C3)
    | (refine step_append_row _ rfl (.tmp 16) (.tmp 21) 23 rfl (w1.heap.size+1) 25 i0 _ 4 64 Tryz.underlying23 hi hz0 hz1 hz2 rfl (by decide) (.slice p0 t c0) t xs rfl ((own_kept HOWN.out HX4.out).alloc _) ⟨w4.heap.size,0,none⟩ 1 1 [.int .i64 kd.kind,.int .i64 kd.dim,.slice p4 n4 c4,.slice p5 n5 c5] rfl rfl (cells_arr _ _ _ (by simp)) (by simp [Value.oneCell']) (by decide) (by unfold maxLen;omega) (by omega) (by have:=HLW.out;have:=HX4.out.size;simp;omega) ?_;intro v' w6 ho6 hg6 hb6;obtain ⟨p6,c6,rfl⟩:=ho6.isSlice;have HO6:=Lib.hid ho6;have HG6:=Lib.hid hg6;have HB6:=Lib.hid hb6;have E1:=grownBy_blk hg6 (HC1.out.alloc _) (fun e=>by have:=(HOWN.out.lt _ e.symm).1;have:=HLT.out;omega);have E2:=grownBy_blk hg6 (HC2.out.alloc _) (fun e=>by have:=(HOWN.out.lt _ e.symm).1;have:=HLT.out;omega);have E3:=grownBy_blk hg6 (HC3.out.alloc _) (fun e=>by have:=(HOWN.out.lt _ e.symm).1;have:=HLT.out;omega);have HE1:=Lib.hid E1;have HE2':=Lib.hid E2;have HE3:=Lib.hid E3;obtain ⟨q6,y6,u6⟩:=E3.facts;clear ho6 hg6 hb6 E1 E2 E3))
   all_goals
    go_wp2
    go_roundw
    case rel =>
     have hs3:=HW34.out
     have hs6:=HG6.out.size
     have hlt:=HLT.out
     have hlw:=HLW.out
     simp at hs6
     have hne:∀ b,b<w4.heap.size→Value.ownBlock (.slice p0 t c0) ≠ some b→Value.ownBlock (.slice p6 (t+1) c6) ≠ some b:=fun b hb hn=>by
      rcases HB6.out with h|h
      ·rw [h]
       exact hn
      ·rw [h]
       intro e
       have:=Option.some.inj e
       simp at this
       omega
     have hblk:∀ b,b<w4.heap.size→Value.ownBlock (.slice p0 t c0) ≠ some b→w6.heap[b]?=w4.heap[b]?:=fun b hb hn=>by
      rw [HG6.out.block b (by simp;omega) (fun e=>hn e.symm)]
      exact Below.heap_alloc _ _ _ (by simpa using hb)
     refine ⟨t+1,p6,c6,_,by go_num,by omega,?_,by simp;omega,?_,?_,?_,(HO6.out.kept (grownBy_set _ _ _ _) (HO6.out.ne_of_lt' (by omega))),?_⟩
     ·exact Bel.setCellR (by show w.heap.size≤w1.heap.size;omega) (((HBEL.out.trans HX4.out).alloc _).of_row HG6.out (fun g hg=>by have:=(HOWN.out.lt g hg).1;omega))
     ·exact Blk.otherR (by show w.heap.size ≠ w1.heap.size;omega) HE1.out
     ·exact Blk.otherR (by show w.heap.size+1 ≠ w1.heap.size;omega) HE2'.out
     ·exact Blk.cast (HE3.out.set 3 _) (by rfl)
     ·rw [HTK.out]
      refine RowGm.push (HROW.out.keep (by simp;omega) (fun b hb hl=>?_) fun b hl hb=>⟨hb.1,hne b (by omega) hb.2⟩) HLT2.out HOWN.out.1 (HF4.out.keep (by simp;omega) (fun b hb hl=>?_) fun b hl hb=>⟨?_,?_⟩) (HG4.out.keep (by simp;omega) (fun b hb hl=>?_) fun b hl hb=>⟨?_,?_⟩)
      ·rw [Below.heap_setCell _ _ _ _ (by simp;omega),hblk b (by omega) hb.2]
       exact HX4.out.block b hl
      ·rw [Below.heap_setCell _ _ _ _ (by simp;omega),hblk b hl (fun e=>by have h1:=(HOWN.out.lt _ e).2;omega)]
      ·omega
      ·exact hne b hl (fun e=>by have h1:=(HOWN.out.lt _ e).2;omega)
      ·rw [Below.heap_setCell _ _ _ _ (by simp;omega),hblk b hl (fun e=>by have h1:=(HOWN.out.lt _ e).2;omega)]
      ·omega
      ·exact hne b hl (fun e=>by have h1:=(HOWN.out.lt _ e).2;omega)
    case measure=>simp [intOf];omega
  ·obtain rfl:t=n:=by omega
   have hrow:=HROW.out
   rw [List.take_of_length_le (by have:=HN.out;omega)] at hrow
   have HGS:Hid (GmSl (fun b=>w1.heap.size+1≤b) wr (.slice p0 t c0) ks):=Lib.hid (RowGm.sl HOWN.out hrow HN.out (fun b hb=>hb) fun b _ hb=>hb.1)
   clear hrow
   go_wp2_with (go_at_call 130;(with_reducible refine (HNUM.out _).mono ?_);rintro e w2 ⟨rfl,hb2⟩;have C1:=HE2.out.bel hb2;obtain ⟨f1a,f1b,f1c⟩:=C1.facts;have C2:=HR2.out.bel hb2;have HR3:=Lib.hid C2;obtain ⟨f2a,f2b,f2c⟩:=C2.facts;have HF2:=Lib.hid (HGS.out.bel hb2);have HB2:Hid (Bel w w2):=Lib.hid (HBEL.out.trans hb2);clear hb2 C1 C2)
   refine post_ret (results_one rfl (resIs_agg (n:=4) (cs:=#[.int .i64 6,.int .i64 c,.slice none 0 0,.slice p0 t c0]) (by rfl) Tryz.underlying25 (by kernel_rfl) (T:=25) ?_ rfl)) ⟨_,_,_,_,_,_,rfl,FlSl.nil _ _,?_,?_⟩
   ·have HB:=HR3.out
    exact SL
   ·have h2:=HLT.out
    refine HF2.out.keep (by simp) (fun b hb hl=>?_) (fun b _ hb=>hG b (by omega))
    repeat rw [Below.heap_setCell _ _ _ _ (by simp;omega)]
   ·have HB:=HB2.out
    exact EL
set_option maxHeartbeats 8000000 in
set_option maxRecDepth 100000 in
theorem plainCollection_any (g:Gm) (hsub:∀ k ∈ g.kids,PlainOk 7 40 k):PlainOk 0 103 g:=fun F G cs w hG h=>by
 have HEL:Hid (∀ (t:Nat) (kid:Gm) (W:World),g.kids[t]?=some kid→Bel w W→Calls Tryz.prog 84 #[.agg cs.toArray,.int .i64 t] W (IsEl F 7 kid W)):=Lib.hid fun t kid W hk hW=>elem_0 h hk W hW
 obtain ⟨p,cap,c,ks,rfl,hc,rfl,hn31,-⟩:=h.sl (e:=7) (k:=2) rfl
 have HSUB:Hid (∀ kid ∈ ks,PlainOk 7 40 kid):=Lib.hid hsub
 show Calls Tryz.prog 103 #[.agg #[.slice p ks.length cap,.int .u8 c]] w (IsGm G (.mk (0:Nat) c [] ks) w)
 have HELS:Hid (∀ (t:Nat) (kid:Gm) (W:World),ks[t]?=some kid→Bel w W→Calls Tryz.prog 84 #[.agg #[.slice p ks.length cap,.int .u8 c],.int .i64 t] W (IsEl F 7 kid W)):=Lib.hid HEL.out
 clear HEL h hsub
 generalize hn:ks.length=n at *
 have HN:=Lib.hid hn
 clear hn
 have HTYP:=Lib.hid (rawType_0 c p n cap)
 have HNUM:=Lib.hid (num_0 p n cap c)
 have hcv:IntKind.i64.wrap (c:Int)=(c:Int):=by
  rw [IntKind.wrap_i64]
  omega
 obtain ⟨i0,hi,hz0,hz1,hz2⟩:=info_parts infoGm
 go_enter Tryz.func103,Tryz.ntmps103
 go_wp2_with (go_at_call 110;(with_reducible refine (HTYP.out _).mono ?_);rintro e w1 ⟨rfl,hb1⟩;have HB1:Hid (Bel w w1):=Lib.hid ((show Bel w _ by exact EL).trans hb1);have HLT:Hid (w.heap.size+1<w1.heap.size):=Lib.hid (by have:=hb1.size;simp at this;omega);have HQ1:Hid (Blk w1 w.heap.size #[.slice p n cap,.int .u8 c] 86):=Lib.hid (Blk.bel (by exact KL) hb1);have HR1:Hid (Blk w1 (w.heap.size+1) #[.int .i64 0,.int .i64 0,.slice none 0 0,.slice none 0 0] 25):=Lib.hid (Blk.bel (by exact KL) hb1);have hn3:w.heap.size+1 ≠ w1.heap.size:=Nat.ne_of_lt HLT.out;have hn4:w1.heap.size ≠ w.heap.size+1:=Nat.ne_of_gt HLT.out;have hn5:w.heap.size ≠ w1.heap.size:=Nat.ne_of_lt (Nat.lt_of_succ_lt HLT.out);have hn6:w1.heap.size ≠ w.heap.size:=Nat.ne_of_gt (Nat.lt_of_succ_lt HLT.out);clear hb1)
 go_loopw [4] (fun iv wr=>∃ (t:Nat) (p0:Option Addr) (c0:Nat) (xs:List Value),iv=.int .i64 t∧t≤n∧Bel w wr∧w1.heap.size<wr.heap.size∧Blk wr w.heap.size #[.slice p n cap,.int .u8 c] 86∧Blk wr (w.heap.size+1) #[.int .i64 0,.int .i64 0,.slice none 0 0,.slice none 0 0] 25∧Blk wr w1.heap.size #[.int .i64 0,.int .i64 c,.slice none 0 0,.slice p0 t c0] 25∧wr.ownsRow (w1.heap.size+1) 25 4 (.slice p0 t c0) t xs∧RowGm (fun b=>w1.heap.size+1≤b∧Value.ownBlock (.slice p0 t c0) ≠ some b) wr xs (ks.take t)) (fun iv _=>n - (intOf iv).toNat)
 case atStart =>
  refine ⟨0,none,0,[],rfl,Nat.zero_le _,?_,by simp,?_,?_,?_,World.ownsRow_nil _ _ _ _,fun i g hg=>by simp at hg⟩
  ·have HB:=HB1.out
   exact EL
  ·have HB:=HQ1.out
   exact KL
  ·have HB:=HR1.out
   exact KL
  ·exact KL
 case round =>
  obtain ⟨t,p0,c0,xs,rfl,ht,hbel,hlw,hb1,hb2,hb3,hown,hrow⟩:=hrel
  have HBEL:=Lib.hid hbel
  have HLW:=Lib.hid hlw
  have HQ2:=Lib.hid hb1
  have HR2:=Lib.hid hb2
  have HE2:=Lib.hid hb3
  have HOWN:=Lib.hid hown
  have HROW:=Lib.hid hrow
  obtain ⟨r1,y1,l1⟩:=hb1.facts
  obtain ⟨r2,y2,l2⟩:=hb2.facts
  obtain ⟨r3,y3,l3⟩:=hb3.facts
  clear hb1 hb2 hb3 hown hrow hbel hlw
  by_cases htn:t<n
  ·obtain ⟨kd,hkd⟩:∃ kd,ks[t]?=some kd:=⟨_,List.getElem?_eq_getElem (by have:=HN.out;omega)⟩
   have HEK:Hid (∀ W,Bel w W→Calls Tryz.prog 84 #[.agg #[.slice p n cap,.int .u8 c],.int .i64 t] W (IsEl F 7 kd W)):=Lib.hid fun W hW=>HELS.out t kd W hkd hW
   have HKD:Hid (∀ (cl:List Value) (W:World),Ob F W 7 cl kd→Calls Tryz.prog 40 #[.agg cl.toArray] W (IsGm (fun b=>W.heap.size≤b) kd W)):=Lib.hid fun cl W ho=>HSUB.out kd (List.mem_iff_getElem?.2 ⟨t,hkd⟩) F (fun b=>W.heap.size≤b) cl W (fun b hb=>hb) ho
   have HTK:Hid (ks.take (t+1)=ks.take t ++ [kd]):=Lib.hid (by rw [List.take_add_one,hkd];rfl)
   have HLT2:Hid ((ks.take t).length=t):=Lib.hid (by rw [List.length_take,HN.out];omega)
   clear hkd
   go_wp2_with (first
    | (go_at_call 131;(with_reducible refine (HNUM.out _).mono ?_);rintro e w2 ⟨rfl,hb2⟩;have HX2:Hid (Bel wr w2):=Lib.hid hb2;have C1:=HQ2.out.bel HX2.out;obtain ⟨f1a,f1b,f1c⟩:=C1.facts;have C3:=HE2.out.bel HX2.out;obtain ⟨f2a,f2b,f2c⟩:=C3.facts;clear hb2 C1 C3))
   go_region_law (first
    | (go_simp;go_at_call 84;(with_reducible refine (HEK.out _ ?hx).mono ?_);(case hx=>(have HB:=HBEL.out.trans HX2.out;exact EL));rintro e w3 ⟨cl,rfl,hob,hb3⟩;have HOB:=Lib.hid hob;have HX3:Hid (Bel wr w3):=Lib.hid ((show Bel wr _ by (have HB:=HX2.out;exact EL)).trans hb3);have D3:=HE2.out.bel HX3.out;obtain ⟨g3a,g3b,g3c⟩:=D3.facts;clear hb3 hob D3)
    | (go_simp;go_at_call 40;(with_reducible refine (HKD.out cl w3 HOB.out).mono ?_);rintro e w4 ⟨p4,n4,c4,p5,n5,c5,rfl,hf4,hg4,hb4⟩;have HF4:=Lib.hid hf4;have HG4:=Lib.hid hg4;have HX4:Hid (Bel wr w4):=Lib.hid (HX3.out.trans hb4);have HW34:Hid (wr.heap.size≤w3.heap.size∧w3.heap.size≤w4.heap.size):=Lib.hid ⟨HX3.out.size,hb4.size⟩;have C1:=HQ2.out.bel HX4.out;have C2:=HR2.out.bel HX4.out;have C3:=HE2.out.bel HX4.out;have HC1:=Lib.hid C1;have HC2:=Lib.hid C2;have HC3:=Lib.hid C3;obtain ⟨q3,q4,q5⟩:=C3.facts;clear hf4 hg4 hb4 C1 C2 C3)
    | (refine step_append_row _ rfl (.tmp 16) (.tmp 21) 23 rfl (w1.heap.size+1) 25 i0 _ 4 64 Tryz.underlying23 hi hz0 hz1 hz2 rfl (by decide) (.slice p0 t c0) t xs rfl ((own_kept HOWN.out HX4.out).alloc _) ⟨w4.heap.size,0,none⟩ 1 1 [.int .i64 kd.kind,.int .i64 kd.dim,.slice p4 n4 c4,.slice p5 n5 c5] rfl rfl (cells_arr _ _ _ (by simp)) (by simp [Value.oneCell']) (by decide) (by unfold maxLen;omega) (by omega) (by have:=HLW.out;have:=HX4.out.size;simp;omega) ?_;intro v' w6 ho6 hg6 hb6;obtain ⟨p6,c6,rfl⟩:=ho6.isSlice;have HO6:=Lib.hid ho6;have HG6:=Lib.hid hg6;have HB6:=Lib.hid hb6;have E1:=grownBy_blk hg6 (HC1.out.alloc _) (fun e=>by have:=(HOWN.out.lt _ e.symm).1;have:=HLT.out;omega);have E2:=grownBy_blk hg6 (HC2.out.alloc _) (fun e=>by have:=(HOWN.out.lt _ e.symm).1;have:=HLT.out;omega);have E3:=grownBy_blk hg6 (HC3.out.alloc _) (fun e=>by have:=(HOWN.out.lt _ e.symm).1;have:=HLT.out;omega);have HE1:=Lib.hid E1;have HE2':=Lib.hid E2;have HE3:=Lib.hid E3;obtain ⟨q6,y6,u6⟩:=E3.facts;clear ho6 hg6 hb6 E1 E2 E3))
   all_goals
    go_wp2
    go_roundw
    case rel =>
     have hs3:=HW34.out
     have hs6:=HG6.out.size
     have hlt:=HLT.out
     have hlw:=HLW.out
     simp at hs6
     have hne:∀ b,b<w4.heap.size→Value.ownBlock (.slice p0 t c0) ≠ some b→Value.ownBlock (.slice p6 (t+1) c6) ≠ some b:=fun b hb hn=>by
      rcases HB6.out with h|h
      ·rw [h]
       exact hn
      ·rw [h]
       intro e
       have:=Option.some.inj e
       simp at this
       omega
     have hblk:∀ b,b<w4.heap.size→Value.ownBlock (.slice p0 t c0) ≠ some b→w6.heap[b]?=w4.heap[b]?:=fun b hb hn=>by
      rw [HG6.out.block b (by simp;omega) (fun e=>hn e.symm)]
      exact Below.heap_alloc _ _ _ (by simpa using hb)
     refine ⟨t+1,p6,c6,_,by go_num,by omega,?_,by simp;omega,?_,?_,?_,(HO6.out.kept (grownBy_set _ _ _ _) (HO6.out.ne_of_lt' (by omega))),?_⟩
     ·exact Bel.setCellR (by show w.heap.size≤w1.heap.size;omega) (((HBEL.out.trans HX4.out).alloc _).of_row HG6.out (fun g hg=>by have:=(HOWN.out.lt g hg).1;omega))
     ·exact Blk.otherR (by show w.heap.size ≠ w1.heap.size;omega) HE1.out
     ·exact Blk.otherR (by show w.heap.size+1 ≠ w1.heap.size;omega) HE2'.out
     ·exact Blk.cast (HE3.out.set 3 _) (by rfl)
     ·rw [HTK.out]
      refine RowGm.push (HROW.out.keep (by simp;omega) (fun b hb hl=>?_) fun b hl hb=>⟨hb.1,hne b (by omega) hb.2⟩) HLT2.out HOWN.out.1 (HF4.out.keep (by simp;omega) (fun b hb hl=>?_) fun b hl hb=>⟨?_,?_⟩) (HG4.out.keep (by simp;omega) (fun b hb hl=>?_) fun b hl hb=>⟨?_,?_⟩)
      ·rw [Below.heap_setCell _ _ _ _ (by simp;omega),hblk b (by omega) hb.2]
       exact HX4.out.block b hl
      ·rw [Below.heap_setCell _ _ _ _ (by simp;omega),hblk b hl (fun e=>by have h1:=(HOWN.out.lt _ e).2;omega)]
      ·omega
      ·exact hne b hl (fun e=>by have h1:=(HOWN.out.lt _ e).2;omega)
      ·rw [Below.heap_setCell _ _ _ _ (by simp;omega),hblk b hl (fun e=>by have h1:=(HOWN.out.lt _ e).2;omega)]
      ·omega
      ·exact hne b hl (fun e=>by have h1:=(HOWN.out.lt _ e).2;omega)
    case measure=>simp [intOf];omega
  ·obtain rfl:t=n:=by omega
   have hrow:=HROW.out
   rw [List.take_of_length_le (by have:=HN.out;omega)] at hrow
   have HGS:Hid (GmSl (fun b=>w1.heap.size+1≤b) wr (.slice p0 t c0) ks):=Lib.hid (RowGm.sl HOWN.out hrow HN.out (fun b hb=>hb) fun b _ hb=>hb.1)
   clear hrow
   go_wp2_with (go_at_call 131;(with_reducible refine (HNUM.out _).mono ?_);rintro e w2 ⟨rfl,hb2⟩;have C1:=HE2.out.bel hb2;obtain ⟨f1a,f1b,f1c⟩:=C1.facts;have C2:=HR2.out.bel hb2;have HR3:=Lib.hid C2;obtain ⟨f2a,f2b,f2c⟩:=C2.facts;have HF2:=Lib.hid (HGS.out.bel hb2);have HB2:Hid (Bel w w2):=Lib.hid (HBEL.out.trans hb2);clear hb2 C1 C2)
   refine post_ret (results_one rfl (resIs_agg (n:=4) (cs:=#[.int .i64 0,.int .i64 c,.slice none 0 0,.slice p0 t c0]) (by rfl) Tryz.underlying25 (by kernel_rfl) (T:=25) ?_ rfl)) ⟨_,_,_,_,_,_,rfl,FlSl.nil _ _,?_,?_⟩
   ·have HB:=HR3.out
    exact SL
   ·have h2:=HLT.out
    refine HF2.out.keep (by simp) (fun b hb hl=>?_) (fun b _ hb=>hG b (by omega))
    repeat rw [Below.heap_setCell _ _ _ _ (by simp;omega)]
   ·have HB:=HB2.out
    exact EL
end Go.Proofs.YtpipehenfcbjbaaGreatDoor
