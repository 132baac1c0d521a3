/-
 spec.New of plain data with parts. No panic;what stood in memory has not turned.
-/
import Derived.Test.YtpipehenfcbjbaaGreatDoorPaj
import Derived.StillTailTactics
set_option linter.unusedVariables false
namespace Go.Proofs.YtpipehenfcbjbaaGreatDoor
open Go.ChangeShapes Go.WideShapes Go.ChangeAt Go.RowKit
set_option maxHeartbeats 8000000 in
set_option maxRecDepth 100000 in
theorem spNewIn (k d:Int) (ns:List Nat) (ks:List Gm) (h0:0≤k) (h6:k≤6) (h1:k ≠ 1) (h2:k ≠ 2) (hbig:(Gm.mk k d ns ks).size≤1048576) (hih:∀ g ∈ ks,SpNew g):SpNew (.mk k d ns ks):=by
 intro G F pn nn cn pk nk ck w hN hK hG
 obtain ⟨_,_,hve,hkl,hkc⟩:=hK.isSlice
 cases hve
 change ks.length≤ck at hkl
 show Calls Tryz.prog 10 #[.agg #[.int .i64 k,.int .i64 d,.slice pn nn cn,.slice pk ks.length ck]] w _
 have HK:=Lib.hid (show GmSl F w (.slice pk ks.length ck) ks from hK)
 have HIH:=Lib.hid hih
 have hks:ks.length≤1048576:=by
  have:=Gm.len_sizes ks
  simp only [Gm.size] at hbig
  omega
 have hko:kindOf k=k:=by
  unfold kindOf
  rw [if_pos (by omega)]
 have HBIG:Hid (Gm.size (.mk k (ct d) [] (newAll (kidOf k) ks))≤1048576):=Lib.hid (by
  have:=newAll_sizes (want:=kidOf k) ks fun g _=>newOf_size g.size g (Nat.le_refl _)
  simp only [Gm.size] at hbig ⊢
  simp only [List.length_nil]
  omega)
 have HE0:Hid (newAll (kidOf k) ks=[]→newOf (.mk k d ns ks)=.mk k (ct d) [] []):=Lib.hid fun h=>by
  rw [newOf,hko,if_neg (by omega),h]
  rfl
 have HE1:Hid (newAll (kidOf k) ks ≠ []→newOf (.mk k d ns ks)=force (common (newAll (kidOf k) ks)) (.mk k (ct d) [] (newAll (kidOf k) ks))):=Lib.hid fun h=>by
  rw [newOf,hko,if_neg (by omega),if_neg]
  simpa using h
 have a3:bits .and .i64 d 3=(ct d:Nat):=by
  rw [i64_and3]
  unfold ct
  omega
 have hlf:decide (k=1∨k=2)=false:=decide_eq_false (by omega)
 have q0:¬ k<0:=by omega
 have q6:¬ 6<k:=by omega
 clear h0 h6 h1 h2
 clear hih hK hN hbig hko
 obtain ⟨i0,hi,hz0,hz1,hz2⟩:=info_parts infoGm
 generalize ct d=cd at *
 generalize hn:ks.length=n at *
 have HN:=Lib.hid hn
 clear hn
 have HKI:=Lib.hid (fun w=>kidOf_any k w)
 generalize hwt:kidOf k=want at *
 clear hwt
 go_enter Tryz.func10,Tryz.ntmps10
 go_wp2_with (go_at_call 14;(with_reducible refine (leaf_any _ _).mono ?_);rw [hlf];rintro e w' ⟨rfl,rfl⟩)
 go_loopw [5,55] (fun dv iv wr=>∃ (i t:Nat) (p:Option Addr) (c:Nat) (xs:List Value),dv=.int .i64 (common (newAll want (ks.take i)):Nat)∧iv=.int .i64 i∧i≤n∧t≤i∧(newAll want (ks.take i)).length=t∧Bel w wr∧w.heap.size+3≤wr.heap.size∧Blk wr (w.heap.size+1) #[.int .i64 0,.int .i64 0,.slice none 0 0,.slice none 0 0] 25∧Blk wr (w.heap.size+1+1) #[.int .i64 k,.int .i64 cd,.slice none 0 0,.slice p t c] 25∧wr.ownsRow (w.heap.size+3) 25 4 (.slice p t c) t xs∧RowGm (fun b=>w.heap.size+3≤b∧Value.ownBlock (.slice p t c) ≠ some b) wr xs (newAll want (ks.take i))) (fun _ iv _=>n - (intOf iv).toNat)
 case atStart=>exact ⟨0,0,none,0,[],by simp [newAll,common],rfl,Nat.zero_le _,Nat.le_refl _,by simp [newAll],by exact EL,by simp,by exact KL,by exact KL,World.ownsRow_nil _ _ _ _,fun i g hg=>by simp [newAll] at hg⟩
 case round =>
  obtain ⟨i,t,p,c,xs,rfl,rfl,hi',hti,hlt',hbel,hgrow,hb1,hb2,hown,hrow⟩:=hrel
  have HBEL:=Lib.hid hbel
  have HGROW:=Lib.hid hgrow
  have HG1:=Lib.hid hb1
  have HG2:=Lib.hid hb2
  have HOWN:=Lib.hid hown
  have HROW:=Lib.hid hrow
  have HLT:=Lib.hid hlt'
  obtain ⟨q1,y1,u1⟩:=hb1.facts
  obtain ⟨q2,y2,u2⟩:=hb2.facts
  clear hb1 hb2 hown hrow hlt'
  have hcm3:common (newAll want (ks.take i))≤3:=common_le _ 3 (by decide)
  generalize hcm:common (newAll want (ks.take i))=cm at *
  have HCM:=Lib.hid hcm
  clear hcm
  by_cases hin:i<n
  ·obtain ⟨kd,hkd⟩:∃ kd,ks[i]?=some kd:=⟨_,List.getElem?_eq_getElem (by have:=HN.out;omega)⟩
   have HKD:=Lib.hid (HIH.out kd (List.mem_iff_getElem?.2 ⟨i,hkd⟩))
   obtain ⟨b,off,pn',nn',cn',pk',nk',ck',rfl,hlt,-,d0,d1,d2,d3,hf,hg'⟩:=HK.out.at hkd
   have D0:=cell_kept hbel d0
   have D1:=cell_kept hbel d1
   have D2:=cell_kept hbel d2
   have D3:=cell_kept hbel d3
   have hbl:b<wr.heap.size:=Nat.lt_of_lt_of_le hlt hbel.size
   have HC:Hid (∀ (W:World),Bel w W→Calls Tryz.prog 10 #[.agg #[.int .i64 kd.kind,.int .i64 kd.dim,.slice pn' nn' cn',.slice pk' nk' ck']] W (IsGm (fun b=>W.heap.size≤b) (newOf kd) W)):=Lib.hid fun W hW=>GmArg.of (HKD.out (fun b=>W.heap.size≤b)) hf hg' hW (fun b hb=>hb)
   have HTK:=Lib.hid (newAll_take (want:=want) hkd)
   obtain ⟨fd,hfd3,hfd⟩:=newOf_dim kd
   have HFD:=Lib.hid hfd
   have hand:bits .and .i64 (cm:Int) (fd:Int)=((cm &&& fd:Nat):Int):=i64_and_small cm fd hcm3 hfd3
   have HAND:Hid (fd=(fd:Int).toNat):=Lib.hid (by simp)
   clear HKD d0 d1 d2 d3 hf hg' hbel hkd hfd hcm3 hfd3
   generalize kd.dim=kdim at *
   generalize kd.kind=kkind at *
   generalize newOf kd=fk at *
   go_wp2_with (go_at_call 10;(with_reducible refine (HC.out _ ?hb).mono ?_);(case hb=>(have HB:=HBEL.out;exact EL));rintro e w3 ⟨p4,n4,c4,p5,n5,c5,rfl,hf4,hg4,hb4⟩;rw [HFD.out];have HF4:=Lib.hid hf4;have HG4:=Lib.hid hg4;have HB3:Hid (Bel wr w3):=Lib.hid (by exact EL);have HSZ3:Hid (wr.heap.size+1≤w3.heap.size):=Lib.hid (by have:=hb4.size;simp at this;exact this);have C1:=HG1.out.bel HB3.out;have C2:=HG2.out.bel HB3.out;have HC1:=Lib.hid C1;have HC2:=Lib.hid C2;obtain ⟨q3,y3,u3⟩:=C2.facts;clear hf4 hg4 hb4 C1 C2)
   by_cases hneg:want<0
   ·have HYES:Hid (want<0∨want=fk.kind):=Lib.hid (Or.inl hneg)
    have hdn:decide (want<0)=true:=decide_eq_true hneg
    clear hneg
    go_quiet ((go_at_call 31;exact Calls.quiet_of_same ((HKI.out _).mono fun _ _ h=>⟨h.1,h.2.symm⟩)))
    generalize hW5:World.drewN (World.alloc w3 _) _=w5 at *
    have HB5:Hid (Bel w3 w5):=Lib.hid (by
     subst hW5
     exact EL)
    have hs5:w3.heap.size+1≤w5.heap.size:=by
     subst hW5
     simp
    have HS5:=Lib.hid hs5
    have C8:Blk w5 w3.heap.size #[.int .i64 fk.kind,.int .i64 fd,.slice p4 n4 c4,.slice p5 n5 c5] 25:=by
     subst hW5
     exact KL
    have C2:=HC2.out.bel HB5.out
    have C1:=HC1.out.bel HB5.out
    have HD1:=Lib.hid C1
    have HD2:=Lib.hid C2
    have HD8:=Lib.hid C8
    obtain ⟨q4,y4,u4⟩:=C2.facts
    obtain ⟨q8,y8,u8⟩:=C8.facts
    have HF5:=Lib.hid (HF4.out.bel HB5.out)
    have HG5:=Lib.hid (HG4.out.bel HB5.out)
    have HBW:Hid (Bel wr w5):=Lib.hid (HB3.out.trans HB5.out)
    clear hW5 C1 C2 C8 hs5
    go_wp2_with (at_builtin;refine wpList_append_row _ rfl (.tmp 74) (.tmp 76) 23 rfl (w.heap.size+3) 25 i0 _ 4 64 Tryz.underlying23 hi hz0 hz1 hz2 rfl (by decide) (.slice p t c) t xs rfl ((own_kept HOWN.out HBW.out).alloc _) ⟨w5.heap.size,0,none⟩ 1 1 [.int .i64 fk.kind,.int .i64 fd,.slice p4 n4 c4,.slice p5 n5 c5] rfl rfl (cells_arr _ _ _ (by simp)) (by simp [Value.oneCell']) (by decide) (by unfold maxLen;omega) (by omega) (by have:=HGROW.out;have:=HBW.out.size;simp;omega) ?_;intro v' w6 ho6 hg6 hb6;obtain ⟨p6,c6,rfl⟩:=ho6.isSlice;have HO6:=Lib.hid ho6;have HG6:=Lib.hid hg6;have HB6:=Lib.hid hb6;have E1:=grownBy_blk hg6 (HD1.out.alloc _) (fun e=>by have:=(HOWN.out.lt _ e.symm).1;omega);have E2:=grownBy_blk hg6 (HD2.out.alloc _) (fun e=>by have:=(HOWN.out.lt _ e.symm).1;omega);have E8:=grownBy_blk hg6 (HD8.out.alloc _) (fun e=>by have:=(HOWN.out.lt _ e.symm).2;have:=HSZ3.out;omega);have HE1:=Lib.hid E1;have HE2:=Lib.hid E2;have HE8:=Lib.hid E8;obtain ⟨q6,y6,u6⟩:=E2.facts;obtain ⟨q9,y9,u9⟩:=E8.facts;clear ho6 hg6 hb6 E1 E2 E8)
    go_roundw
    case rel =>
     have hs3:=HSZ3.out
     have hs5:=HS5.out
     have hs6:=HG6.out.size
     have hgr:=HGROW.out
     simp at hs6
     have hne:∀ b,b<w5.heap.size→Value.ownBlock (.slice p t c) ≠ some b→Value.ownBlock (.slice p6 (t+1) c6) ≠ some b:=fun b hb hn=>by
      rcases HB6.out with h|h
      ·rw [h]
       exact hn
      ·rw [h]
       intro e
       have:=Option.some.inj e
       simp at this
       omega
     have hblk:∀ b,b<w5.heap.size→Value.ownBlock (.slice p t c) ≠ some b→w6.heap[b]?=w5.heap[b]?:=fun b hb hn=>by
      rw [HG6.out.block b (by simp;omega) (fun e=>hn e.symm)]
      exact Below.heap_alloc _ _ _ (by simpa using hb)
     have htk:=HTK.out
     rw [if_pos HYES.out] at htk
     refine ⟨i+1,t+1,p6,c6,_,?_,by go_num,by omega,by omega,?_,?_,by simp;omega,?_,?_,(HO6.out.kept (grownBy_set _ _ _ _) (HO6.out.ne_of_lt' (by omega))),?_⟩
     ·rw [htk,common_snoc,HCM.out,HFD.out,HAND.out]
      rfl
     ·rw [htk,List.length_append,HLT.out]
      rfl
     ·exact ((show Bel w _ from HBEL.out.trans (show Bel wr _ by (have HB:=HBW.out;exact EL))).of_row HG6.out (fun g hg=>by have:=(HOWN.out.lt g hg).1;omega)).setCell (by simp;omega) _
     ·have HB:=HE1.out
      exact KL
     ·exact Blk.cast (HE2.out.set 3 _) (by rfl)
     ·rw [htk]
      have hpush:=RowGm.push (g:=fk) (HROW.out.keep (w':=World.setCell w6 ⟨w.heap.size+1+1,0+3,none⟩ (.slice p6 (t+1) c6)) (G:=fun b=>w.heap.size+3≤b∧Value.ownBlock (.slice p6 (t+1) c6) ≠ some b) (by have:=HBW.out.size;simp;omega) (fun b hb hl=>?_) fun b hl hb=>⟨hb.1,hne b (by have:=HBW.out.size;omega) hb.2⟩) HLT.out HOWN.out.1 (HF5.out.keep (by simp;omega) (fun b hb hl=>?_) fun b hl hb=>⟨?_,?_⟩) (HG5.out.keep (by simp;omega) (fun b hb hl=>?_) fun b hl hb=>⟨?_,?_⟩)
      ·rw [HFD.out] at hpush
       exact hpush
      ·rw [Below.heap_setCell _ _ _ _ (by simp;omega),hblk b (by have:=HBW.out.size;omega) hb.2]
       exact HBW.out.block b hl
      ·rw [Below.heap_setCell _ _ _ _ (by simp at hb;simp;omega),hblk b hl (fun e=>by have h1:=(HOWN.out.lt _ e).2;simp at hb;omega)]
      ·simp at hb;omega
      ·exact hne b hl (fun e=>by have h1:=(HOWN.out.lt _ e).2;simp at hb;omega)
      ·rw [Below.heap_setCell _ _ _ _ (by simp at hb;simp;omega),hblk b hl (fun e=>by have h1:=(HOWN.out.lt _ e).2;simp at hb;omega)]
      ·simp at hb;omega
      ·exact hne b hl (fun e=>by have h1:=(HOWN.out.lt _ e).2;simp at hb;omega)
    case measure=>simp [intOf];omega
   ·have hdn:decide (want<0)=false:=decide_eq_false hneg
    by_cases heq:want=fk.kind
    ·have HYES:Hid (want<0∨want=fk.kind):=Lib.hid (Or.inr heq)
     have heqb:(want == fk.kind)=true:=by simpa using heq
     clear hneg heq
     go_quiet ((go_at_call 31;exact Calls.quiet_of_same ((HKI.out _).mono fun _ _ h=>⟨h.1,h.2.symm⟩)))
     generalize hW5:World.drewN (World.alloc w3 _) _=w5 at *
     have HB5:Hid (Bel w3 w5):=Lib.hid (by
      subst hW5
      exact EL)
     have hs5:w3.heap.size+1≤w5.heap.size:=by
      subst hW5
      simp
     have HS5:=Lib.hid hs5
     have C8:Blk w5 w3.heap.size #[.int .i64 fk.kind,.int .i64 fd,.slice p4 n4 c4,.slice p5 n5 c5] 25:=by
      subst hW5
      exact KL
     have C2:=HC2.out.bel HB5.out
     have C1:=HC1.out.bel HB5.out
     have HD1:=Lib.hid C1
     have HD2:=Lib.hid C2
     have HD8:=Lib.hid C8
     obtain ⟨q4,y4,u4⟩:=C2.facts
     obtain ⟨q8,y8,u8⟩:=C8.facts
     have HF5:=Lib.hid (HF4.out.bel HB5.out)
     have HG5:=Lib.hid (HG4.out.bel HB5.out)
     have HBW:Hid (Bel wr w5):=Lib.hid (HB3.out.trans HB5.out)
     clear hW5 C1 C2 C8 hs5
     go_wp2_with (at_builtin;refine wpList_append_row _ rfl (.tmp 74) (.tmp 76) 23 rfl (w.heap.size+3) 25 i0 _ 4 64 Tryz.underlying23 hi hz0 hz1 hz2 rfl (by decide) (.slice p t c) t xs rfl ((own_kept HOWN.out HBW.out).alloc _) ⟨w5.heap.size,0,none⟩ 1 1 [.int .i64 fk.kind,.int .i64 fd,.slice p4 n4 c4,.slice p5 n5 c5] rfl rfl (cells_arr _ _ _ (by simp)) (by simp [Value.oneCell']) (by decide) (by unfold maxLen;omega) (by omega) (by have:=HGROW.out;have:=HBW.out.size;simp;omega) ?_;intro v' w6 ho6 hg6 hb6;obtain ⟨p6,c6,rfl⟩:=ho6.isSlice;have HO6:=Lib.hid ho6;have HG6:=Lib.hid hg6;have HB6:=Lib.hid hb6;have E1:=grownBy_blk hg6 (HD1.out.alloc _) (fun e=>by have:=(HOWN.out.lt _ e.symm).1;omega);have E2:=grownBy_blk hg6 (HD2.out.alloc _) (fun e=>by have:=(HOWN.out.lt _ e.symm).1;omega);have E8:=grownBy_blk hg6 (HD8.out.alloc _) (fun e=>by have:=(HOWN.out.lt _ e.symm).2;have:=HSZ3.out;omega);have HE1:=Lib.hid E1;have HE2:=Lib.hid E2;have HE8:=Lib.hid E8;obtain ⟨q6,y6,u6⟩:=E2.facts;obtain ⟨q9,y9,u9⟩:=E8.facts;clear ho6 hg6 hb6 E1 E2 E8)
     go_roundw
     case rel =>
      have hs3:=HSZ3.out
      have hs5:=HS5.out
      have hs6:=HG6.out.size
      have hgr:=HGROW.out
      simp at hs6
      have hne:∀ b,b<w5.heap.size→Value.ownBlock (.slice p t c) ≠ some b→Value.ownBlock (.slice p6 (t+1) c6) ≠ some b:=fun b hb hn=>by
       rcases HB6.out with h|h
       ·rw [h]
        exact hn
       ·rw [h]
        intro e
        have:=Option.some.inj e
        simp at this
        omega
      have hblk:∀ b,b<w5.heap.size→Value.ownBlock (.slice p t c) ≠ some b→w6.heap[b]?=w5.heap[b]?:=fun b hb hn=>by
       rw [HG6.out.block b (by simp;omega) (fun e=>hn e.symm)]
       exact Below.heap_alloc _ _ _ (by simpa using hb)
      have htk:=HTK.out
      rw [if_pos HYES.out] at htk
      refine ⟨i+1,t+1,p6,c6,_,?_,by go_num,by omega,by omega,?_,?_,by simp;omega,?_,?_,(HO6.out.kept (grownBy_set _ _ _ _) (HO6.out.ne_of_lt' (by omega))),?_⟩
      ·rw [htk,common_snoc,HCM.out,HFD.out,HAND.out]
       rfl
      ·rw [htk,List.length_append,HLT.out]
       rfl
      ·exact ((show Bel w _ from HBEL.out.trans (show Bel wr _ by (have HB:=HBW.out;exact EL))).of_row HG6.out (fun g hg=>by have:=(HOWN.out.lt g hg).1;omega)).setCell (by simp;omega) _
      ·have HB:=HE1.out
       exact KL
      ·exact Blk.cast (HE2.out.set 3 _) (by rfl)
      ·rw [htk]
       have hpush:=RowGm.push (g:=fk) (HROW.out.keep (w':=World.setCell w6 ⟨w.heap.size+1+1,0+3,none⟩ (.slice p6 (t+1) c6)) (G:=fun b=>w.heap.size+3≤b∧Value.ownBlock (.slice p6 (t+1) c6) ≠ some b) (by have:=HBW.out.size;simp;omega) (fun b hb hl=>?_) fun b hl hb=>⟨hb.1,hne b (by have:=HBW.out.size;omega) hb.2⟩) HLT.out HOWN.out.1 (HF5.out.keep (by simp;omega) (fun b hb hl=>?_) fun b hl hb=>⟨?_,?_⟩) (HG5.out.keep (by simp;omega) (fun b hb hl=>?_) fun b hl hb=>⟨?_,?_⟩)
       ·rw [HFD.out] at hpush
        exact hpush
       ·rw [Below.heap_setCell _ _ _ _ (by simp;omega),hblk b (by have:=HBW.out.size;omega) hb.2]
        exact HBW.out.block b hl
       ·rw [Below.heap_setCell _ _ _ _ (by simp at hb;simp;omega),hblk b hl (fun e=>by have h1:=(HOWN.out.lt _ e).2;simp at hb;omega)]
       ·simp at hb;omega
       ·exact hne b hl (fun e=>by have h1:=(HOWN.out.lt _ e).2;simp at hb;omega)
       ·rw [Below.heap_setCell _ _ _ _ (by simp at hb;simp;omega),hblk b hl (fun e=>by have h1:=(HOWN.out.lt _ e).2;simp at hb;omega)]
       ·simp at hb;omega
       ·exact hne b hl (fun e=>by have h1:=(HOWN.out.lt _ e).2;simp at hb;omega)
     case measure=>simp [intOf];omega
    ·have HNO:Hid (¬ (want<0∨want=fk.kind)):=Lib.hid (by omega)
     have heqb:(want == fk.kind)=false:=by simpa using heq
     clear hneg heq
     go_quiet ((go_at_call 31;exact Calls.quiet_of_same ((HKI.out _).mono fun _ _ h=>⟨h.1,h.2.symm⟩)))
     generalize hW5:World.drewN (World.alloc w3 _) _=w5 at *
     have HB5:Hid (Bel w3 w5):=Lib.hid (by
      subst hW5
      exact EL)
     have hs5:w3.heap.size+1≤w5.heap.size:=by
      subst hW5
      simp
     have HS5:=Lib.hid hs5
     have C8:Blk w5 w3.heap.size #[.int .i64 fk.kind,.int .i64 fd,.slice p4 n4 c4,.slice p5 n5 c5] 25:=by
      subst hW5
      exact KL
     have C2:=HC2.out.bel HB5.out
     have C1:=HC1.out.bel HB5.out
     have HD1:=Lib.hid C1
     have HD2:=Lib.hid C2
     have HD8:=Lib.hid C8
     obtain ⟨q4,y4,u4⟩:=C2.facts
     obtain ⟨q8,y8,u8⟩:=C8.facts
     have HF5:=Lib.hid (HF4.out.bel HB5.out)
     have HG5:=Lib.hid (HG4.out.bel HB5.out)
     have HBW:Hid (Bel wr w5):=Lib.hid (HB3.out.trans HB5.out)
     clear hW5 C1 C2 C8 hs5
     go_wp2
     go_roundw
     case rel =>
      have hs5:=HS5.out
      have hs3:=HSZ3.out
      have hgr:=HGROW.out
      have htk:=HTK.out
      rw [if_neg HNO.out,List.append_nil] at htk
      refine ⟨i+1,t,p,c,xs,?_,by go_num,by omega,by omega,?_,HBEL.out.trans HBW.out,by omega,HD1.out,HD2.out,own_kept HOWN.out HBW.out,?_⟩
      ·rw [htk,HCM.out]
      ·rw [htk,HLT.out]
      ·rw [htk]
       exact HROW.out.keep HBW.out.size (fun b hb hl=>HBW.out.block b hl) fun b hl hb=>hb
     case measure=>simp [intOf];omega
  ·obtain rfl:i=n:=by omega
   have htn:=List.take_of_length_le (l:=ks) (i:=i) (by have:=HN.out;omega)
   have hrow:=HROW.out
   rw [htn] at hrow
   have hlen:=HLT.out
   rw [htn] at hlen
   have hcm:=HCM.out
   rw [htn] at hcm
   have HGS:Hid (GmSl (fun b=>w.heap.size+3≤b) wr (.slice p t c) (newAll want ks)):=Lib.hid (RowGm.sl HOWN.out hrow hlen (fun b hb=>hb) fun b _ hb=>hb.1)
   have HCM3:Hid (cm≤3):=Lib.hid hcm3
   clear hrow hbel htn hcm3
   by_cases ht0:t=0
   ·have hnil:newAll want ks=[]:=List.length_eq_zero_iff.1 (by omega)
    have HEND:Hid (∀ W:World,wr.heap.size≤W.heap.size→(∀ b,w.heap.size+3≤b→b<wr.heap.size→W.heap[b]?=wr.heap[b]?)→Bel w W→IsGm G (newOf (.mk k d ns ks)) w (.returned (.agg #[.int .i64 k,.int .i64 cd,.slice none 0 0,.slice p t c])) W):=Lib.hid fun W hW hk hb=>by
     rw [HE0.out hnil]
     have hgs:=HGS.out
     rw [hnil] at hgs
     exact ⟨_,_,_,_,_,_,rfl,FlSl.nil _ _,hgs.keep hW hk (fun b _ hb=>hG b (by omega)),hb⟩
    clear hnil hlen hcm
    have HT0:=Lib.hid ht0
    have ht0':((t:Int) == 0)=true:=by simpa using ht0
    clear ht0
    go_wp2
    refine post_ret (results_one rfl (resIs_agg (n:=4) (cs:=#[.int .i64 k,.int .i64 cd,.slice none 0 0,.slice p t c]) (by rfl) Tryz.underlying25 (by kernel_rfl) (T:=25) ?_ rfl)) (HEND.out _ ?_ (fun b hb hl=>?_) ?_)
    ·have HB:=HG1.out
     exact SL
    ·simp
    ·repeat rw [Below.heap_setCell _ _ _ _ (by simp;omega)]
    ·have HB:=HBEL.out
     exact EL
   ·have hne:newAll want ks ≠ []:=fun h=>by
     rw [h] at hlen
     simp at hlen
     omega
    have HFO:Hid (∀ W,Bel wr W→Calls Tryz.prog 32 #[.agg #[.int .i64 k,.int .i64 cd,.slice none 0 0,.slice p t c],.int .i64 cm] W (IsGm (fun b=>W.heap.size≤b) (newOf (.mk k d ns ks)) W)):=Lib.hid fun W hW=>by
     rw [HE1.out hne,hcm]
     exact GmArg.of (g:=.mk k cd [] (newAll want ks)) (spForce_any cm HCM3.out _ HBIG.out (fun b=>W.heap.size≤b)) (F:=fun b=>w.heap.size+3≤b) (w:=wr) (FlSl.nil _ _) HGS.out hW (fun b hb=>hb)
    have HN0:=Lib.hid ht0
    have ht0':((t:Int) == 0)=false:=by simpa using ht0
    clear hne ht0 hlen hcm
    generalize newOf (.mk k d ns ks)=fin at *
    go_wp2_with (go_at_call 32;(with_reducible refine (HFO.out _ ?hb).mono ?_);(case hb=>exact EL);rintro e w3 ⟨p4,n4,c4,p5,n5,c5,rfl,hf4,hg4,hb4⟩;have HF4:=Lib.hid hf4;have HG4:=Lib.hid hg4;have HB4:=Lib.hid hb4;have C1:=HG1.out.bel hb4;have HC1:=Lib.hid C1;obtain ⟨q3,y3,u3⟩:=C1.facts;clear hf4 hg4 hb4 C1)
    have HEND:Hid (∀ W:World,w3.heap.size≤W.heap.size→(∀ b,w.heap.size+3≤b→b<w3.heap.size→W.heap[b]?=w3.heap[b]?)→Bel w W→IsGm G fin w (.returned (.agg #[.int .i64 fin.kind,.int .i64 fin.dim,.slice p4 n4 c4,.slice p5 n5 c5])) W):=Lib.hid fun W hW hk hb=>by
     have hs:=HGROW.out
     exact ⟨_,_,_,_,_,_,rfl,HF4.out.keep hW (fun b hb hl=>hk b (by omega) hl) (fun b _ hb=>hG b (by omega)),HG4.out.keep hW (fun b hb hl=>hk b (by omega) hl) (fun b _ hb=>hG b (by omega)),hb⟩
    refine post_ret (results_one rfl (resIs_agg (n:=4) (cs:=#[.int .i64 fin.kind,.int .i64 fin.dim,.slice p4 n4 c4,.slice p5 n5 c5]) (by rfl) Tryz.underlying25 (by kernel_rfl) (T:=25) ?_ rfl)) (HEND.out _ ?_ (fun b hb hl=>?_) ?_)
    ·have HB:=HC1.out
     exact SL
    ·simp
    ·repeat rw [Below.heap_setCell _ _ _ _ (by simp;omega)]
    ·have HB:=HBEL.out.trans HB4.out
     exact EL
set_option maxHeartbeats 8000000 in
set_option maxRecDepth 100000 in
theorem spNewLo (k d:Int) (ns:List Nat) (ks:List Gm) (h0:k<0) (hbig:(Gm.mk k d ns ks).size≤1048576) (hih:∀ g ∈ ks,SpNew g):SpNew (.mk k d ns ks):=by
 intro G F pn nn cn pk nk ck w hN hK hG
 obtain ⟨_,_,hve,hkl,hkc⟩:=hK.isSlice
 cases hve
 change ks.length≤ck at hkl
 show Calls Tryz.prog 10 #[.agg #[.int .i64 k,.int .i64 d,.slice pn nn cn,.slice pk ks.length ck]] w _
 have HK:=Lib.hid (show GmSl F w (.slice pk ks.length ck) ks from hK)
 have HIH:=Lib.hid hih
 have hks:ks.length≤1048576:=by
  have:=Gm.len_sizes ks
  simp only [Gm.size] at hbig
  omega
 have hko:kindOf k=(0:Int):=by
  unfold kindOf
  rw [if_neg (by omega)]
 have HBIG:Hid (Gm.size (.mk (0:Int) (ct d) [] (newAll (kidOf (0:Int)) ks))≤1048576):=Lib.hid (by
  have:=newAll_sizes (want:=kidOf (0:Int)) ks fun g _=>newOf_size g.size g (Nat.le_refl _)
  simp only [Gm.size] at hbig ⊢
  simp only [List.length_nil]
  omega)
 have HE0:Hid (newAll (kidOf (0:Int)) ks=[]→newOf (.mk k d ns ks)=.mk (0:Int) (ct d) [] []):=Lib.hid fun h=>by
  rw [newOf,hko,if_neg (by omega),h]
  rfl
 have HE1:Hid (newAll (kidOf (0:Int)) ks ≠ []→newOf (.mk k d ns ks)=force (common (newAll (kidOf (0:Int)) ks)) (.mk (0:Int) (ct d) [] (newAll (kidOf (0:Int)) ks))):=Lib.hid fun h=>by
  rw [newOf,hko,if_neg (by omega),if_neg]
  simpa using h
 have a3:bits .and .i64 d 3=(ct d:Nat):=by
  rw [i64_and3]
  unfold ct
  omega
 have hlf:decide ((0:Int)=1∨(0:Int)=2)=false:=decide_eq_false (by omega)
 have q0:decide (k<0)=true:=decide_eq_true h0
 clear h0
 clear hih hK hN hbig hko
 obtain ⟨i0,hi,hz0,hz1,hz2⟩:=info_parts infoGm
 generalize ct d=cd at *
 generalize hn:ks.length=n at *
 have HN:=Lib.hid hn
 clear hn
 have HKI:=Lib.hid (fun w=>kidOf_any (0:Int) w)
 generalize hwt:kidOf (0:Int)=want at *
 clear hwt
 go_enter Tryz.func10,Tryz.ntmps10
 go_wp2_with (go_at_call 14;(with_reducible refine (leaf_any _ _).mono ?_);rw [hlf];rintro e w' ⟨rfl,rfl⟩)
 go_loopw [5,55] (fun dv iv wr=>∃ (i t:Nat) (p:Option Addr) (c:Nat) (xs:List Value),dv=.int .i64 (common (newAll want (ks.take i)):Nat)∧iv=.int .i64 i∧i≤n∧t≤i∧(newAll want (ks.take i)).length=t∧Bel w wr∧w.heap.size+3≤wr.heap.size∧Blk wr (w.heap.size+1) #[.int .i64 0,.int .i64 0,.slice none 0 0,.slice none 0 0] 25∧Blk wr (w.heap.size+1+1) #[.int .i64 (0:Int),.int .i64 cd,.slice none 0 0,.slice p t c] 25∧wr.ownsRow (w.heap.size+3) 25 4 (.slice p t c) t xs∧RowGm (fun b=>w.heap.size+3≤b∧Value.ownBlock (.slice p t c) ≠ some b) wr xs (newAll want (ks.take i))) (fun _ iv _=>n - (intOf iv).toNat)
 case atStart=>exact ⟨0,0,none,0,[],by simp [newAll,common],rfl,Nat.zero_le _,Nat.le_refl _,by simp [newAll],by exact EL,by simp,by exact KL,by exact SL,World.ownsRow_nil _ _ _ _,fun i g hg=>by simp [newAll] at hg⟩
 case round =>
  obtain ⟨i,t,p,c,xs,rfl,rfl,hi',hti,hlt',hbel,hgrow,hb1,hb2,hown,hrow⟩:=hrel
  have HBEL:=Lib.hid hbel
  have HGROW:=Lib.hid hgrow
  have HG1:=Lib.hid hb1
  have HG2:=Lib.hid hb2
  have HOWN:=Lib.hid hown
  have HROW:=Lib.hid hrow
  have HLT:=Lib.hid hlt'
  obtain ⟨q1,y1,u1⟩:=hb1.facts
  obtain ⟨q2,y2,u2⟩:=hb2.facts
  clear hb1 hb2 hown hrow hlt'
  have hcm3:common (newAll want (ks.take i))≤3:=common_le _ 3 (by decide)
  generalize hcm:common (newAll want (ks.take i))=cm at *
  have HCM:=Lib.hid hcm
  clear hcm
  by_cases hin:i<n
  ·obtain ⟨kd,hkd⟩:∃ kd,ks[i]?=some kd:=⟨_,List.getElem?_eq_getElem (by have:=HN.out;omega)⟩
   have HKD:=Lib.hid (HIH.out kd (List.mem_iff_getElem?.2 ⟨i,hkd⟩))
   obtain ⟨b,off,pn',nn',cn',pk',nk',ck',rfl,hlt,-,d0,d1,d2,d3,hf,hg'⟩:=HK.out.at hkd
   have D0:=cell_kept hbel d0
   have D1:=cell_kept hbel d1
   have D2:=cell_kept hbel d2
   have D3:=cell_kept hbel d3
   have hbl:b<wr.heap.size:=Nat.lt_of_lt_of_le hlt hbel.size
   have HC:Hid (∀ (W:World),Bel w W→Calls Tryz.prog 10 #[.agg #[.int .i64 kd.kind,.int .i64 kd.dim,.slice pn' nn' cn',.slice pk' nk' ck']] W (IsGm (fun b=>W.heap.size≤b) (newOf kd) W)):=Lib.hid fun W hW=>GmArg.of (HKD.out (fun b=>W.heap.size≤b)) hf hg' hW (fun b hb=>hb)
   have HTK:=Lib.hid (newAll_take (want:=want) hkd)
   obtain ⟨fd,hfd3,hfd⟩:=newOf_dim kd
   have HFD:=Lib.hid hfd
   have hand:bits .and .i64 (cm:Int) (fd:Int)=((cm &&& fd:Nat):Int):=i64_and_small cm fd hcm3 hfd3
   have HAND:Hid (fd=(fd:Int).toNat):=Lib.hid (by simp)
   clear HKD d0 d1 d2 d3 hf hg' hbel hkd hfd hcm3 hfd3
   generalize kd.dim=kdim at *
   generalize kd.kind=kkind at *
   generalize newOf kd=fk at *
   go_wp2_with (go_at_call 10;(with_reducible refine (HC.out _ ?hb).mono ?_);(case hb=>(have HB:=HBEL.out;exact EL));rintro e w3 ⟨p4,n4,c4,p5,n5,c5,rfl,hf4,hg4,hb4⟩;rw [HFD.out];have HF4:=Lib.hid hf4;have HG4:=Lib.hid hg4;have HB3:Hid (Bel wr w3):=Lib.hid (by exact EL);have HSZ3:Hid (wr.heap.size+1≤w3.heap.size):=Lib.hid (by have:=hb4.size;simp at this;exact this);have C1:=HG1.out.bel HB3.out;have C2:=HG2.out.bel HB3.out;have HC1:=Lib.hid C1;have HC2:=Lib.hid C2;obtain ⟨q3,y3,u3⟩:=C2.facts;clear hf4 hg4 hb4 C1 C2)
   by_cases hneg:want<0
   ·have HYES:Hid (want<0∨want=fk.kind):=Lib.hid (Or.inl hneg)
    have hdn:decide (want<0)=true:=decide_eq_true hneg
    clear hneg
    go_quiet ((go_at_call 31;exact Calls.quiet_of_same ((HKI.out _).mono fun _ _ h=>⟨h.1,h.2.symm⟩)))
    generalize hW5:World.drewN (World.alloc w3 _) _=w5 at *
    have HB5:Hid (Bel w3 w5):=Lib.hid (by
     subst hW5
     exact EL)
    have hs5:w3.heap.size+1≤w5.heap.size:=by
     subst hW5
     simp
    have HS5:=Lib.hid hs5
    have C8:Blk w5 w3.heap.size #[.int .i64 fk.kind,.int .i64 fd,.slice p4 n4 c4,.slice p5 n5 c5] 25:=by
     subst hW5
     exact KL
    have C2:=HC2.out.bel HB5.out
    have C1:=HC1.out.bel HB5.out
    have HD1:=Lib.hid C1
    have HD2:=Lib.hid C2
    have HD8:=Lib.hid C8
    obtain ⟨q4,y4,u4⟩:=C2.facts
    obtain ⟨q8,y8,u8⟩:=C8.facts
    have HF5:=Lib.hid (HF4.out.bel HB5.out)
    have HG5:=Lib.hid (HG4.out.bel HB5.out)
    have HBW:Hid (Bel wr w5):=Lib.hid (HB3.out.trans HB5.out)
    clear hW5 C1 C2 C8 hs5
    go_wp2_with (at_builtin;refine wpList_append_row _ rfl (.tmp 74) (.tmp 76) 23 rfl (w.heap.size+3) 25 i0 _ 4 64 Tryz.underlying23 hi hz0 hz1 hz2 rfl (by decide) (.slice p t c) t xs rfl ((own_kept HOWN.out HBW.out).alloc _) ⟨w5.heap.size,0,none⟩ 1 1 [.int .i64 fk.kind,.int .i64 fd,.slice p4 n4 c4,.slice p5 n5 c5] rfl rfl (cells_arr _ _ _ (by simp)) (by simp [Value.oneCell']) (by decide) (by unfold maxLen;omega) (by omega) (by have:=HGROW.out;have:=HBW.out.size;simp;omega) ?_;intro v' w6 ho6 hg6 hb6;obtain ⟨p6,c6,rfl⟩:=ho6.isSlice;have HO6:=Lib.hid ho6;have HG6:=Lib.hid hg6;have HB6:=Lib.hid hb6;have E1:=grownBy_blk hg6 (HD1.out.alloc _) (fun e=>by have:=(HOWN.out.lt _ e.symm).1;omega);have E2:=grownBy_blk hg6 (HD2.out.alloc _) (fun e=>by have:=(HOWN.out.lt _ e.symm).1;omega);have E8:=grownBy_blk hg6 (HD8.out.alloc _) (fun e=>by have:=(HOWN.out.lt _ e.symm).2;have:=HSZ3.out;omega);have HE1:=Lib.hid E1;have HE2:=Lib.hid E2;have HE8:=Lib.hid E8;obtain ⟨q6,y6,u6⟩:=E2.facts;obtain ⟨q9,y9,u9⟩:=E8.facts;clear ho6 hg6 hb6 E1 E2 E8)
    go_roundw
    case rel =>
     have hs3:=HSZ3.out
     have hs5:=HS5.out
     have hs6:=HG6.out.size
     have hgr:=HGROW.out
     simp at hs6
     have hne:∀ b,b<w5.heap.size→Value.ownBlock (.slice p t c) ≠ some b→Value.ownBlock (.slice p6 (t+1) c6) ≠ some b:=fun b hb hn=>by
      rcases HB6.out with h|h
      ·rw [h]
       exact hn
      ·rw [h]
       intro e
       have:=Option.some.inj e
       simp at this
       omega
     have hblk:∀ b,b<w5.heap.size→Value.ownBlock (.slice p t c) ≠ some b→w6.heap[b]?=w5.heap[b]?:=fun b hb hn=>by
      rw [HG6.out.block b (by simp;omega) (fun e=>hn e.symm)]
      exact Below.heap_alloc _ _ _ (by simpa using hb)
     have htk:=HTK.out
     rw [if_pos HYES.out] at htk
     refine ⟨i+1,t+1,p6,c6,_,?_,by go_num,by omega,by omega,?_,?_,by simp;omega,?_,?_,(HO6.out.kept (grownBy_set _ _ _ _) (HO6.out.ne_of_lt' (by omega))),?_⟩
     ·rw [htk,common_snoc,HCM.out,HFD.out,HAND.out]
      rfl
     ·rw [htk,List.length_append,HLT.out]
      rfl
     ·exact ((show Bel w _ from HBEL.out.trans (show Bel wr _ by (have HB:=HBW.out;exact EL))).of_row HG6.out (fun g hg=>by have:=(HOWN.out.lt g hg).1;omega)).setCell (by simp;omega) _
     ·have HB:=HE1.out
      exact KL
     ·exact Blk.cast (HE2.out.set 3 _) (by rfl)
     ·rw [htk]
      have hpush:=RowGm.push (g:=fk) (HROW.out.keep (w':=World.setCell w6 ⟨w.heap.size+1+1,0+3,none⟩ (.slice p6 (t+1) c6)) (G:=fun b=>w.heap.size+3≤b∧Value.ownBlock (.slice p6 (t+1) c6) ≠ some b) (by have:=HBW.out.size;simp;omega) (fun b hb hl=>?_) fun b hl hb=>⟨hb.1,hne b (by have:=HBW.out.size;omega) hb.2⟩) HLT.out HOWN.out.1 (HF5.out.keep (by simp;omega) (fun b hb hl=>?_) fun b hl hb=>⟨?_,?_⟩) (HG5.out.keep (by simp;omega) (fun b hb hl=>?_) fun b hl hb=>⟨?_,?_⟩)
      ·rw [HFD.out] at hpush
       exact hpush
      ·rw [Below.heap_setCell _ _ _ _ (by simp;omega),hblk b (by have:=HBW.out.size;omega) hb.2]
       exact HBW.out.block b hl
      ·rw [Below.heap_setCell _ _ _ _ (by simp at hb;simp;omega),hblk b hl (fun e=>by have h1:=(HOWN.out.lt _ e).2;simp at hb;omega)]
      ·simp at hb;omega
      ·exact hne b hl (fun e=>by have h1:=(HOWN.out.lt _ e).2;simp at hb;omega)
      ·rw [Below.heap_setCell _ _ _ _ (by simp at hb;simp;omega),hblk b hl (fun e=>by have h1:=(HOWN.out.lt _ e).2;simp at hb;omega)]
      ·simp at hb;omega
      ·exact hne b hl (fun e=>by have h1:=(HOWN.out.lt _ e).2;simp at hb;omega)
    case measure=>simp [intOf];omega
   ·have hdn:decide (want<0)=false:=decide_eq_false hneg
    by_cases heq:want=fk.kind
    ·have HYES:Hid (want<0∨want=fk.kind):=Lib.hid (Or.inr heq)
     have heqb:(want == fk.kind)=true:=by simpa using heq
     clear hneg heq
     go_quiet ((go_at_call 31;exact Calls.quiet_of_same ((HKI.out _).mono fun _ _ h=>⟨h.1,h.2.symm⟩)))
     generalize hW5:World.drewN (World.alloc w3 _) _=w5 at *
     have HB5:Hid (Bel w3 w5):=Lib.hid (by
      subst hW5
      exact EL)
     have hs5:w3.heap.size+1≤w5.heap.size:=by
      subst hW5
      simp
     have HS5:=Lib.hid hs5
     have C8:Blk w5 w3.heap.size #[.int .i64 fk.kind,.int .i64 fd,.slice p4 n4 c4,.slice p5 n5 c5] 25:=by
      subst hW5
      exact KL
     have C2:=HC2.out.bel HB5.out
     have C1:=HC1.out.bel HB5.out
     have HD1:=Lib.hid C1
     have HD2:=Lib.hid C2
     have HD8:=Lib.hid C8
     obtain ⟨q4,y4,u4⟩:=C2.facts
     obtain ⟨q8,y8,u8⟩:=C8.facts
     have HF5:=Lib.hid (HF4.out.bel HB5.out)
     have HG5:=Lib.hid (HG4.out.bel HB5.out)
     have HBW:Hid (Bel wr w5):=Lib.hid (HB3.out.trans HB5.out)
     clear hW5 C1 C2 C8 hs5
     go_wp2_with (at_builtin;refine wpList_append_row _ rfl (.tmp 74) (.tmp 76) 23 rfl (w.heap.size+3) 25 i0 _ 4 64 Tryz.underlying23 hi hz0 hz1 hz2 rfl (by decide) (.slice p t c) t xs rfl ((own_kept HOWN.out HBW.out).alloc _) ⟨w5.heap.size,0,none⟩ 1 1 [.int .i64 fk.kind,.int .i64 fd,.slice p4 n4 c4,.slice p5 n5 c5] rfl rfl (cells_arr _ _ _ (by simp)) (by simp [Value.oneCell']) (by decide) (by unfold maxLen;omega) (by omega) (by have:=HGROW.out;have:=HBW.out.size;simp;omega) ?_;intro v' w6 ho6 hg6 hb6;obtain ⟨p6,c6,rfl⟩:=ho6.isSlice;have HO6:=Lib.hid ho6;have HG6:=Lib.hid hg6;have HB6:=Lib.hid hb6;have E1:=grownBy_blk hg6 (HD1.out.alloc _) (fun e=>by have:=(HOWN.out.lt _ e.symm).1;omega);have E2:=grownBy_blk hg6 (HD2.out.alloc _) (fun e=>by have:=(HOWN.out.lt _ e.symm).1;omega);have E8:=grownBy_blk hg6 (HD8.out.alloc _) (fun e=>by have:=(HOWN.out.lt _ e.symm).2;have:=HSZ3.out;omega);have HE1:=Lib.hid E1;have HE2:=Lib.hid E2;have HE8:=Lib.hid E8;obtain ⟨q6,y6,u6⟩:=E2.facts;obtain ⟨q9,y9,u9⟩:=E8.facts;clear ho6 hg6 hb6 E1 E2 E8)
     go_roundw
     case rel =>
      have hs3:=HSZ3.out
      have hs5:=HS5.out
      have hs6:=HG6.out.size
      have hgr:=HGROW.out
      simp at hs6
      have hne:∀ b,b<w5.heap.size→Value.ownBlock (.slice p t c) ≠ some b→Value.ownBlock (.slice p6 (t+1) c6) ≠ some b:=fun b hb hn=>by
       rcases HB6.out with h|h
       ·rw [h]
        exact hn
       ·rw [h]
        intro e
        have:=Option.some.inj e
        simp at this
        omega
      have hblk:∀ b,b<w5.heap.size→Value.ownBlock (.slice p t c) ≠ some b→w6.heap[b]?=w5.heap[b]?:=fun b hb hn=>by
       rw [HG6.out.block b (by simp;omega) (fun e=>hn e.symm)]
       exact Below.heap_alloc _ _ _ (by simpa using hb)
      have htk:=HTK.out
      rw [if_pos HYES.out] at htk
      refine ⟨i+1,t+1,p6,c6,_,?_,by go_num,by omega,by omega,?_,?_,by simp;omega,?_,?_,(HO6.out.kept (grownBy_set _ _ _ _) (HO6.out.ne_of_lt' (by omega))),?_⟩
      ·rw [htk,common_snoc,HCM.out,HFD.out,HAND.out]
       rfl
      ·rw [htk,List.length_append,HLT.out]
       rfl
      ·exact ((show Bel w _ from HBEL.out.trans (show Bel wr _ by (have HB:=HBW.out;exact EL))).of_row HG6.out (fun g hg=>by have:=(HOWN.out.lt g hg).1;omega)).setCell (by simp;omega) _
      ·have HB:=HE1.out
       exact KL
      ·exact Blk.cast (HE2.out.set 3 _) (by rfl)
      ·rw [htk]
       have hpush:=RowGm.push (g:=fk) (HROW.out.keep (w':=World.setCell w6 ⟨w.heap.size+1+1,0+3,none⟩ (.slice p6 (t+1) c6)) (G:=fun b=>w.heap.size+3≤b∧Value.ownBlock (.slice p6 (t+1) c6) ≠ some b) (by have:=HBW.out.size;simp;omega) (fun b hb hl=>?_) fun b hl hb=>⟨hb.1,hne b (by have:=HBW.out.size;omega) hb.2⟩) HLT.out HOWN.out.1 (HF5.out.keep (by simp;omega) (fun b hb hl=>?_) fun b hl hb=>⟨?_,?_⟩) (HG5.out.keep (by simp;omega) (fun b hb hl=>?_) fun b hl hb=>⟨?_,?_⟩)
       ·rw [HFD.out] at hpush
        exact hpush
       ·rw [Below.heap_setCell _ _ _ _ (by simp;omega),hblk b (by have:=HBW.out.size;omega) hb.2]
        exact HBW.out.block b hl
       ·rw [Below.heap_setCell _ _ _ _ (by simp at hb;simp;omega),hblk b hl (fun e=>by have h1:=(HOWN.out.lt _ e).2;simp at hb;omega)]
       ·simp at hb;omega
       ·exact hne b hl (fun e=>by have h1:=(HOWN.out.lt _ e).2;simp at hb;omega)
       ·rw [Below.heap_setCell _ _ _ _ (by simp at hb;simp;omega),hblk b hl (fun e=>by have h1:=(HOWN.out.lt _ e).2;simp at hb;omega)]
       ·simp at hb;omega
       ·exact hne b hl (fun e=>by have h1:=(HOWN.out.lt _ e).2;simp at hb;omega)
     case measure=>simp [intOf];omega
    ·have HNO:Hid (¬ (want<0∨want=fk.kind)):=Lib.hid (by omega)
     have heqb:(want == fk.kind)=false:=by simpa using heq
     clear hneg heq
     go_quiet ((go_at_call 31;exact Calls.quiet_of_same ((HKI.out _).mono fun _ _ h=>⟨h.1,h.2.symm⟩)))
     generalize hW5:World.drewN (World.alloc w3 _) _=w5 at *
     have HB5:Hid (Bel w3 w5):=Lib.hid (by
      subst hW5
      exact EL)
     have hs5:w3.heap.size+1≤w5.heap.size:=by
      subst hW5
      simp
     have HS5:=Lib.hid hs5
     have C8:Blk w5 w3.heap.size #[.int .i64 fk.kind,.int .i64 fd,.slice p4 n4 c4,.slice p5 n5 c5] 25:=by
      subst hW5
      exact KL
     have C2:=HC2.out.bel HB5.out
     have C1:=HC1.out.bel HB5.out
     have HD1:=Lib.hid C1
     have HD2:=Lib.hid C2
     have HD8:=Lib.hid C8
     obtain ⟨q4,y4,u4⟩:=C2.facts
     obtain ⟨q8,y8,u8⟩:=C8.facts
     have HF5:=Lib.hid (HF4.out.bel HB5.out)
     have HG5:=Lib.hid (HG4.out.bel HB5.out)
     have HBW:Hid (Bel wr w5):=Lib.hid (HB3.out.trans HB5.out)
     clear hW5 C1 C2 C8 hs5
     go_wp2
     go_roundw
     case rel =>
      have hs5:=HS5.out
      have hs3:=HSZ3.out
      have hgr:=HGROW.out
      have htk:=HTK.out
      rw [if_neg HNO.out,List.append_nil] at htk
      refine ⟨i+1,t,p,c,xs,?_,by go_num,by omega,by omega,?_,HBEL.out.trans HBW.out,by omega,HD1.out,HD2.out,own_kept HOWN.out HBW.out,?_⟩
      ·rw [htk,HCM.out]
      ·rw [htk,HLT.out]
      ·rw [htk]
       exact HROW.out.keep HBW.out.size (fun b hb hl=>HBW.out.block b hl) fun b hl hb=>hb
     case measure=>simp [intOf];omega
  ·obtain rfl:i=n:=by omega
   have htn:=List.take_of_length_le (l:=ks) (i:=i) (by have:=HN.out;omega)
   have hrow:=HROW.out
   rw [htn] at hrow
   have hlen:=HLT.out
   rw [htn] at hlen
   have hcm:=HCM.out
   rw [htn] at hcm
   have HGS:Hid (GmSl (fun b=>w.heap.size+3≤b) wr (.slice p t c) (newAll want ks)):=Lib.hid (RowGm.sl HOWN.out hrow hlen (fun b hb=>hb) fun b _ hb=>hb.1)
   have HCM3:Hid (cm≤3):=Lib.hid hcm3
   clear hrow hbel htn hcm3
   by_cases ht0:t=0
   ·have hnil:newAll want ks=[]:=List.length_eq_zero_iff.1 (by omega)
    have HEND:Hid (∀ W:World,wr.heap.size≤W.heap.size→(∀ b,w.heap.size+3≤b→b<wr.heap.size→W.heap[b]?=wr.heap[b]?)→Bel w W→IsGm G (newOf (.mk k d ns ks)) w (.returned (.agg #[.int .i64 (0:Int),.int .i64 cd,.slice none 0 0,.slice p t c])) W):=Lib.hid fun W hW hk hb=>by
     rw [HE0.out hnil]
     have hgs:=HGS.out
     rw [hnil] at hgs
     exact ⟨_,_,_,_,_,_,rfl,FlSl.nil _ _,hgs.keep hW hk (fun b _ hb=>hG b (by omega)),hb⟩
    clear hnil hlen hcm
    have HT0:=Lib.hid ht0
    have ht0':((t:Int) == 0)=true:=by simpa using ht0
    clear ht0
    go_wp2
    refine post_ret (results_one rfl (resIs_agg (n:=4) (cs:=#[.int .i64 (0:Int),.int .i64 cd,.slice none 0 0,.slice p t c]) (by rfl) Tryz.underlying25 (by kernel_rfl) (T:=25) ?_ rfl)) (HEND.out _ ?_ (fun b hb hl=>?_) ?_)
    ·have HB:=HG1.out
     exact SL
    ·simp
    ·repeat rw [Below.heap_setCell _ _ _ _ (by simp;omega)]
    ·have HB:=HBEL.out
     exact EL
   ·have hne:newAll want ks ≠ []:=fun h=>by
     rw [h] at hlen
     simp at hlen
     omega
    have HFO:Hid (∀ W,Bel wr W→Calls Tryz.prog 32 #[.agg #[.int .i64 (0:Int),.int .i64 cd,.slice none 0 0,.slice p t c],.int .i64 cm] W (IsGm (fun b=>W.heap.size≤b) (newOf (.mk k d ns ks)) W)):=Lib.hid fun W hW=>by
     rw [HE1.out hne,hcm]
     exact GmArg.of (g:=.mk (0:Int) cd [] (newAll want ks)) (spForce_any cm HCM3.out _ HBIG.out (fun b=>W.heap.size≤b)) (F:=fun b=>w.heap.size+3≤b) (w:=wr) (FlSl.nil _ _) HGS.out hW (fun b hb=>hb)
    have HN0:=Lib.hid ht0
    have ht0':((t:Int) == 0)=false:=by simpa using ht0
    clear hne ht0 hlen hcm
    generalize newOf (.mk k d ns ks)=fin at *
    go_wp2_with (go_at_call 32;(with_reducible refine (HFO.out _ ?hb).mono ?_);(case hb=>exact EL);rintro e w3 ⟨p4,n4,c4,p5,n5,c5,rfl,hf4,hg4,hb4⟩;have HF4:=Lib.hid hf4;have HG4:=Lib.hid hg4;have HB4:=Lib.hid hb4;have C1:=HG1.out.bel hb4;have HC1:=Lib.hid C1;obtain ⟨q3,y3,u3⟩:=C1.facts;clear hf4 hg4 hb4 C1)
    have HEND:Hid (∀ W:World,w3.heap.size≤W.heap.size→(∀ b,w.heap.size+3≤b→b<w3.heap.size→W.heap[b]?=w3.heap[b]?)→Bel w W→IsGm G fin w (.returned (.agg #[.int .i64 fin.kind,.int .i64 fin.dim,.slice p4 n4 c4,.slice p5 n5 c5])) W):=Lib.hid fun W hW hk hb=>by
     have hs:=HGROW.out
     exact ⟨_,_,_,_,_,_,rfl,HF4.out.keep hW (fun b hb hl=>hk b (by omega) hl) (fun b _ hb=>hG b (by omega)),HG4.out.keep hW (fun b hb hl=>hk b (by omega) hl) (fun b _ hb=>hG b (by omega)),hb⟩
    refine post_ret (results_one rfl (resIs_agg (n:=4) (cs:=#[.int .i64 fin.kind,.int .i64 fin.dim,.slice p4 n4 c4,.slice p5 n5 c5]) (by rfl) Tryz.underlying25 (by kernel_rfl) (T:=25) ?_ rfl)) (HEND.out _ ?_ (fun b hb hl=>?_) ?_)
    ·have HB:=HC1.out
     exact SL
    ·simp
    ·repeat rw [Below.heap_setCell _ _ _ _ (by simp;omega)]
    ·have HB:=HBEL.out.trans HB4.out
     exact EL
set_option maxHeartbeats 8000000 in
set_option maxRecDepth 100000 in
theorem spNewHi (k d:Int) (ns:List Nat) (ks:List Gm) (h6:6<k) (hbig:(Gm.mk k d ns ks).size≤1048576) (hih:∀ g ∈ ks,SpNew g):SpNew (.mk k d ns ks):=by
 intro G F pn nn cn pk nk ck w hN hK hG
 obtain ⟨_,_,hve,hkl,hkc⟩:=hK.isSlice
 cases hve
 change ks.length≤ck at hkl
 show Calls Tryz.prog 10 #[.agg #[.int .i64 k,.int .i64 d,.slice pn nn cn,.slice pk ks.length ck]] w _
 have HK:=Lib.hid (show GmSl F w (.slice pk ks.length ck) ks from hK)
 have HIH:=Lib.hid hih
 have hks:ks.length≤1048576:=by
  have:=Gm.len_sizes ks
  simp only [Gm.size] at hbig
  omega
 have hko:kindOf k=(0:Int):=by
  unfold kindOf
  rw [if_neg (by omega)]
 have HBIG:Hid (Gm.size (.mk (0:Int) (ct d) [] (newAll (kidOf (0:Int)) ks))≤1048576):=Lib.hid (by
  have:=newAll_sizes (want:=kidOf (0:Int)) ks fun g _=>newOf_size g.size g (Nat.le_refl _)
  simp only [Gm.size] at hbig ⊢
  simp only [List.length_nil]
  omega)
 have HE0:Hid (newAll (kidOf (0:Int)) ks=[]→newOf (.mk k d ns ks)=.mk (0:Int) (ct d) [] []):=Lib.hid fun h=>by
  rw [newOf,hko,if_neg (by omega),h]
  rfl
 have HE1:Hid (newAll (kidOf (0:Int)) ks ≠ []→newOf (.mk k d ns ks)=force (common (newAll (kidOf (0:Int)) ks)) (.mk (0:Int) (ct d) [] (newAll (kidOf (0:Int)) ks))):=Lib.hid fun h=>by
  rw [newOf,hko,if_neg (by omega),if_neg]
  simpa using h
 have a3:bits .and .i64 d 3=(ct d:Nat):=by
  rw [i64_and3]
  unfold ct
  omega
 have hlf:decide ((0:Int)=1∨(0:Int)=2)=false:=decide_eq_false (by omega)
 have q0:¬ k<0:=by omega
 have q6:decide (6<k)=true:=decide_eq_true h6
 clear h6
 clear hih hK hN hbig hko
 obtain ⟨i0,hi,hz0,hz1,hz2⟩:=info_parts infoGm
 generalize ct d=cd at *
 generalize hn:ks.length=n at *
 have HN:=Lib.hid hn
 clear hn
 have HKI:=Lib.hid (fun w=>kidOf_any (0:Int) w)
 generalize hwt:kidOf (0:Int)=want at *
 clear hwt
 go_enter Tryz.func10,Tryz.ntmps10
 go_wp2_with (go_at_call 14;(with_reducible refine (leaf_any _ _).mono ?_);rw [hlf];rintro e w' ⟨rfl,rfl⟩)
 go_loopw [5,55] (fun dv iv wr=>∃ (i t:Nat) (p:Option Addr) (c:Nat) (xs:List Value),dv=.int .i64 (common (newAll want (ks.take i)):Nat)∧iv=.int .i64 i∧i≤n∧t≤i∧(newAll want (ks.take i)).length=t∧Bel w wr∧w.heap.size+3≤wr.heap.size∧Blk wr (w.heap.size+1) #[.int .i64 0,.int .i64 0,.slice none 0 0,.slice none 0 0] 25∧Blk wr (w.heap.size+1+1) #[.int .i64 (0:Int),.int .i64 cd,.slice none 0 0,.slice p t c] 25∧wr.ownsRow (w.heap.size+3) 25 4 (.slice p t c) t xs∧RowGm (fun b=>w.heap.size+3≤b∧Value.ownBlock (.slice p t c) ≠ some b) wr xs (newAll want (ks.take i))) (fun _ iv _=>n - (intOf iv).toNat)
 case atStart=>exact ⟨0,0,none,0,[],by simp [newAll,common],rfl,Nat.zero_le _,Nat.le_refl _,by simp [newAll],by exact EL,by simp,by exact KL,by exact SL,World.ownsRow_nil _ _ _ _,fun i g hg=>by simp [newAll] at hg⟩
 case round =>
  obtain ⟨i,t,p,c,xs,rfl,rfl,hi',hti,hlt',hbel,hgrow,hb1,hb2,hown,hrow⟩:=hrel
  have HBEL:=Lib.hid hbel
  have HGROW:=Lib.hid hgrow
  have HG1:=Lib.hid hb1
  have HG2:=Lib.hid hb2
  have HOWN:=Lib.hid hown
  have HROW:=Lib.hid hrow
  have HLT:=Lib.hid hlt'
  obtain ⟨q1,y1,u1⟩:=hb1.facts
  obtain ⟨q2,y2,u2⟩:=hb2.facts
  clear hb1 hb2 hown hrow hlt'
  have hcm3:common (newAll want (ks.take i))≤3:=common_le _ 3 (by decide)
  generalize hcm:common (newAll want (ks.take i))=cm at *
  have HCM:=Lib.hid hcm
  clear hcm
  by_cases hin:i<n
  ·obtain ⟨kd,hkd⟩:∃ kd,ks[i]?=some kd:=⟨_,List.getElem?_eq_getElem (by have:=HN.out;omega)⟩
   have HKD:=Lib.hid (HIH.out kd (List.mem_iff_getElem?.2 ⟨i,hkd⟩))
   obtain ⟨b,off,pn',nn',cn',pk',nk',ck',rfl,hlt,-,d0,d1,d2,d3,hf,hg'⟩:=HK.out.at hkd
   have D0:=cell_kept hbel d0
   have D1:=cell_kept hbel d1
   have D2:=cell_kept hbel d2
   have D3:=cell_kept hbel d3
   have hbl:b<wr.heap.size:=Nat.lt_of_lt_of_le hlt hbel.size
   have HC:Hid (∀ (W:World),Bel w W→Calls Tryz.prog 10 #[.agg #[.int .i64 kd.kind,.int .i64 kd.dim,.slice pn' nn' cn',.slice pk' nk' ck']] W (IsGm (fun b=>W.heap.size≤b) (newOf kd) W)):=Lib.hid fun W hW=>GmArg.of (HKD.out (fun b=>W.heap.size≤b)) hf hg' hW (fun b hb=>hb)
   have HTK:=Lib.hid (newAll_take (want:=want) hkd)
   obtain ⟨fd,hfd3,hfd⟩:=newOf_dim kd
   have HFD:=Lib.hid hfd
   have hand:bits .and .i64 (cm:Int) (fd:Int)=((cm &&& fd:Nat):Int):=i64_and_small cm fd hcm3 hfd3
   have HAND:Hid (fd=(fd:Int).toNat):=Lib.hid (by simp)
   clear HKD d0 d1 d2 d3 hf hg' hbel hkd hfd hcm3 hfd3
   generalize kd.dim=kdim at *
   generalize kd.kind=kkind at *
   generalize newOf kd=fk at *
   go_wp2_with (go_at_call 10;(with_reducible refine (HC.out _ ?hb).mono ?_);(case hb=>(have HB:=HBEL.out;exact EL));rintro e w3 ⟨p4,n4,c4,p5,n5,c5,rfl,hf4,hg4,hb4⟩;rw [HFD.out];have HF4:=Lib.hid hf4;have HG4:=Lib.hid hg4;have HB3:Hid (Bel wr w3):=Lib.hid (by exact EL);have HSZ3:Hid (wr.heap.size+1≤w3.heap.size):=Lib.hid (by have:=hb4.size;simp at this;exact this);have C1:=HG1.out.bel HB3.out;have C2:=HG2.out.bel HB3.out;have HC1:=Lib.hid C1;have HC2:=Lib.hid C2;obtain ⟨q3,y3,u3⟩:=C2.facts;clear hf4 hg4 hb4 C1 C2)
   by_cases hneg:want<0
   ·have HYES:Hid (want<0∨want=fk.kind):=Lib.hid (Or.inl hneg)
    have hdn:decide (want<0)=true:=decide_eq_true hneg
    clear hneg
    go_quiet ((go_at_call 31;exact Calls.quiet_of_same ((HKI.out _).mono fun _ _ h=>⟨h.1,h.2.symm⟩)))
    generalize hW5:World.drewN (World.alloc w3 _) _=w5 at *
    have HB5:Hid (Bel w3 w5):=Lib.hid (by
     subst hW5
     exact EL)
    have hs5:w3.heap.size+1≤w5.heap.size:=by
     subst hW5
     simp
    have HS5:=Lib.hid hs5
    have C8:Blk w5 w3.heap.size #[.int .i64 fk.kind,.int .i64 fd,.slice p4 n4 c4,.slice p5 n5 c5] 25:=by
     subst hW5
     exact KL
    have C2:=HC2.out.bel HB5.out
    have C1:=HC1.out.bel HB5.out
    have HD1:=Lib.hid C1
    have HD2:=Lib.hid C2
    have HD8:=Lib.hid C8
    obtain ⟨q4,y4,u4⟩:=C2.facts
    obtain ⟨q8,y8,u8⟩:=C8.facts
    have HF5:=Lib.hid (HF4.out.bel HB5.out)
    have HG5:=Lib.hid (HG4.out.bel HB5.out)
    have HBW:Hid (Bel wr w5):=Lib.hid (HB3.out.trans HB5.out)
    clear hW5 C1 C2 C8 hs5
    go_wp2_with (at_builtin;refine wpList_append_row _ rfl (.tmp 74) (.tmp 76) 23 rfl (w.heap.size+3) 25 i0 _ 4 64 Tryz.underlying23 hi hz0 hz1 hz2 rfl (by decide) (.slice p t c) t xs rfl ((own_kept HOWN.out HBW.out).alloc _) ⟨w5.heap.size,0,none⟩ 1 1 [.int .i64 fk.kind,.int .i64 fd,.slice p4 n4 c4,.slice p5 n5 c5] rfl rfl (cells_arr _ _ _ (by simp)) (by simp [Value.oneCell']) (by decide) (by unfold maxLen;omega) (by omega) (by have:=HGROW.out;have:=HBW.out.size;simp;omega) ?_;intro v' w6 ho6 hg6 hb6;obtain ⟨p6,c6,rfl⟩:=ho6.isSlice;have HO6:=Lib.hid ho6;have HG6:=Lib.hid hg6;have HB6:=Lib.hid hb6;have E1:=grownBy_blk hg6 (HD1.out.alloc _) (fun e=>by have:=(HOWN.out.lt _ e.symm).1;omega);have E2:=grownBy_blk hg6 (HD2.out.alloc _) (fun e=>by have:=(HOWN.out.lt _ e.symm).1;omega);have E8:=grownBy_blk hg6 (HD8.out.alloc _) (fun e=>by have:=(HOWN.out.lt _ e.symm).2;have:=HSZ3.out;omega);have HE1:=Lib.hid E1;have HE2:=Lib.hid E2;have HE8:=Lib.hid E8;obtain ⟨q6,y6,u6⟩:=E2.facts;obtain ⟨q9,y9,u9⟩:=E8.facts;clear ho6 hg6 hb6 E1 E2 E8)
    go_roundw
    case rel =>
     have hs3:=HSZ3.out
     have hs5:=HS5.out
     have hs6:=HG6.out.size
     have hgr:=HGROW.out
     simp at hs6
     have hne:∀ b,b<w5.heap.size→Value.ownBlock (.slice p t c) ≠ some b→Value.ownBlock (.slice p6 (t+1) c6) ≠ some b:=fun b hb hn=>by
      rcases HB6.out with h|h
      ·rw [h]
       exact hn
      ·rw [h]
       intro e
       have:=Option.some.inj e
       simp at this
       omega
     have hblk:∀ b,b<w5.heap.size→Value.ownBlock (.slice p t c) ≠ some b→w6.heap[b]?=w5.heap[b]?:=fun b hb hn=>by
      rw [HG6.out.block b (by simp;omega) (fun e=>hn e.symm)]
      exact Below.heap_alloc _ _ _ (by simpa using hb)
     have htk:=HTK.out
     rw [if_pos HYES.out] at htk
     refine ⟨i+1,t+1,p6,c6,_,?_,by go_num,by omega,by omega,?_,?_,by simp;omega,?_,?_,(HO6.out.kept (grownBy_set _ _ _ _) (HO6.out.ne_of_lt' (by omega))),?_⟩
     ·rw [htk,common_snoc,HCM.out,HFD.out,HAND.out]
      rfl
     ·rw [htk,List.length_append,HLT.out]
      rfl
     ·exact ((show Bel w _ from HBEL.out.trans (show Bel wr _ by (have HB:=HBW.out;exact EL))).of_row HG6.out (fun g hg=>by have:=(HOWN.out.lt g hg).1;omega)).setCell (by simp;omega) _
     ·have HB:=HE1.out
      exact KL
     ·exact Blk.cast (HE2.out.set 3 _) (by rfl)
     ·rw [htk]
      have hpush:=RowGm.push (g:=fk) (HROW.out.keep (w':=World.setCell w6 ⟨w.heap.size+1+1,0+3,none⟩ (.slice p6 (t+1) c6)) (G:=fun b=>w.heap.size+3≤b∧Value.ownBlock (.slice p6 (t+1) c6) ≠ some b) (by have:=HBW.out.size;simp;omega) (fun b hb hl=>?_) fun b hl hb=>⟨hb.1,hne b (by have:=HBW.out.size;omega) hb.2⟩) HLT.out HOWN.out.1 (HF5.out.keep (by simp;omega) (fun b hb hl=>?_) fun b hl hb=>⟨?_,?_⟩) (HG5.out.keep (by simp;omega) (fun b hb hl=>?_) fun b hl hb=>⟨?_,?_⟩)
      ·rw [HFD.out] at hpush
       exact hpush
      ·rw [Below.heap_setCell _ _ _ _ (by simp;omega),hblk b (by have:=HBW.out.size;omega) hb.2]
       exact HBW.out.block b hl
      ·rw [Below.heap_setCell _ _ _ _ (by simp at hb;simp;omega),hblk b hl (fun e=>by have h1:=(HOWN.out.lt _ e).2;simp at hb;omega)]
      ·simp at hb;omega
      ·exact hne b hl (fun e=>by have h1:=(HOWN.out.lt _ e).2;simp at hb;omega)
      ·rw [Below.heap_setCell _ _ _ _ (by simp at hb;simp;omega),hblk b hl (fun e=>by have h1:=(HOWN.out.lt _ e).2;simp at hb;omega)]
      ·simp at hb;omega
      ·exact hne b hl (fun e=>by have h1:=(HOWN.out.lt _ e).2;simp at hb;omega)
    case measure=>simp [intOf];omega
   ·have hdn:decide (want<0)=false:=decide_eq_false hneg
    by_cases heq:want=fk.kind
    ·have HYES:Hid (want<0∨want=fk.kind):=Lib.hid (Or.inr heq)
     have heqb:(want == fk.kind)=true:=by simpa using heq
     clear hneg heq
     go_quiet ((go_at_call 31;exact Calls.quiet_of_same ((HKI.out _).mono fun _ _ h=>⟨h.1,h.2.symm⟩)))
     generalize hW5:World.drewN (World.alloc w3 _) _=w5 at *
     have HB5:Hid (Bel w3 w5):=Lib.hid (by
      subst hW5
      exact EL)
     have hs5:w3.heap.size+1≤w5.heap.size:=by
      subst hW5
      simp
     have HS5:=Lib.hid hs5
     have C8:Blk w5 w3.heap.size #[.int .i64 fk.kind,.int .i64 fd,.slice p4 n4 c4,.slice p5 n5 c5] 25:=by
      subst hW5
      exact KL
     have C2:=HC2.out.bel HB5.out
     have C1:=HC1.out.bel HB5.out
     have HD1:=Lib.hid C1
     have HD2:=Lib.hid C2
     have HD8:=Lib.hid C8
     obtain ⟨q4,y4,u4⟩:=C2.facts
     obtain ⟨q8,y8,u8⟩:=C8.facts
     have HF5:=Lib.hid (HF4.out.bel HB5.out)
     have HG5:=Lib.hid (HG4.out.bel HB5.out)
     have HBW:Hid (Bel wr w5):=Lib.hid (HB3.out.trans HB5.out)
     clear hW5 C1 C2 C8 hs5
     go_wp2_with (at_builtin;refine wpList_append_row _ rfl (.tmp 74) (.tmp 76) 23 rfl (w.heap.size+3) 25 i0 _ 4 64 Tryz.underlying23 hi hz0 hz1 hz2 rfl (by decide) (.slice p t c) t xs rfl ((own_kept HOWN.out HBW.out).alloc _) ⟨w5.heap.size,0,none⟩ 1 1 [.int .i64 fk.kind,.int .i64 fd,.slice p4 n4 c4,.slice p5 n5 c5] rfl rfl (cells_arr _ _ _ (by simp)) (by simp [Value.oneCell']) (by decide) (by unfold maxLen;omega) (by omega) (by have:=HGROW.out;have:=HBW.out.size;simp;omega) ?_;intro v' w6 ho6 hg6 hb6;obtain ⟨p6,c6,rfl⟩:=ho6.isSlice;have HO6:=Lib.hid ho6;have HG6:=Lib.hid hg6;have HB6:=Lib.hid hb6;have E1:=grownBy_blk hg6 (HD1.out.alloc _) (fun e=>by have:=(HOWN.out.lt _ e.symm).1;omega);have E2:=grownBy_blk hg6 (HD2.out.alloc _) (fun e=>by have:=(HOWN.out.lt _ e.symm).1;omega);have E8:=grownBy_blk hg6 (HD8.out.alloc _) (fun e=>by have:=(HOWN.out.lt _ e.symm).2;have:=HSZ3.out;omega);have HE1:=Lib.hid E1;have HE2:=Lib.hid E2;have HE8:=Lib.hid E8;obtain ⟨q6,y6,u6⟩:=E2.facts;obtain ⟨q9,y9,u9⟩:=E8.facts;clear ho6 hg6 hb6 E1 E2 E8)
     go_roundw
     case rel =>
      have hs3:=HSZ3.out
      have hs5:=HS5.out
      have hs6:=HG6.out.size
      have hgr:=HGROW.out
      simp at hs6
      have hne:∀ b,b<w5.heap.size→Value.ownBlock (.slice p t c) ≠ some b→Value.ownBlock (.slice p6 (t+1) c6) ≠ some b:=fun b hb hn=>by
       rcases HB6.out with h|h
       ·rw [h]
        exact hn
       ·rw [h]
        intro e
        have:=Option.some.inj e
        simp at this
        omega
      have hblk:∀ b,b<w5.heap.size→Value.ownBlock (.slice p t c) ≠ some b→w6.heap[b]?=w5.heap[b]?:=fun b hb hn=>by
       rw [HG6.out.block b (by simp;omega) (fun e=>hn e.symm)]
       exact Below.heap_alloc _ _ _ (by simpa using hb)
      have htk:=HTK.out
      rw [if_pos HYES.out] at htk
      refine ⟨i+1,t+1,p6,c6,_,?_,by go_num,by omega,by omega,?_,?_,by simp;omega,?_,?_,(HO6.out.kept (grownBy_set _ _ _ _) (HO6.out.ne_of_lt' (by omega))),?_⟩
      ·rw [htk,common_snoc,HCM.out,HFD.out,HAND.out]
       rfl
      ·rw [htk,List.length_append,HLT.out]
       rfl
      ·exact ((show Bel w _ from HBEL.out.trans (show Bel wr _ by (have HB:=HBW.out;exact EL))).of_row HG6.out (fun g hg=>by have:=(HOWN.out.lt g hg).1;omega)).setCell (by simp;omega) _
      ·have HB:=HE1.out
       exact KL
      ·exact Blk.cast (HE2.out.set 3 _) (by rfl)
      ·rw [htk]
       have hpush:=RowGm.push (g:=fk) (HROW.out.keep (w':=World.setCell w6 ⟨w.heap.size+1+1,0+3,none⟩ (.slice p6 (t+1) c6)) (G:=fun b=>w.heap.size+3≤b∧Value.ownBlock (.slice p6 (t+1) c6) ≠ some b) (by have:=HBW.out.size;simp;omega) (fun b hb hl=>?_) fun b hl hb=>⟨hb.1,hne b (by have:=HBW.out.size;omega) hb.2⟩) HLT.out HOWN.out.1 (HF5.out.keep (by simp;omega) (fun b hb hl=>?_) fun b hl hb=>⟨?_,?_⟩) (HG5.out.keep (by simp;omega) (fun b hb hl=>?_) fun b hl hb=>⟨?_,?_⟩)
       ·rw [HFD.out] at hpush
        exact hpush
       ·rw [Below.heap_setCell _ _ _ _ (by simp;omega),hblk b (by have:=HBW.out.size;omega) hb.2]
        exact HBW.out.block b hl
       ·rw [Below.heap_setCell _ _ _ _ (by simp at hb;simp;omega),hblk b hl (fun e=>by have h1:=(HOWN.out.lt _ e).2;simp at hb;omega)]
       ·simp at hb;omega
       ·exact hne b hl (fun e=>by have h1:=(HOWN.out.lt _ e).2;simp at hb;omega)
       ·rw [Below.heap_setCell _ _ _ _ (by simp at hb;simp;omega),hblk b hl (fun e=>by have h1:=(HOWN.out.lt _ e).2;simp at hb;omega)]
       ·simp at hb;omega
       ·exact hne b hl (fun e=>by have h1:=(HOWN.out.lt _ e).2;simp at hb;omega)
     case measure=>simp [intOf];omega
    ·have HNO:Hid (¬ (want<0∨want=fk.kind)):=Lib.hid (by omega)
     have heqb:(want == fk.kind)=false:=by simpa using heq
     clear hneg heq
     go_quiet ((go_at_call 31;exact Calls.quiet_of_same ((HKI.out _).mono fun _ _ h=>⟨h.1,h.2.symm⟩)))
     generalize hW5:World.drewN (World.alloc w3 _) _=w5 at *
     have HB5:Hid (Bel w3 w5):=Lib.hid (by
      subst hW5
      exact EL)
     have hs5:w3.heap.size+1≤w5.heap.size:=by
      subst hW5
      simp
     have HS5:=Lib.hid hs5
     have C8:Blk w5 w3.heap.size #[.int .i64 fk.kind,.int .i64 fd,.slice p4 n4 c4,.slice p5 n5 c5] 25:=by
      subst hW5
      exact KL
     have C2:=HC2.out.bel HB5.out
     have C1:=HC1.out.bel HB5.out
     have HD1:=Lib.hid C1
     have HD2:=Lib.hid C2
     have HD8:=Lib.hid C8
     obtain ⟨q4,y4,u4⟩:=C2.facts
     obtain ⟨q8,y8,u8⟩:=C8.facts
     have HF5:=Lib.hid (HF4.out.bel HB5.out)
     have HG5:=Lib.hid (HG4.out.bel HB5.out)
     have HBW:Hid (Bel wr w5):=Lib.hid (HB3.out.trans HB5.out)
     clear hW5 C1 C2 C8 hs5
     go_wp2
     go_roundw
     case rel =>
      have hs5:=HS5.out
      have hs3:=HSZ3.out
      have hgr:=HGROW.out
      have htk:=HTK.out
      rw [if_neg HNO.out,List.append_nil] at htk
      refine ⟨i+1,t,p,c,xs,?_,by go_num,by omega,by omega,?_,HBEL.out.trans HBW.out,by omega,HD1.out,HD2.out,own_kept HOWN.out HBW.out,?_⟩
      ·rw [htk,HCM.out]
      ·rw [htk,HLT.out]
      ·rw [htk]
       exact HROW.out.keep HBW.out.size (fun b hb hl=>HBW.out.block b hl) fun b hl hb=>hb
     case measure=>simp [intOf];omega
  ·obtain rfl:i=n:=by omega
   have htn:=List.take_of_length_le (l:=ks) (i:=i) (by have:=HN.out;omega)
   have hrow:=HROW.out
   rw [htn] at hrow
   have hlen:=HLT.out
   rw [htn] at hlen
   have hcm:=HCM.out
   rw [htn] at hcm
   have HGS:Hid (GmSl (fun b=>w.heap.size+3≤b) wr (.slice p t c) (newAll want ks)):=Lib.hid (RowGm.sl HOWN.out hrow hlen (fun b hb=>hb) fun b _ hb=>hb.1)
   have HCM3:Hid (cm≤3):=Lib.hid hcm3
   clear hrow hbel htn hcm3
   by_cases ht0:t=0
   ·have hnil:newAll want ks=[]:=List.length_eq_zero_iff.1 (by omega)
    have HEND:Hid (∀ W:World,wr.heap.size≤W.heap.size→(∀ b,w.heap.size+3≤b→b<wr.heap.size→W.heap[b]?=wr.heap[b]?)→Bel w W→IsGm G (newOf (.mk k d ns ks)) w (.returned (.agg #[.int .i64 (0:Int),.int .i64 cd,.slice none 0 0,.slice p t c])) W):=Lib.hid fun W hW hk hb=>by
     rw [HE0.out hnil]
     have hgs:=HGS.out
     rw [hnil] at hgs
     exact ⟨_,_,_,_,_,_,rfl,FlSl.nil _ _,hgs.keep hW hk (fun b _ hb=>hG b (by omega)),hb⟩
    clear hnil hlen hcm
    have HT0:=Lib.hid ht0
    have ht0':((t:Int) == 0)=true:=by simpa using ht0
    clear ht0
    go_wp2
    refine post_ret (results_one rfl (resIs_agg (n:=4) (cs:=#[.int .i64 (0:Int),.int .i64 cd,.slice none 0 0,.slice p t c]) (by rfl) Tryz.underlying25 (by kernel_rfl) (T:=25) ?_ rfl)) (HEND.out _ ?_ (fun b hb hl=>?_) ?_)
    ·have HB:=HG1.out
     exact SL
    ·simp
    ·repeat rw [Below.heap_setCell _ _ _ _ (by simp;omega)]
    ·have HB:=HBEL.out
     exact EL
   ·have hne:newAll want ks ≠ []:=fun h=>by
     rw [h] at hlen
     simp at hlen
     omega
    have HFO:Hid (∀ W,Bel wr W→Calls Tryz.prog 32 #[.agg #[.int .i64 (0:Int),.int .i64 cd,.slice none 0 0,.slice p t c],.int .i64 cm] W (IsGm (fun b=>W.heap.size≤b) (newOf (.mk k d ns ks)) W)):=Lib.hid fun W hW=>by
     rw [HE1.out hne,hcm]
     exact GmArg.of (g:=.mk (0:Int) cd [] (newAll want ks)) (spForce_any cm HCM3.out _ HBIG.out (fun b=>W.heap.size≤b)) (F:=fun b=>w.heap.size+3≤b) (w:=wr) (FlSl.nil _ _) HGS.out hW (fun b hb=>hb)
    have HN0:=Lib.hid ht0
    have ht0':((t:Int) == 0)=false:=by simpa using ht0
    clear hne ht0 hlen hcm
    generalize newOf (.mk k d ns ks)=fin at *
    go_wp2_with (go_at_call 32;(with_reducible refine (HFO.out _ ?hb).mono ?_);(case hb=>exact EL);rintro e w3 ⟨p4,n4,c4,p5,n5,c5,rfl,hf4,hg4,hb4⟩;have HF4:=Lib.hid hf4;have HG4:=Lib.hid hg4;have HB4:=Lib.hid hb4;have C1:=HG1.out.bel hb4;have HC1:=Lib.hid C1;obtain ⟨q3,y3,u3⟩:=C1.facts;clear hf4 hg4 hb4 C1)
    have HEND:Hid (∀ W:World,w3.heap.size≤W.heap.size→(∀ b,w.heap.size+3≤b→b<w3.heap.size→W.heap[b]?=w3.heap[b]?)→Bel w W→IsGm G fin w (.returned (.agg #[.int .i64 fin.kind,.int .i64 fin.dim,.slice p4 n4 c4,.slice p5 n5 c5])) W):=Lib.hid fun W hW hk hb=>by
     have hs:=HGROW.out
     exact ⟨_,_,_,_,_,_,rfl,HF4.out.keep hW (fun b hb hl=>hk b (by omega) hl) (fun b _ hb=>hG b (by omega)),HG4.out.keep hW (fun b hb hl=>hk b (by omega) hl) (fun b _ hb=>hG b (by omega)),hb⟩
    refine post_ret (results_one rfl (resIs_agg (n:=4) (cs:=#[.int .i64 fin.kind,.int .i64 fin.dim,.slice p4 n4 c4,.slice p5 n5 c5]) (by rfl) Tryz.underlying25 (by kernel_rfl) (T:=25) ?_ rfl)) (HEND.out _ ?_ (fun b hb hl=>?_) ?_)
    ·have HB:=HC1.out
     exact SL
    ·simp
    ·repeat rw [Below.heap_setCell _ _ _ _ (by simp;omega)]
    ·have HB:=HBEL.out.trans HB4.out
     exact EL
theorem spNew_ind:∀ (n:Nat) (g:Gm),g.size≤n→g.size≤1048576→SpNew g:=by
 intro n
 induction n with
 | zero=>exact fun g h _=>absurd h (by have:=g.size_pos;omega)
 | succ n ih =>
  intro g hsz hbig
  obtain ⟨k,d,ns,ks⟩:=g
  have hih:∀ g ∈ ks,SpNew g:=fun g hg=>ih g (by
   have h2:=Gm.size_mem hg
   simp only [Gm.size] at hsz
   omega) (by
   have h2:=Gm.size_mem hg
   simp only [Gm.size] at hbig
   omega)
  have hnl:ns.length≤1048576:=by
   simp only [Gm.size] at hbig
   omega
  by_cases h0:k<0
  ·exact spNewLo k d ns ks h0 hbig hih
  ·by_cases h6:6<k
   ·exact spNewHi k d ns ks h6 hbig hih
   ·by_cases h1:k=1
    ·subst h1
     exact spNewPoint_any d ns ks hnl
    ·by_cases h2:k=2
     ·subst h2
      exact newLine_any d ns ks hnl
     ·exact spNewIn k d ns ks (by omega) (by omega) h1 h2 hbig hih
/-- spec.New gives what newOf says. -/
theorem spNew_any (g:Gm) (h:g.size≤1048576):SpNew g:=spNew_ind g.size g (Nat.le_refl _) h
end Go.Proofs.YtpipehenfcbjbaaGreatDoor
