/-
 impl.plainPolygon: a polygon as plain data. No panic;what stood in memory has not turned.
-/
import Derived.Test.YtpipehenfcbjbaaGreatDoorPyd
import Derived.Test.YtpipehenfcbjbaaGreatDoorPyc
import Derived.Test.YtpipehenfcbjbaaGreatDoorPag
set_option linter.unusedVariables false
set_option linter.unusedSimpArgs false
namespace Go.Proofs.YtpipehenfcbjbaaGreatDoor
open Go.ChangeShapes Go.WideShapes Go.ChangeAt Go.RowKit
theorem ObSl.keepR {F G:Nat→Prop} {w w':World} {e k:Nat} {v:Value} {gs:List Gm} (h:ObSl F w e k v gs) (hs:w.heap.size≤w'.heap.size) (hk:∀ b,F b→b<w.heap.size→w'.heap[b]?=w.heap[b]?) (hG:∀ b,b<w.heap.size→F b→G b):ObSl G w' e k v gs:=by
 obtain ⟨p,cap,hv,h1,h2,hq⟩:=h
 refine ⟨p,cap,hv,h1,h2,fun hn=>?_⟩
 obtain ⟨b,off,hp,hlt,hF,hr⟩:=hq hn
 refine ⟨b,off,hp,by omega,hG b hlt hF,fun i g hg=>?_⟩
 obtain ⟨cl,hl,hc,ho⟩:=hr i g hg
 exact ⟨cl,hl,fun j u hj=>(World.cell?_of_block (w:=w) (hk b hF hlt)).trans (hc j u hj),ho.keep hs hk hG⟩
set_option maxHeartbeats 8000000 in
set_option maxRecDepth 100000 in
theorem plainPolygon_any (g:Gm):PlainOk 3 99 g:=fun F G cs w hG h=>by
 have HDR:Hid (∀ W,Bel w W→Calls Tryz.prog 177 #[.agg cs.toArray] W (IsRings (fun b=>b<w.heap.size∨W.heap.size≤b) g.kids.length g.kids W)):=Lib.hid fun W hW=>dumpRings_any (h.mono (G:=fun b=>b<w.heap.size) fun b hl _=>hl) W hW
 obtain ⟨p,cap,c,ks,rfl,hc,rfl,hn31,-⟩:=h.sl (e:=2) (k:=2) rfl
 show Calls Tryz.prog 99 #[.agg #[.slice p ks.length cap,.int .u8 c]] w (IsGm G (.mk (3:Nat) c [] ks) w)
 have HDS:Hid (∀ W,Bel w W→Calls Tryz.prog 177 #[.agg #[.slice p ks.length cap,.int .u8 c]] W (IsRings (fun b=>b<w.heap.size∨W.heap.size≤b) ks.length ks W)):=Lib.hid HDR.out
 clear HDR h
 generalize hn:ks.length=n at *
 have HN:=Lib.hid hn
 clear hn
 have HTYP:=Lib.hid (polygonType_any c p n cap)
 have hcv:IntKind.i64.wrap (c:Int)=(c:Int):=by
  rw [IntKind.wrap_i64]
  omega
 obtain ⟨i0,hi,hz0,hz1,hz2⟩:=info_parts infoGm
 go_enter Tryz.func99,Tryz.ntmps99
 go_wp2_with (first
  | (go_at_call 177;(with_reducible refine (HDS.out _ ?hx).mono ?_);(case hx=>(have HB:=HB1.out;exact EL));rintro e w2 ⟨pr,rfl,hsl,hb2⟩;have HSL:=Lib.hid hsl;have HB2:Hid (Bel w w2):=Lib.hid ((show Bel w _ by (have HB:=HB1.out;exact EL)).trans hb2);have HL2:Hid (w1.heap.size<w2.heap.size):=Lib.hid (by have:=hb2.size;simp at this;omega);have C2:Blk w2 (w.heap.size+1) #[.int .i64 0,.int .i64 0,.slice none 0 0,.slice none 0 0] 25:=Blk.bel (by (have HB:=HR1.out;exact KL)) hb2;have HR2:=Lib.hid C2;have C3:Blk w2 w1.heap.size #[.int .i64 3,.int .i64 c,.slice none 0 0,.slice none 0 0] 25:=Blk.bel (by exact KL) hb2;have HE2:=Lib.hid C3;clear hsl hb2 C2 C3)
  | (go_at_call 113;(with_reducible refine (HTYP.out _).mono ?_);rintro e w1 ⟨rfl,hb1⟩;have HB1:Hid (Bel w w1):=Lib.hid ((show Bel w _ by exact EL).trans hb1);have HLT:Hid (w.heap.size+1<w1.heap.size):=Lib.hid (by have:=hb1.size;simp at this;omega);have C1:Blk w1 w.heap.size #[.slice p n cap,.int .u8 c] 91:=Blk.bel (by exact KL) hb1;obtain ⟨r1,y1,l1⟩:=C1.facts;have HR1:Hid (Blk w1 (w.heap.size+1) #[.int .i64 0,.int .i64 0,.slice none 0 0,.slice none 0 0] 25):=Lib.hid (Blk.bel (by exact KL) hb1);have hn3:w.heap.size+1 ≠ w1.heap.size:=Nat.ne_of_lt HLT.out;have hn4:w1.heap.size ≠ w.heap.size+1:=Nat.ne_of_gt HLT.out;clear hb1 C1))
 have HSL2:Hid (ObSl (fun b=>b<w.heap.size∨w1.heap.size+1≤b) w2 2 2 (.slice pr n n) ks):=Lib.hid (HSL.out.keepR (Nat.le_refl _) (fun _ _ _=>rfl) fun b _ hb=>by rcases hb with h|h;exact Or.inl h;(simp at h;exact Or.inr h))
 clear HSL
 go_loopw [13] (fun iv wr=>∃ (t:Nat) (p0:Option Addr) (c0:Nat) (xs:List Value),iv=.int .i64 t∧t≤n∧Bel w wr∧w2.heap.size≤wr.heap.size∧(∀ b,b ≠ w1.heap.size→b<w2.heap.size→wr.heap[b]?=w2.heap[b]?)∧Blk wr w1.heap.size #[.int .i64 3,.int .i64 c,.slice none 0 0,.slice p0 t c0] 25∧wr.ownsRow w2.heap.size 25 4 (.slice p0 t c0) t xs∧RowGm (fun b=>w2.heap.size≤b∧Value.ownBlock (.slice p0 t c0) ≠ some b) wr xs (ks.take t)) (fun iv _=>n - (intOf iv).toNat)
 case atStart=>exact ⟨0,none,0,[],rfl,Nat.zero_le _,HB2.out,Nat.le_refl _,fun _ _ _=>rfl,HE2.out,World.ownsRow_nil _ _ _ _,fun i g hg=>by simp at hg⟩
 case round =>
  obtain ⟨t,p0,c0,xs,rfl,ht,hbel,hlw,hkeep,hb3,hown,hrow⟩:=hrel
  have HBEL:=Lib.hid hbel
  have HLW:=Lib.hid hlw
  have HKP:=Lib.hid hkeep
  have HE3:=Lib.hid hb3
  have HOWN:=Lib.hid hown
  have HROW:=Lib.hid hrow
  obtain ⟨r3,y3,l3⟩:=hb3.facts
  have HSR:Hid (ObSl (fun _=>True) wr 2 2 (.slice pr n n) ks):=Lib.hid (HSL2.out.keepR hlw (fun b hb hl=>hkeep b (by rcases hb with h|h;(have:=HLT.out;omega);omega) hl) fun _ _ _=>trivial)
  clear hb3 hown hrow hbel hlw hkeep
  by_cases htn:t<n
  ·obtain ⟨kd,hkd⟩:∃ kd,ks[t]?=some kd:=⟨_,List.getElem?_eq_getElem (by have:=HN.out;omega)⟩
   have HTK:Hid (ks.take (t+1)=ks.take t ++ [kd]):=Lib.hid (by rw [List.take_add_one,hkd];rfl)
   have HLT2:Hid ((ks.take t).length=t):=Lib.hid (by rw [List.length_take,HN.out];omega)
   obtain ⟨_,_,hve,_,_,hq⟩:=HSR.out
   cases hve
   obtain ⟨b,off,rfl,hlt,-,hr⟩:=hq (by intro e;rw [e] at hkd;simp at hkd)
   obtain ⟨cl,hcl,hcell,hob⟩:=hr t kd hkd
   have HPL:Hid (∀ W,Bel wr W→Calls Tryz.prog 98 #[.agg cl.toArray] W (IsGm (fun b=>W.heap.size≤b) kd W)):=Lib.hid fun W hW=>plainLine_any kd _ (fun b=>W.heap.size≤b) cl W (fun b hb=>hb) (hob.bel hW)
   obtain ⟨x0,x1,x2,x3,x4,hcs,-⟩:=hob.ln
   subst hcs
   change Hid (∀ W,Bel wr W→Calls Tryz.prog 98 #[.agg #[.int .u8 x0,.slice x1 x2 x3]] W (IsGm (fun b=>W.heap.size≤b) kd W)) at HPL
   have D0:wr.cell? ⟨b,off+t*2,none⟩=some (.int .u8 x0):=by simpa using hcell 0 _ rfl
   have D1:wr.cell? ⟨b,off+(t*2+1),none⟩=some (.slice x1 x2 x3):=hcell 1 _ rfl
   have E1:=D1
   rw [← Nat.add_assoc] at E1
   have HDB:Hid (b<wr.heap.size):=Lib.hid hlt
   clear hq hr hcell hob hcl hkd
   go_wp2
   go_region_law (first
    | (go_simp;go_at_call 98;(with_reducible refine (HPL.out _ ?hx).mono ?_);(case hx=>exact EL);rintro e w4 ⟨p4,n4,c4,p5,n5,c5,rfl,hf4,hg4,hb4⟩;have HF4:=Lib.hid hf4;have HG4:=Lib.hid hg4;have HX4:Hid (Bel wr w4):=Lib.hid ((show Bel wr _ by exact EL).trans hb4);have HW34:Hid (wr.heap.size+1≤w4.heap.size):=Lib.hid (by have:=hb4.size;simp at this;omega);have C3:=HE3.out.bel HX4.out;have HC3:=Lib.hid C3;obtain ⟨q3,q4,q5⟩:=C3.facts;clear hf4 hg4 hb4 C3)
    | (refine step_append_row _ rfl (.tmp 18) (.tmp 21) 23 rfl w2.heap.size 25 i0 _ 4 64 Tryz.underlying23 hi hz0 hz1 hz2 rfl (by decide) (.slice p0 t c0) t xs rfl ((own_kept HOWN.out HX4.out).alloc _) ⟨w4.heap.size,0,none⟩ 1 1 [.int .i64 kd.kind,.int .i64 kd.dim,.slice p4 n4 c4,.slice p5 n5 c5] rfl rfl (cells_arr _ _ _ (by simp)) (by simp [Value.oneCell']) (by decide) (by unfold maxLen;omega) (by omega) (by have:=HLW.out;have:=HX4.out.size;simp;omega) ?_;intro v' w6 ho6 hg6 hb6;obtain ⟨p6,c6,rfl⟩:=ho6.isSlice;have HO6:=Lib.hid ho6;have HG6:=Lib.hid hg6;have HB6:=Lib.hid hb6;have E3:=grownBy_blk hg6 (HC3.out.alloc _) (fun e=>by have:=(HOWN.out.lt _ e.symm).1;have:=HL2.out;omega);have HE6:=Lib.hid E3;obtain ⟨q6,y6,u6⟩:=E3.facts;clear ho6 hg6 hb6 E3))
   all_goals
    go_wp2
    go_roundw
    case rel =>
     have hs3:=HW34.out
     have hs6:=HG6.out.size
     have hlt:=HLT.out
     have hl2:=HL2.out
     have hlw:=HLW.out
     simp at hs6
     have hne:∀ b,b<w4.heap.size→Value.ownBlock (.slice p0 t c0) ≠ some b→Value.ownBlock (.slice p6 (t+1) c6) ≠ some b:=fun b hb hn=>by
      rcases HB6.out with h|h
      ·rw [h]
       exact hn
      ·rw [h]
       intro e
       have:=Option.some.inj e
       simp at this
       omega
     have hblk:∀ b,b<w4.heap.size→Value.ownBlock (.slice p0 t c0) ≠ some b→w6.heap[b]?=w4.heap[b]?:=fun b hb hn=>by
      rw [HG6.out.block b (by simp;omega) (fun e=>hn e.symm)]
      exact Below.heap_alloc _ _ _ (by simpa using hb)
     refine ⟨t+1,p6,c6,_,by go_num,by omega,?_,by simp;omega,fun b hb hl=>?_,?_,(HO6.out.kept (grownBy_set _ _ _ _) (HO6.out.ne_of_lt' (by omega))),?_⟩
     ·exact Bel.setCellR (by show w.heap.size≤w1.heap.size;omega) (((HBEL.out.trans HX4.out).alloc _).of_row HG6.out (fun g hg=>by have:=(HOWN.out.lt g hg).1;omega))
     ·rw [Below.heap_setCell _ _ _ _ (by simpa using hb),hblk b (by omega) (fun e=>by have:=(HOWN.out.lt _ e).1;omega),HX4.out.block b (by omega)]
      exact HKP.out b hb hl
     ·exact Blk.cast (HE6.out.set 3 _) (by rfl)
     ·rw [HTK.out]
      refine RowGm.push (HROW.out.keep (by simp;omega) (fun b hb hl=>?_) fun b hl hb=>⟨hb.1,hne b (by omega) hb.2⟩) HLT2.out HOWN.out.1 (HF4.out.keep (by simp;omega) (fun b hb hl=>?_) fun b hl hb=>⟨?_,?_⟩) (HG4.out.keep (by simp;omega) (fun b hb hl=>?_) fun b hl hb=>⟨?_,?_⟩)
      ·rw [Below.heap_setCell _ _ _ _ (by simp;omega),hblk b (by omega) hb.2]
       exact HX4.out.block b hl
      ·rw [Below.heap_setCell _ _ _ _ (by simp at hb;simp;omega),hblk b hl (fun e=>by have h1:=(HOWN.out.lt _ e).2;simp at hb;omega)]
      ·simp at hb;omega
      ·exact hne b hl (fun e=>by have h1:=(HOWN.out.lt _ e).2;simp at hb;omega)
      ·rw [Below.heap_setCell _ _ _ _ (by simp at hb;simp;omega),hblk b hl (fun e=>by have h1:=(HOWN.out.lt _ e).2;simp at hb;omega)]
      ·simp at hb;omega
      ·exact hne b hl (fun e=>by have h1:=(HOWN.out.lt _ e).2;simp at hb;omega)
    case measure=>simp [intOf];omega
  ·obtain rfl:t=n:=by omega
   have hrow:=HROW.out
   rw [List.take_of_length_le (by have:=HN.out;omega)] at hrow
   have HGS:Hid (GmSl (fun b=>w2.heap.size≤b) wr (.slice p0 t c0) ks):=Lib.hid (RowGm.sl HOWN.out hrow HN.out (fun b hb=>hb) fun b _ hb=>hb.1)
   have C2:Blk wr (w.heap.size+1) #[.int .i64 0,.int .i64 0,.slice none 0 0,.slice none 0 0] 25:=by
    have h1:=HR2.out
    have h2:=HKP.out (w.heap.size+1) (by omega) (by have:=HL2.out;have:=HLT.out;omega)
    unfold Blk at h1 ⊢
    rw [h2]
    exact h1
   have HR3:=Lib.hid C2
   obtain ⟨f2a,f2b,f2c⟩:=C2.facts
   clear hrow C2
   go_wp2
   refine post_ret (results_one rfl (resIs_agg (n:=4) (cs:=#[.int .i64 3,.int .i64 c,.slice none 0 0,.slice p0 t c0]) (by rfl) Tryz.underlying25 (by kernel_rfl) (T:=25) ?_ rfl)) ⟨_,_,_,_,_,_,rfl,FlSl.nil _ _,?_,?_⟩
   ·have HB:=HR3.out
    exact SL
   ·have h2:=HLT.out
    have h3:=HL2.out
    refine HGS.out.keep (by simp) (fun b hb hl=>?_) (fun b _ hb=>hG b (by omega))
    repeat rw [Below.heap_setCell _ _ _ _ (by simp;omega)]
   ·have HB:=HBEL.out
    exact EL
end Go.Proofs.YtpipehenfcbjbaaGreatDoor
set_option linter.unusedVariables false
set_option linter.unusedSimpArgs false
namespace Go.Proofs.YtpipehenfcbjbaaGreatDoor
open Go.ChangeShapes Go.WideShapes Go.ChangeAt Go.RowKit
set_option maxHeartbeats 4000000 in
set_option maxRecDepth 100000 in
theorem plain_0 (g:Gm) (hih:∀ k ∈ g.kids,PlainOk 7 40 k) (F G:Nat→Prop) (b:Nat) (cl:List Value) (w:World) (hG:New G w) (hc:∀ (j:Nat) (u:Value),cl[j]?=some u→w.cell? ⟨b,j,none⟩=some u) (ho:Ob F w 0 cl g):Calls Tryz.prog 40 #[.agg #[.int .i64 0,.iface 170 (.pointer (some ⟨b,0,none⟩))]] w (IsGm G g w):=by
 have HP:Hid (∀ W,Bel w W→w.heap.size+2≤W.heap.size→Calls Tryz.prog 103 #[.agg cl.toArray] W (IsGm (fun b=>w.heap.size+2≤b) g W)):=Lib.hid fun W hW hs=>(plainCollection_any _ hih) F (fun b=>w.heap.size+2≤b) cl W (fun b hb=>Nat.le_trans hs hb) (ho.bel hW)
 obtain ⟨p,cap,c,gs,hcs,-⟩:=ho.sl (e:=7) (k:=2) rfl
 subst hcs
 have HM:Hid (∀ W,Bel w W→Calls Tryz.prog 83 #[.agg #[.int .i64 0,.iface 170 (.pointer (some ⟨b,0,none⟩))]] W fun e w'=>e=.returned (.agg #[.slice p gs.length cap,.int .u8 c])∧Bel W w'):=Lib.hid fun W hW=>mustAs_0 p gs.length cap c b W (cell_kept hW (hc 0 _ rfl)) (cell_kept hW (hc 1 _ rfl))
 change Hid (∀ W,Bel w W→w.heap.size+2≤W.heap.size→Calls Tryz.prog 103 #[.agg #[.slice p gs.length cap,.int .u8 c]] W (IsGm (fun b=>w.heap.size+2≤b) g W)) at HP
 have HK:=Lib.hid geoKind_any
 clear hc ho
 go_enter Tryz.func40,Tryz.ntmps40
 go_wp2_with (first
  | (go_at_call 103;(with_reducible refine (HP.out _ HB2.out HS2.out).mono ?_);rintro e w3 ⟨p4,n4,c4,p5,n5,c5,rfl,hf4,hg4,hb4⟩;have HF4:=Lib.hid hf4;have HG4:=Lib.hid hg4;have HB3:Hid (Bel w w3):=Lib.hid (HB2.out.trans hb4);have C3:=HR2.out.bel hb4;have HR3:=Lib.hid C3;obtain ⟨q3,q4,q5⟩:=C3.facts;clear hf4 hg4 hb4 C3)
  | (go_at_call 83;(with_reducible refine (HM.out _ HB1.out).mono ?_);rintro e w2 ⟨rfl,hb2⟩;have HB2:Hid (Bel w w2):=Lib.hid (HB1.out.trans hb2);have HS2:Hid (w.heap.size+2≤w2.heap.size):=Lib.hid (Nat.le_trans HS1.out hb2.size);have HR2:=Lib.hid (HR1.out.bel hb2);clear hb2)
  | (go_at_call 44;(with_reducible refine (HK.out _ _ _).mono ?_);rintro e w1 ⟨rfl,hb1⟩;have HB1:Hid (Bel w w1):=Lib.hid ((show Bel w _ by exact EL).trans hb1);have HS1:Hid (w.heap.size+2≤w1.heap.size):=Lib.hid (by have:=hb1.size;simp at this;omega);have C1:Blk w1 w.heap.size #[.int .i64 0,.iface 170 (.pointer (some ⟨b,0,none⟩))] 64:=Blk.bel (by exact KL) hb1;obtain ⟨r1,y1,l1⟩:=C1.facts;have HR1:Hid (Blk w1 (w.heap.size+1) #[.int .i64 0,.int .i64 0,.slice none 0 0,.slice none 0 0] 25):=Lib.hid (Blk.bel (by exact KL) hb1);clear hb1 C1))
 refine post_ret (results_one rfl (resIs_agg (n:=4) (cs:=#[.int .i64 g.kind,.int .i64 g.dim,.slice p4 n4 c4,.slice p5 n5 c5]) (by rfl) Tryz.underlying25 (by kernel_rfl) (T:=25) ?_ rfl)) ⟨_,_,_,_,_,_,rfl,?_,?_,?_⟩
 ·have HB:=HR3.out
  exact SL
 ·refine HF4.out.keep (by simp) (fun b hb hl=>?_) (fun b _ hb=>hG b (by omega))
  repeat rw [Below.heap_setCell _ _ _ _ (by simp;omega)]
 ·refine HG4.out.keep (by simp) (fun b hb hl=>?_) (fun b _ hb=>hG b (by omega))
  repeat rw [Below.heap_setCell _ _ _ _ (by simp;omega)]
 ·have HB:=HB3.out
  exact EL
set_option maxHeartbeats 4000000 in
set_option maxRecDepth 100000 in
theorem plain_1 (g:Gm) (F G:Nat→Prop) (b:Nat) (cl:List Value) (w:World) (hG:New G w) (hc:∀ (j:Nat) (u:Value),cl[j]?=some u→w.cell? ⟨b,j,none⟩=some u) (ho:Ob F w 1 cl g):Calls Tryz.prog 40 #[.agg #[.int .i64 1,.iface 164 (.pointer (some ⟨b,0,none⟩))]] w (IsGm G g w):=by
 have HP:Hid (∀ W,Bel w W→w.heap.size+2≤W.heap.size→Calls Tryz.prog 96 #[.agg cl.toArray] W (IsGm (fun b=>w.heap.size+2≤b) g W)):=Lib.hid fun W hW hs=>(plainPoint_any _) F (fun b=>w.heap.size+2≤b) cl W (fun b hb=>Nat.le_trans hs hb) (ho.bel hW)
 obtain ⟨x,y,z,m,c,full,hcs,-,-⟩:=ho.pt
 subst hcs
 have HM:Hid (∀ W,Bel w W→Calls Tryz.prog 97 #[.agg #[.int .i64 1,.iface 164 (.pointer (some ⟨b,0,none⟩))]] W fun e w'=>e=.returned (.agg #[.float .f64 x,.float .f64 y,.float .f64 z,.float .f64 m,.int .u8 c,.bool full])∧Bel W w'):=Lib.hid fun W hW=>mustAs_1 x y z m c full b W (cell_kept hW (hc 0 _ rfl)) (cell_kept hW (hc 1 _ rfl)) (cell_kept hW (hc 2 _ rfl)) (cell_kept hW (hc 3 _ rfl)) (cell_kept hW (hc 4 _ rfl)) (cell_kept hW (hc 5 _ rfl))
 change Hid (∀ W,Bel w W→w.heap.size+2≤W.heap.size→Calls Tryz.prog 96 #[.agg #[.float .f64 x,.float .f64 y,.float .f64 z,.float .f64 m,.int .u8 c,.bool full]] W (IsGm (fun b=>w.heap.size+2≤b) g W)) at HP
 have HK:=Lib.hid geoKind_any
 clear hc ho
 go_enter Tryz.func40,Tryz.ntmps40
 go_wp2_with (first
  | (go_at_call 96;(with_reducible refine (HP.out _ HB2.out HS2.out).mono ?_);rintro e w3 ⟨p4,n4,c4,p5,n5,c5,rfl,hf4,hg4,hb4⟩;have HF4:=Lib.hid hf4;have HG4:=Lib.hid hg4;have HB3:Hid (Bel w w3):=Lib.hid (HB2.out.trans hb4);have C3:=HR2.out.bel hb4;have HR3:=Lib.hid C3;obtain ⟨q3,q4,q5⟩:=C3.facts;clear hf4 hg4 hb4 C3)
  | (go_at_call 97;(with_reducible refine (HM.out _ HB1.out).mono ?_);rintro e w2 ⟨rfl,hb2⟩;have HB2:Hid (Bel w w2):=Lib.hid (HB1.out.trans hb2);have HS2:Hid (w.heap.size+2≤w2.heap.size):=Lib.hid (Nat.le_trans HS1.out hb2.size);have HR2:=Lib.hid (HR1.out.bel hb2);clear hb2)
  | (go_at_call 44;(with_reducible refine (HK.out _ _ _).mono ?_);rintro e w1 ⟨rfl,hb1⟩;have HB1:Hid (Bel w w1):=Lib.hid ((show Bel w _ by exact EL).trans hb1);have HS1:Hid (w.heap.size+2≤w1.heap.size):=Lib.hid (by have:=hb1.size;simp at this;omega);have C1:Blk w1 w.heap.size #[.int .i64 1,.iface 164 (.pointer (some ⟨b,0,none⟩))] 64:=Blk.bel (by exact KL) hb1;obtain ⟨r1,y1,l1⟩:=C1.facts;have HR1:Hid (Blk w1 (w.heap.size+1) #[.int .i64 0,.int .i64 0,.slice none 0 0,.slice none 0 0] 25):=Lib.hid (Blk.bel (by exact KL) hb1);clear hb1 C1))
 refine post_ret (results_one rfl (resIs_agg (n:=4) (cs:=#[.int .i64 g.kind,.int .i64 g.dim,.slice p4 n4 c4,.slice p5 n5 c5]) (by rfl) Tryz.underlying25 (by kernel_rfl) (T:=25) ?_ rfl)) ⟨_,_,_,_,_,_,rfl,?_,?_,?_⟩
 ·have HB:=HR3.out
  exact SL
 ·refine HF4.out.keep (by simp) (fun b hb hl=>?_) (fun b _ hb=>hG b (by omega))
  repeat rw [Below.heap_setCell _ _ _ _ (by simp;omega)]
 ·refine HG4.out.keep (by simp) (fun b hb hl=>?_) (fun b _ hb=>hG b (by omega))
  repeat rw [Below.heap_setCell _ _ _ _ (by simp;omega)]
 ·have HB:=HB3.out
  exact EL
set_option maxHeartbeats 4000000 in
set_option maxRecDepth 100000 in
theorem plain_2 (g:Gm) (F G:Nat→Prop) (b:Nat) (cl:List Value) (w:World) (hG:New G w) (hc:∀ (j:Nat) (u:Value),cl[j]?=some u→w.cell? ⟨b,j,none⟩=some u) (ho:Ob F w 2 cl g):Calls Tryz.prog 40 #[.agg #[.int .i64 2,.iface 162 (.pointer (some ⟨b,0,none⟩))]] w (IsGm G g w):=by
 have HP:Hid (∀ W,Bel w W→w.heap.size+2≤W.heap.size→Calls Tryz.prog 98 #[.agg cl.toArray] W (IsGm (fun b=>w.heap.size+2≤b) g W)):=Lib.hid fun W hW hs=>(plainLine_any _) F (fun b=>w.heap.size+2≤b) cl W (fun b hb=>Nat.le_trans hs hb) (ho.bel hW)
 obtain ⟨c,p,n,cap,xs,hcs,-⟩:=ho.ln
 subst hcs
 have HM:Hid (∀ W,Bel w W→Calls Tryz.prog 67 #[.agg #[.int .i64 2,.iface 162 (.pointer (some ⟨b,0,none⟩))]] W fun e w'=>e=.returned (.agg #[.int .u8 c,.slice p n cap])∧Bel W w'):=Lib.hid fun W hW=>mustAs_2 c p n cap b W (cell_kept hW (hc 0 _ rfl)) (cell_kept hW (hc 1 _ rfl))
 change Hid (∀ W,Bel w W→w.heap.size+2≤W.heap.size→Calls Tryz.prog 98 #[.agg #[.int .u8 c,.slice p n cap]] W (IsGm (fun b=>w.heap.size+2≤b) g W)) at HP
 have HK:=Lib.hid geoKind_any
 clear hc ho
 go_enter Tryz.func40,Tryz.ntmps40
 go_wp2_with (first
  | (go_at_call 98;(with_reducible refine (HP.out _ HB2.out HS2.out).mono ?_);rintro e w3 ⟨p4,n4,c4,p5,n5,c5,rfl,hf4,hg4,hb4⟩;have HF4:=Lib.hid hf4;have HG4:=Lib.hid hg4;have HB3:Hid (Bel w w3):=Lib.hid (HB2.out.trans hb4);have C3:=HR2.out.bel hb4;have HR3:=Lib.hid C3;obtain ⟨q3,q4,q5⟩:=C3.facts;clear hf4 hg4 hb4 C3)
  | (go_at_call 67;(with_reducible refine (HM.out _ HB1.out).mono ?_);rintro e w2 ⟨rfl,hb2⟩;have HB2:Hid (Bel w w2):=Lib.hid (HB1.out.trans hb2);have HS2:Hid (w.heap.size+2≤w2.heap.size):=Lib.hid (Nat.le_trans HS1.out hb2.size);have HR2:=Lib.hid (HR1.out.bel hb2);clear hb2)
  | (go_at_call 44;(with_reducible refine (HK.out _ _ _).mono ?_);rintro e w1 ⟨rfl,hb1⟩;have HB1:Hid (Bel w w1):=Lib.hid ((show Bel w _ by exact EL).trans hb1);have HS1:Hid (w.heap.size+2≤w1.heap.size):=Lib.hid (by have:=hb1.size;simp at this;omega);have C1:Blk w1 w.heap.size #[.int .i64 2,.iface 162 (.pointer (some ⟨b,0,none⟩))] 64:=Blk.bel (by exact KL) hb1;obtain ⟨r1,y1,l1⟩:=C1.facts;have HR1:Hid (Blk w1 (w.heap.size+1) #[.int .i64 0,.int .i64 0,.slice none 0 0,.slice none 0 0] 25):=Lib.hid (Blk.bel (by exact KL) hb1);clear hb1 C1))
 refine post_ret (results_one rfl (resIs_agg (n:=4) (cs:=#[.int .i64 g.kind,.int .i64 g.dim,.slice p4 n4 c4,.slice p5 n5 c5]) (by rfl) Tryz.underlying25 (by kernel_rfl) (T:=25) ?_ rfl)) ⟨_,_,_,_,_,_,rfl,?_,?_,?_⟩
 ·have HB:=HR3.out
  exact SL
 ·refine HF4.out.keep (by simp) (fun b hb hl=>?_) (fun b _ hb=>hG b (by omega))
  repeat rw [Below.heap_setCell _ _ _ _ (by simp;omega)]
 ·refine HG4.out.keep (by simp) (fun b hb hl=>?_) (fun b _ hb=>hG b (by omega))
  repeat rw [Below.heap_setCell _ _ _ _ (by simp;omega)]
 ·have HB:=HB3.out
  exact EL
set_option maxHeartbeats 4000000 in
set_option maxRecDepth 100000 in
theorem plain_3 (g:Gm) (F G:Nat→Prop) (b:Nat) (cl:List Value) (w:World) (hG:New G w) (hc:∀ (j:Nat) (u:Value),cl[j]?=some u→w.cell? ⟨b,j,none⟩=some u) (ho:Ob F w 3 cl g):Calls Tryz.prog 40 #[.agg #[.int .i64 3,.iface 165 (.pointer (some ⟨b,0,none⟩))]] w (IsGm G g w):=by
 have HP:Hid (∀ W,Bel w W→w.heap.size+2≤W.heap.size→Calls Tryz.prog 99 #[.agg cl.toArray] W (IsGm (fun b=>w.heap.size+2≤b) g W)):=Lib.hid fun W hW hs=>(plainPolygon_any _) F (fun b=>w.heap.size+2≤b) cl W (fun b hb=>Nat.le_trans hs hb) (ho.bel hW)
 obtain ⟨p,cap,c,gs,hcs,-⟩:=ho.sl (e:=2) (k:=2) rfl
 subst hcs
 have HM:Hid (∀ W,Bel w W→Calls Tryz.prog 72 #[.agg #[.int .i64 3,.iface 165 (.pointer (some ⟨b,0,none⟩))]] W fun e w'=>e=.returned (.agg #[.slice p gs.length cap,.int .u8 c])∧Bel W w'):=Lib.hid fun W hW=>mustAs_3 p gs.length cap c b W (cell_kept hW (hc 0 _ rfl)) (cell_kept hW (hc 1 _ rfl))
 change Hid (∀ W,Bel w W→w.heap.size+2≤W.heap.size→Calls Tryz.prog 99 #[.agg #[.slice p gs.length cap,.int .u8 c]] W (IsGm (fun b=>w.heap.size+2≤b) g W)) at HP
 have HK:=Lib.hid geoKind_any
 clear hc ho
 go_enter Tryz.func40,Tryz.ntmps40
 go_wp2_with (first
  | (go_at_call 99;(with_reducible refine (HP.out _ HB2.out HS2.out).mono ?_);rintro e w3 ⟨p4,n4,c4,p5,n5,c5,rfl,hf4,hg4,hb4⟩;have HF4:=Lib.hid hf4;have HG4:=Lib.hid hg4;have HB3:Hid (Bel w w3):=Lib.hid (HB2.out.trans hb4);have C3:=HR2.out.bel hb4;have HR3:=Lib.hid C3;obtain ⟨q3,q4,q5⟩:=C3.facts;clear hf4 hg4 hb4 C3)
  | (go_at_call 72;(with_reducible refine (HM.out _ HB1.out).mono ?_);rintro e w2 ⟨rfl,hb2⟩;have HB2:Hid (Bel w w2):=Lib.hid (HB1.out.trans hb2);have HS2:Hid (w.heap.size+2≤w2.heap.size):=Lib.hid (Nat.le_trans HS1.out hb2.size);have HR2:=Lib.hid (HR1.out.bel hb2);clear hb2)
  | (go_at_call 44;(with_reducible refine (HK.out _ _ _).mono ?_);rintro e w1 ⟨rfl,hb1⟩;have HB1:Hid (Bel w w1):=Lib.hid ((show Bel w _ by exact EL).trans hb1);have HS1:Hid (w.heap.size+2≤w1.heap.size):=Lib.hid (by have:=hb1.size;simp at this;omega);have C1:Blk w1 w.heap.size #[.int .i64 3,.iface 165 (.pointer (some ⟨b,0,none⟩))] 64:=Blk.bel (by exact KL) hb1;obtain ⟨r1,y1,l1⟩:=C1.facts;have HR1:Hid (Blk w1 (w.heap.size+1) #[.int .i64 0,.int .i64 0,.slice none 0 0,.slice none 0 0] 25):=Lib.hid (Blk.bel (by exact KL) hb1);clear hb1 C1))
 refine post_ret (results_one rfl (resIs_agg (n:=4) (cs:=#[.int .i64 g.kind,.int .i64 g.dim,.slice p4 n4 c4,.slice p5 n5 c5]) (by rfl) Tryz.underlying25 (by kernel_rfl) (T:=25) ?_ rfl)) ⟨_,_,_,_,_,_,rfl,?_,?_,?_⟩
 ·have HB:=HR3.out
  exact SL
 ·refine HF4.out.keep (by simp) (fun b hb hl=>?_) (fun b _ hb=>hG b (by omega))
  repeat rw [Below.heap_setCell _ _ _ _ (by simp;omega)]
 ·refine HG4.out.keep (by simp) (fun b hb hl=>?_) (fun b _ hb=>hG b (by omega))
  repeat rw [Below.heap_setCell _ _ _ _ (by simp;omega)]
 ·have HB:=HB3.out
  exact EL
set_option maxHeartbeats 4000000 in
set_option maxRecDepth 100000 in
theorem plain_4 (g:Gm) (F G:Nat→Prop) (b:Nat) (cl:List Value) (w:World) (hG:New G w) (hc:∀ (j:Nat) (u:Value),cl[j]?=some u→w.cell? ⟨b,j,none⟩=some u) (ho:Ob F w 4 cl g):Calls Tryz.prog 40 #[.agg #[.int .i64 4,.iface 167 (.pointer (some ⟨b,0,none⟩))]] w (IsGm G g w):=by
 have HP:Hid (∀ W,Bel w W→w.heap.size+2≤W.heap.size→Calls Tryz.prog 100 #[.agg cl.toArray] W (IsGm (fun b=>w.heap.size+2≤b) g W)):=Lib.hid fun W hW hs=>(plainMultiPoint_any _ fun k _=>plainPoint_any k) F (fun b=>w.heap.size+2≤b) cl W (fun b hb=>Nat.le_trans hs hb) (ho.bel hW)
 obtain ⟨p,cap,c,gs,hcs,-⟩:=ho.sl (e:=1) (k:=6) rfl
 subst hcs
 have HM:Hid (∀ W,Bel w W→Calls Tryz.prog 76 #[.agg #[.int .i64 4,.iface 167 (.pointer (some ⟨b,0,none⟩))]] W fun e w'=>e=.returned (.agg #[.slice p gs.length cap,.int .u8 c])∧Bel W w'):=Lib.hid fun W hW=>mustAs_4 p gs.length cap c b W (cell_kept hW (hc 0 _ rfl)) (cell_kept hW (hc 1 _ rfl))
 change Hid (∀ W,Bel w W→w.heap.size+2≤W.heap.size→Calls Tryz.prog 100 #[.agg #[.slice p gs.length cap,.int .u8 c]] W (IsGm (fun b=>w.heap.size+2≤b) g W)) at HP
 have HK:=Lib.hid geoKind_any
 clear hc ho
 go_enter Tryz.func40,Tryz.ntmps40
 go_wp2_with (first
  | (go_at_call 100;(with_reducible refine (HP.out _ HB2.out HS2.out).mono ?_);rintro e w3 ⟨p4,n4,c4,p5,n5,c5,rfl,hf4,hg4,hb4⟩;have HF4:=Lib.hid hf4;have HG4:=Lib.hid hg4;have HB3:Hid (Bel w w3):=Lib.hid (HB2.out.trans hb4);have C3:=HR2.out.bel hb4;have HR3:=Lib.hid C3;obtain ⟨q3,q4,q5⟩:=C3.facts;clear hf4 hg4 hb4 C3)
  | (go_at_call 76;(with_reducible refine (HM.out _ HB1.out).mono ?_);rintro e w2 ⟨rfl,hb2⟩;have HB2:Hid (Bel w w2):=Lib.hid (HB1.out.trans hb2);have HS2:Hid (w.heap.size+2≤w2.heap.size):=Lib.hid (Nat.le_trans HS1.out hb2.size);have HR2:=Lib.hid (HR1.out.bel hb2);clear hb2)
  | (go_at_call 44;(with_reducible refine (HK.out _ _ _).mono ?_);rintro e w1 ⟨rfl,hb1⟩;have HB1:Hid (Bel w w1):=Lib.hid ((show Bel w _ by exact EL).trans hb1);have HS1:Hid (w.heap.size+2≤w1.heap.size):=Lib.hid (by have:=hb1.size;simp at this;omega);have C1:Blk w1 w.heap.size #[.int .i64 4,.iface 167 (.pointer (some ⟨b,0,none⟩))] 64:=Blk.bel (by exact KL) hb1;obtain ⟨r1,y1,l1⟩:=C1.facts;have HR1:Hid (Blk w1 (w.heap.size+1) #[.int .i64 0,.int .i64 0,.slice none 0 0,.slice none 0 0] 25):=Lib.hid (Blk.bel (by exact KL) hb1);clear hb1 C1))
 refine post_ret (results_one rfl (resIs_agg (n:=4) (cs:=#[.int .i64 g.kind,.int .i64 g.dim,.slice p4 n4 c4,.slice p5 n5 c5]) (by rfl) Tryz.underlying25 (by kernel_rfl) (T:=25) ?_ rfl)) ⟨_,_,_,_,_,_,rfl,?_,?_,?_⟩
 ·have HB:=HR3.out
  exact SL
 ·refine HF4.out.keep (by simp) (fun b hb hl=>?_) (fun b _ hb=>hG b (by omega))
  repeat rw [Below.heap_setCell _ _ _ _ (by simp;omega)]
 ·refine HG4.out.keep (by simp) (fun b hb hl=>?_) (fun b _ hb=>hG b (by omega))
  repeat rw [Below.heap_setCell _ _ _ _ (by simp;omega)]
 ·have HB:=HB3.out
  exact EL
set_option maxHeartbeats 4000000 in
set_option maxRecDepth 100000 in
theorem plain_5 (g:Gm) (F G:Nat→Prop) (b:Nat) (cl:List Value) (w:World) (hG:New G w) (hc:∀ (j:Nat) (u:Value),cl[j]?=some u→w.cell? ⟨b,j,none⟩=some u) (ho:Ob F w 5 cl g):Calls Tryz.prog 40 #[.agg #[.int .i64 5,.iface 168 (.pointer (some ⟨b,0,none⟩))]] w (IsGm G g w):=by
 have HP:Hid (∀ W,Bel w W→w.heap.size+2≤W.heap.size→Calls Tryz.prog 101 #[.agg cl.toArray] W (IsGm (fun b=>w.heap.size+2≤b) g W)):=Lib.hid fun W hW hs=>(plainMultiLine_any _ fun k _=>plainLine_any k) F (fun b=>w.heap.size+2≤b) cl W (fun b hb=>Nat.le_trans hs hb) (ho.bel hW)
 obtain ⟨p,cap,c,gs,hcs,-⟩:=ho.sl (e:=2) (k:=2) rfl
 subst hcs
 have HM:Hid (∀ W,Bel w W→Calls Tryz.prog 78 #[.agg #[.int .i64 5,.iface 168 (.pointer (some ⟨b,0,none⟩))]] W fun e w'=>e=.returned (.agg #[.slice p gs.length cap,.int .u8 c])∧Bel W w'):=Lib.hid fun W hW=>mustAs_5 p gs.length cap c b W (cell_kept hW (hc 0 _ rfl)) (cell_kept hW (hc 1 _ rfl))
 change Hid (∀ W,Bel w W→w.heap.size+2≤W.heap.size→Calls Tryz.prog 101 #[.agg #[.slice p gs.length cap,.int .u8 c]] W (IsGm (fun b=>w.heap.size+2≤b) g W)) at HP
 have HK:=Lib.hid geoKind_any
 clear hc ho
 go_enter Tryz.func40,Tryz.ntmps40
 go_wp2_with (first
  | (go_at_call 101;(with_reducible refine (HP.out _ HB2.out HS2.out).mono ?_);rintro e w3 ⟨p4,n4,c4,p5,n5,c5,rfl,hf4,hg4,hb4⟩;have HF4:=Lib.hid hf4;have HG4:=Lib.hid hg4;have HB3:Hid (Bel w w3):=Lib.hid (HB2.out.trans hb4);have C3:=HR2.out.bel hb4;have HR3:=Lib.hid C3;obtain ⟨q3,q4,q5⟩:=C3.facts;clear hf4 hg4 hb4 C3)
  | (go_at_call 78;(with_reducible refine (HM.out _ HB1.out).mono ?_);rintro e w2 ⟨rfl,hb2⟩;have HB2:Hid (Bel w w2):=Lib.hid (HB1.out.trans hb2);have HS2:Hid (w.heap.size+2≤w2.heap.size):=Lib.hid (Nat.le_trans HS1.out hb2.size);have HR2:=Lib.hid (HR1.out.bel hb2);clear hb2)
  | (go_at_call 44;(with_reducible refine (HK.out _ _ _).mono ?_);rintro e w1 ⟨rfl,hb1⟩;have HB1:Hid (Bel w w1):=Lib.hid ((show Bel w _ by exact EL).trans hb1);have HS1:Hid (w.heap.size+2≤w1.heap.size):=Lib.hid (by have:=hb1.size;simp at this;omega);have C1:Blk w1 w.heap.size #[.int .i64 5,.iface 168 (.pointer (some ⟨b,0,none⟩))] 64:=Blk.bel (by exact KL) hb1;obtain ⟨r1,y1,l1⟩:=C1.facts;have HR1:Hid (Blk w1 (w.heap.size+1) #[.int .i64 0,.int .i64 0,.slice none 0 0,.slice none 0 0] 25):=Lib.hid (Blk.bel (by exact KL) hb1);clear hb1 C1))
 refine post_ret (results_one rfl (resIs_agg (n:=4) (cs:=#[.int .i64 g.kind,.int .i64 g.dim,.slice p4 n4 c4,.slice p5 n5 c5]) (by rfl) Tryz.underlying25 (by kernel_rfl) (T:=25) ?_ rfl)) ⟨_,_,_,_,_,_,rfl,?_,?_,?_⟩
 ·have HB:=HR3.out
  exact SL
 ·refine HF4.out.keep (by simp) (fun b hb hl=>?_) (fun b _ hb=>hG b (by omega))
  repeat rw [Below.heap_setCell _ _ _ _ (by simp;omega)]
 ·refine HG4.out.keep (by simp) (fun b hb hl=>?_) (fun b _ hb=>hG b (by omega))
  repeat rw [Below.heap_setCell _ _ _ _ (by simp;omega)]
 ·have HB:=HB3.out
  exact EL
set_option maxHeartbeats 4000000 in
set_option maxRecDepth 100000 in
theorem plain_6 (g:Gm) (F G:Nat→Prop) (b:Nat) (cl:List Value) (w:World) (hG:New G w) (hc:∀ (j:Nat) (u:Value),cl[j]?=some u→w.cell? ⟨b,j,none⟩=some u) (ho:Ob F w 6 cl g):Calls Tryz.prog 40 #[.agg #[.int .i64 6,.iface 169 (.pointer (some ⟨b,0,none⟩))]] w (IsGm G g w):=by
 have HP:Hid (∀ W,Bel w W→w.heap.size+2≤W.heap.size→Calls Tryz.prog 102 #[.agg cl.toArray] W (IsGm (fun b=>w.heap.size+2≤b) g W)):=Lib.hid fun W hW hs=>(plainMultiPolygon_any _ fun k _=>plainPolygon_any k) F (fun b=>w.heap.size+2≤b) cl W (fun b hb=>Nat.le_trans hs hb) (ho.bel hW)
 obtain ⟨p,cap,c,gs,hcs,-⟩:=ho.sl (e:=3) (k:=2) rfl
 subst hcs
 have HM:Hid (∀ W,Bel w W→Calls Tryz.prog 80 #[.agg #[.int .i64 6,.iface 169 (.pointer (some ⟨b,0,none⟩))]] W fun e w'=>e=.returned (.agg #[.slice p gs.length cap,.int .u8 c])∧Bel W w'):=Lib.hid fun W hW=>mustAs_6 p gs.length cap c b W (cell_kept hW (hc 0 _ rfl)) (cell_kept hW (hc 1 _ rfl))
 change Hid (∀ W,Bel w W→w.heap.size+2≤W.heap.size→Calls Tryz.prog 102 #[.agg #[.slice p gs.length cap,.int .u8 c]] W (IsGm (fun b=>w.heap.size+2≤b) g W)) at HP
 have HK:=Lib.hid geoKind_any
 clear hc ho
 go_enter Tryz.func40,Tryz.ntmps40
 go_wp2_with (first
  | (go_at_call 102;(with_reducible refine (HP.out _ HB2.out HS2.out).mono ?_);rintro e w3 ⟨p4,n4,c4,p5,n5,c5,rfl,hf4,hg4,hb4⟩;have HF4:=Lib.hid hf4;have HG4:=Lib.hid hg4;have HB3:Hid (Bel w w3):=Lib.hid (HB2.out.trans hb4);have C3:=HR2.out.bel hb4;have HR3:=Lib.hid C3;obtain ⟨q3,q4,q5⟩:=C3.facts;clear hf4 hg4 hb4 C3)
  | (go_at_call 80;(with_reducible refine (HM.out _ HB1.out).mono ?_);rintro e w2 ⟨rfl,hb2⟩;have HB2:Hid (Bel w w2):=Lib.hid (HB1.out.trans hb2);have HS2:Hid (w.heap.size+2≤w2.heap.size):=Lib.hid (Nat.le_trans HS1.out hb2.size);have HR2:=Lib.hid (HR1.out.bel hb2);clear hb2)
  | (go_at_call 44;(with_reducible refine (HK.out _ _ _).mono ?_);rintro e w1 ⟨rfl,hb1⟩;have HB1:Hid (Bel w w1):=Lib.hid ((show Bel w _ by exact EL).trans hb1);have HS1:Hid (w.heap.size+2≤w1.heap.size):=Lib.hid (by have:=hb1.size;simp at this;omega);have C1:Blk w1 w.heap.size #[.int .i64 6,.iface 169 (.pointer (some ⟨b,0,none⟩))] 64:=Blk.bel (by exact KL) hb1;obtain ⟨r1,y1,l1⟩:=C1.facts;have HR1:Hid (Blk w1 (w.heap.size+1) #[.int .i64 0,.int .i64 0,.slice none 0 0,.slice none 0 0] 25):=Lib.hid (Blk.bel (by exact KL) hb1);clear hb1 C1))
 refine post_ret (results_one rfl (resIs_agg (n:=4) (cs:=#[.int .i64 g.kind,.int .i64 g.dim,.slice p4 n4 c4,.slice p5 n5 c5]) (by rfl) Tryz.underlying25 (by kernel_rfl) (T:=25) ?_ rfl)) ⟨_,_,_,_,_,_,rfl,?_,?_,?_⟩
 ·have HB:=HR3.out
  exact SL
 ·refine HF4.out.keep (by simp) (fun b hb hl=>?_) (fun b _ hb=>hG b (by omega))
  repeat rw [Below.heap_setCell _ _ _ _ (by simp;omega)]
 ·refine HG4.out.keep (by simp) (fun b hb hl=>?_) (fun b _ hb=>hG b (by omega))
  repeat rw [Below.heap_setCell _ _ _ _ (by simp;omega)]
 ·have HB:=HB3.out
  exact EL
theorem Gm.size_kid {g k:Gm} (h:k ∈ g.kids):k.size<g.size:=by
 cases g with
 | mk a b c d =>
  have h2:=Gm.size_mem (show k ∈ d from h)
  rw [Gm.size]
  omega
theorem plain_ind:∀ (n:Nat) (g:Gm),g.size≤n→PlainOk 7 40 g
 | 0,g,h=>absurd h (by have:=g.size_pos;omega)
 | n+1,g,h=>fun F G cs w hG ho=>by
  have hih:∀ k ∈ g.kids,PlainOk 7 40 k:=fun k hk=>plain_ind n k (by
   have h2:=Gm.size_kid hk
   omega)
  obtain ⟨s,b,cl,rfl,hs6,hlt,hFb,hc,hob⟩:=ho.gi
  have h7:s=0∨s=1∨s=2∨s=3∨s=4∨s=5∨s=6:=by omega
  rcases h7 with rfl|rfl|rfl|rfl|rfl|rfl|rfl
  ·exact plain_0 g hih F G b cl w hG hc hob
  ·exact plain_1 g F G b cl w hG hc hob
  ·exact plain_2 g F G b cl w hG hc hob
  ·exact plain_3 g F G b cl w hG hc hob
  ·exact plain_4 g F G b cl w hG hc hob
  ·exact plain_5 g F G b cl w hG hc hob
  ·exact plain_6 g F G b cl w hG hc hob
theorem plain_any (g:Gm):PlainOk 7 40 g:=plain_ind g.size g (Nat.le_refl _)
end Go.Proofs.YtpipehenfcbjbaaGreatDoor
