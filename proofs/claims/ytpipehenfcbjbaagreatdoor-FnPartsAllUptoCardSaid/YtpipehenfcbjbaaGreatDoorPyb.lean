/-
 impl.plainSequence,impl.plainLine: a line string as plain data. No panic;what stood in memory has not turned.
-/
import Derived.Test.YtpipehenfcbjbaaGreatDoorPya
import Derived.Test.YtpipehenfcbjbaaGreatDoorPan
import Derived.BigRegion
set_option linter.unusedVariables false
set_option linter.unusedSimpArgs false
namespace Go.Proofs.YtpipehenfcbjbaaGreatDoor
open Go.ChangeShapes Go.WideShapes Go.ChangeAt Go.RowKit
theorem take_pl {c:Nat} (hc:c≤3) {xs:List Nat} {t:Nat} (h:t<xs.length / wd c):xs.take (t*wd c+wd c)=xs.take (t*wd c) ++ numsOfPl c (plAt c xs t):=by
 have h1:(t+1)*wd c≤xs.length / wd c*wd c:=Nat.mul_le_mul_right _ h
 rw [Nat.add_mul,Nat.one_mul] at h1
 have h2:=Nat.div_mul_le_self xs.length (wd c)
 rw [List.take_add,numsOfPl_at hc xs t (by omega)]
set_option maxHeartbeats 8000000 in
set_option maxRecDepth 100000 in
theorem plainSeq_0 (F G:Nat→Prop) (c:Nat) (p:Option Addr) (n cap:Nat) (xs:List Nat) (hc:c≤3) (ha:decide (c % 2=1)=false) (hb:decide (c / 2 % 2=1)=false) (w:World) (hG:New G w) (h:FlSl F w (.slice p n cap) xs) (hw:n % wd c=0) (hb2:n / wd c≤1048576):Calls Tryz.prog 176 #[.agg #[.int .u8 c,.slice p n cap]] w (IsGm G (.mk 2 c xs []) w):=by
 have hD:wd c=2:=by
  have h1:c % 2=0:=by have:=of_decide_eq_false ha;omega
  have h2:c / 2 % 2=0:=by have:=of_decide_eq_false hb;omega
  unfold wd
  omega
 have hnl:xs.length=n:=h.len.1
 have h31:n≤4194304:=by
  have:=Nat.div_add_mod n (wd c)
  rw [hD] at this hw hb2
  omega
 have HGET:Hid (∀ (t:Nat) (W:World),Bel w W→t<n / wd c→Calls Tryz.prog 69 #[.agg #[.int .u8 c,.slice p n cap],.int .i64 t] W fun e w'=>e=.returned (.agg #[.float .f64 (plAt c xs t).x,.float .f64 (plAt c xs t).y,.float .f64 (plAt c xs t).z,.float .f64 (plAt c xs t).m,.int .u8 c])∧Bel W w'):=Lib.hid fun t W hW ht=>get_any p n cap t c xs hc W (h.bel hW) ht (by omega)
 have HLEN:Hid (∀ W,Calls Tryz.prog 126 #[.agg #[.int .u8 c,.slice p n cap]] W fun e w'=>e=.returned (.int .i64 (n / wd c:Nat))∧Bel W w'):=Lib.hid fun W=>length_any p n cap c hc (by omega) W
 have HTYP:=Lib.hid (seqType_any c p n cap)
 have H3D:Hid (∀ W,Calls Tryz.prog 174 #[.int .u8 c] W fun e w'=>e=.returned (.bool false)∧W=w'):=Lib.hid fun W=>by
  have:=is3D_any c hc W
  rw [ha] at this
  exact this
 have HME:Hid (∀ W,Calls Tryz.prog 175 #[.int .u8 c] W fun e w'=>e=.returned (.bool false)∧W=w'):=Lib.hid fun W=>by
  have:=isMeasured_any c hc W
  rw [hb] at this
  exact this
 have hcv:IntKind.i64.wrap (c:Int)=(c:Int):=by
  rw [IntKind.wrap_i64]
  omega
 have HTK:Hid (∀ t,t<n / wd c→(xs.take (t*2+2)).map flv=(xs.take (t*2)).map flv ++ (numsOfPl c (plAt c xs t)).map flv):=Lib.hid fun t ht=>by
  have:=take_pl hc (xs:=xs) (t:=t) (by rw [hnl];exact ht)
  rw [hD] at this
  rw [this,List.map_append]
 have HNP:Hid (∀ pl:Pl,(numsOfPl c pl).map flv=[.float .f64 pl.x,.float .f64 pl.y]):=Lib.hid fun pl=>by
  unfold numsOfPl
  rw [if_neg (of_decide_eq_false ha),if_neg (of_decide_eq_false hb)]
  rfl
 have HEN:Hid (n / wd c*2=n):=Lib.hid (by
  rw [← hD]
  exact Nat.div_mul_cancel (Nat.dvd_of_mod_eq_zero hw))
 obtain ⟨i0,hi,hz0,hz1,hz2⟩:=info_parts infoF
 clear h ha hb hw
 generalize n / wd c=q at *
 clear hD
 have HNL:=Lib.hid hnl
 clear hnl
 go_enter Tryz.func176,Tryz.ntmps176
 go_wp2_with (go_at_call 180;(with_reducible refine (HTYP.out _).mono ?_);rintro e w1 ⟨rfl,hb1⟩;have HB1:Hid (Bel w w1):=Lib.hid ((show Bel w _ by exact EL).trans hb1);have HLT:Hid (w.heap.size+1<w1.heap.size):=Lib.hid (by have:=hb1.size;simp at this;omega);have HQ1:Hid (Blk w1 w.heap.size #[.int .u8 c,.slice p n cap] 109):=Lib.hid (Blk.bel (by exact KL) hb1);have HR1:Hid (Blk w1 (w.heap.size+1) #[.int .i64 0,.int .i64 0,.slice none 0 0,.slice none 0 0] 25):=Lib.hid (Blk.bel (by exact KL) hb1);have hn3:w.heap.size+1 ≠ w1.heap.size:=Nat.ne_of_lt HLT.out;have hn4:w1.heap.size ≠ w.heap.size+1:=Nat.ne_of_gt HLT.out;have hn5:w.heap.size ≠ w1.heap.size:=Nat.ne_of_lt (Nat.lt_of_succ_lt HLT.out);have hn6:w1.heap.size ≠ w.heap.size:=Nat.ne_of_gt (Nat.lt_of_succ_lt HLT.out);clear hb1)
 go_loopw [4] (fun iv wr=>∃ (t m:Nat) (p0:Option Addr) (c0:Nat),iv=.int .i64 t∧t≤q∧m=t*2∧Bel w wr∧w1.heap.size<wr.heap.size∧Blk wr w.heap.size #[.int .u8 c,.slice p n cap] 109∧Blk wr (w.heap.size+1) #[.int .i64 0,.int .i64 0,.slice none 0 0,.slice none 0 0] 25∧Blk wr w1.heap.size #[.int .i64 2,.int .i64 c,.slice p0 m c0,.slice none 0 0] 25∧wr.ownsRow (w1.heap.size+1) 27 1 (.slice p0 m c0) m ((xs.take m).map flv)) (fun iv _=>q - (intOf iv).toNat)
 case atStart =>
  refine ⟨0,0,none,0,rfl,Nat.zero_le _,by simp,?_,by simp,?_,?_,?_,World.ownsRow_nil _ _ _ _⟩
  ·have HB:=HB1.out
   exact EL
  ·have HB:=HQ1.out
   exact KL
  ·have HB:=HR1.out
   exact KL
  ·exact KL
 case round =>
  obtain ⟨t,m,p0,c0,rfl,ht,hmt,hbel,hlw,hb1,hb2',hb3,hown⟩:=hrel
  have HBEL:=Lib.hid hbel
  have HLW:=Lib.hid hlw
  have HQ2:=Lib.hid hb1
  have HR2:=Lib.hid hb2'
  have HE2:=Lib.hid hb3
  have HOWN:=Lib.hid hown
  have HMT:=Lib.hid hmt
  have hmn:m≤4194304:=by omega
  obtain ⟨r1,y1,l1⟩:=hb1.facts
  obtain ⟨r2,y2,l2⟩:=hb2'.facts
  obtain ⟨r3,y3,l3⟩:=hb3.facts
  clear hb1 hb2' hb3 hown hmt hbel hlw
  by_cases htn:t<q
  ·have HGT:=Lib.hid fun W hW=>HGET.out t W hW htn
   have HTT:=Lib.hid (HTK.out t htn)
   have HNN:=Lib.hid (HNP.out (plAt c xs t))
   generalize (plAt c xs t).x=x at *
   generalize (plAt c xs t).y=y at *
   generalize (plAt c xs t).z=z at *
   generalize (plAt c xs t).m=u at *
   go_wp2_with (first
    | (at_builtin;(refine wpList_append_row _ rfl (.tmp 20) (.tmp 27) 22 rfl (w1.heap.size+1) 27 i0 _ 1 8 Tryz.underlying22 hi hz0 hz1 hz2 rfl (by decide) (.slice p0 m c0) m _ rfl (own_kept HOWN.out (show Bel wr _ by (have HB:=HX3.out;exact EL))) ⟨w3.heap.size+1,0,none⟩ 2 2 [.float .f64 x,.float .f64 y] rfl rfl (blk_arr (cs:=#[.float .f64 x,.float .f64 y]) (t:=27) (by exact KL)) (by simp [Value.oneCell']) (by decide) (by unfold maxLen;omega) (by omega) (by have:=HW3.out;simp;omega) ?_;intro v5 w5 ho hg hb;obtain ⟨p5,c5,rfl⟩:=ho.isSlice;have E3:=(show Blk _ w1.heap.size #[.int .i64 2,.int .i64 c,.slice p0 m c0,.slice none 0 0] 25 by (have HB:=HE3.out;exact KL)).grown hg (fun e=>by have:=(HOWN.out.lt _ e).1;have:=HLT.out;omega);have E4:=(show Blk _ w3.heap.size #[.float .f64 x,.float .f64 y,.float .f64 z,.float .f64 u,.int .u8 c] 105 by exact KL).grown hg (fun e=>by have:=(HOWN.out.lt _ e).2;have:=HW3.out;omega);have E2:=(show Blk _ (w.heap.size+1) #[.int .i64 0,.int .i64 0,.slice none 0 0,.slice none 0 0] 25 by (have HB:=HR3.out;exact KL)).grown hg (fun e=>by have:=(HOWN.out.lt _ e).1;have:=HLT.out;omega);have E1:=(show Blk _ w.heap.size #[.int .u8 c,.slice p n cap] 109 by (have HB:=HQ3.out;exact KL)).grown hg (fun e=>by have:=(HOWN.out.lt _ e).1;have:=HLT.out;omega);obtain ⟨e3a,e3b,e3c⟩:=E3.facts;obtain ⟨e4a,e4b,e4c⟩:=E4.facts;obtain ⟨e2a,e2b,e2c⟩:=E2.facts;obtain ⟨e1a,e1b,e1c⟩:=E1.facts;have HS5:Hid (w3.heap.size+1≤w5.heap.size):=Lib.hid (by have h4:=hg.4;simp at h4;omega);have HNE5:Hid (Value.ownBlock (.slice p5 (m+2) c5) ≠ some w3.heap.size):=Lib.hid (fun e=>by rcases hb with h|h;exact (fun e=>by have:=(HOWN.out.lt _ e).2;have:=HW3.out;omega) (h.symm.trans e);(have h2:=h.symm.trans e;simp at h2;omega));have HB5:Hid (Bel w (w5.setCell ⟨w1.heap.size,2,none⟩ (.slice p5 (m+2) c5))):=Lib.hid (Bel.setCellR (by have:=HLT.out;show w.heap.size≤w1.heap.size;omega) ((show Bel w _ by (have HB:=HBEL3.out;exact EL)).of_row hg (fun g hg=>by have:=(HOWN.out.lt g hg).1;have:=HLT.out;omega)));have HO1:Hid ((w5.setCell ⟨w1.heap.size,2,none⟩ (.slice p5 (m+2) c5)).ownsRow (w1.heap.size+1) 27 1 (.slice p5 (m+2) c5) (m+2) _):=Lib.hid (ho.kept (grownBy_set _ _ _ _) (ho.ne_of_lt' (by have:=HLT.out;omega)));have HE5:Hid (Blk (w5.setCell ⟨w1.heap.size,2,none⟩ (.slice p5 (m+2) c5)) w1.heap.size #[.int .i64 2,.int .i64 c,.slice p5 (m+2) c5,.slice none 0 0] 25):=Lib.hid (Blk.cast (E3.set 2 _) (by rfl));have HK5:Hid (Blk (w5.setCell ⟨w1.heap.size,2,none⟩ (.slice p5 (m+2) c5)) w3.heap.size #[.float .f64 x,.float .f64 y,.float .f64 z,.float .f64 u,.int .u8 c] 105):=Lib.hid (Blk.otherR (by have:=HW3.out;have:=HLW.out;show w3.heap.size ≠ w1.heap.size;omega) E4);have HR5:Hid (Blk (w5.setCell ⟨w1.heap.size,2,none⟩ (.slice p5 (m+2) c5)) (w.heap.size+1) #[.int .i64 0,.int .i64 0,.slice none 0 0,.slice none 0 0] 25):=Lib.hid (Blk.otherR (by have:=HLT.out;show w.heap.size+1 ≠ w1.heap.size;omega) E2);have HQ5:Hid (Blk (w5.setCell ⟨w1.heap.size,2,none⟩ (.slice p5 (m+2) c5)) w.heap.size #[.int .u8 c,.slice p n cap] 109):=Lib.hid (Blk.otherR (by have:=HLT.out;show w.heap.size ≠ w1.heap.size;omega) E1);clear ho hg hb E3 E4 E2 E1))
    | (go_at_call 174;(with_reducible refine (H3D.out _).mono ?_);rintro e w' ⟨rfl,rfl⟩)
    | (go_at_call 175;(with_reducible refine (HME.out _).mono ?_);rintro e w' ⟨rfl,rfl⟩)
    | (go_at_call 69;(with_reducible refine (HGT.out _ ?hx).mono ?_);(case hx=>exact HBEL.out.trans HX2.out);rintro e w3 ⟨rfl,hb3⟩;have HX3:Hid (Bel wr w3):=Lib.hid (HX2.out.trans hb3);have HBEL3:Hid (Bel w w3):=Lib.hid (HBEL.out.trans HX3.out);have HW3:Hid (wr.heap.size≤w3.heap.size):=Lib.hid HX3.out.size;have C3:Blk w3 w1.heap.size #[.int .i64 2,.int .i64 c,.slice p0 m c0,.slice none 0 0] 25:=HE2.out.bel HX3.out;have C2:=HR2.out.bel HX3.out;have C1:=HQ2.out.bel HX3.out;have HE3:=Lib.hid C3;have HR3:=Lib.hid C2;have HQ3:=Lib.hid C1;obtain ⟨f3a,f3b,f3c⟩:=C3.facts;have hn1:w3.heap.size ≠ w1.heap.size:=Nat.ne_of_gt f3c;have hn2:w1.heap.size ≠ w3.heap.size:=Nat.ne_of_lt f3c;clear hb3 C3 C2 C1)
    | (go_at_call 126;(with_reducible refine (HLEN.out _).mono ?_);rintro e w2 ⟨rfl,hb2⟩;have HX2:Hid (Bel wr w2):=Lib.hid hb2;have C1:=HQ2.out.bel HX2.out;obtain ⟨f1a,f1b,f1c⟩:=C1.facts;clear hb2 C1))
   go_roundw
   case rel =>
    refine ⟨t+1,(m+2),p5,c5,by go_num,by omega,by have:=HMT.out;omega,HB5.out,by have:=HS5.out;have:=HW3.out;have:=HLW.out;simp;omega,HQ5.out,HR5.out,HE5.out,?_⟩
    have hx:(xs.take (m+2)).map flv=(xs.take m).map flv ++ ([.float .f64 x,.float .f64 y]):=by
     have hm:=HMT.out
     have he:(m+2)=t*2+2:=by omega
     rw [he,HTT.out,HNN.out,← hm]
    rw [hx]
    have ho:=HO1.out
    simpa only [List.append_assoc] using ho
   case measure=>simp [intOf];omega
  ·obtain rfl:t=q:=by omega
   have hm:m=n:=HMT.out.trans HEN.out
   have hx:xs.take m=xs:=List.take_of_length_le (by have:=HNL.out;omega)
   have hown:=HOWN.out
   rw [hx] at hown
   have HF:Hid (FlSl (fun b=>w1.heap.size+1≤b) wr (.slice p0 m c0) xs):=Lib.hid (FlSl.of_owns hown (by rw [HNL.out,hm]) fun b hb=>hb)
   clear hx hown hm
   go_wp2_with (go_at_call 126;(with_reducible refine (HLEN.out _).mono ?_);rintro e w2 ⟨rfl,hb2⟩;have HX2:Hid (Bel wr w2):=Lib.hid hb2;have C1:=HE2.out.bel HX2.out;obtain ⟨f1a,f1b,f1c⟩:=C1.facts;have C2:=HR2.out.bel HX2.out;have HR3:=Lib.hid C2;obtain ⟨f2a,f2b,f2c⟩:=C2.facts;have HF2:=Lib.hid (HF.out.bel hb2);have HB2:Hid (Bel w w2):=Lib.hid (HBEL.out.trans hb2);clear hb2 C1 C2)
   refine post_ret (results_one rfl (resIs_agg (n:=4) (cs:=#[.int .i64 2,.int .i64 c,.slice p0 m c0,.slice none 0 0]) (by rfl) Tryz.underlying25 (by kernel_rfl) (T:=25) ?_ rfl)) ⟨_,_,_,_,_,_,rfl,?_,GmSl.nil _ _,?_⟩
   ·have HB:=HR3.out
    exact SL
   ·have h2:=HLT.out
    refine HF2.out.keep (by simp) (fun b hb hl=>?_) (fun b _ hb=>hG b (by omega))
    repeat rw [Below.heap_setCell _ _ _ _ (by simp;omega)]
   ·have HB:=HB2.out
    exact EL
set_option maxHeartbeats 8000000 in
set_option maxRecDepth 100000 in
theorem plainSeq_1 (F G:Nat→Prop) (c:Nat) (p:Option Addr) (n cap:Nat) (xs:List Nat) (hc:c≤3) (ha:decide (c % 2=1)=true) (hb:decide (c / 2 % 2=1)=false) (w:World) (hG:New G w) (h:FlSl F w (.slice p n cap) xs) (hw:n % wd c=0) (hb2:n / wd c≤1048576):Calls Tryz.prog 176 #[.agg #[.int .u8 c,.slice p n cap]] w (IsGm G (.mk 2 c xs []) w):=by
 have hD:wd c=3:=by
  have h1:c % 2=1:=by simpa using ha
  have h2:c / 2 % 2=0:=by have:=of_decide_eq_false hb;omega
  unfold wd
  omega
 have hnl:xs.length=n:=h.len.1
 have h31:n≤4194304:=by
  have:=Nat.div_add_mod n (wd c)
  rw [hD] at this hw hb2
  omega
 have HGET:Hid (∀ (t:Nat) (W:World),Bel w W→t<n / wd c→Calls Tryz.prog 69 #[.agg #[.int .u8 c,.slice p n cap],.int .i64 t] W fun e w'=>e=.returned (.agg #[.float .f64 (plAt c xs t).x,.float .f64 (plAt c xs t).y,.float .f64 (plAt c xs t).z,.float .f64 (plAt c xs t).m,.int .u8 c])∧Bel W w'):=Lib.hid fun t W hW ht=>get_any p n cap t c xs hc W (h.bel hW) ht (by omega)
 have HLEN:Hid (∀ W,Calls Tryz.prog 126 #[.agg #[.int .u8 c,.slice p n cap]] W fun e w'=>e=.returned (.int .i64 (n / wd c:Nat))∧Bel W w'):=Lib.hid fun W=>length_any p n cap c hc (by omega) W
 have HTYP:=Lib.hid (seqType_any c p n cap)
 have H3D:Hid (∀ W,Calls Tryz.prog 174 #[.int .u8 c] W fun e w'=>e=.returned (.bool true)∧W=w'):=Lib.hid fun W=>by
  have:=is3D_any c hc W
  rw [ha] at this
  exact this
 have HME:Hid (∀ W,Calls Tryz.prog 175 #[.int .u8 c] W fun e w'=>e=.returned (.bool false)∧W=w'):=Lib.hid fun W=>by
  have:=isMeasured_any c hc W
  rw [hb] at this
  exact this
 have hcv:IntKind.i64.wrap (c:Int)=(c:Int):=by
  rw [IntKind.wrap_i64]
  omega
 have HTK:Hid (∀ t,t<n / wd c→(xs.take (t*3+3)).map flv=(xs.take (t*3)).map flv ++ (numsOfPl c (plAt c xs t)).map flv):=Lib.hid fun t ht=>by
  have:=take_pl hc (xs:=xs) (t:=t) (by rw [hnl];exact ht)
  rw [hD] at this
  rw [this,List.map_append]
 have HNP:Hid (∀ pl:Pl,(numsOfPl c pl).map flv=[.float .f64 pl.x,.float .f64 pl.y] ++ [.float .f64 pl.z]):=Lib.hid fun pl=>by
  unfold numsOfPl
  rw [if_pos (of_decide_eq_true ha),if_neg (of_decide_eq_false hb)]
  rfl
 have HEN:Hid (n / wd c*3=n):=Lib.hid (by
  rw [← hD]
  exact Nat.div_mul_cancel (Nat.dvd_of_mod_eq_zero hw))
 obtain ⟨i0,hi,hz0,hz1,hz2⟩:=info_parts infoF
 clear h ha hb hw
 generalize n / wd c=q at *
 clear hD
 have HNL:=Lib.hid hnl
 clear hnl
 go_enter Tryz.func176,Tryz.ntmps176
 go_wp2_with (go_at_call 180;(with_reducible refine (HTYP.out _).mono ?_);rintro e w1 ⟨rfl,hb1⟩;have HB1:Hid (Bel w w1):=Lib.hid ((show Bel w _ by exact EL).trans hb1);have HLT:Hid (w.heap.size+1<w1.heap.size):=Lib.hid (by have:=hb1.size;simp at this;omega);have HQ1:Hid (Blk w1 w.heap.size #[.int .u8 c,.slice p n cap] 109):=Lib.hid (Blk.bel (by exact KL) hb1);have HR1:Hid (Blk w1 (w.heap.size+1) #[.int .i64 0,.int .i64 0,.slice none 0 0,.slice none 0 0] 25):=Lib.hid (Blk.bel (by exact KL) hb1);have hn3:w.heap.size+1 ≠ w1.heap.size:=Nat.ne_of_lt HLT.out;have hn4:w1.heap.size ≠ w.heap.size+1:=Nat.ne_of_gt HLT.out;have hn5:w.heap.size ≠ w1.heap.size:=Nat.ne_of_lt (Nat.lt_of_succ_lt HLT.out);have hn6:w1.heap.size ≠ w.heap.size:=Nat.ne_of_gt (Nat.lt_of_succ_lt HLT.out);clear hb1)
 go_loopw [4] (fun iv wr=>∃ (t m:Nat) (p0:Option Addr) (c0:Nat),iv=.int .i64 t∧t≤q∧m=t*3∧Bel w wr∧w1.heap.size<wr.heap.size∧Blk wr w.heap.size #[.int .u8 c,.slice p n cap] 109∧Blk wr (w.heap.size+1) #[.int .i64 0,.int .i64 0,.slice none 0 0,.slice none 0 0] 25∧Blk wr w1.heap.size #[.int .i64 2,.int .i64 c,.slice p0 m c0,.slice none 0 0] 25∧wr.ownsRow (w1.heap.size+1) 27 1 (.slice p0 m c0) m ((xs.take m).map flv)) (fun iv _=>q - (intOf iv).toNat)
 case atStart =>
  refine ⟨0,0,none,0,rfl,Nat.zero_le _,by simp,?_,by simp,?_,?_,?_,World.ownsRow_nil _ _ _ _⟩
  ·have HB:=HB1.out
   exact EL
  ·have HB:=HQ1.out
   exact KL
  ·have HB:=HR1.out
   exact KL
  ·exact KL
 case round =>
  obtain ⟨t,m,p0,c0,rfl,ht,hmt,hbel,hlw,hb1,hb2',hb3,hown⟩:=hrel
  have HBEL:=Lib.hid hbel
  have HLW:=Lib.hid hlw
  have HQ2:=Lib.hid hb1
  have HR2:=Lib.hid hb2'
  have HE2:=Lib.hid hb3
  have HOWN:=Lib.hid hown
  have HMT:=Lib.hid hmt
  have hmn:m≤4194304:=by omega
  obtain ⟨r1,y1,l1⟩:=hb1.facts
  obtain ⟨r2,y2,l2⟩:=hb2'.facts
  obtain ⟨r3,y3,l3⟩:=hb3.facts
  clear hb1 hb2' hb3 hown hmt hbel hlw
  by_cases htn:t<q
  ·have HGT:=Lib.hid fun W hW=>HGET.out t W hW htn
   have HTT:=Lib.hid (HTK.out t htn)
   have HNN:=Lib.hid (HNP.out (plAt c xs t))
   generalize (plAt c xs t).x=x at *
   generalize (plAt c xs t).y=y at *
   generalize (plAt c xs t).z=z at *
   generalize (plAt c xs t).m=u at *
   go_wp2_with (first
    | (at_builtin;(refine wpList_append_row _ rfl (.tmp 34) (.tmp 37) 22 rfl (w1.heap.size+1) 27 i0 _ 1 8 Tryz.underlying22 hi hz0 hz1 hz2 rfl (by decide) (.slice p5 (m+2) c5) (m+2) _ rfl (own_kept HO1.out (Bel.alloc1 _ _)) ⟨w5.heap.size,0,none⟩ 1 1 [.float .f64 z] rfl rfl (blk_arr (cs:=#[.float .f64 z]) (t:=27) (by exact KL)) (by simp [Value.oneCell']) (by decide) (by unfold maxLen;omega) (by omega) (by have:=HS5.out;simp;omega) ?_;intro v6 w6 ho hg hb;obtain ⟨p6,c6,rfl⟩:=ho.isSlice;have E3:=(show Blk _ w1.heap.size #[.int .i64 2,.int .i64 c,.slice p5 (m+2) c5,.slice none 0 0] 25 by (have HB:=HE5.out;exact KL)).grown hg (fun e=>by have:=(HO1.out.lt _ e).1;have:=HLT.out;omega);have E4:=(show Blk _ w3.heap.size #[.float .f64 x,.float .f64 y,.float .f64 z,.float .f64 u,.int .u8 c] 105 by (have HB:=HK5.out;exact KL)).grown hg HNE5.out;have E2:=(show Blk _ (w.heap.size+1) #[.int .i64 0,.int .i64 0,.slice none 0 0,.slice none 0 0] 25 by (have HB:=HR5.out;exact KL)).grown hg (fun e=>by have:=(HO1.out.lt _ e).1;have:=HLT.out;omega);have E1:=(show Blk _ w.heap.size #[.int .u8 c,.slice p n cap] 109 by (have HB:=HQ5.out;exact KL)).grown hg (fun e=>by have:=(HO1.out.lt _ e).1;have:=HLT.out;omega);obtain ⟨e3a,e3b,e3c⟩:=E3.facts;obtain ⟨e4a,e4b,e4c⟩:=E4.facts;obtain ⟨e2a,e2b,e2c⟩:=E2.facts;obtain ⟨e1a,e1b,e1c⟩:=E1.facts;have HS6:Hid (w3.heap.size+1≤w6.heap.size):=Lib.hid (by have h4:=hg.4;have:=HS5.out;simp at h4;omega);have HNE6:Hid (Value.ownBlock (.slice p6 ((m+2)+1) c6) ≠ some w3.heap.size):=Lib.hid (fun e=>by rcases hb with h|h;exact HNE5.out (h.symm.trans e);(have h2:=h.symm.trans e;simp at h2;have:=HS5.out;omega));have HB6:Hid (Bel w (w6.setCell ⟨w1.heap.size,2,none⟩ (.slice p6 ((m+2)+1) c6))):=Lib.hid (Bel.setCellR (by have:=HLT.out;show w.heap.size≤w1.heap.size;omega) ((show Bel w _ by (have HB:=HB5.out;exact EL)).of_row hg (fun g hg=>by have:=(HO1.out.lt g hg).1;have:=HLT.out;omega)));have HO2:Hid ((w6.setCell ⟨w1.heap.size,2,none⟩ (.slice p6 ((m+2)+1) c6)).ownsRow (w1.heap.size+1) 27 1 (.slice p6 ((m+2)+1) c6) ((m+2)+1) _):=Lib.hid (ho.kept (grownBy_set _ _ _ _) (ho.ne_of_lt' (by have:=HLT.out;omega)));have HE6:Hid (Blk (w6.setCell ⟨w1.heap.size,2,none⟩ (.slice p6 ((m+2)+1) c6)) w1.heap.size #[.int .i64 2,.int .i64 c,.slice p6 ((m+2)+1) c6,.slice none 0 0] 25):=Lib.hid (Blk.cast (E3.set 2 _) (by rfl));have HK6:Hid (Blk (w6.setCell ⟨w1.heap.size,2,none⟩ (.slice p6 ((m+2)+1) c6)) w3.heap.size #[.float .f64 x,.float .f64 y,.float .f64 z,.float .f64 u,.int .u8 c] 105):=Lib.hid (Blk.otherR (by have:=HW3.out;have:=HLW.out;show w3.heap.size ≠ w1.heap.size;omega) E4);have HR6:Hid (Blk (w6.setCell ⟨w1.heap.size,2,none⟩ (.slice p6 ((m+2)+1) c6)) (w.heap.size+1) #[.int .i64 0,.int .i64 0,.slice none 0 0,.slice none 0 0] 25):=Lib.hid (Blk.otherR (by have:=HLT.out;show w.heap.size+1 ≠ w1.heap.size;omega) E2);have HQ6:Hid (Blk (w6.setCell ⟨w1.heap.size,2,none⟩ (.slice p6 ((m+2)+1) c6)) w.heap.size #[.int .u8 c,.slice p n cap] 109):=Lib.hid (Blk.otherR (by have:=HLT.out;show w.heap.size ≠ w1.heap.size;omega) E1);clear ho hg hb E3 E4 E2 E1))
    | (at_builtin;(refine wpList_append_row _ rfl (.tmp 20) (.tmp 27) 22 rfl (w1.heap.size+1) 27 i0 _ 1 8 Tryz.underlying22 hi hz0 hz1 hz2 rfl (by decide) (.slice p0 m c0) m _ rfl (own_kept HOWN.out (show Bel wr _ by (have HB:=HX3.out;exact EL))) ⟨w3.heap.size+1,0,none⟩ 2 2 [.float .f64 x,.float .f64 y] rfl rfl (blk_arr (cs:=#[.float .f64 x,.float .f64 y]) (t:=27) (by exact KL)) (by simp [Value.oneCell']) (by decide) (by unfold maxLen;omega) (by omega) (by have:=HW3.out;simp;omega) ?_;intro v5 w5 ho hg hb;obtain ⟨p5,c5,rfl⟩:=ho.isSlice;have E3:=(show Blk _ w1.heap.size #[.int .i64 2,.int .i64 c,.slice p0 m c0,.slice none 0 0] 25 by (have HB:=HE3.out;exact KL)).grown hg (fun e=>by have:=(HOWN.out.lt _ e).1;have:=HLT.out;omega);have E4:=(show Blk _ w3.heap.size #[.float .f64 x,.float .f64 y,.float .f64 z,.float .f64 u,.int .u8 c] 105 by exact KL).grown hg (fun e=>by have:=(HOWN.out.lt _ e).2;have:=HW3.out;omega);have E2:=(show Blk _ (w.heap.size+1) #[.int .i64 0,.int .i64 0,.slice none 0 0,.slice none 0 0] 25 by (have HB:=HR3.out;exact KL)).grown hg (fun e=>by have:=(HOWN.out.lt _ e).1;have:=HLT.out;omega);have E1:=(show Blk _ w.heap.size #[.int .u8 c,.slice p n cap] 109 by (have HB:=HQ3.out;exact KL)).grown hg (fun e=>by have:=(HOWN.out.lt _ e).1;have:=HLT.out;omega);obtain ⟨e3a,e3b,e3c⟩:=E3.facts;obtain ⟨e4a,e4b,e4c⟩:=E4.facts;obtain ⟨e2a,e2b,e2c⟩:=E2.facts;obtain ⟨e1a,e1b,e1c⟩:=E1.facts;have HS5:Hid (w3.heap.size+1≤w5.heap.size):=Lib.hid (by have h4:=hg.4;simp at h4;omega);have HNE5:Hid (Value.ownBlock (.slice p5 (m+2) c5) ≠ some w3.heap.size):=Lib.hid (fun e=>by rcases hb with h|h;exact (fun e=>by have:=(HOWN.out.lt _ e).2;have:=HW3.out;omega) (h.symm.trans e);(have h2:=h.symm.trans e;simp at h2;omega));have HB5:Hid (Bel w (w5.setCell ⟨w1.heap.size,2,none⟩ (.slice p5 (m+2) c5))):=Lib.hid (Bel.setCellR (by have:=HLT.out;show w.heap.size≤w1.heap.size;omega) ((show Bel w _ by (have HB:=HBEL3.out;exact EL)).of_row hg (fun g hg=>by have:=(HOWN.out.lt g hg).1;have:=HLT.out;omega)));have HO1:Hid ((w5.setCell ⟨w1.heap.size,2,none⟩ (.slice p5 (m+2) c5)).ownsRow (w1.heap.size+1) 27 1 (.slice p5 (m+2) c5) (m+2) _):=Lib.hid (ho.kept (grownBy_set _ _ _ _) (ho.ne_of_lt' (by have:=HLT.out;omega)));have HE5:Hid (Blk (w5.setCell ⟨w1.heap.size,2,none⟩ (.slice p5 (m+2) c5)) w1.heap.size #[.int .i64 2,.int .i64 c,.slice p5 (m+2) c5,.slice none 0 0] 25):=Lib.hid (Blk.cast (E3.set 2 _) (by rfl));have HK5:Hid (Blk (w5.setCell ⟨w1.heap.size,2,none⟩ (.slice p5 (m+2) c5)) w3.heap.size #[.float .f64 x,.float .f64 y,.float .f64 z,.float .f64 u,.int .u8 c] 105):=Lib.hid (Blk.otherR (by have:=HW3.out;have:=HLW.out;show w3.heap.size ≠ w1.heap.size;omega) E4);have HR5:Hid (Blk (w5.setCell ⟨w1.heap.size,2,none⟩ (.slice p5 (m+2) c5)) (w.heap.size+1) #[.int .i64 0,.int .i64 0,.slice none 0 0,.slice none 0 0] 25):=Lib.hid (Blk.otherR (by have:=HLT.out;show w.heap.size+1 ≠ w1.heap.size;omega) E2);have HQ5:Hid (Blk (w5.setCell ⟨w1.heap.size,2,none⟩ (.slice p5 (m+2) c5)) w.heap.size #[.int .u8 c,.slice p n cap] 109):=Lib.hid (Blk.otherR (by have:=HLT.out;show w.heap.size ≠ w1.heap.size;omega) E1);clear ho hg hb E3 E4 E2 E1))
    | (go_at_call 174;(with_reducible refine (H3D.out _).mono ?_);rintro e w' ⟨rfl,rfl⟩)
    | (go_at_call 175;(with_reducible refine (HME.out _).mono ?_);rintro e w' ⟨rfl,rfl⟩)
    | (go_at_call 69;(with_reducible refine (HGT.out _ ?hx).mono ?_);(case hx=>exact HBEL.out.trans HX2.out);rintro e w3 ⟨rfl,hb3⟩;have HX3:Hid (Bel wr w3):=Lib.hid (HX2.out.trans hb3);have HBEL3:Hid (Bel w w3):=Lib.hid (HBEL.out.trans HX3.out);have HW3:Hid (wr.heap.size≤w3.heap.size):=Lib.hid HX3.out.size;have C3:Blk w3 w1.heap.size #[.int .i64 2,.int .i64 c,.slice p0 m c0,.slice none 0 0] 25:=HE2.out.bel HX3.out;have C2:=HR2.out.bel HX3.out;have C1:=HQ2.out.bel HX3.out;have HE3:=Lib.hid C3;have HR3:=Lib.hid C2;have HQ3:=Lib.hid C1;obtain ⟨f3a,f3b,f3c⟩:=C3.facts;have hn1:w3.heap.size ≠ w1.heap.size:=Nat.ne_of_gt f3c;have hn2:w1.heap.size ≠ w3.heap.size:=Nat.ne_of_lt f3c;clear hb3 C3 C2 C1)
    | (go_at_call 126;(with_reducible refine (HLEN.out _).mono ?_);rintro e w2 ⟨rfl,hb2⟩;have HX2:Hid (Bel wr w2):=Lib.hid hb2;have C1:=HQ2.out.bel HX2.out;obtain ⟨f1a,f1b,f1c⟩:=C1.facts;clear hb2 C1))
   go_roundw
   case rel =>
    refine ⟨t+1,((m+2)+1),p6,c6,by go_num,by omega,by have:=HMT.out;omega,HB6.out,by have:=HS6.out;have:=HW3.out;have:=HLW.out;simp;omega,HQ6.out,HR6.out,HE6.out,?_⟩
    have hx:(xs.take ((m+2)+1)).map flv=(xs.take m).map flv ++ ([.float .f64 x,.float .f64 y] ++ [.float .f64 z]):=by
     have hm:=HMT.out
     have he:((m+2)+1)=t*3+3:=by omega
     rw [he,HTT.out,HNN.out,← hm]
    rw [hx]
    have ho:=HO2.out
    simpa only [List.append_assoc] using ho
   case measure=>simp [intOf];omega
  ·obtain rfl:t=q:=by omega
   have hm:m=n:=HMT.out.trans HEN.out
   have hx:xs.take m=xs:=List.take_of_length_le (by have:=HNL.out;omega)
   have hown:=HOWN.out
   rw [hx] at hown
   have HF:Hid (FlSl (fun b=>w1.heap.size+1≤b) wr (.slice p0 m c0) xs):=Lib.hid (FlSl.of_owns hown (by rw [HNL.out,hm]) fun b hb=>hb)
   clear hx hown hm
   go_wp2_with (go_at_call 126;(with_reducible refine (HLEN.out _).mono ?_);rintro e w2 ⟨rfl,hb2⟩;have HX2:Hid (Bel wr w2):=Lib.hid hb2;have C1:=HE2.out.bel HX2.out;obtain ⟨f1a,f1b,f1c⟩:=C1.facts;have C2:=HR2.out.bel HX2.out;have HR3:=Lib.hid C2;obtain ⟨f2a,f2b,f2c⟩:=C2.facts;have HF2:=Lib.hid (HF.out.bel hb2);have HB2:Hid (Bel w w2):=Lib.hid (HBEL.out.trans hb2);clear hb2 C1 C2)
   refine post_ret (results_one rfl (resIs_agg (n:=4) (cs:=#[.int .i64 2,.int .i64 c,.slice p0 m c0,.slice none 0 0]) (by rfl) Tryz.underlying25 (by kernel_rfl) (T:=25) ?_ rfl)) ⟨_,_,_,_,_,_,rfl,?_,GmSl.nil _ _,?_⟩
   ·have HB:=HR3.out
    exact SL
   ·have h2:=HLT.out
    refine HF2.out.keep (by simp) (fun b hb hl=>?_) (fun b _ hb=>hG b (by omega))
    repeat rw [Below.heap_setCell _ _ _ _ (by simp;omega)]
   ·have HB:=HB2.out
    exact EL
set_option maxHeartbeats 8000000 in
set_option maxRecDepth 100000 in
theorem plainSeq_2 (F G:Nat→Prop) (c:Nat) (p:Option Addr) (n cap:Nat) (xs:List Nat) (hc:c≤3) (ha:decide (c % 2=1)=false) (hb:decide (c / 2 % 2=1)=true) (w:World) (hG:New G w) (h:FlSl F w (.slice p n cap) xs) (hw:n % wd c=0) (hb2:n / wd c≤1048576):Calls Tryz.prog 176 #[.agg #[.int .u8 c,.slice p n cap]] w (IsGm G (.mk 2 c xs []) w):=by
 have hD:wd c=3:=by
  have h1:c % 2=0:=by have:=of_decide_eq_false ha;omega
  have h2:c / 2 % 2=1:=by simpa using hb
  unfold wd
  omega
 have hnl:xs.length=n:=h.len.1
 have h31:n≤4194304:=by
  have:=Nat.div_add_mod n (wd c)
  rw [hD] at this hw hb2
  omega
 have HGET:Hid (∀ (t:Nat) (W:World),Bel w W→t<n / wd c→Calls Tryz.prog 69 #[.agg #[.int .u8 c,.slice p n cap],.int .i64 t] W fun e w'=>e=.returned (.agg #[.float .f64 (plAt c xs t).x,.float .f64 (plAt c xs t).y,.float .f64 (plAt c xs t).z,.float .f64 (plAt c xs t).m,.int .u8 c])∧Bel W w'):=Lib.hid fun t W hW ht=>get_any p n cap t c xs hc W (h.bel hW) ht (by omega)
 have HLEN:Hid (∀ W,Calls Tryz.prog 126 #[.agg #[.int .u8 c,.slice p n cap]] W fun e w'=>e=.returned (.int .i64 (n / wd c:Nat))∧Bel W w'):=Lib.hid fun W=>length_any p n cap c hc (by omega) W
 have HTYP:=Lib.hid (seqType_any c p n cap)
 have H3D:Hid (∀ W,Calls Tryz.prog 174 #[.int .u8 c] W fun e w'=>e=.returned (.bool false)∧W=w'):=Lib.hid fun W=>by
  have:=is3D_any c hc W
  rw [ha] at this
  exact this
 have HME:Hid (∀ W,Calls Tryz.prog 175 #[.int .u8 c] W fun e w'=>e=.returned (.bool true)∧W=w'):=Lib.hid fun W=>by
  have:=isMeasured_any c hc W
  rw [hb] at this
  exact this
 have hcv:IntKind.i64.wrap (c:Int)=(c:Int):=by
  rw [IntKind.wrap_i64]
  omega
 have HTK:Hid (∀ t,t<n / wd c→(xs.take (t*3+3)).map flv=(xs.take (t*3)).map flv ++ (numsOfPl c (plAt c xs t)).map flv):=Lib.hid fun t ht=>by
  have:=take_pl hc (xs:=xs) (t:=t) (by rw [hnl];exact ht)
  rw [hD] at this
  rw [this,List.map_append]
 have HNP:Hid (∀ pl:Pl,(numsOfPl c pl).map flv=[.float .f64 pl.x,.float .f64 pl.y] ++ [.float .f64 pl.m]):=Lib.hid fun pl=>by
  unfold numsOfPl
  rw [if_neg (of_decide_eq_false ha),if_pos (of_decide_eq_true hb)]
  rfl
 have HEN:Hid (n / wd c*3=n):=Lib.hid (by
  rw [← hD]
  exact Nat.div_mul_cancel (Nat.dvd_of_mod_eq_zero hw))
 obtain ⟨i0,hi,hz0,hz1,hz2⟩:=info_parts infoF
 clear h ha hb hw
 generalize n / wd c=q at *
 clear hD
 have HNL:=Lib.hid hnl
 clear hnl
 go_enter Tryz.func176,Tryz.ntmps176
 go_wp2_with (go_at_call 180;(with_reducible refine (HTYP.out _).mono ?_);rintro e w1 ⟨rfl,hb1⟩;have HB1:Hid (Bel w w1):=Lib.hid ((show Bel w _ by exact EL).trans hb1);have HLT:Hid (w.heap.size+1<w1.heap.size):=Lib.hid (by have:=hb1.size;simp at this;omega);have HQ1:Hid (Blk w1 w.heap.size #[.int .u8 c,.slice p n cap] 109):=Lib.hid (Blk.bel (by exact KL) hb1);have HR1:Hid (Blk w1 (w.heap.size+1) #[.int .i64 0,.int .i64 0,.slice none 0 0,.slice none 0 0] 25):=Lib.hid (Blk.bel (by exact KL) hb1);have hn3:w.heap.size+1 ≠ w1.heap.size:=Nat.ne_of_lt HLT.out;have hn4:w1.heap.size ≠ w.heap.size+1:=Nat.ne_of_gt HLT.out;have hn5:w.heap.size ≠ w1.heap.size:=Nat.ne_of_lt (Nat.lt_of_succ_lt HLT.out);have hn6:w1.heap.size ≠ w.heap.size:=Nat.ne_of_gt (Nat.lt_of_succ_lt HLT.out);clear hb1)
 go_loopw [4] (fun iv wr=>∃ (t m:Nat) (p0:Option Addr) (c0:Nat),iv=.int .i64 t∧t≤q∧m=t*3∧Bel w wr∧w1.heap.size<wr.heap.size∧Blk wr w.heap.size #[.int .u8 c,.slice p n cap] 109∧Blk wr (w.heap.size+1) #[.int .i64 0,.int .i64 0,.slice none 0 0,.slice none 0 0] 25∧Blk wr w1.heap.size #[.int .i64 2,.int .i64 c,.slice p0 m c0,.slice none 0 0] 25∧wr.ownsRow (w1.heap.size+1) 27 1 (.slice p0 m c0) m ((xs.take m).map flv)) (fun iv _=>q - (intOf iv).toNat)
 case atStart =>
  refine ⟨0,0,none,0,rfl,Nat.zero_le _,by simp,?_,by simp,?_,?_,?_,World.ownsRow_nil _ _ _ _⟩
  ·have HB:=HB1.out
   exact EL
  ·have HB:=HQ1.out
   exact KL
  ·have HB:=HR1.out
   exact KL
  ·exact KL
 case round =>
  obtain ⟨t,m,p0,c0,rfl,ht,hmt,hbel,hlw,hb1,hb2',hb3,hown⟩:=hrel
  have HBEL:=Lib.hid hbel
  have HLW:=Lib.hid hlw
  have HQ2:=Lib.hid hb1
  have HR2:=Lib.hid hb2'
  have HE2:=Lib.hid hb3
  have HOWN:=Lib.hid hown
  have HMT:=Lib.hid hmt
  have hmn:m≤4194304:=by omega
  obtain ⟨r1,y1,l1⟩:=hb1.facts
  obtain ⟨r2,y2,l2⟩:=hb2'.facts
  obtain ⟨r3,y3,l3⟩:=hb3.facts
  clear hb1 hb2' hb3 hown hmt hbel hlw
  by_cases htn:t<q
  ·have HGT:=Lib.hid fun W hW=>HGET.out t W hW htn
   have HTT:=Lib.hid (HTK.out t htn)
   have HNN:=Lib.hid (HNP.out (plAt c xs t))
   generalize (plAt c xs t).x=x at *
   generalize (plAt c xs t).y=y at *
   generalize (plAt c xs t).z=z at *
   generalize (plAt c xs t).m=u at *
   go_wp2_with (first
    | (at_builtin;(refine wpList_append_row _ rfl (.tmp 44) (.tmp 47) 22 rfl (w1.heap.size+1) 27 i0 _ 1 8 Tryz.underlying22 hi hz0 hz1 hz2 rfl (by decide) (.slice p5 (m+2) c5) (m+2) _ rfl (own_kept HO1.out (Bel.alloc1 _ _)) ⟨w5.heap.size,0,none⟩ 1 1 [.float .f64 u] rfl rfl (blk_arr (cs:=#[.float .f64 u]) (t:=27) (by exact KL)) (by simp [Value.oneCell']) (by decide) (by unfold maxLen;omega) (by omega) (by have:=HS5.out;simp;omega) ?_;intro v6 w6 ho hg hb;obtain ⟨p6,c6,rfl⟩:=ho.isSlice;have E3:=(show Blk _ w1.heap.size #[.int .i64 2,.int .i64 c,.slice p5 (m+2) c5,.slice none 0 0] 25 by (have HB:=HE5.out;exact KL)).grown hg (fun e=>by have:=(HO1.out.lt _ e).1;have:=HLT.out;omega);have E4:=(show Blk _ w3.heap.size #[.float .f64 x,.float .f64 y,.float .f64 z,.float .f64 u,.int .u8 c] 105 by (have HB:=HK5.out;exact KL)).grown hg HNE5.out;have E2:=(show Blk _ (w.heap.size+1) #[.int .i64 0,.int .i64 0,.slice none 0 0,.slice none 0 0] 25 by (have HB:=HR5.out;exact KL)).grown hg (fun e=>by have:=(HO1.out.lt _ e).1;have:=HLT.out;omega);have E1:=(show Blk _ w.heap.size #[.int .u8 c,.slice p n cap] 109 by (have HB:=HQ5.out;exact KL)).grown hg (fun e=>by have:=(HO1.out.lt _ e).1;have:=HLT.out;omega);obtain ⟨e3a,e3b,e3c⟩:=E3.facts;obtain ⟨e4a,e4b,e4c⟩:=E4.facts;obtain ⟨e2a,e2b,e2c⟩:=E2.facts;obtain ⟨e1a,e1b,e1c⟩:=E1.facts;have HS6:Hid (w3.heap.size+1≤w6.heap.size):=Lib.hid (by have h4:=hg.4;have:=HS5.out;simp at h4;omega);have HNE6:Hid (Value.ownBlock (.slice p6 ((m+2)+1) c6) ≠ some w3.heap.size):=Lib.hid (fun e=>by rcases hb with h|h;exact HNE5.out (h.symm.trans e);(have h2:=h.symm.trans e;simp at h2;have:=HS5.out;omega));have HB6:Hid (Bel w (w6.setCell ⟨w1.heap.size,2,none⟩ (.slice p6 ((m+2)+1) c6))):=Lib.hid (Bel.setCellR (by have:=HLT.out;show w.heap.size≤w1.heap.size;omega) ((show Bel w _ by (have HB:=HB5.out;exact EL)).of_row hg (fun g hg=>by have:=(HO1.out.lt g hg).1;have:=HLT.out;omega)));have HO2:Hid ((w6.setCell ⟨w1.heap.size,2,none⟩ (.slice p6 ((m+2)+1) c6)).ownsRow (w1.heap.size+1) 27 1 (.slice p6 ((m+2)+1) c6) ((m+2)+1) _):=Lib.hid (ho.kept (grownBy_set _ _ _ _) (ho.ne_of_lt' (by have:=HLT.out;omega)));have HE6:Hid (Blk (w6.setCell ⟨w1.heap.size,2,none⟩ (.slice p6 ((m+2)+1) c6)) w1.heap.size #[.int .i64 2,.int .i64 c,.slice p6 ((m+2)+1) c6,.slice none 0 0] 25):=Lib.hid (Blk.cast (E3.set 2 _) (by rfl));have HK6:Hid (Blk (w6.setCell ⟨w1.heap.size,2,none⟩ (.slice p6 ((m+2)+1) c6)) w3.heap.size #[.float .f64 x,.float .f64 y,.float .f64 z,.float .f64 u,.int .u8 c] 105):=Lib.hid (Blk.otherR (by have:=HW3.out;have:=HLW.out;show w3.heap.size ≠ w1.heap.size;omega) E4);have HR6:Hid (Blk (w6.setCell ⟨w1.heap.size,2,none⟩ (.slice p6 ((m+2)+1) c6)) (w.heap.size+1) #[.int .i64 0,.int .i64 0,.slice none 0 0,.slice none 0 0] 25):=Lib.hid (Blk.otherR (by have:=HLT.out;show w.heap.size+1 ≠ w1.heap.size;omega) E2);have HQ6:Hid (Blk (w6.setCell ⟨w1.heap.size,2,none⟩ (.slice p6 ((m+2)+1) c6)) w.heap.size #[.int .u8 c,.slice p n cap] 109):=Lib.hid (Blk.otherR (by have:=HLT.out;show w.heap.size ≠ w1.heap.size;omega) E1);clear ho hg hb E3 E4 E2 E1))
    | (at_builtin;(refine wpList_append_row _ rfl (.tmp 20) (.tmp 27) 22 rfl (w1.heap.size+1) 27 i0 _ 1 8 Tryz.underlying22 hi hz0 hz1 hz2 rfl (by decide) (.slice p0 m c0) m _ rfl (own_kept HOWN.out (show Bel wr _ by (have HB:=HX3.out;exact EL))) ⟨w3.heap.size+1,0,none⟩ 2 2 [.float .f64 x,.float .f64 y] rfl rfl (blk_arr (cs:=#[.float .f64 x,.float .f64 y]) (t:=27) (by exact KL)) (by simp [Value.oneCell']) (by decide) (by unfold maxLen;omega) (by omega) (by have:=HW3.out;simp;omega) ?_;intro v5 w5 ho hg hb;obtain ⟨p5,c5,rfl⟩:=ho.isSlice;have E3:=(show Blk _ w1.heap.size #[.int .i64 2,.int .i64 c,.slice p0 m c0,.slice none 0 0] 25 by (have HB:=HE3.out;exact KL)).grown hg (fun e=>by have:=(HOWN.out.lt _ e).1;have:=HLT.out;omega);have E4:=(show Blk _ w3.heap.size #[.float .f64 x,.float .f64 y,.float .f64 z,.float .f64 u,.int .u8 c] 105 by exact KL).grown hg (fun e=>by have:=(HOWN.out.lt _ e).2;have:=HW3.out;omega);have E2:=(show Blk _ (w.heap.size+1) #[.int .i64 0,.int .i64 0,.slice none 0 0,.slice none 0 0] 25 by (have HB:=HR3.out;exact KL)).grown hg (fun e=>by have:=(HOWN.out.lt _ e).1;have:=HLT.out;omega);have E1:=(show Blk _ w.heap.size #[.int .u8 c,.slice p n cap] 109 by (have HB:=HQ3.out;exact KL)).grown hg (fun e=>by have:=(HOWN.out.lt _ e).1;have:=HLT.out;omega);obtain ⟨e3a,e3b,e3c⟩:=E3.facts;obtain ⟨e4a,e4b,e4c⟩:=E4.facts;obtain ⟨e2a,e2b,e2c⟩:=E2.facts;obtain ⟨e1a,e1b,e1c⟩:=E1.facts;have HS5:Hid (w3.heap.size+1≤w5.heap.size):=Lib.hid (by have h4:=hg.4;simp at h4;omega);have HNE5:Hid (Value.ownBlock (.slice p5 (m+2) c5) ≠ some w3.heap.size):=Lib.hid (fun e=>by rcases hb with h|h;exact (fun e=>by have:=(HOWN.out.lt _ e).2;have:=HW3.out;omega) (h.symm.trans e);(have h2:=h.symm.trans e;simp at h2;omega));have HB5:Hid (Bel w (w5.setCell ⟨w1.heap.size,2,none⟩ (.slice p5 (m+2) c5))):=Lib.hid (Bel.setCellR (by have:=HLT.out;show w.heap.size≤w1.heap.size;omega) ((show Bel w _ by (have HB:=HBEL3.out;exact EL)).of_row hg (fun g hg=>by have:=(HOWN.out.lt g hg).1;have:=HLT.out;omega)));have HO1:Hid ((w5.setCell ⟨w1.heap.size,2,none⟩ (.slice p5 (m+2) c5)).ownsRow (w1.heap.size+1) 27 1 (.slice p5 (m+2) c5) (m+2) _):=Lib.hid (ho.kept (grownBy_set _ _ _ _) (ho.ne_of_lt' (by have:=HLT.out;omega)));have HE5:Hid (Blk (w5.setCell ⟨w1.heap.size,2,none⟩ (.slice p5 (m+2) c5)) w1.heap.size #[.int .i64 2,.int .i64 c,.slice p5 (m+2) c5,.slice none 0 0] 25):=Lib.hid (Blk.cast (E3.set 2 _) (by rfl));have HK5:Hid (Blk (w5.setCell ⟨w1.heap.size,2,none⟩ (.slice p5 (m+2) c5)) w3.heap.size #[.float .f64 x,.float .f64 y,.float .f64 z,.float .f64 u,.int .u8 c] 105):=Lib.hid (Blk.otherR (by have:=HW3.out;have:=HLW.out;show w3.heap.size ≠ w1.heap.size;omega) E4);have HR5:Hid (Blk (w5.setCell ⟨w1.heap.size,2,none⟩ (.slice p5 (m+2) c5)) (w.heap.size+1) #[.int .i64 0,.int .i64 0,.slice none 0 0,.slice none 0 0] 25):=Lib.hid (Blk.otherR (by have:=HLT.out;show w.heap.size+1 ≠ w1.heap.size;omega) E2);have HQ5:Hid (Blk (w5.setCell ⟨w1.heap.size,2,none⟩ (.slice p5 (m+2) c5)) w.heap.size #[.int .u8 c,.slice p n cap] 109):=Lib.hid (Blk.otherR (by have:=HLT.out;show w.heap.size ≠ w1.heap.size;omega) E1);clear ho hg hb E3 E4 E2 E1))
    | (go_at_call 174;(with_reducible refine (H3D.out _).mono ?_);rintro e w' ⟨rfl,rfl⟩)
    | (go_at_call 175;(with_reducible refine (HME.out _).mono ?_);rintro e w' ⟨rfl,rfl⟩)
    | (go_at_call 69;(with_reducible refine (HGT.out _ ?hx).mono ?_);(case hx=>exact HBEL.out.trans HX2.out);rintro e w3 ⟨rfl,hb3⟩;have HX3:Hid (Bel wr w3):=Lib.hid (HX2.out.trans hb3);have HBEL3:Hid (Bel w w3):=Lib.hid (HBEL.out.trans HX3.out);have HW3:Hid (wr.heap.size≤w3.heap.size):=Lib.hid HX3.out.size;have C3:Blk w3 w1.heap.size #[.int .i64 2,.int .i64 c,.slice p0 m c0,.slice none 0 0] 25:=HE2.out.bel HX3.out;have C2:=HR2.out.bel HX3.out;have C1:=HQ2.out.bel HX3.out;have HE3:=Lib.hid C3;have HR3:=Lib.hid C2;have HQ3:=Lib.hid C1;obtain ⟨f3a,f3b,f3c⟩:=C3.facts;have hn1:w3.heap.size ≠ w1.heap.size:=Nat.ne_of_gt f3c;have hn2:w1.heap.size ≠ w3.heap.size:=Nat.ne_of_lt f3c;clear hb3 C3 C2 C1)
    | (go_at_call 126;(with_reducible refine (HLEN.out _).mono ?_);rintro e w2 ⟨rfl,hb2⟩;have HX2:Hid (Bel wr w2):=Lib.hid hb2;have C1:=HQ2.out.bel HX2.out;obtain ⟨f1a,f1b,f1c⟩:=C1.facts;clear hb2 C1))
   go_roundw
   case rel =>
    refine ⟨t+1,((m+2)+1),p6,c6,by go_num,by omega,by have:=HMT.out;omega,HB6.out,by have:=HS6.out;have:=HW3.out;have:=HLW.out;simp;omega,HQ6.out,HR6.out,HE6.out,?_⟩
    have hx:(xs.take ((m+2)+1)).map flv=(xs.take m).map flv ++ ([.float .f64 x,.float .f64 y] ++ [.float .f64 u]):=by
     have hm:=HMT.out
     have he:((m+2)+1)=t*3+3:=by omega
     rw [he,HTT.out,HNN.out,← hm]
    rw [hx]
    have ho:=HO2.out
    simpa only [List.append_assoc] using ho
   case measure=>simp [intOf];omega
  ·obtain rfl:t=q:=by omega
   have hm:m=n:=HMT.out.trans HEN.out
   have hx:xs.take m=xs:=List.take_of_length_le (by have:=HNL.out;omega)
   have hown:=HOWN.out
   rw [hx] at hown
   have HF:Hid (FlSl (fun b=>w1.heap.size+1≤b) wr (.slice p0 m c0) xs):=Lib.hid (FlSl.of_owns hown (by rw [HNL.out,hm]) fun b hb=>hb)
   clear hx hown hm
   go_wp2_with (go_at_call 126;(with_reducible refine (HLEN.out _).mono ?_);rintro e w2 ⟨rfl,hb2⟩;have HX2:Hid (Bel wr w2):=Lib.hid hb2;have C1:=HE2.out.bel HX2.out;obtain ⟨f1a,f1b,f1c⟩:=C1.facts;have C2:=HR2.out.bel HX2.out;have HR3:=Lib.hid C2;obtain ⟨f2a,f2b,f2c⟩:=C2.facts;have HF2:=Lib.hid (HF.out.bel hb2);have HB2:Hid (Bel w w2):=Lib.hid (HBEL.out.trans hb2);clear hb2 C1 C2)
   refine post_ret (results_one rfl (resIs_agg (n:=4) (cs:=#[.int .i64 2,.int .i64 c,.slice p0 m c0,.slice none 0 0]) (by rfl) Tryz.underlying25 (by kernel_rfl) (T:=25) ?_ rfl)) ⟨_,_,_,_,_,_,rfl,?_,GmSl.nil _ _,?_⟩
   ·have HB:=HR3.out
    exact SL
   ·have h2:=HLT.out
    refine HF2.out.keep (by simp) (fun b hb hl=>?_) (fun b _ hb=>hG b (by omega))
    repeat rw [Below.heap_setCell _ _ _ _ (by simp;omega)]
   ·have HB:=HB2.out
    exact EL
set_option maxHeartbeats 8000000 in
set_option maxRecDepth 100000 in
theorem plainSeq_3 (F G:Nat→Prop) (c:Nat) (p:Option Addr) (n cap:Nat) (xs:List Nat) (hc:c≤3) (ha:decide (c % 2=1)=true) (hb:decide (c / 2 % 2=1)=true) (w:World) (hG:New G w) (h:FlSl F w (.slice p n cap) xs) (hw:n % wd c=0) (hb2:n / wd c≤1048576):Calls Tryz.prog 176 #[.agg #[.int .u8 c,.slice p n cap]] w (IsGm G (.mk 2 c xs []) w):=by
 have hD:wd c=4:=by
  have h1:c % 2=1:=by simpa using ha
  have h2:c / 2 % 2=1:=by simpa using hb
  unfold wd
  omega
 have hnl:xs.length=n:=h.len.1
 have h31:n≤4194304:=by
  have:=Nat.div_add_mod n (wd c)
  rw [hD] at this hw hb2
  omega
 have HGET:Hid (∀ (t:Nat) (W:World),Bel w W→t<n / wd c→Calls Tryz.prog 69 #[.agg #[.int .u8 c,.slice p n cap],.int .i64 t] W fun e w'=>e=.returned (.agg #[.float .f64 (plAt c xs t).x,.float .f64 (plAt c xs t).y,.float .f64 (plAt c xs t).z,.float .f64 (plAt c xs t).m,.int .u8 c])∧Bel W w'):=Lib.hid fun t W hW ht=>get_any p n cap t c xs hc W (h.bel hW) ht (by omega)
 have HLEN:Hid (∀ W,Calls Tryz.prog 126 #[.agg #[.int .u8 c,.slice p n cap]] W fun e w'=>e=.returned (.int .i64 (n / wd c:Nat))∧Bel W w'):=Lib.hid fun W=>length_any p n cap c hc (by omega) W
 have HTYP:=Lib.hid (seqType_any c p n cap)
 have H3D:Hid (∀ W,Calls Tryz.prog 174 #[.int .u8 c] W fun e w'=>e=.returned (.bool true)∧W=w'):=Lib.hid fun W=>by
  have:=is3D_any c hc W
  rw [ha] at this
  exact this
 have HME:Hid (∀ W,Calls Tryz.prog 175 #[.int .u8 c] W fun e w'=>e=.returned (.bool true)∧W=w'):=Lib.hid fun W=>by
  have:=isMeasured_any c hc W
  rw [hb] at this
  exact this
 have hcv:IntKind.i64.wrap (c:Int)=(c:Int):=by
  rw [IntKind.wrap_i64]
  omega
 have HTK:Hid (∀ t,t<n / wd c→(xs.take (t*4+4)).map flv=(xs.take (t*4)).map flv ++ (numsOfPl c (plAt c xs t)).map flv):=Lib.hid fun t ht=>by
  have:=take_pl hc (xs:=xs) (t:=t) (by rw [hnl];exact ht)
  rw [hD] at this
  rw [this,List.map_append]
 have HNP:Hid (∀ pl:Pl,(numsOfPl c pl).map flv=[.float .f64 pl.x,.float .f64 pl.y] ++ [.float .f64 pl.z] ++ [.float .f64 pl.m]):=Lib.hid fun pl=>by
  unfold numsOfPl
  rw [if_pos (of_decide_eq_true ha),if_pos (of_decide_eq_true hb)]
  rfl
 have HEN:Hid (n / wd c*4=n):=Lib.hid (by
  rw [← hD]
  exact Nat.div_mul_cancel (Nat.dvd_of_mod_eq_zero hw))
 obtain ⟨i0,hi,hz0,hz1,hz2⟩:=info_parts infoF
 clear h ha hb hw
 generalize n / wd c=q at *
 clear hD
 have HNL:=Lib.hid hnl
 clear hnl
 go_enter Tryz.func176,Tryz.ntmps176
 go_wp2_with (go_at_call 180;(with_reducible refine (HTYP.out _).mono ?_);rintro e w1 ⟨rfl,hb1⟩;have HB1:Hid (Bel w w1):=Lib.hid ((show Bel w _ by exact EL).trans hb1);have HLT:Hid (w.heap.size+1<w1.heap.size):=Lib.hid (by have:=hb1.size;simp at this;omega);have HQ1:Hid (Blk w1 w.heap.size #[.int .u8 c,.slice p n cap] 109):=Lib.hid (Blk.bel (by exact KL) hb1);have HR1:Hid (Blk w1 (w.heap.size+1) #[.int .i64 0,.int .i64 0,.slice none 0 0,.slice none 0 0] 25):=Lib.hid (Blk.bel (by exact KL) hb1);have hn3:w.heap.size+1 ≠ w1.heap.size:=Nat.ne_of_lt HLT.out;have hn4:w1.heap.size ≠ w.heap.size+1:=Nat.ne_of_gt HLT.out;have hn5:w.heap.size ≠ w1.heap.size:=Nat.ne_of_lt (Nat.lt_of_succ_lt HLT.out);have hn6:w1.heap.size ≠ w.heap.size:=Nat.ne_of_gt (Nat.lt_of_succ_lt HLT.out);clear hb1)
 go_loopw [4] (fun iv wr=>∃ (t m:Nat) (p0:Option Addr) (c0:Nat),iv=.int .i64 t∧t≤q∧m=t*4∧Bel w wr∧w1.heap.size<wr.heap.size∧Blk wr w.heap.size #[.int .u8 c,.slice p n cap] 109∧Blk wr (w.heap.size+1) #[.int .i64 0,.int .i64 0,.slice none 0 0,.slice none 0 0] 25∧Blk wr w1.heap.size #[.int .i64 2,.int .i64 c,.slice p0 m c0,.slice none 0 0] 25∧wr.ownsRow (w1.heap.size+1) 27 1 (.slice p0 m c0) m ((xs.take m).map flv)) (fun iv _=>q - (intOf iv).toNat)
 case atStart =>
  refine ⟨0,0,none,0,rfl,Nat.zero_le _,by simp,?_,by simp,?_,?_,?_,World.ownsRow_nil _ _ _ _⟩
  ·have HB:=HB1.out
   exact EL
  ·have HB:=HQ1.out
   exact KL
  ·have HB:=HR1.out
   exact KL
  ·exact KL
 case round =>
  obtain ⟨t,m,p0,c0,rfl,ht,hmt,hbel,hlw,hb1,hb2',hb3,hown⟩:=hrel
  have HBEL:=Lib.hid hbel
  have HLW:=Lib.hid hlw
  have HQ2:=Lib.hid hb1
  have HR2:=Lib.hid hb2'
  have HE2:=Lib.hid hb3
  have HOWN:=Lib.hid hown
  have HMT:=Lib.hid hmt
  have hmn:m≤4194304:=by omega
  obtain ⟨r1,y1,l1⟩:=hb1.facts
  obtain ⟨r2,y2,l2⟩:=hb2'.facts
  obtain ⟨r3,y3,l3⟩:=hb3.facts
  clear hb1 hb2' hb3 hown hmt hbel hlw
  by_cases htn:t<q
  ·have HGT:=Lib.hid fun W hW=>HGET.out t W hW htn
   have HTT:=Lib.hid (HTK.out t htn)
   have HNN:=Lib.hid (HNP.out (plAt c xs t))
   generalize (plAt c xs t).x=x at *
   generalize (plAt c xs t).y=y at *
   generalize (plAt c xs t).z=z at *
   generalize (plAt c xs t).m=u at *
   go_wp2_with (first
    | (at_builtin;(refine wpList_append_row _ rfl (.tmp 44) (.tmp 47) 22 rfl (w1.heap.size+1) 27 i0 _ 1 8 Tryz.underlying22 hi hz0 hz1 hz2 rfl (by decide) (.slice p6 ((m+2)+1) c6) ((m+2)+1) _ rfl (own_kept HO2.out (Bel.alloc1 _ _)) ⟨w6.heap.size,0,none⟩ 1 1 [.float .f64 u] rfl rfl (blk_arr (cs:=#[.float .f64 u]) (t:=27) (by exact KL)) (by simp [Value.oneCell']) (by decide) (by unfold maxLen;omega) (by omega) (by have:=HS6.out;simp;omega) ?_;intro v7 w7 ho hg hb;obtain ⟨p7,c7,rfl⟩:=ho.isSlice;have E3:=(show Blk _ w1.heap.size #[.int .i64 2,.int .i64 c,.slice p6 ((m+2)+1) c6,.slice none 0 0] 25 by (have HB:=HE6.out;exact KL)).grown hg (fun e=>by have:=(HO2.out.lt _ e).1;have:=HLT.out;omega);have E4:=(show Blk _ w3.heap.size #[.float .f64 x,.float .f64 y,.float .f64 z,.float .f64 u,.int .u8 c] 105 by (have HB:=HK6.out;exact KL)).grown hg HNE6.out;have E2:=(show Blk _ (w.heap.size+1) #[.int .i64 0,.int .i64 0,.slice none 0 0,.slice none 0 0] 25 by (have HB:=HR6.out;exact KL)).grown hg (fun e=>by have:=(HO2.out.lt _ e).1;have:=HLT.out;omega);have E1:=(show Blk _ w.heap.size #[.int .u8 c,.slice p n cap] 109 by (have HB:=HQ6.out;exact KL)).grown hg (fun e=>by have:=(HO2.out.lt _ e).1;have:=HLT.out;omega);obtain ⟨e3a,e3b,e3c⟩:=E3.facts;obtain ⟨e4a,e4b,e4c⟩:=E4.facts;obtain ⟨e2a,e2b,e2c⟩:=E2.facts;obtain ⟨e1a,e1b,e1c⟩:=E1.facts;have HS7:Hid (w3.heap.size+1≤w7.heap.size):=Lib.hid (by have h4:=hg.4;have:=HS6.out;simp at h4;omega);have HNE7:Hid (Value.ownBlock (.slice p7 (((m+2)+1)+1) c7) ≠ some w3.heap.size):=Lib.hid (fun e=>by rcases hb with h|h;exact HNE6.out (h.symm.trans e);(have h2:=h.symm.trans e;simp at h2;have:=HS6.out;omega));have HB7:Hid (Bel w (w7.setCell ⟨w1.heap.size,2,none⟩ (.slice p7 (((m+2)+1)+1) c7))):=Lib.hid (Bel.setCellR (by have:=HLT.out;show w.heap.size≤w1.heap.size;omega) ((show Bel w _ by (have HB:=HB6.out;exact EL)).of_row hg (fun g hg=>by have:=(HO2.out.lt g hg).1;have:=HLT.out;omega)));have HO3:Hid ((w7.setCell ⟨w1.heap.size,2,none⟩ (.slice p7 (((m+2)+1)+1) c7)).ownsRow (w1.heap.size+1) 27 1 (.slice p7 (((m+2)+1)+1) c7) (((m+2)+1)+1) _):=Lib.hid (ho.kept (grownBy_set _ _ _ _) (ho.ne_of_lt' (by have:=HLT.out;omega)));have HE7:Hid (Blk (w7.setCell ⟨w1.heap.size,2,none⟩ (.slice p7 (((m+2)+1)+1) c7)) w1.heap.size #[.int .i64 2,.int .i64 c,.slice p7 (((m+2)+1)+1) c7,.slice none 0 0] 25):=Lib.hid (Blk.cast (E3.set 2 _) (by rfl));have HK7:Hid (Blk (w7.setCell ⟨w1.heap.size,2,none⟩ (.slice p7 (((m+2)+1)+1) c7)) w3.heap.size #[.float .f64 x,.float .f64 y,.float .f64 z,.float .f64 u,.int .u8 c] 105):=Lib.hid (Blk.otherR (by have:=HW3.out;have:=HLW.out;show w3.heap.size ≠ w1.heap.size;omega) E4);have HR7:Hid (Blk (w7.setCell ⟨w1.heap.size,2,none⟩ (.slice p7 (((m+2)+1)+1) c7)) (w.heap.size+1) #[.int .i64 0,.int .i64 0,.slice none 0 0,.slice none 0 0] 25):=Lib.hid (Blk.otherR (by have:=HLT.out;show w.heap.size+1 ≠ w1.heap.size;omega) E2);have HQ7:Hid (Blk (w7.setCell ⟨w1.heap.size,2,none⟩ (.slice p7 (((m+2)+1)+1) c7)) w.heap.size #[.int .u8 c,.slice p n cap] 109):=Lib.hid (Blk.otherR (by have:=HLT.out;show w.heap.size ≠ w1.heap.size;omega) E1);clear ho hg hb E3 E4 E2 E1))
    | (at_builtin;(refine wpList_append_row _ rfl (.tmp 34) (.tmp 37) 22 rfl (w1.heap.size+1) 27 i0 _ 1 8 Tryz.underlying22 hi hz0 hz1 hz2 rfl (by decide) (.slice p5 (m+2) c5) (m+2) _ rfl (own_kept HO1.out (Bel.alloc1 _ _)) ⟨w5.heap.size,0,none⟩ 1 1 [.float .f64 z] rfl rfl (blk_arr (cs:=#[.float .f64 z]) (t:=27) (by exact KL)) (by simp [Value.oneCell']) (by decide) (by unfold maxLen;omega) (by omega) (by have:=HS5.out;simp;omega) ?_;intro v6 w6 ho hg hb;obtain ⟨p6,c6,rfl⟩:=ho.isSlice;have E3:=(show Blk _ w1.heap.size #[.int .i64 2,.int .i64 c,.slice p5 (m+2) c5,.slice none 0 0] 25 by (have HB:=HE5.out;exact KL)).grown hg (fun e=>by have:=(HO1.out.lt _ e).1;have:=HLT.out;omega);have E4:=(show Blk _ w3.heap.size #[.float .f64 x,.float .f64 y,.float .f64 z,.float .f64 u,.int .u8 c] 105 by (have HB:=HK5.out;exact KL)).grown hg HNE5.out;have E2:=(show Blk _ (w.heap.size+1) #[.int .i64 0,.int .i64 0,.slice none 0 0,.slice none 0 0] 25 by (have HB:=HR5.out;exact KL)).grown hg (fun e=>by have:=(HO1.out.lt _ e).1;have:=HLT.out;omega);have E1:=(show Blk _ w.heap.size #[.int .u8 c,.slice p n cap] 109 by (have HB:=HQ5.out;exact KL)).grown hg (fun e=>by have:=(HO1.out.lt _ e).1;have:=HLT.out;omega);obtain ⟨e3a,e3b,e3c⟩:=E3.facts;obtain ⟨e4a,e4b,e4c⟩:=E4.facts;obtain ⟨e2a,e2b,e2c⟩:=E2.facts;obtain ⟨e1a,e1b,e1c⟩:=E1.facts;have HS6:Hid (w3.heap.size+1≤w6.heap.size):=Lib.hid (by have h4:=hg.4;have:=HS5.out;simp at h4;omega);have HNE6:Hid (Value.ownBlock (.slice p6 ((m+2)+1) c6) ≠ some w3.heap.size):=Lib.hid (fun e=>by rcases hb with h|h;exact HNE5.out (h.symm.trans e);(have h2:=h.symm.trans e;simp at h2;have:=HS5.out;omega));have HB6:Hid (Bel w (w6.setCell ⟨w1.heap.size,2,none⟩ (.slice p6 ((m+2)+1) c6))):=Lib.hid (Bel.setCellR (by have:=HLT.out;show w.heap.size≤w1.heap.size;omega) ((show Bel w _ by (have HB:=HB5.out;exact EL)).of_row hg (fun g hg=>by have:=(HO1.out.lt g hg).1;have:=HLT.out;omega)));have HO2:Hid ((w6.setCell ⟨w1.heap.size,2,none⟩ (.slice p6 ((m+2)+1) c6)).ownsRow (w1.heap.size+1) 27 1 (.slice p6 ((m+2)+1) c6) ((m+2)+1) _):=Lib.hid (ho.kept (grownBy_set _ _ _ _) (ho.ne_of_lt' (by have:=HLT.out;omega)));have HE6:Hid (Blk (w6.setCell ⟨w1.heap.size,2,none⟩ (.slice p6 ((m+2)+1) c6)) w1.heap.size #[.int .i64 2,.int .i64 c,.slice p6 ((m+2)+1) c6,.slice none 0 0] 25):=Lib.hid (Blk.cast (E3.set 2 _) (by rfl));have HK6:Hid (Blk (w6.setCell ⟨w1.heap.size,2,none⟩ (.slice p6 ((m+2)+1) c6)) w3.heap.size #[.float .f64 x,.float .f64 y,.float .f64 z,.float .f64 u,.int .u8 c] 105):=Lib.hid (Blk.otherR (by have:=HW3.out;have:=HLW.out;show w3.heap.size ≠ w1.heap.size;omega) E4);have HR6:Hid (Blk (w6.setCell ⟨w1.heap.size,2,none⟩ (.slice p6 ((m+2)+1) c6)) (w.heap.size+1) #[.int .i64 0,.int .i64 0,.slice none 0 0,.slice none 0 0] 25):=Lib.hid (Blk.otherR (by have:=HLT.out;show w.heap.size+1 ≠ w1.heap.size;omega) E2);have HQ6:Hid (Blk (w6.setCell ⟨w1.heap.size,2,none⟩ (.slice p6 ((m+2)+1) c6)) w.heap.size #[.int .u8 c,.slice p n cap] 109):=Lib.hid (Blk.otherR (by have:=HLT.out;show w.heap.size ≠ w1.heap.size;omega) E1);clear ho hg hb E3 E4 E2 E1))
    | (at_builtin;(refine wpList_append_row _ rfl (.tmp 20) (.tmp 27) 22 rfl (w1.heap.size+1) 27 i0 _ 1 8 Tryz.underlying22 hi hz0 hz1 hz2 rfl (by decide) (.slice p0 m c0) m _ rfl (own_kept HOWN.out (show Bel wr _ by (have HB:=HX3.out;exact EL))) ⟨w3.heap.size+1,0,none⟩ 2 2 [.float .f64 x,.float .f64 y] rfl rfl (blk_arr (cs:=#[.float .f64 x,.float .f64 y]) (t:=27) (by exact KL)) (by simp [Value.oneCell']) (by decide) (by unfold maxLen;omega) (by omega) (by have:=HW3.out;simp;omega) ?_;intro v5 w5 ho hg hb;obtain ⟨p5,c5,rfl⟩:=ho.isSlice;have E3:=(show Blk _ w1.heap.size #[.int .i64 2,.int .i64 c,.slice p0 m c0,.slice none 0 0] 25 by (have HB:=HE3.out;exact KL)).grown hg (fun e=>by have:=(HOWN.out.lt _ e).1;have:=HLT.out;omega);have E4:=(show Blk _ w3.heap.size #[.float .f64 x,.float .f64 y,.float .f64 z,.float .f64 u,.int .u8 c] 105 by exact KL).grown hg (fun e=>by have:=(HOWN.out.lt _ e).2;have:=HW3.out;omega);have E2:=(show Blk _ (w.heap.size+1) #[.int .i64 0,.int .i64 0,.slice none 0 0,.slice none 0 0] 25 by (have HB:=HR3.out;exact KL)).grown hg (fun e=>by have:=(HOWN.out.lt _ e).1;have:=HLT.out;omega);have E1:=(show Blk _ w.heap.size #[.int .u8 c,.slice p n cap] 109 by (have HB:=HQ3.out;exact KL)).grown hg (fun e=>by have:=(HOWN.out.lt _ e).1;have:=HLT.out;omega);obtain ⟨e3a,e3b,e3c⟩:=E3.facts;obtain ⟨e4a,e4b,e4c⟩:=E4.facts;obtain ⟨e2a,e2b,e2c⟩:=E2.facts;obtain ⟨e1a,e1b,e1c⟩:=E1.facts;have HS5:Hid (w3.heap.size+1≤w5.heap.size):=Lib.hid (by have h4:=hg.4;simp at h4;omega);have HNE5:Hid (Value.ownBlock (.slice p5 (m+2) c5) ≠ some w3.heap.size):=Lib.hid (fun e=>by rcases hb with h|h;exact (fun e=>by have:=(HOWN.out.lt _ e).2;have:=HW3.out;omega) (h.symm.trans e);(have h2:=h.symm.trans e;simp at h2;omega));have HB5:Hid (Bel w (w5.setCell ⟨w1.heap.size,2,none⟩ (.slice p5 (m+2) c5))):=Lib.hid (Bel.setCellR (by have:=HLT.out;show w.heap.size≤w1.heap.size;omega) ((show Bel w _ by (have HB:=HBEL3.out;exact EL)).of_row hg (fun g hg=>by have:=(HOWN.out.lt g hg).1;have:=HLT.out;omega)));have HO1:Hid ((w5.setCell ⟨w1.heap.size,2,none⟩ (.slice p5 (m+2) c5)).ownsRow (w1.heap.size+1) 27 1 (.slice p5 (m+2) c5) (m+2) _):=Lib.hid (ho.kept (grownBy_set _ _ _ _) (ho.ne_of_lt' (by have:=HLT.out;omega)));have HE5:Hid (Blk (w5.setCell ⟨w1.heap.size,2,none⟩ (.slice p5 (m+2) c5)) w1.heap.size #[.int .i64 2,.int .i64 c,.slice p5 (m+2) c5,.slice none 0 0] 25):=Lib.hid (Blk.cast (E3.set 2 _) (by rfl));have HK5:Hid (Blk (w5.setCell ⟨w1.heap.size,2,none⟩ (.slice p5 (m+2) c5)) w3.heap.size #[.float .f64 x,.float .f64 y,.float .f64 z,.float .f64 u,.int .u8 c] 105):=Lib.hid (Blk.otherR (by have:=HW3.out;have:=HLW.out;show w3.heap.size ≠ w1.heap.size;omega) E4);have HR5:Hid (Blk (w5.setCell ⟨w1.heap.size,2,none⟩ (.slice p5 (m+2) c5)) (w.heap.size+1) #[.int .i64 0,.int .i64 0,.slice none 0 0,.slice none 0 0] 25):=Lib.hid (Blk.otherR (by have:=HLT.out;show w.heap.size+1 ≠ w1.heap.size;omega) E2);have HQ5:Hid (Blk (w5.setCell ⟨w1.heap.size,2,none⟩ (.slice p5 (m+2) c5)) w.heap.size #[.int .u8 c,.slice p n cap] 109):=Lib.hid (Blk.otherR (by have:=HLT.out;show w.heap.size ≠ w1.heap.size;omega) E1);clear ho hg hb E3 E4 E2 E1))
    | (go_at_call 174;(with_reducible refine (H3D.out _).mono ?_);rintro e w' ⟨rfl,rfl⟩)
    | (go_at_call 175;(with_reducible refine (HME.out _).mono ?_);rintro e w' ⟨rfl,rfl⟩)
    | (go_at_call 69;(with_reducible refine (HGT.out _ ?hx).mono ?_);(case hx=>exact HBEL.out.trans HX2.out);rintro e w3 ⟨rfl,hb3⟩;have HX3:Hid (Bel wr w3):=Lib.hid (HX2.out.trans hb3);have HBEL3:Hid (Bel w w3):=Lib.hid (HBEL.out.trans HX3.out);have HW3:Hid (wr.heap.size≤w3.heap.size):=Lib.hid HX3.out.size;have C3:Blk w3 w1.heap.size #[.int .i64 2,.int .i64 c,.slice p0 m c0,.slice none 0 0] 25:=HE2.out.bel HX3.out;have C2:=HR2.out.bel HX3.out;have C1:=HQ2.out.bel HX3.out;have HE3:=Lib.hid C3;have HR3:=Lib.hid C2;have HQ3:=Lib.hid C1;obtain ⟨f3a,f3b,f3c⟩:=C3.facts;have hn1:w3.heap.size ≠ w1.heap.size:=Nat.ne_of_gt f3c;have hn2:w1.heap.size ≠ w3.heap.size:=Nat.ne_of_lt f3c;clear hb3 C3 C2 C1)
    | (go_at_call 126;(with_reducible refine (HLEN.out _).mono ?_);rintro e w2 ⟨rfl,hb2⟩;have HX2:Hid (Bel wr w2):=Lib.hid hb2;have C1:=HQ2.out.bel HX2.out;obtain ⟨f1a,f1b,f1c⟩:=C1.facts;clear hb2 C1))
   go_roundw
   case rel =>
    refine ⟨t+1,(((m+2)+1)+1),p7,c7,by go_num,by omega,by have:=HMT.out;omega,HB7.out,by have:=HS7.out;have:=HW3.out;have:=HLW.out;simp;omega,HQ7.out,HR7.out,HE7.out,?_⟩
    have hx:(xs.take (((m+2)+1)+1)).map flv=(xs.take m).map flv ++ ([.float .f64 x,.float .f64 y] ++ [.float .f64 z] ++ [.float .f64 u]):=by
     have hm:=HMT.out
     have he:(((m+2)+1)+1)=t*4+4:=by omega
     rw [he,HTT.out,HNN.out,← hm]
    rw [hx]
    have ho:=HO3.out
    simpa only [List.append_assoc] using ho
   case measure=>simp [intOf];omega
  ·obtain rfl:t=q:=by omega
   have hm:m=n:=HMT.out.trans HEN.out
   have hx:xs.take m=xs:=List.take_of_length_le (by have:=HNL.out;omega)
   have hown:=HOWN.out
   rw [hx] at hown
   have HF:Hid (FlSl (fun b=>w1.heap.size+1≤b) wr (.slice p0 m c0) xs):=Lib.hid (FlSl.of_owns hown (by rw [HNL.out,hm]) fun b hb=>hb)
   clear hx hown hm
   go_wp2_with (go_at_call 126;(with_reducible refine (HLEN.out _).mono ?_);rintro e w2 ⟨rfl,hb2⟩;have HX2:Hid (Bel wr w2):=Lib.hid hb2;have C1:=HE2.out.bel HX2.out;obtain ⟨f1a,f1b,f1c⟩:=C1.facts;have C2:=HR2.out.bel HX2.out;have HR3:=Lib.hid C2;obtain ⟨f2a,f2b,f2c⟩:=C2.facts;have HF2:=Lib.hid (HF.out.bel hb2);have HB2:Hid (Bel w w2):=Lib.hid (HBEL.out.trans hb2);clear hb2 C1 C2)
   refine post_ret (results_one rfl (resIs_agg (n:=4) (cs:=#[.int .i64 2,.int .i64 c,.slice p0 m c0,.slice none 0 0]) (by rfl) Tryz.underlying25 (by kernel_rfl) (T:=25) ?_ rfl)) ⟨_,_,_,_,_,_,rfl,?_,GmSl.nil _ _,?_⟩
   ·have HB:=HR3.out
    exact SL
   ·have h2:=HLT.out
    refine HF2.out.keep (by simp) (fun b hb hl=>?_) (fun b _ hb=>hG b (by omega))
    repeat rw [Below.heap_setCell _ _ _ _ (by simp;omega)]
   ·have HB:=HB2.out
    exact EL
theorem plainSeq_any {F:Nat→Prop} (G:Nat→Prop) {cs:List Value} {g:Gm} (w:World) (hG:New G w) (h:Ob F w 2 cs g):Calls Tryz.prog 176 #[.agg cs.toArray] w (IsGm G g w):=by
 obtain ⟨c,p,n,cap,xs,rfl,hc,rfl,hf,hm,hb⟩:=h.ln
 show Calls Tryz.prog 176 #[.agg #[.int .u8 c,.slice p n cap]] w _
 by_cases h1:c % 2=1<;>by_cases h2:c / 2 % 2=1
 ·exact plainSeq_3 F G c p n cap xs hc (decide_eq_true h1) (decide_eq_true h2) w hG hf hm hb
 ·exact plainSeq_1 F G c p n cap xs hc (decide_eq_true h1) (decide_eq_false h2) w hG hf hm hb
 ·exact plainSeq_2 F G c p n cap xs hc (decide_eq_false h1) (decide_eq_true h2) w hG hf hm hb
 ·exact plainSeq_0 F G c p n cap xs hc (decide_eq_false h1) (decide_eq_false h2) w hG hf hm hb
set_option maxHeartbeats 4000000 in
set_option maxRecDepth 100000 in
theorem plainLine_any (g:Gm):PlainOk 2 98 g:=fun F G cs w hG h=>by
 obtain ⟨c,p,n,cap,xs,rfl,hc,rfl,hf,hm,hb⟩:=h.ln
 show Calls Tryz.prog 98 #[.agg #[.int .u8 c,.slice p n cap]] w _
 have HCO:=Lib.hid (lineCoords_any c p n cap)
 have HPS:Hid (∀ W,Bel w W→w.heap.size+2≤W.heap.size→Calls Tryz.prog 176 #[.agg #[.int .u8 c,.slice p n cap]] W (IsGm (fun b=>w.heap.size+2≤b) (.mk 2 c xs []) W)):=Lib.hid fun W hW hs=>plainSeq_any (cs:=[.int .u8 c,.slice p n cap]) (fun b=>w.heap.size+2≤b) W (fun b hb=>Nat.le_trans hs hb) (h.bel hW)
 clear h hf hm hb
 go_enter Tryz.func98,Tryz.ntmps98
 go_wp2_with (first
  | (go_at_call 176;(with_reducible refine (HPS.out _ ?hb ?hs).mono ?_);(case hb=>exact HB1.out);(case hs=>exact HS1.out);rintro e w2 ⟨p2,n2,c2,p3,n3,c3,rfl,hf2,hg2,hb2⟩;have HF2:=Lib.hid hf2;have HG2:=Lib.hid hg2;have HB2:Hid (Bel w w2):=Lib.hid (HB1.out.trans hb2);have C2:=HR1.out.bel hb2;have HR2:=Lib.hid C2;obtain ⟨f2a,f2b,f2c⟩:=C2.facts;clear hb2 C2 hf2 hg2)
  | (go_at_call 68;(with_reducible refine (HCO.out _).mono ?_);rintro e w1 ⟨rfl,hb1⟩;have HB1:Hid (Bel w w1):=Lib.hid ((show Bel w _ by exact EL).trans hb1);have HS1:Hid (w.heap.size+2≤w1.heap.size):=Lib.hid (by have:=hb1.size;simp at this;omega);have HR1:Hid (Blk w1 (w.heap.size+1) #[.int .i64 0,.int .i64 0,.slice none 0 0,.slice none 0 0] 25):=Lib.hid (Blk.bel (by exact KL) hb1);clear hb1))
 refine post_ret (results_one rfl (resIs_agg (n:=4) (cs:=#[.int .i64 2,.int .i64 c,.slice p2 n2 c2,.slice p3 n3 c3]) (by rfl) Tryz.underlying25 (by kernel_rfl) (T:=25) ?_ rfl)) ⟨_,_,_,_,_,_,rfl,?_,?_,?_⟩
 ·have HB:=HR2.out
  exact SL
 ·refine HF2.out.keep (by simp) (fun b hb hl=>?_) (fun b _ hb=>hG b (by omega))
  repeat rw [Below.heap_setCell _ _ _ _ (by simp;omega)]
 ·refine HG2.out.keep (by simp) (fun b hb hl=>?_) (fun b _ hb=>hG b (by omega))
  repeat rw [Below.heap_setCell _ _ _ _ (by simp;omega)]
 ·have HB:=HB2.out
  exact EL
end Go.Proofs.YtpipehenfcbjbaaGreatDoor
set_option linter.unusedVariables false
set_option linter.unusedSimpArgs false
namespace Go.Proofs.YtpipehenfcbjbaaGreatDoor
open Go.ChangeShapes Go.WideShapes Go.ChangeAt Go.RowKit
def IsEl (F:Nat→Prop) (e:Nat) (kid:Gm) (w:World) (en:Ending) (w':World):Prop:=∃ cl:List Value,en=.returned (.agg cl.toArray)∧Ob F w' e cl kid∧Bel w w'
set_option maxHeartbeats 4000000 in
set_option maxRecDepth 100000 in
theorem elem_4 {F:Nat→Prop} {cs:List Value} {g kid:Gm} {i:Nat} {w0:World} (h:Ob F w0 4 cs g) (hk:g.kids[i]?=some kid) (w:World) (hw:Bel w0 w):Calls Tryz.prog 77 #[.agg cs.toArray,.int .i64 i] w (IsEl F 1 kid w):=by
 obtain ⟨p,cap,c,gs,rfl,hc,rfl,hn31,hsl⟩:=h.sl (e:=1) (k:=6) rfl
 change gs[i]?=some kid at hk
 obtain ⟨_,_,hve,_,_,hq⟩:=hsl
 cases hve
 obtain ⟨b,off,rfl,hlt,-,hr⟩:=hq (by intro e;rw [e] at hk;simp at hk)
 obtain ⟨cl,hcl,hcell,hob⟩:=hr i kid hk
 obtain ⟨x0,x1,x2,x3,x4,x5,hcs,-,-⟩:=hob.pt
 subst hcs
 have D0:=cell_kept hw (hcell 0 (.float .f64 x0) rfl)
 rw [Nat.add_zero] at D0
 have D1:=cell_kept hw (hcell 1 (.float .f64 x1) rfl)
 have E1:=D1
 rw [← Nat.add_assoc] at E1
 have D2:=cell_kept hw (hcell 2 (.float .f64 x2) rfl)
 have E2:=D2
 rw [← Nat.add_assoc] at E2
 have D3:=cell_kept hw (hcell 3 (.float .f64 x3) rfl)
 have E3:=D3
 rw [← Nat.add_assoc] at E3
 have D4:=cell_kept hw (hcell 4 (.int .u8 x4) rfl)
 have E4:=D4
 rw [← Nat.add_assoc] at E4
 have D5:=cell_kept hw (hcell 5 (.bool x5) rfl)
 have E5:=D5
 rw [← Nat.add_assoc] at E5
 have HOB:Hid (∀ W,Bel w W→Ob F W 1 _ kid):=Lib.hid fun W hW=>(hob.bel hw).bel hW
 have hil:i<gs.length:=(List.getElem?_eq_some_iff.1 hk).1
 have hbl:b<w.heap.size:=Nat.lt_of_lt_of_le hlt hw.size
 clear h hq hr hcell hob hcl hk hw
 show Calls Tryz.prog 77 #[.agg #[.slice (some ⟨b,off,none⟩) gs.length cap,.int .u8 c],.int .i64 i] w _
 generalize gs.length=n at *
 have hi1:(i:Int)<(n:Int):=by omega
 have hi0:(0:Int)≤(i:Int):=by omega
 go_enter Tryz.func77,Tryz.ntmps77
 go_wp2
 refine post_ret (results_one rfl (resIs_agg (n:=6) (cs:=#[.float .f64 x0,.float .f64 x1,.float .f64 x2,.float .f64 x3,.int .u8 x4,.bool x5]) (by rfl) Tryz.underlying107 (by kernel_rfl) (T:=107) ?_ rfl)) ⟨[.float .f64 x0,.float .f64 x1,.float .f64 x2,.float .f64 x3,.int .u8 x4,.bool x5],rfl,HOB.out _ ?_,?_⟩
 ·exact SL
 ·exact EL
 ·exact EL
set_option maxHeartbeats 4000000 in
set_option maxRecDepth 100000 in
theorem elem_5 {F:Nat→Prop} {cs:List Value} {g kid:Gm} {i:Nat} {w0:World} (h:Ob F w0 5 cs g) (hk:g.kids[i]?=some kid) (w:World) (hw:Bel w0 w):Calls Tryz.prog 79 #[.agg cs.toArray,.int .i64 i] w (IsEl F 2 kid w):=by
 obtain ⟨p,cap,c,gs,rfl,hc,rfl,hn31,hsl⟩:=h.sl (e:=2) (k:=2) rfl
 change gs[i]?=some kid at hk
 obtain ⟨_,_,hve,_,_,hq⟩:=hsl
 cases hve
 obtain ⟨b,off,rfl,hlt,-,hr⟩:=hq (by intro e;rw [e] at hk;simp at hk)
 obtain ⟨cl,hcl,hcell,hob⟩:=hr i kid hk
 obtain ⟨x0,x1,x2,x3,x4,hcs,-⟩:=hob.ln
 subst hcs
 have D0:=cell_kept hw (hcell 0 (.int .u8 x0) rfl)
 rw [Nat.add_zero] at D0
 have D1:=cell_kept hw (hcell 1 (.slice x1 x2 x3) rfl)
 have E1:=D1
 rw [← Nat.add_assoc] at E1
 have HOB:Hid (∀ W,Bel w W→Ob F W 2 _ kid):=Lib.hid fun W hW=>(hob.bel hw).bel hW
 have hil:i<gs.length:=(List.getElem?_eq_some_iff.1 hk).1
 have hbl:b<w.heap.size:=Nat.lt_of_lt_of_le hlt hw.size
 clear h hq hr hcell hob hcl hk hw
 show Calls Tryz.prog 79 #[.agg #[.slice (some ⟨b,off,none⟩) gs.length cap,.int .u8 c],.int .i64 i] w _
 generalize gs.length=n at *
 have hi1:(i:Int)<(n:Int):=by omega
 have hi0:(0:Int)≤(i:Int):=by omega
 go_enter Tryz.func79,Tryz.ntmps79
 go_wp2
 refine post_ret (results_one rfl (resIs_agg (n:=2) (cs:=#[.int .u8 x0,.slice x1 x2 x3]) (by rfl) Tryz.underlying111 (by kernel_rfl) (T:=111) ?_ rfl)) ⟨[.int .u8 x0,.slice x1 x2 x3],rfl,HOB.out _ ?_,?_⟩
 ·exact SL
 ·exact EL
 ·exact EL
set_option maxHeartbeats 4000000 in
set_option maxRecDepth 100000 in
theorem elem_6 {F:Nat→Prop} {cs:List Value} {g kid:Gm} {i:Nat} {w0:World} (h:Ob F w0 6 cs g) (hk:g.kids[i]?=some kid) (w:World) (hw:Bel w0 w):Calls Tryz.prog 81 #[.agg cs.toArray,.int .i64 i] w (IsEl F 3 kid w):=by
 obtain ⟨p,cap,c,gs,rfl,hc,rfl,hn31,hsl⟩:=h.sl (e:=3) (k:=2) rfl
 change gs[i]?=some kid at hk
 obtain ⟨_,_,hve,_,_,hq⟩:=hsl
 cases hve
 obtain ⟨b,off,rfl,hlt,-,hr⟩:=hq (by intro e;rw [e] at hk;simp at hk)
 obtain ⟨cl,hcl,hcell,hob⟩:=hr i kid hk
 obtain ⟨x0,x1,x2,x3,hcs,-⟩:=hob.sl (e:=2) (k:=2) rfl
 subst hcs
 have D0:=cell_kept hw (hcell 0 (.slice x0 x3.length x1) rfl)
 rw [Nat.add_zero] at D0
 have D1:=cell_kept hw (hcell 1 (.int .u8 x2) rfl)
 have E1:=D1
 rw [← Nat.add_assoc] at E1
 have HOB:Hid (∀ W,Bel w W→Ob F W 3 _ kid):=Lib.hid fun W hW=>(hob.bel hw).bel hW
 have hil:i<gs.length:=(List.getElem?_eq_some_iff.1 hk).1
 have hbl:b<w.heap.size:=Nat.lt_of_lt_of_le hlt hw.size
 clear h hq hr hcell hob hcl hk hw
 show Calls Tryz.prog 81 #[.agg #[.slice (some ⟨b,off,none⟩) gs.length cap,.int .u8 c],.int .i64 i] w _
 generalize gs.length=n at *
 have hi1:(i:Int)<(n:Int):=by omega
 have hi0:(0:Int)≤(i:Int):=by omega
 go_enter Tryz.func81,Tryz.ntmps81
 go_wp2
 refine post_ret (results_one rfl (resIs_agg (n:=2) (cs:=#[.slice x0 x3.length x1,.int .u8 x2]) (by rfl) Tryz.underlying91 (by kernel_rfl) (T:=91) ?_ rfl)) ⟨[.slice x0 x3.length x1,.int .u8 x2],rfl,HOB.out _ ?_,?_⟩
 ·exact SL
 ·exact EL
 ·exact EL
set_option maxHeartbeats 4000000 in
set_option maxRecDepth 100000 in
theorem elem_0 {F:Nat→Prop} {cs:List Value} {g kid:Gm} {i:Nat} {w0:World} (h:Ob F w0 0 cs g) (hk:g.kids[i]?=some kid) (w:World) (hw:Bel w0 w):Calls Tryz.prog 84 #[.agg cs.toArray,.int .i64 i] w (IsEl F 7 kid w):=by
 obtain ⟨p,cap,c,gs,rfl,hc,rfl,hn31,hsl⟩:=h.sl (e:=7) (k:=2) rfl
 change gs[i]?=some kid at hk
 obtain ⟨_,_,hve,_,_,hq⟩:=hsl
 cases hve
 obtain ⟨b,off,rfl,hlt,-,hr⟩:=hq (by intro e;rw [e] at hk;simp at hk)
 obtain ⟨cl,hcl,hcell,hob⟩:=hr i kid hk
 obtain ⟨x0,x1,x2,hcs,-⟩:=hob.gi
 subst hcs
 have D0:=cell_kept hw (hcell 0 (.int .i64 x0) rfl)
 rw [Nat.add_zero] at D0
 have D1:=cell_kept hw (hcell 1 (.iface (ptrT x0) (.pointer (some ⟨x1,0,none⟩))) rfl)
 have E1:=D1
 rw [← Nat.add_assoc] at E1
 have HOB:Hid (∀ W,Bel w W→Ob F W 7 _ kid):=Lib.hid fun W hW=>(hob.bel hw).bel hW
 have hil:i<gs.length:=(List.getElem?_eq_some_iff.1 hk).1
 have hbl:b<w.heap.size:=Nat.lt_of_lt_of_le hlt hw.size
 clear h hq hr hcell hob hcl hk hw
 show Calls Tryz.prog 84 #[.agg #[.slice (some ⟨b,off,none⟩) gs.length cap,.int .u8 c],.int .i64 i] w _
 generalize gs.length=n at *
 have hi1:(i:Int)<(n:Int):=by omega
 have hi0:(0:Int)≤(i:Int):=by omega
 go_enter Tryz.func84,Tryz.ntmps84
 go_wp2
 refine post_ret (results_one rfl (resIs_agg (n:=2) (cs:=#[.int .i64 x0,.iface (ptrT x0) (.pointer (some ⟨x1,0,none⟩))]) (by rfl) Tryz.underlying64 (by kernel_rfl) (T:=64) ?_ rfl)) ⟨[.int .i64 x0,.iface (ptrT x0) (.pointer (some ⟨x1,0,none⟩))],rfl,HOB.out _ ?_,?_⟩
 ·exact SL
 ·exact EL
 ·exact EL
set_option maxHeartbeats 4000000 in
set_option maxRecDepth 100000 in
theorem elem_3 {F:Nat→Prop} {cs:List Value} {g kid:Gm} {i j:Nat} {w0:World} (h:Ob F w0 3 cs g) (hk:g.kids[i]?=some kid) (w:World) (hw:Bel w0 w) (hj:j+1=i):Calls Tryz.prog 75 #[.agg cs.toArray,.int .i64 j] w (IsEl F 2 kid w):=by
 obtain ⟨p,cap,c,gs,rfl,hc,rfl,hn31,hsl⟩:=h.sl (e:=2) (k:=2) rfl
 change gs[i]?=some kid at hk
 obtain ⟨_,_,hve,_,_,hq⟩:=hsl
 cases hve
 obtain ⟨b,off,rfl,hlt,-,hr⟩:=hq (by intro e;rw [e] at hk;simp at hk)
 obtain ⟨cl,hcl,hcell,hob⟩:=hr i kid hk
 obtain ⟨x0,x1,x2,x3,x4,hcs,-⟩:=hob.ln
 subst hcs
 have D0:=cell_kept hw (hcell 0 (.int .u8 x0) rfl)
 rw [Nat.add_zero] at D0
 have D1:=cell_kept hw (hcell 1 (.slice x1 x2 x3) rfl)
 have E1:=D1
 rw [← Nat.add_assoc] at E1
 have HOB:Hid (∀ W,Bel w W→Ob F W 2 _ kid):=Lib.hid fun W hW=>(hob.bel hw).bel hW
 have hil:i<gs.length:=(List.getElem?_eq_some_iff.1 hk).1
 have hbl:b<w.heap.size:=Nat.lt_of_lt_of_le hlt hw.size
 have hjm:((j:Int) == -1)=false:=by simp<;>omega
 have hjw:IntKind.i64.wrap ((j:Int)+1)=(i:Int):=by
  rw [IntKind.wrap_i64]
  omega
 clear hj
 clear h hq hr hcell hob hcl hk hw
 show Calls Tryz.prog 75 #[.agg #[.slice (some ⟨b,off,none⟩) gs.length cap,.int .u8 c],.int .i64 j] w _
 generalize gs.length=n at *
 have hi1:(i:Int)<(n:Int):=by omega
 have hi0:(0:Int)≤(i:Int):=by omega
 go_enter Tryz.func75,Tryz.ntmps75
 go_wp2
 refine post_ret (results_one rfl (resIs_agg (n:=2) (cs:=#[.int .u8 x0,.slice x1 x2 x3]) (by rfl) Tryz.underlying111 (by kernel_rfl) (T:=111) ?_ rfl)) ⟨[.int .u8 x0,.slice x1 x2 x3],rfl,HOB.out _ ?_,?_⟩
 ·exact SL
 ·exact EL
 ·exact EL
end Go.Proofs.YtpipehenfcbjbaaGreatDoor
