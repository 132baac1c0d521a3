/-
 kAny: no deeper than 8,no greater than 600,no number that is not one.
-/
import Derived.Test.YtpipehenfcbjbaaGreatDoorPai
import Derived.StillTailTactics
set_option linter.unusedVariables false
namespace Go.Proofs.YtpipehenfcbjbaaGreatDoor
open Go.ChangeShapes Go.WideShapes Go.ChangeAt Go.RowKit
def nanB (x:Nat):Bool:=FloatKind.f64.format.order x x != some .eq
def kAnyOf (g:Gm):Bool:=deepOf g 8 && (decide (g.size≤600) && (allOf g).all fun x=>!nanB x)
set_option maxHeartbeats 4000000 in
set_option maxRecDepth 100000 in
theorem kAny_any (g:Gm) (hsz:g.size≤1048576):GmArg g fun v w=>Calls Tryz.prog 7 #[v] w (IsB (kAnyOf g) w):=by
 intro F pn nn cn pk nk ck w hN hK
 have HD:Hid (∀ (W:World),Bel w W→Calls Tryz.prog 18 #[.agg #[.int .i64 g.kind,.int .i64 g.dim,.slice pn nn cn,.slice pk nk ck],.int .i64 8] W (IsB (deepOf g 8) W)):=Lib.hid fun W hW=>GmArg.of (pDeep_any g 8 (by decide)) hN hK hW
 have HW:Hid (∀ (m:Int) (W:World),Bel w W→Calls Tryz.prog 19 #[.agg #[.int .i64 g.kind,.int .i64 g.dim,.slice pn nn cn,.slice pk nk ck],.int .i64 m] W (IsSmall g.size m W)):=Lib.hid fun m W hW=>GmArg.of (spWeight_any g hsz m) hN hK hW
 have HA:Hid (∀ (W:World),Bel w W→Calls Tryz.prog 20 #[.agg #[.int .i64 g.kind,.int .i64 g.dim,.slice pn nn cn,.slice pk nk ck]] W (IsFls (fun _=>True) (allOf g) g.size W)):=Lib.hid fun W hW=>GmArg.of (allNums_any g hsz (fun _=>True)) hN hK hW (New.any W)
 have HSZ:=Lib.hid hsz
 clear hN hK hsz
 rw [kAnyOf]
 generalize g.size=sz at *
 generalize allOf g=xs at *
 generalize deepOf g 8=dp at *
 generalize g.kind=kind at *
 generalize g.dim=dim at *
 go_enter Tryz.func7,Tryz.ntmps7
 go_wp2_with (go_at_call 18;(with_reducible refine (HD.out _ ?hb).mono ?_);(case hb=>exact EL);rintro e w1 ⟨rfl,hb1⟩;have HB1:Hid (Bel w w1):=Lib.hid ((Bel.alloc1 w _).trans hb1);have B1:=(Blk.new w #[.int .i64 kind,.int .i64 dim,.slice pn nn cn,.slice pk nk ck] 25).bel hb1;obtain ⟨r1,z1,l1⟩:=B1.facts;have HP1:=Lib.hid B1;clear hb1 B1;cases dp)
 ·go_ret
  exact IsB.mk' (by simp) HB1.out
 ·go_wp2_with (go_at_call 19;(with_reducible refine (HW.out _ _ HB1.out).mono ?_);rintro e w2 ⟨v2,rfl,hv2,hx2,hb2⟩;have HX2:=Lib.hid hx2;have HV2:=Lib.hid hv2;have hv2b:v2≤1048576:=Nat.le_trans hv2 HSZ.out;have HB2:Hid (Bel w w2):=Lib.hid (HB1.out.trans hb2);have B2:=HP1.out.bel hb2;obtain ⟨r2,z2,l2⟩:=B2.facts;have HP2:=Lib.hid B2;clear hb2 B2 hv2 hx2;by_cases hgt:(600:Int)<v2)
  ·have hno:decide (sz≤600)=false:=decide_eq_false (by have:=HV2.out;omega)
   have HNO:=Lib.hid hno
   clear hno
   go_ret
   exact IsB.mk' (by rw [HNO.out];simp) HB2.out
  ·have hyes:decide (sz≤600)=true:=decide_eq_true (by have:=HX2.out (by omega);omega)
   have HYES:=Lib.hid hyes
   clear hyes
   go_wp2_with (go_at_call 20;(with_reducible refine (HA.out _ HB2.out).mono ?_);rintro e w3 ⟨p3,m3,c3,rfl,hf3,hm3,hb3⟩;have HF3:=Lib.hid hf3;have hxl:xs.length=m3:=hf3.len.1;have HXL:=Lib.hid hxl;have hm3b:m3≤1048576:=Nat.le_trans hm3 HSZ.out;have HB3:Hid (Bel w w3):=Lib.hid (HB2.out.trans hb3);clear hb3 hf3 hm3 hxl)
   go_loopw [16] (fun iv wr=>∃ t:Nat,iv=.int .i64 t∧t≤m3∧(∀ x ∈ xs.take t,nanB x=false)∧Bel w3 wr) (fun iv _=>m3 - (intOf iv).toNat)
   case atStart=>exact ⟨0,rfl,Nat.zero_le _,fun x hx=>by simp at hx,Bel.refl _⟩
   case round =>
    obtain ⟨t,rfl,ht,hall,hbel⟩:=hrel
    have HALL:=Lib.hid hall
    clear hall
    have HBEL:=Lib.hid hbel
    by_cases htn:t<m3
    ·obtain ⟨b,off,rfl,hlt,-,hq⟩:=HF3.out.cells (by omega)
     obtain ⟨x,hx⟩:∃ x,xs[t]?=some x:=⟨_,List.getElem?_eq_getElem (by have:=HXL.out;omega)⟩
     have D0:=cell_kept hbel (hq t x hx)
     have hbl:b<wr.heap.size:=Nat.lt_of_lt_of_le hlt hbel.size
     obtain ⟨bb,hbb⟩:∃ b,(FloatKind.f64.format.order x x != some .eq)=b:=⟨_,rfl⟩
     have HBB:Hid (nanB x=bb):=Lib.hid hbb
     have HX:=Lib.hid hx
     clear hq hx hbel
     cases bb
     ·go_wp2
      go_roundw
      case rel=>exact ⟨t+1,by go_num,by omega,fun y hy=>by (rw [List.take_add_one,HX.out] at hy;rcases List.mem_append.1 hy with hy|hy;exact HALL.out y hy;simp at hy;rw [hy];exact HBB.out),by have:=HBEL.out;exact EL⟩
      case measure=>simp [intOf];omega
     ·have hne:(xs.all fun x=>!nanB x)=false:=by
       apply Bool.eq_false_iff.2
       intro h
       have:=List.all_eq_true.1 h x (List.mem_iff_getElem?.2 ⟨t,HX.out⟩)
       rw [HBB.out] at this
       simp at this
      have HNE:=Lib.hid hne
      clear hne
      go_wp2
      go_ret
      exact IsB.mk' (by rw [HNE.out];simp) (HB3.out.trans HBEL.out)
    ·obtain rfl:t=m3:=by omega
     clear hbel
     have hye:(xs.all fun x=>!nanB x)=true:=by
      apply List.all_eq_true.2
      intro x hx
      have:=HALL.out x (by rw [List.take_of_length_le (by have:=HXL.out;omega)];exact hx)
      rw [this]
      rfl
     have HYE:=Lib.hid hye
     clear hye
     go_wp2
     go_ret
     exact IsB.mk' (by rw [HYE.out,HYES.out];simp) (HB3.out.trans HBEL.out)
end Go.Proofs.YtpipehenfcbjbaaGreatDoor
set_option linter.unusedVariables false
namespace Go.Proofs.YtpipehenfcbjbaaGreatDoor
open Go.ChangeShapes Go.WideShapes Go.ChangeAt Go.RowKit
theorem Blk.grown {w w':World} {b:Nat} {cs:Array Value} {t:TypeId} {row:Option Nat} (h:Blk w b cs t) (hg:w.grownBy w' row) (hne:row ≠ some b):Blk w' b cs t:=by
 have h1:=h.lt
 unfold Blk at *
 rw [hg.5 b h1 (fun e=>hne e.symm)]
 exact h
def IsFlx (F:Nat→Prop) (xs:List Nat) (w:World) (e:Ending) (w':World):Prop:=∃ p m c,e=.returned (.slice p m c)∧FlSl F w' (.slice p m c) xs∧Bel w w'
theorem flat_step {c:Nat} {ps:List Pl} {t:Nat} {q:Pl} (h:ps[t]?=some q):((ps.take (t+1)).flatMap (numsOfPl c)).map flv=((ps.take t).flatMap (numsOfPl c)).map flv ++ (numsOfPl c q).map flv:=by
 rw [List.take_add_one,h]
 simp
set_option maxHeartbeats 4000000 in
set_option maxRecDepth 100000 in
theorem nums_0 (F G:Nat→Prop) (v:Value) (ps:List Pl) (dim:Int) (w:World) (hF:New F w) (h:PlSl G w v ps) (h31:ps.length≤1048576) (hd:ct dim=0) :
  Calls Tryz.prog 34 #[v,.int .i64 dim] w (IsFlx F (ps.flatMap (numsOfPl 0)) w):=by
 have hm:dim % 4=0:=by unfold ct at hd;omega
 have a1:bits .and .i64 dim 1=0:=by rw [i64_and1];omega
 have a2:bits .and .i64 dim 2=0:=by rw [i64_and2,hm];decide
 obtain ⟨p,cap,rfl,hl,hc,hr⟩:=h
 have HR:=Lib.hid hr
 obtain ⟨i0,hi,hz0,hz1,hz2⟩:=info_parts infoF
 generalize hn:ps.length=n at *
 have HN:=Lib.hid hn
 clear hm hd hr hn
 go_enter Tryz.func34,Tryz.ntmps34
 go_wp2
 go_loopw [5,10] (fun dv iv wr=>∃ (t m:Nat),iv=.int .i64 t∧t≤n∧m=t*2∧Bel w wr∧wr.ownsRow w.heap.size 27 1 dv m (((ps.take t).flatMap (numsOfPl 0)).map flv)) (fun _ iv _=>n - (intOf iv).toNat)
 case atStart=>exact ⟨0,0,rfl,Nat.zero_le _,by omega,Bel.refl _,World.ownsRow_nil _ _ _ _⟩
 case round =>
  obtain ⟨t,m,rfl,ht,hmt,hbel,hown⟩:=hrel
  have HBEL:=Lib.hid hbel
  have HOWN:=Lib.hid hown
  have HMT:=Lib.hid hmt
  have hmb:m≤4194304:=by omega
  clear hmt
  obtain ⟨pv,cv,rfl⟩:=hown.isSlice
  by_cases htn:t<n
  ·obtain ⟨⟨x,y,z,u⟩,hq⟩:∃ q,ps[t]?=some q:=⟨_,List.getElem?_eq_getElem (by have:=HN.out;omega)⟩
   have HSTEP:Hid (((ps.take (t+1)).flatMap (numsOfPl 0)).map flv=((ps.take t).flatMap (numsOfPl 0)).map flv ++ [.float .f64 x,.float .f64 y]):=Lib.hid (by rw [flat_step hq];simp [numsOfPl,flv])
   obtain ⟨b,off,rfl,hlt,-,hcs⟩:=HR.out (by intro e;rw [e] at hq;simp at hq)
   obtain ⟨d0,d1,d2,d3⟩:=hcs t _ hq
   have D0:=cell_kept hbel d0
   have D1:=cell_kept hbel d1
   have D2:=cell_kept hbel d2
   have D3:=cell_kept hbel d3
   have hbl:b<wr.heap.size:=Nat.lt_of_lt_of_le hlt hbel.size
   clear d0 d1 d2 d3 hcs hq hbel hown
   go_wp2_with (first
    | (at_builtin;(refine wpList_append_row _ rfl (.tmp 14) (.tmp 19) 22 rfl w.heap.size 27 i0 _ 1 8 Tryz.underlying22 hi hz0 hz1 hz2 rfl (by decide) (.slice pv (m) cv) (m) _ rfl (own_kept HOWN.out (show Bel wr _ by exact EL)) ⟨wr.heap.size+1,0,none⟩ 2 2 [.float .f64 x,.float .f64 y] rfl rfl (blk_arr (cs:=#[.float .f64 x,.float .f64 y]) (t:=27) (by exact KL)) (by simp [Value.oneCell']) (by decide) (by unfold maxLen;omega) (by omega) (by have:=HBEL.out.size;simp;omega) ?_;intro v6 w6 ho6 hg6 hb6;obtain ⟨p6,c6,rfl⟩:=ho6.isSlice;have HO6:=Lib.hid ho6;have HB6:Hid (Bel w w6):=Lib.hid ((HBEL.out.trans (show Bel wr _ by exact EL)).of_row hg6 (fun g hg=>(HOWN.out.lt g hg).1));have P6:=((Blk.new wr #[.float .f64 x,.float .f64 y,.float .f64 z,.float .f64 u] 95).alloc _).grown hg6 (fun e=>by have:=(HOWN.out.lt _ e).2;omega);have HP6:=Lib.hid P6;obtain ⟨r6,z6,l6⟩:=P6.facts;have HSZ6:Hid (wr.heap.size+2≤w6.heap.size):=Lib.hid (by have:=hg6.4;simp at this;omega);have HNE6:Hid (Value.ownBlock (.slice p6 (m+2) c6) ≠ some wr.heap.size):=Lib.hid (fun e=>by rcases hb6 with h|h;exact (fun e=>by have:=(HOWN.out.lt _ e).2;omega) (h.symm.trans e);(have h2:=h.symm.trans e;simp at h2;omega));clear ho6 hg6 hb6 P6)))
   go_roundw
   case rel=>exact ⟨t+1,m+2,by go_num,by omega,by have:=HMT.out;omega,HB6.out,by rw [HSTEP.out];have:=HO6.out;simpa only [List.append_assoc] using this⟩
   case measure=>simp [intOf];omega
  ·obtain rfl:t=n:=by omega
   have hx:ps.take t=ps:=List.take_of_length_le (by have:=HN.out;omega)
   rw [hx] at hown
   have hlen:(ps.flatMap (numsOfPl 0)).length=m:=by rw [flatMap_len,HN.out,HMT.out];rfl
   have HR2:=Lib.hid (FlSl.of_owns (F:=F) hown hlen hF)
   clear hx hbel hown hlen
   go_wp2
   go_ret
   exact ⟨_,_,_,rfl,HR2.out,HBEL.out⟩
set_option maxHeartbeats 4000000 in
set_option maxRecDepth 100000 in
theorem nums_1 (F G:Nat→Prop) (v:Value) (ps:List Pl) (dim:Int) (w:World) (hF:New F w) (h:PlSl G w v ps) (h31:ps.length≤1048576) (hd:ct dim=1) :
  Calls Tryz.prog 34 #[v,.int .i64 dim] w (IsFlx F (ps.flatMap (numsOfPl 1)) w):=by
 have hm:dim % 4=1:=by unfold ct at hd;omega
 have a1:bits .and .i64 dim 1=1:=by rw [i64_and1];omega
 have a2:bits .and .i64 dim 2=0:=by rw [i64_and2,hm];decide
 obtain ⟨p,cap,rfl,hl,hc,hr⟩:=h
 have HR:=Lib.hid hr
 obtain ⟨i0,hi,hz0,hz1,hz2⟩:=info_parts infoF
 generalize hn:ps.length=n at *
 have HN:=Lib.hid hn
 clear hm hd hr hn
 go_enter Tryz.func34,Tryz.ntmps34
 go_wp2
 go_loopw [5,10] (fun dv iv wr=>∃ (t m:Nat),iv=.int .i64 t∧t≤n∧m=t*3∧Bel w wr∧wr.ownsRow w.heap.size 27 1 dv m (((ps.take t).flatMap (numsOfPl 1)).map flv)) (fun _ iv _=>n - (intOf iv).toNat)
 case atStart=>exact ⟨0,0,rfl,Nat.zero_le _,by omega,Bel.refl _,World.ownsRow_nil _ _ _ _⟩
 case round =>
  obtain ⟨t,m,rfl,ht,hmt,hbel,hown⟩:=hrel
  have HBEL:=Lib.hid hbel
  have HOWN:=Lib.hid hown
  have HMT:=Lib.hid hmt
  have hmb:m≤4194304:=by omega
  clear hmt
  obtain ⟨pv,cv,rfl⟩:=hown.isSlice
  by_cases htn:t<n
  ·obtain ⟨⟨x,y,z,u⟩,hq⟩:∃ q,ps[t]?=some q:=⟨_,List.getElem?_eq_getElem (by have:=HN.out;omega)⟩
   have HSTEP:Hid (((ps.take (t+1)).flatMap (numsOfPl 1)).map flv=((ps.take t).flatMap (numsOfPl 1)).map flv ++ [.float .f64 x,.float .f64 y] ++ [.float .f64 z]):=Lib.hid (by rw [flat_step hq];simp [numsOfPl,flv])
   obtain ⟨b,off,rfl,hlt,-,hcs⟩:=HR.out (by intro e;rw [e] at hq;simp at hq)
   obtain ⟨d0,d1,d2,d3⟩:=hcs t _ hq
   have D0:=cell_kept hbel d0
   have D1:=cell_kept hbel d1
   have D2:=cell_kept hbel d2
   have D3:=cell_kept hbel d3
   have hbl:b<wr.heap.size:=Nat.lt_of_lt_of_le hlt hbel.size
   clear d0 d1 d2 d3 hcs hq hbel hown
   go_wp2_with (first
    | (at_builtin;(refine wpList_append_row _ rfl (.tmp 14) (.tmp 19) 22 rfl w.heap.size 27 i0 _ 1 8 Tryz.underlying22 hi hz0 hz1 hz2 rfl (by decide) (.slice pv (m) cv) (m) _ rfl (own_kept HOWN.out (show Bel wr _ by exact EL)) ⟨wr.heap.size+1,0,none⟩ 2 2 [.float .f64 x,.float .f64 y] rfl rfl (blk_arr (cs:=#[.float .f64 x,.float .f64 y]) (t:=27) (by exact KL)) (by simp [Value.oneCell']) (by decide) (by unfold maxLen;omega) (by omega) (by have:=HBEL.out.size;simp;omega) ?_;intro v6 w6 ho6 hg6 hb6;obtain ⟨p6,c6,rfl⟩:=ho6.isSlice;have HO6:=Lib.hid ho6;have HB6:Hid (Bel w w6):=Lib.hid ((HBEL.out.trans (show Bel wr _ by exact EL)).of_row hg6 (fun g hg=>(HOWN.out.lt g hg).1));have P6:=((Blk.new wr #[.float .f64 x,.float .f64 y,.float .f64 z,.float .f64 u] 95).alloc _).grown hg6 (fun e=>by have:=(HOWN.out.lt _ e).2;omega);have HP6:=Lib.hid P6;obtain ⟨r6,z6,l6⟩:=P6.facts;have HSZ6:Hid (wr.heap.size+2≤w6.heap.size):=Lib.hid (by have:=hg6.4;simp at this;omega);have HNE6:Hid (Value.ownBlock (.slice p6 (m+2) c6) ≠ some wr.heap.size):=Lib.hid (fun e=>by rcases hb6 with h|h;exact (fun e=>by have:=(HOWN.out.lt _ e).2;omega) (h.symm.trans e);(have h2:=h.symm.trans e;simp at h2;omega));clear ho6 hg6 hb6 P6))
    | (at_builtin;(refine wpList_append_row _ rfl (.tmp 24) (.tmp 27) 22 rfl w.heap.size 27 i0 _ 1 8 Tryz.underlying22 hi hz0 hz1 hz2 rfl (by decide) (.slice p6 (m+2) c6) (m+2) _ rfl (own_kept HO6.out (show Bel w6 _ by exact EL)) ⟨w6.heap.size,0,none⟩ 1 1 [.float .f64 z] rfl rfl (blk_arr (cs:=#[.float .f64 z]) (t:=27) (by exact KL)) (by simp [Value.oneCell']) (by decide) (by unfold maxLen;omega) (by omega) (by have h1:=HBEL.out.size;have h2:=HSZ6.out;simp;omega) ?_;intro v7 w7 ho7 hg7 hb7;obtain ⟨p7,c7,rfl⟩:=ho7.isSlice;have HO7:=Lib.hid ho7;have HB7:Hid (Bel w w7):=Lib.hid ((HB6.out.trans (show Bel w6 _ by exact EL)).of_row hg7 (fun g hg=>(HO6.out.lt g hg).1));have P7:=(HP6.out.alloc _).grown hg7 HNE6.out;have HP7:=Lib.hid P7;obtain ⟨r7,z7,l7⟩:=P7.facts;have HSZ7:Hid (wr.heap.size+2≤w7.heap.size):=Lib.hid (by have h1:=HSZ6.out;have:=hg7.4;simp at this;omega);have HNE7:Hid (Value.ownBlock (.slice p7 (m+2+1) c7) ≠ some wr.heap.size):=Lib.hid (fun e=>by rcases hb7 with h|h;exact HNE6.out (h.symm.trans e);(have h2:=h.symm.trans e;simp at h2;have h3:=HSZ6.out;omega));clear ho7 hg7 hb7 P7)))
   go_roundw
   case rel=>exact ⟨t+1,m+2+1,by go_num,by omega,by have:=HMT.out;omega,HB7.out,by rw [HSTEP.out];have:=HO7.out;simpa only [List.append_assoc] using this⟩
   case measure=>simp [intOf];omega
  ·obtain rfl:t=n:=by omega
   have hx:ps.take t=ps:=List.take_of_length_le (by have:=HN.out;omega)
   rw [hx] at hown
   have hlen:(ps.flatMap (numsOfPl 1)).length=m:=by rw [flatMap_len,HN.out,HMT.out];rfl
   have HR2:=Lib.hid (FlSl.of_owns (F:=F) hown hlen hF)
   clear hx hbel hown hlen
   go_wp2
   go_ret
   exact ⟨_,_,_,rfl,HR2.out,HBEL.out⟩
set_option maxHeartbeats 4000000 in
set_option maxRecDepth 100000 in
theorem nums_2 (F G:Nat→Prop) (v:Value) (ps:List Pl) (dim:Int) (w:World) (hF:New F w) (h:PlSl G w v ps) (h31:ps.length≤1048576) (hd:ct dim=2) :
  Calls Tryz.prog 34 #[v,.int .i64 dim] w (IsFlx F (ps.flatMap (numsOfPl 2)) w):=by
 have hm:dim % 4=2:=by unfold ct at hd;omega
 have a1:bits .and .i64 dim 1=0:=by rw [i64_and1];omega
 have a2:bits .and .i64 dim 2=2:=by rw [i64_and2,hm];decide
 obtain ⟨p,cap,rfl,hl,hc,hr⟩:=h
 have HR:=Lib.hid hr
 obtain ⟨i0,hi,hz0,hz1,hz2⟩:=info_parts infoF
 generalize hn:ps.length=n at *
 have HN:=Lib.hid hn
 clear hm hd hr hn
 go_enter Tryz.func34,Tryz.ntmps34
 go_wp2
 go_loopw [5,10] (fun dv iv wr=>∃ (t m:Nat),iv=.int .i64 t∧t≤n∧m=t*3∧Bel w wr∧wr.ownsRow w.heap.size 27 1 dv m (((ps.take t).flatMap (numsOfPl 2)).map flv)) (fun _ iv _=>n - (intOf iv).toNat)
 case atStart=>exact ⟨0,0,rfl,Nat.zero_le _,by omega,Bel.refl _,World.ownsRow_nil _ _ _ _⟩
 case round =>
  obtain ⟨t,m,rfl,ht,hmt,hbel,hown⟩:=hrel
  have HBEL:=Lib.hid hbel
  have HOWN:=Lib.hid hown
  have HMT:=Lib.hid hmt
  have hmb:m≤4194304:=by omega
  clear hmt
  obtain ⟨pv,cv,rfl⟩:=hown.isSlice
  by_cases htn:t<n
  ·obtain ⟨⟨x,y,z,u⟩,hq⟩:∃ q,ps[t]?=some q:=⟨_,List.getElem?_eq_getElem (by have:=HN.out;omega)⟩
   have HSTEP:Hid (((ps.take (t+1)).flatMap (numsOfPl 2)).map flv=((ps.take t).flatMap (numsOfPl 2)).map flv ++ [.float .f64 x,.float .f64 y] ++ [.float .f64 u]):=Lib.hid (by rw [flat_step hq];simp [numsOfPl,flv])
   obtain ⟨b,off,rfl,hlt,-,hcs⟩:=HR.out (by intro e;rw [e] at hq;simp at hq)
   obtain ⟨d0,d1,d2,d3⟩:=hcs t _ hq
   have D0:=cell_kept hbel d0
   have D1:=cell_kept hbel d1
   have D2:=cell_kept hbel d2
   have D3:=cell_kept hbel d3
   have hbl:b<wr.heap.size:=Nat.lt_of_lt_of_le hlt hbel.size
   clear d0 d1 d2 d3 hcs hq hbel hown
   go_wp2_with (first
    | (at_builtin;(refine wpList_append_row _ rfl (.tmp 14) (.tmp 19) 22 rfl w.heap.size 27 i0 _ 1 8 Tryz.underlying22 hi hz0 hz1 hz2 rfl (by decide) (.slice pv (m) cv) (m) _ rfl (own_kept HOWN.out (show Bel wr _ by exact EL)) ⟨wr.heap.size+1,0,none⟩ 2 2 [.float .f64 x,.float .f64 y] rfl rfl (blk_arr (cs:=#[.float .f64 x,.float .f64 y]) (t:=27) (by exact KL)) (by simp [Value.oneCell']) (by decide) (by unfold maxLen;omega) (by omega) (by have:=HBEL.out.size;simp;omega) ?_;intro v6 w6 ho6 hg6 hb6;obtain ⟨p6,c6,rfl⟩:=ho6.isSlice;have HO6:=Lib.hid ho6;have HB6:Hid (Bel w w6):=Lib.hid ((HBEL.out.trans (show Bel wr _ by exact EL)).of_row hg6 (fun g hg=>(HOWN.out.lt g hg).1));have P6:=((Blk.new wr #[.float .f64 x,.float .f64 y,.float .f64 z,.float .f64 u] 95).alloc _).grown hg6 (fun e=>by have:=(HOWN.out.lt _ e).2;omega);have HP6:=Lib.hid P6;obtain ⟨r6,z6,l6⟩:=P6.facts;have HSZ6:Hid (wr.heap.size+2≤w6.heap.size):=Lib.hid (by have:=hg6.4;simp at this;omega);have HNE6:Hid (Value.ownBlock (.slice p6 (m+2) c6) ≠ some wr.heap.size):=Lib.hid (fun e=>by rcases hb6 with h|h;exact (fun e=>by have:=(HOWN.out.lt _ e).2;omega) (h.symm.trans e);(have h2:=h.symm.trans e;simp at h2;omega));clear ho6 hg6 hb6 P6))
    | (at_builtin;(refine wpList_append_row _ rfl (.tmp 32) (.tmp 35) 22 rfl w.heap.size 27 i0 _ 1 8 Tryz.underlying22 hi hz0 hz1 hz2 rfl (by decide) (.slice p6 (m+2) c6) (m+2) _ rfl (own_kept HO6.out (show Bel w6 _ by exact EL)) ⟨w6.heap.size,0,none⟩ 1 1 [.float .f64 u] rfl rfl (blk_arr (cs:=#[.float .f64 u]) (t:=27) (by exact KL)) (by simp [Value.oneCell']) (by decide) (by unfold maxLen;omega) (by omega) (by have h1:=HBEL.out.size;have h2:=HSZ6.out;simp;omega) ?_;intro v7 w7 ho7 hg7 hb7;obtain ⟨p7,c7,rfl⟩:=ho7.isSlice;have HO7:=Lib.hid ho7;have HB7:Hid (Bel w w7):=Lib.hid ((HB6.out.trans (show Bel w6 _ by exact EL)).of_row hg7 (fun g hg=>(HO6.out.lt g hg).1));have P7:=(HP6.out.alloc _).grown hg7 HNE6.out;have HP7:=Lib.hid P7;obtain ⟨r7,z7,l7⟩:=P7.facts;have HSZ7:Hid (wr.heap.size+2≤w7.heap.size):=Lib.hid (by have h1:=HSZ6.out;have:=hg7.4;simp at this;omega);have HNE7:Hid (Value.ownBlock (.slice p7 (m+2+1) c7) ≠ some wr.heap.size):=Lib.hid (fun e=>by rcases hb7 with h|h;exact HNE6.out (h.symm.trans e);(have h2:=h.symm.trans e;simp at h2;have h3:=HSZ6.out;omega));clear ho7 hg7 hb7 P7)))
   go_roundw
   case rel=>exact ⟨t+1,m+2+1,by go_num,by omega,by have:=HMT.out;omega,HB7.out,by rw [HSTEP.out];have:=HO7.out;simpa only [List.append_assoc] using this⟩
   case measure=>simp [intOf];omega
  ·obtain rfl:t=n:=by omega
   have hx:ps.take t=ps:=List.take_of_length_le (by have:=HN.out;omega)
   rw [hx] at hown
   have hlen:(ps.flatMap (numsOfPl 2)).length=m:=by rw [flatMap_len,HN.out,HMT.out];rfl
   have HR2:=Lib.hid (FlSl.of_owns (F:=F) hown hlen hF)
   clear hx hbel hown hlen
   go_wp2
   go_ret
   exact ⟨_,_,_,rfl,HR2.out,HBEL.out⟩
set_option maxHeartbeats 4000000 in
set_option maxRecDepth 100000 in
theorem nums_3 (F G:Nat→Prop) (v:Value) (ps:List Pl) (dim:Int) (w:World) (hF:New F w) (h:PlSl G w v ps) (h31:ps.length≤1048576) (hd:ct dim=3) :
  Calls Tryz.prog 34 #[v,.int .i64 dim] w (IsFlx F (ps.flatMap (numsOfPl 3)) w):=by
 have hm:dim % 4=3:=by unfold ct at hd;omega
 have a1:bits .and .i64 dim 1=1:=by rw [i64_and1];omega
 have a2:bits .and .i64 dim 2=2:=by rw [i64_and2,hm];decide
 obtain ⟨p,cap,rfl,hl,hc,hr⟩:=h
 have HR:=Lib.hid hr
 obtain ⟨i0,hi,hz0,hz1,hz2⟩:=info_parts infoF
 generalize hn:ps.length=n at *
 have HN:=Lib.hid hn
 clear hm hd hr hn
 go_enter Tryz.func34,Tryz.ntmps34
 go_wp2
 go_loopw [5,10] (fun dv iv wr=>∃ (t m:Nat),iv=.int .i64 t∧t≤n∧m=t*4∧Bel w wr∧wr.ownsRow w.heap.size 27 1 dv m (((ps.take t).flatMap (numsOfPl 3)).map flv)) (fun _ iv _=>n - (intOf iv).toNat)
 case atStart=>exact ⟨0,0,rfl,Nat.zero_le _,by omega,Bel.refl _,World.ownsRow_nil _ _ _ _⟩
 case round =>
  obtain ⟨t,m,rfl,ht,hmt,hbel,hown⟩:=hrel
  have HBEL:=Lib.hid hbel
  have HOWN:=Lib.hid hown
  have HMT:=Lib.hid hmt
  have hmb:m≤4194304:=by omega
  clear hmt
  obtain ⟨pv,cv,rfl⟩:=hown.isSlice
  by_cases htn:t<n
  ·obtain ⟨⟨x,y,z,u⟩,hq⟩:∃ q,ps[t]?=some q:=⟨_,List.getElem?_eq_getElem (by have:=HN.out;omega)⟩
   have HSTEP:Hid (((ps.take (t+1)).flatMap (numsOfPl 3)).map flv=((ps.take t).flatMap (numsOfPl 3)).map flv ++ [.float .f64 x,.float .f64 y] ++ [.float .f64 z] ++ [.float .f64 u]):=Lib.hid (by rw [flat_step hq];simp [numsOfPl,flv])
   obtain ⟨b,off,rfl,hlt,-,hcs⟩:=HR.out (by intro e;rw [e] at hq;simp at hq)
   obtain ⟨d0,d1,d2,d3⟩:=hcs t _ hq
   have D0:=cell_kept hbel d0
   have D1:=cell_kept hbel d1
   have D2:=cell_kept hbel d2
   have D3:=cell_kept hbel d3
   have hbl:b<wr.heap.size:=Nat.lt_of_lt_of_le hlt hbel.size
   clear d0 d1 d2 d3 hcs hq hbel hown
   go_wp2_with (first
    | (at_builtin;(refine wpList_append_row _ rfl (.tmp 14) (.tmp 19) 22 rfl w.heap.size 27 i0 _ 1 8 Tryz.underlying22 hi hz0 hz1 hz2 rfl (by decide) (.slice pv (m) cv) (m) _ rfl (own_kept HOWN.out (show Bel wr _ by exact EL)) ⟨wr.heap.size+1,0,none⟩ 2 2 [.float .f64 x,.float .f64 y] rfl rfl (blk_arr (cs:=#[.float .f64 x,.float .f64 y]) (t:=27) (by exact KL)) (by simp [Value.oneCell']) (by decide) (by unfold maxLen;omega) (by omega) (by have:=HBEL.out.size;simp;omega) ?_;intro v6 w6 ho6 hg6 hb6;obtain ⟨p6,c6,rfl⟩:=ho6.isSlice;have HO6:=Lib.hid ho6;have HB6:Hid (Bel w w6):=Lib.hid ((HBEL.out.trans (show Bel wr _ by exact EL)).of_row hg6 (fun g hg=>(HOWN.out.lt g hg).1));have P6:=((Blk.new wr #[.float .f64 x,.float .f64 y,.float .f64 z,.float .f64 u] 95).alloc _).grown hg6 (fun e=>by have:=(HOWN.out.lt _ e).2;omega);have HP6:=Lib.hid P6;obtain ⟨r6,z6,l6⟩:=P6.facts;have HSZ6:Hid (wr.heap.size+2≤w6.heap.size):=Lib.hid (by have:=hg6.4;simp at this;omega);have HNE6:Hid (Value.ownBlock (.slice p6 (m+2) c6) ≠ some wr.heap.size):=Lib.hid (fun e=>by rcases hb6 with h|h;exact (fun e=>by have:=(HOWN.out.lt _ e).2;omega) (h.symm.trans e);(have h2:=h.symm.trans e;simp at h2;omega));clear ho6 hg6 hb6 P6))
    | (at_builtin;(refine wpList_append_row _ rfl (.tmp 24) (.tmp 27) 22 rfl w.heap.size 27 i0 _ 1 8 Tryz.underlying22 hi hz0 hz1 hz2 rfl (by decide) (.slice p6 (m+2) c6) (m+2) _ rfl (own_kept HO6.out (show Bel w6 _ by exact EL)) ⟨w6.heap.size,0,none⟩ 1 1 [.float .f64 z] rfl rfl (blk_arr (cs:=#[.float .f64 z]) (t:=27) (by exact KL)) (by simp [Value.oneCell']) (by decide) (by unfold maxLen;omega) (by omega) (by have h1:=HBEL.out.size;have h2:=HSZ6.out;simp;omega) ?_;intro v7 w7 ho7 hg7 hb7;obtain ⟨p7,c7,rfl⟩:=ho7.isSlice;have HO7:=Lib.hid ho7;have HB7:Hid (Bel w w7):=Lib.hid ((HB6.out.trans (show Bel w6 _ by exact EL)).of_row hg7 (fun g hg=>(HO6.out.lt g hg).1));have P7:=(HP6.out.alloc _).grown hg7 HNE6.out;have HP7:=Lib.hid P7;obtain ⟨r7,z7,l7⟩:=P7.facts;have HSZ7:Hid (wr.heap.size+2≤w7.heap.size):=Lib.hid (by have h1:=HSZ6.out;have:=hg7.4;simp at this;omega);have HNE7:Hid (Value.ownBlock (.slice p7 (m+2+1) c7) ≠ some wr.heap.size):=Lib.hid (fun e=>by rcases hb7 with h|h;exact HNE6.out (h.symm.trans e);(have h2:=h.symm.trans e;simp at h2;have h3:=HSZ6.out;omega));clear ho7 hg7 hb7 P7))
    | (at_builtin;(refine wpList_append_row _ rfl (.tmp 32) (.tmp 35) 22 rfl w.heap.size 27 i0 _ 1 8 Tryz.underlying22 hi hz0 hz1 hz2 rfl (by decide) (.slice p7 (m+2+1) c7) (m+2+1) _ rfl (own_kept HO7.out (show Bel w7 _ by exact EL)) ⟨w7.heap.size,0,none⟩ 1 1 [.float .f64 u] rfl rfl (blk_arr (cs:=#[.float .f64 u]) (t:=27) (by exact KL)) (by simp [Value.oneCell']) (by decide) (by unfold maxLen;omega) (by omega) (by have h1:=HBEL.out.size;have h2:=HSZ7.out;simp;omega) ?_;intro v8 w8 ho8 hg8 hb8;obtain ⟨p8,c8,rfl⟩:=ho8.isSlice;have HO8:=Lib.hid ho8;have HB8:Hid (Bel w w8):=Lib.hid ((HB7.out.trans (show Bel w7 _ by exact EL)).of_row hg8 (fun g hg=>(HO7.out.lt g hg).1));have P8:=(HP7.out.alloc _).grown hg8 HNE7.out;have HP8:=Lib.hid P8;obtain ⟨r8,z8,l8⟩:=P8.facts;have HSZ8:Hid (wr.heap.size+2≤w8.heap.size):=Lib.hid (by have h1:=HSZ7.out;have:=hg8.4;simp at this;omega);have HNE8:Hid (Value.ownBlock (.slice p8 (m+2+1+1) c8) ≠ some wr.heap.size):=Lib.hid (fun e=>by rcases hb8 with h|h;exact HNE7.out (h.symm.trans e);(have h2:=h.symm.trans e;simp at h2;have h3:=HSZ7.out;omega));clear ho8 hg8 hb8 P8)))
   go_roundw
   case rel=>exact ⟨t+1,m+2+1+1,by go_num,by omega,by have:=HMT.out;omega,HB8.out,by rw [HSTEP.out];have:=HO8.out;simpa only [List.append_assoc] using this⟩
   case measure=>simp [intOf];omega
  ·obtain rfl:t=n:=by omega
   have hx:ps.take t=ps:=List.take_of_length_le (by have:=HN.out;omega)
   rw [hx] at hown
   have hlen:(ps.flatMap (numsOfPl 3)).length=m:=by rw [flatMap_len,HN.out,HMT.out];rfl
   have HR2:=Lib.hid (FlSl.of_owns (F:=F) hown hlen hF)
   clear hx hbel hown hlen
   go_wp2
   go_ret
   exact ⟨_,_,_,rfl,HR2.out,HBEL.out⟩
theorem nums_any (F G:Nat→Prop) (v:Value) (ps:List Pl) (dim:Int) (w:World) (hF:New F w) (h:PlSl G w v ps) (h31:ps.length≤1048576) :
  Calls Tryz.prog 34 #[v,.int .i64 dim] w (IsFlx F (ps.flatMap (numsOfPl (ct dim))) w):=by
 have hc:ct dim=0∨ct dim=1∨ct dim=2∨ct dim=3:=by unfold ct;omega
 rcases hc with e|e|e|e
 ·rw [e];exact nums_0 F G v ps dim w hF h h31 e
 ·rw [e];exact nums_1 F G v ps dim w hF h h31 e
 ·rw [e];exact nums_2 F G v ps dim w hF h h31 e
 ·rw [e];exact nums_3 F G v ps dim w hF h h31 e
end Go.Proofs.YtpipehenfcbjbaaGreatDoor
set_option linter.unusedVariables false
namespace Go.Proofs.YtpipehenfcbjbaaGreatDoor
open Go.ChangeShapes Go.WideShapes Go.ChangeAt Go.RowKit
theorem infoGm:(Tryz.prog.info? 25).map (fun i=>(i.zero,i.size,i.bytes))=some (some (.agg #[.int .i64 0,.int .i64 0,.slice none 0 0,.slice none 0 0]),4,64):=by kernel_rfl
def IsGm (F:Nat→Prop) (g:Gm) (w:World) (e:Ending) (w':World):Prop:=∃ pn nn cn pk nk ck,e=.returned (.agg #[.int .i64 g.kind,.int .i64 g.dim,.slice pn nn cn,.slice pk nk ck])∧FlSl F w' (.slice pn nn cn) g.nums∧GmSl F w' (.slice pk nk ck) g.kids∧Bel w w'
def RowGm (F:Nat→Prop) (w:World) (xs:List Value) (gs:List Gm):Prop:=∀ (i:Nat) (g:Gm),gs[i]?=some g→xs[i*4]?=some (.int .i64 g.kind)∧xs[i*4+1]?=some (.int .i64 g.dim)∧∃ c d,xs[i*4+2]?=some c∧xs[i*4+3]?=some d∧FlSl F w c g.nums∧GmSl F w d g.kids
theorem RowGm.keep {F G:Nat→Prop} {w w':World} {xs:List Value} {gs:List Gm} (h:RowGm F w xs gs) (hs:w.heap.size≤w'.heap.size) (hk:∀ b,F b→b<w.heap.size→w'.heap[b]?=w.heap[b]?) (hG:∀ b,b<w.heap.size→F b→G b):RowGm G w' xs gs:=fun i g hg=>by
 obtain ⟨h1,h2,c,d,h3,h4,h5,h6⟩:=h i g hg
 exact ⟨h1,h2,c,d,h3,h4,h5.keep hs hk hG,h6.keep hs hk hG⟩
theorem RowGm.push {F:Nat→Prop} {w:World} {xs:List Value} {t:Nat} {gs:List Gm} {g:Gm} {c d:Value} (h:RowGm F w xs gs) (hl:gs.length=t) (hx:xs.length=t*4) (hf:FlSl F w c g.nums) (hg:GmSl F w d g.kids):RowGm F w (xs ++ [.int .i64 g.kind,.int .i64 g.dim,c,d]) (gs ++ [g]):=fun i g' hi=>by
 rcases Nat.lt_or_ge i gs.length with q|q
 ·rw [List.getElem?_append_left q] at hi
  obtain ⟨h1,h2,c',d',h3,h4,h5,h6⟩:=h i g' hi
  refine ⟨?_,?_,c',d',?_,?_,h5,h6⟩<;>(rw [List.getElem?_append_left (by omega)];assumption)
 ·rw [List.getElem?_append_right q] at hi
  have hlt:=(List.getElem?_eq_some_iff.1 hi).1
  simp at hlt
  have hit:i=t:=by omega
  subst hit
  have:g'=g:=by
   rw [hl,Nat.sub_self] at hi
   simpa using hi.symm
  subst this
  refine ⟨?_,?_,c,d,?_,?_,hf,hg⟩
  ·rw [List.getElem?_append_right (by omega),hx,Nat.sub_self];rfl
  ·rw [List.getElem?_append_right (by omega),hx,Nat.add_sub_cancel_left];rfl
  ·rw [List.getElem?_append_right (by omega),hx,Nat.add_sub_cancel_left];rfl
  ·rw [List.getElem?_append_right (by omega),hx,Nat.add_sub_cancel_left];rfl
theorem RowGm.sl {F G:Nat→Prop} {w:World} {base n:Nat} {v:Value} {e:TypeId} {xs:List Value} {gs:List Gm} (h:w.ownsRow base e 4 v n xs) (hr:RowGm G w xs gs) (hn:gs.length=n) (hF:∀ b,base≤b→F b) (hG:∀ b,b<w.heap.size→G b→F b):GmSl F w v gs:=by
 subst hn
 have hc:=fun (g:Nat) (hg:v.ownBlock=some g)=>h.cells hg
 rcases h.2 with ⟨rfl,h0⟩|⟨g,cap,cur,rfl,hb,hg,h1,h2,_⟩
 ·rw [List.length_eq_zero_iff.1 h0]
  exact GmSl.nil F w
 ·have up:∀ {o u},xs[o]?=some u→w.cell? ⟨g,0+o,none⟩=some u:=fun {o u} ho'=>by
   have:=hc g rfl o u ho'
   rw [add_none] at this
   rw [Nat.zero_add]
   exact this
  refine .intro _ cap gs (fun i=>(xs[i*4+2]?).getD (.bool false)) (fun i=>(xs[i*4+3]?).getD (.bool false)) h1 (by unfold maxLen at h2;omega) (fun _=>⟨g,0,rfl,(Array.getElem?_eq_some_iff.1 hg).1,hF g hb,fun i r hr'=>?_⟩) (fun i r hr'=>?_) (fun i r hr'=>?_)
  ·obtain ⟨a0,a1,c,d,a2,a3,-,-⟩:=hr i r hr'
   exact ⟨up a0,up a1,by rw [a2];exact up a2,by rw [a3];exact up a3⟩
  ·obtain ⟨a0,a1,c,d,a2,a3,a4,a5⟩:=hr i r hr'
   simp only [a2,Option.getD_some]
   exact a4.mono hG
  ·obtain ⟨a0,a1,c,d,a2,a3,a4,a5⟩:=hr i r hr'
   simp only [a3,Option.getD_some]
   exact a5.mono hG
end Go.Proofs.YtpipehenfcbjbaaGreatDoor
set_option linter.unusedVariables false
namespace Go.Proofs.YtpipehenfcbjbaaGreatDoor
open Go.ChangeShapes Go.WideShapes Go.ChangeAt Go.RowKit
theorem force_take {c:Nat} {ks:List Gm} {t:Nat} {g:Gm} (h:ks[t]?=some g):(ks.take (t+1)).map (force c)=(ks.take t).map (force c) ++ [force c g]:=by
 rw [List.take_add_one,h]
 simp
theorem force_kind (c:Nat) (g:Gm):(force c g).kind=g.kind∧(force c g).dim=c:=by
 cases g
 exact ⟨rfl,rfl⟩
def SpForce (c:Nat) (g:Gm):Prop:=∀ G:Nat→Prop,GmArg g fun v w=>New G w→Calls Tryz.prog 32 #[v,.int .i64 c] w (IsGm G (force c g) w)
set_option maxHeartbeats 8000000 in
set_option maxRecDepth 100000 in
theorem spForce_ind (cc:Nat) (hcc:cc≤3):∀ (n:Nat) (g:Gm),g.size≤n→g.size≤1048576→SpForce cc g:=by
 intro n
 induction n with
 | zero=>exact fun g h _=>absurd h (by have:=g.size_pos;omega)
 | succ n ih =>
  intro g hsz hbig G F pn nn cn pk nk ck w hN hK hG
  obtain ⟨k,d,ns,ks⟩:=g
  obtain ⟨hnl,hncap,-⟩:=hN.len
  obtain ⟨_,_,hve,hkl,hkc⟩:=hK.isSlice
  cases hve
  change ks.length≤ck at hkl
  show Calls Tryz.prog 32 #[.agg #[.int .i64 k,.int .i64 d,.slice pn nn cn,.slice pk ks.length ck],.int .i64 cc] w _
  have HK:=Lib.hid (show GmSl F w (.slice pk ks.length ck) ks from hK)
  have HNS:=Lib.hid (show FlSl F w (.slice pn nn cn) ns from hN)
  have hnl2:ns.length=nn:=hnl
  have hks:ks.length≤1048576:=by
   have:=Gm.len_sizes ks
   simp only [Gm.size] at hbig
   omega
  have hnb:nn≤1048576:=by
   simp only [Gm.size] at hbig
   omega
  have HIH:Hid (∀ g ∈ ks,SpForce cc g):=Lib.hid fun g hg=>ih g (by
   have h2:=Gm.size_mem hg
   simp only [Gm.size] at hsz
   omega) (by
   have h2:=Gm.size_mem hg
   simp only [Gm.size] at hbig
   omega)
  have HPL:Hid (∀ (W:World),Bel w W→Calls Tryz.prog 33 #[.slice pn nn cn,.int .i64 d] W (IsPls (fun _=>True) W (plsOf (ct d) ns))):=Lib.hid fun W hW=>places_any (fun _=>True) F _ ns d W (New.any W) (HNS.out.bel hW) (by rw [hnl2];omega)
  have HNU:Hid (∀ (v:Value) (W:World),w.heap.size+3≤W.heap.size→PlSl (fun _=>True) W v (plsOf (ct d) ns)→Calls Tryz.prog 34 #[v,.int .i64 cc] W (IsFlx (fun b=>w.heap.size+3≤b) (forceN (ct d) cc ns) W)):=Lib.hid fun v W hW hp=>by
   have:=nums_any (fun b=>w.heap.size+3≤b) (fun _=>True) v (plsOf (ct d) ns) cc W (fun b hb=>Nat.le_trans hW hb) hp (by rw [plsOf_len,hnl2];exact Nat.le_trans (Nat.div_le_self _ _) hnb)
   rw [ct_nat hcc] at this
   exact this
  obtain ⟨i0,hi,hz0,hz1,hz2⟩:=info_parts infoGm
  have HFO:Hid (force cc (.mk k d ns ks)=.mk k cc (forceN (ct d) cc ns) (ks.map (force cc))):=Lib.hid (by rw [force,forceAll_map])
  clear ih hsz hN hK hnl hnl2 hbig
  generalize hn:ks.length=n at *
  have HN:=Lib.hid hn
  clear hn
  generalize forceN (ct d) cc ns=ys at *
  go_enter Tryz.func32,Tryz.ntmps32
  go_wp2_with (first
   | (go_at_call 33;(with_reducible refine (HPL.out _ ?hb).mono ?_);(case hb=>exact EL);rintro e w1 ⟨v1,rfl,hp1,hb1⟩;have HP1:=Lib.hid hp1;have HSZ1:Hid (w.heap.size+3≤w1.heap.size):=Lib.hid (by have:=hb1.size;simp at this;omega);have HB1:Hid (Bel w w1):=Lib.hid ((((Bel.alloc1 w _).alloc _).alloc _).trans hb1);have HQ1:Hid (Blk w1 (w.heap.size+1) #[.int .i64 0,.int .i64 0,.slice none 0 0,.slice none 0 0] 25):=Lib.hid (((Blk.new' _ _ _ (by simp)).alloc _).bel hb1);have HQ2:Hid (Blk w1 (w.heap.size+2) #[.int .i64 k,.int .i64 cc,.slice none 0 0,.slice none 0 0] 25):=Lib.hid ((Blk.new' _ _ _ (by simp)).bel hb1);have HQ0:Hid (Blk w1 w.heap.size #[.int .i64 k,.int .i64 d,.slice pn nn cn,.slice pk n ck] 25):=Lib.hid ((((Blk.new w _ _).alloc _).alloc _).bel hb1);clear hb1 hp1)
   | (go_at_call 34;(with_reducible refine (HNU.out _ _ HSZ1.out HP1.out).mono ?_);rintro e w2 ⟨p2,m2,c2,rfl,hf2,hb2⟩;have HF2:=Lib.hid hf2;have HB2:Hid (Bel w w2):=Lib.hid (HB1.out.trans hb2);have HSZ2:Hid (w.heap.size+3≤w2.heap.size):=Lib.hid (Nat.le_trans HSZ1.out hb2.size);have B0:=HQ0.out.bel hb2;have B1:=HQ1.out.bel hb2;have B2:=HQ2.out.bel hb2;obtain ⟨r0,z0,l0⟩:=B0.facts;obtain ⟨r2,z2,l2⟩:=B2.facts;have HR1:=Lib.hid B1;have HR2:=Lib.hid B2;clear hb2 hf2 B0 B1 B2))
  go_loopw [23] (fun iv wr=>∃ (t:Nat) (p:Option Addr) (c:Nat) (xs:List Value),iv=.int .i64 t∧t≤n∧Bel w wr∧w.heap.size+3≤wr.heap.size∧Blk wr (w.heap.size+1) #[.int .i64 0,.int .i64 0,.slice none 0 0,.slice none 0 0] 25∧Blk wr (w.heap.size+1+1) #[.int .i64 k,.int .i64 cc,.slice p2 m2 c2,.slice p t c] 25∧wr.ownsRow (w.heap.size+3) 25 4 (.slice p t c) t xs∧RowGm (fun b=>w.heap.size+3≤b∧Value.ownBlock (.slice p t c) ≠ some b) wr xs ((ks.take t).map (force cc))∧FlSl (fun b=>w.heap.size+3≤b∧Value.ownBlock (.slice p t c) ≠ some b) wr (.slice p2 m2 c2) ys) (fun iv _=>n - (intOf iv).toNat)
  case atStart =>
   refine ⟨0,none,0,[],rfl,Nat.zero_le _,?_,?_,?_,?_,World.ownsRow_nil _ _ _ _,fun i g hg=>by simp at hg,?_⟩
   ·exact HB2.out.setCell (by simp;omega) _
   ·simpa using HSZ2.out
   ·have HB:=HR1.out
    exact KL
   ·exact Blk.cast (HR2.out.set 2 _) (by rfl)
   ·exact (HF2.out.set (g:=w.heap.size+1+1) (by omega) 2 _).mono fun b _ hb=>⟨hb,by simp [Value.ownBlock]⟩
  case round =>
   obtain ⟨t,p,c,xs,rfl,ht,hbel,hgrow,hb1,hb2,hown,hrow,hfl⟩:=hrel
   have HBEL:=Lib.hid hbel
   have HGROW:=Lib.hid hgrow
   have HG1:=Lib.hid hb1
   have HG2:=Lib.hid hb2
   have HOWN:=Lib.hid hown
   have HROW:=Lib.hid hrow
   have HFL:=Lib.hid hfl
   obtain ⟨q1,y1,u1⟩:=hb1.facts
   obtain ⟨q2,y2,u2⟩:=hb2.facts
   clear hb1 hb2 hown hrow hfl
   by_cases htn:t<n
   ·obtain ⟨kd,hkd⟩:∃ kd,ks[t]?=some kd:=⟨_,List.getElem?_eq_getElem (by have:=HN.out;omega)⟩
    have HKD:=Lib.hid (HIH.out kd (List.mem_iff_getElem?.2 ⟨t,hkd⟩))
    obtain ⟨b,off,pn',nn',cn',pk',nk',ck',rfl,hlt,-,d0,d1,d2,d3,hf,hg'⟩:=HK.out.at hkd
    have D0:=cell_kept hbel d0
    have D1:=cell_kept hbel d1
    have D2:=cell_kept hbel d2
    have D3:=cell_kept hbel d3
    have hbl:b<wr.heap.size:=Nat.lt_of_lt_of_le hlt hbel.size
    have HC:Hid (∀ (W:World),Bel w W→Calls Tryz.prog 32 #[.agg #[.int .i64 kd.kind,.int .i64 kd.dim,.slice pn' nn' cn',.slice pk' nk' ck'],.int .i64 cc] W (IsGm (fun b=>W.heap.size≤b) (force cc kd) W)):=Lib.hid fun W hW=>GmArg.of (HKD.out (fun b=>W.heap.size≤b)) hf hg' hW (fun b hb=>hb)
    have HTK:=Lib.hid (force_take (c:=cc) hkd)
    have HLT:Hid (((ks.take t).map (force cc)).length=t):=Lib.hid (by rw [List.length_map,List.length_take,HN.out];omega)
    clear HKD d0 d1 d2 d3 hf hg' hbel hkd
    generalize kd.dim=kdim at *
    generalize kd.kind=kkind at *
    generalize force cc kd=fk at *
    go_wp2
    go_region_law (first
     | (go_simp;go_at_call 32;((with_reducible refine (HC.out _ ?hb).mono ?_);(case hb=>(have HB:=HBEL.out;exact EL));rintro e w3 ⟨p4,n4,c4,p5,n5,c5,rfl,hf4,hg4,hb4⟩;have HF4:=Lib.hid hf4;have HG4:=Lib.hid hg4;have HB3:Hid (Bel wr w3):=Lib.hid (by exact EL);have HSZ3:Hid (wr.heap.size+1≤w3.heap.size):=Lib.hid (by have:=hb4.size;simp at this;exact this);have C1:=HG1.out.bel HB3.out;have C2:=HG2.out.bel HB3.out;have HC1:=Lib.hid C1;have HC2:=Lib.hid C2;obtain ⟨q3,y3,u3⟩:=C2.facts;clear hf4 hg4 hb4 C1 C2))
     | (refine step_append_row _ rfl (.tmp 28) (.tmp 32) 23 rfl (w.heap.size+3) 25 i0 _ 4 64 Tryz.underlying23 hi hz0 hz1 hz2 rfl (by decide) (.slice p t c) t xs rfl ((own_kept HOWN.out HB3.out).alloc _) ⟨w3.heap.size,0,none⟩ 1 1 [.int .i64 fk.kind,.int .i64 fk.dim,.slice p4 n4 c4,.slice p5 n5 c5] rfl rfl (cells_arr _ _ _ (by simp)) (by simp [Value.oneCell']) (by decide) (by unfold maxLen;omega) (by omega) (by have:=HGROW.out;have:=HB3.out.size;simp;omega) ?_;intro v' w6 ho6 hg6 hb6;obtain ⟨p6,c6,rfl⟩:=ho6.isSlice;have HO6:=Lib.hid ho6;have HG6:=Lib.hid hg6;have HB6:=Lib.hid hb6;have E1:=grownBy_blk hg6 (HC1.out.alloc _) (fun e=>by have:=(HOWN.out.lt _ e.symm).1;omega);have E2:=grownBy_blk hg6 (HC2.out.alloc _) (fun e=>by have:=(HOWN.out.lt _ e.symm).1;omega);have HE1:=Lib.hid E1;have HE2:=Lib.hid E2;obtain ⟨q6,y6,u6⟩:=E2.facts;clear ho6 hg6 hb6 E1 E2))
    all_goals
     go_wp2
     go_roundw
     case rel =>
      have hs3:=HSZ3.out
      have hs6:=HG6.out.size
      have hgr:=HGROW.out
      simp at hs6
      have hne:∀ b,b<w3.heap.size→Value.ownBlock (.slice p t c) ≠ some b→Value.ownBlock (.slice p6 (t+1) c6) ≠ some b:=fun b hb hn=>by
       rcases HB6.out with h|h
       ·rw [h]
        exact hn
       ·rw [h]
        intro e
        have:=Option.some.inj e
        simp at this
        omega
      have hblk:∀ b,b<w3.heap.size→Value.ownBlock (.slice p t c) ≠ some b→w6.heap[b]?=w3.heap[b]?:=fun b hb hn=>by
       rw [HG6.out.block b (by simp;omega) (fun e=>hn e.symm)]
       exact Below.heap_alloc _ _ _ (by simpa using hb)
      refine ⟨t+1,p6,c6,_,by go_num,by omega,?_,by simp;omega,?_,?_,(HO6.out.kept (grownBy_set _ _ _ _) (HO6.out.ne_of_lt' (by omega))),?_,?_⟩
      ·exact ((show Bel w _ from HBEL.out.trans (show Bel wr _ by (have HB:=HB3.out;exact EL))).of_row HG6.out (fun g hg=>by have:=(HOWN.out.lt g hg).1;omega)).setCell (by simp;omega) _
      ·have HB:=HE1.out
       exact KL
      ·exact Blk.cast (HE2.out.set 3 _) (by rfl)
      ·rw [HTK.out]
       refine RowGm.push (HROW.out.keep (by simp;omega) (fun b hb hl=>?_) fun b hl hb=>⟨hb.1,hne b (by omega) hb.2⟩) HLT.out HOWN.out.1 (HF4.out.keep (by simp;omega) (fun b hb hl=>?_) fun b hl hb=>⟨?_,?_⟩) (HG4.out.keep (by simp;omega) (fun b hb hl=>?_) fun b hl hb=>⟨?_,?_⟩)
       ·rw [Below.heap_setCell _ _ _ _ (by simp;omega),hblk b (by omega) hb.2]
        exact HB3.out.block b hl
       ·rw [Below.heap_setCell _ _ _ _ (by simp at hb;simp;omega),hblk b hl (fun e=>by have h1:=(HOWN.out.lt _ e).2;simp at hb;omega)]
       ·simp at hb;omega
       ·exact hne b hl (fun e=>by have h1:=(HOWN.out.lt _ e).2;simp at hb;omega)
       ·rw [Below.heap_setCell _ _ _ _ (by simp at hb;simp;omega),hblk b hl (fun e=>by have h1:=(HOWN.out.lt _ e).2;simp at hb;omega)]
       ·simp at hb;omega
       ·exact hne b hl (fun e=>by have h1:=(HOWN.out.lt _ e).2;simp at hb;omega)
      ·refine HFL.out.keep (by simp;omega) (fun b hb hl=>?_) fun b hl hb=>⟨hb.1,hne b (by omega) hb.2⟩
       rw [Below.heap_setCell _ _ _ _ (by simp;omega),hblk b (by omega) hb.2]
       exact HB3.out.block b hl
     case measure=>simp [intOf];omega
   ·obtain rfl:t=n:=by omega
    have hrow:=HROW.out
    rw [List.take_of_length_le (by have:=HN.out;omega)] at hrow
    have HGS:Hid (GmSl (fun b=>w.heap.size+3≤b) wr (.slice p t c) (ks.map (force cc))):=Lib.hid (RowGm.sl HOWN.out hrow (by rw [List.length_map,HN.out]) (fun b hb=>hb) fun b _ hb=>hb.1)
    have HFS:Hid (FlSl (fun b=>w.heap.size+3≤b) wr (.slice p2 m2 c2) ys):=Lib.hid (HFL.out.mono fun b _ hb=>hb.1)
    have HEND:Hid (∀ W:World,wr.heap.size≤W.heap.size→(∀ b,w.heap.size+3≤b→b<wr.heap.size→W.heap[b]?=wr.heap[b]?)→Bel w W→IsGm G (force cc (.mk k d ns ks)) w (.returned (.agg #[.int .i64 k,.int .i64 cc,.slice p2 m2 c2,.slice p t c])) W):=Lib.hid fun W hW hk hb=>by
     rw [HFO.out]
     exact ⟨_,_,_,_,_,_,rfl,HFS.out.keep hW hk (fun b _ hb=>hG b (by omega)),HGS.out.keep hW hk (fun b _ hb=>hG b (by omega)),hb⟩
    clear hrow hbel
    go_wp2
    refine post_ret (results_one rfl (resIs_agg (n:=4) (cs:=#[.int .i64 k,.int .i64 cc,.slice p2 m2 c2,.slice p t c]) (by rfl) Tryz.underlying25 (by kernel_rfl) (T:=25) ?_ rfl)) (HEND.out _ ?_ (fun b hb hl=>?_) ?_)
    ·have HB:=HG1.out
     exact SL
    ·simp
    ·repeat rw [Below.heap_setCell _ _ _ _ (by simp;omega)]
    ·have HB:=HBEL.out
     exact EL
theorem spForce_any (c:Nat) (hc:c≤3) (g:Gm) (h:g.size≤1048576):SpForce c g:=spForce_ind c hc g.size g (Nat.le_refl _) h
end Go.Proofs.YtpipehenfcbjbaaGreatDoor
set_option linter.unusedVariables false
namespace Go.Proofs.YtpipehenfcbjbaaGreatDoor
open Go.ChangeShapes Go.WideShapes Go.ChangeAt Go.RowKit
theorem leaf_any (k:Int) (w:World):Calls Tryz.prog 14 #[.int .i64 k] w fun e w'=>e=.returned (.bool (decide (k=1∨k=2)))∧w=w':=by
 by_cases h1:k=1
 ·subst h1
  go_enter Tryz.func14,Tryz.ntmps14
  go_wp2
  go_ret
  exact ⟨rfl,rfl⟩
 ·by_cases h2:k=2
  ·subst h2
   go_enter Tryz.func14,Tryz.ntmps14
   go_wp2
   go_ret
   exact ⟨rfl,rfl⟩
  ·have q1:(k == 1)=false:=by simp;omega
   have q2:(k == 2)=false:=by simp;omega
   have hd:decide (k=1∨k=2)=false:=decide_eq_false (by omega)
   rw [hd]
   clear hd
   go_enter Tryz.func14,Tryz.ntmps14
   go_wp2
   go_ret
   exact ⟨rfl,rfl⟩
theorem kidOf_any (k:Int) (w:World):Calls Tryz.prog 31 #[.int .i64 k] w fun e w'=>e=.returned (.int .i64 (kidOf k))∧w=w':=by
 by_cases h:k=3∨k=4∨k=5∨k=6
 ·rcases h with rfl|rfl|rfl|rfl
  all_goals
   go_enter Tryz.func31,Tryz.ntmps31
   go_wp2
   go_ret
   exact ⟨rfl,rfl⟩
 ·have q3:(k == 3)=false:=by simp;omega
  have q4:(k == 4)=false:=by simp;omega
  have q5:(k == 5)=false:=by simp;omega
  have q6:(k == 6)=false:=by simp;omega
  have he:kidOf k=-1:=by
   unfold kidOf
   rw [if_neg (by omega),if_neg (by omega),if_neg (by omega)]
  rw [he]
  clear he h
  go_enter Tryz.func31,Tryz.ntmps31
  go_wp2
  go_ret
  exact ⟨rfl,rfl⟩
end Go.Proofs.YtpipehenfcbjbaaGreatDoor
set_option linter.unusedVariables false
namespace Go.Proofs.YtpipehenfcbjbaaGreatDoor
open Go.ChangeShapes Go.WideShapes Go.ChangeAt Go.RowKit
section
variable {P:Program} (w:World)
end
def SpNew (g:Gm):Prop:=∀ G:Nat→Prop,GmArg g fun v w=>New G w→Calls Tryz.prog 10 #[v] w (IsGm G (newOf g) w)
set_option maxHeartbeats 8000000 in
set_option maxRecDepth 100000 in
theorem newLine_any (d:Int) (ns:List Nat) (ks:List Gm) (h31:ns.length≤1048576):SpNew (.mk 2 d ns ks):=by
 intro G F pn nn cn pk nk ck w hN hK hG
 obtain ⟨hnl,hncap,hcap⟩:=hN.len
 have hnl2:ns.length=nn:=hnl
 have HNS:=Lib.hid (show FlSl F w (.slice pn nn cn) ns from hN)
 clear hK hN
 show Calls Tryz.prog 10 #[.agg #[.int .i64 2,.int .i64 d,.slice pn nn cn,.slice pk nk ck]] w _
 have HNEW:Hid (newOf (.mk 2 d ns ks)=.mk 2 (ct d) (ns.take (nn / wd (ct d)*wd (ct d))) []):=Lib.hid (by
  rw [newOf,if_pos (Or.inr (by decide)),hnl2]
  rfl)
 have a3:bits .and .i64 d 3=(ct d:Nat):=by
  rw [i64_and3]
  unfold ct
  omega
 have hc3:=ct_le d
 generalize hcd:ct d=cd at *
 have hD:=wd_bd cd
 have HW:Hid (∀ W,Calls Tryz.prog 26 #[.int .i64 cd] W fun e w'=>e=.returned (.int .i64 (wd cd))∧W=w'):=Lib.hid fun W=>by
  have:=width_any cd W
  rw [ct_nat hc3] at this
  exact this
 have hq0:((nn:Int) / (wd cd:Int))=((nn / wd cd:Nat):Int):=(Int.natCast_ediv _ _).symm
 have hq1:nn / wd cd≤nn:=Nat.div_le_self _ _
 have hq2:nn / wd cd*wd cd≤nn:=Nat.div_mul_le_self _ _
 have hmul:((nn / wd cd:Nat):Int)*(wd cd:Int)=((nn / wd cd*wd cd:Nat):Int):=(Int.natCast_mul _ _).symm
 clear hcd hc3
 obtain ⟨i0,hi,hz0,hz1,hz2⟩:=info_parts infoF
 generalize nn / wd cd*wd cd=L at *
 generalize nn / wd cd=q at *
 generalize wd cd=D at *
 obtain ⟨hD1,hD2⟩:=hD
 have HNL:=Lib.hid hnl2
 clear hnl hnl2
 have hwl:IntKind.i64.wrap (L:Int)=(L:Int):=by
  rw [IntKind.wrap_i64]
  omega
 have hLc:(L:Int)≤(cn:Int):=by omega
 have hL0:(0:Int)≤(L:Int):=by omega
 go_enter Tryz.func10,Tryz.ntmps10
 go_wp2_with (go_at_call 14;(with_reducible refine (leaf_any _ _).mono ?_);rintro e w' ⟨rfl,rfl⟩)
 go_quiet ((go_at_call 26;exact Calls.quiet_of_same ((HW.out _).mono fun _ _ h=>⟨h.1,h.2.symm⟩)))
 go_wp2
 generalize hW:World.drewN (World.alloc (World.alloc (World.alloc w _) _) _) _=w5 at *
 have B0:Blk w5 w.heap.size #[.int .i64 2,.int .i64 d,.slice pn nn cn,.slice pk nk ck] 25:=by
  subst hW
  exact KL
 have B1:Blk w5 (w.heap.size+1) #[.int .i64 0,.int .i64 0,.slice none 0 0,.slice none 0 0] 25:=by
  subst hW
  exact KL
 have B2:Blk w5 (w.heap.size+1+1) #[.int .i64 2,.int .i64 cd,.slice none 0 0,.slice none 0 0] 25:=by
  subst hW
  exact KL
 have HB5:Hid (Bel w w5):=Lib.hid (by
  subst hW
  exact EL)
 have hsz5:w.heap.size+3≤w5.heap.size:=by
  subst hW
  simp
 clear hW
 have HQ1:=Lib.hid B1
 have HQ2:=Lib.hid B2
 obtain ⟨r0,z0,l0⟩:=B0.facts
 obtain ⟨r2,z2,l2⟩:=B2.facts
 clear B0 B1 B2
 refine wp_region_still_tail 10 (by kernel_rfl) (by kernel_rfl) ?_
 simp only [List.take_succ_cons,List.take_zero,List.drop_succ_cons,List.drop_zero]
 repeat still_step
 still_call ((HW.out _).mono fun _ _ h=>⟨h.1,h.2.symm⟩)
 repeat still_step
 refine wpStill_nil ?_
 change wpList _ _ _ _ _ w5.drew
 go_wp2_with (at_builtin;(refine wpList_append_some _ rfl (.tmp 40) (.tmp 48) 22 rfl (w.heap.size+3) 27 i0 _ 1 8 Tryz.underlying22 hi hz0 hz1 hz2 rfl (by decide) (.slice none 0 0) 0 [] rfl (World.ownsRow_nil _ _ _ _) pn L cn ((ns.take L).map flv) rfl (by rw [List.length_map,List.length_take,HNL.out];omega) (fun hm=>(HNS.out.bel (show Bel w _ by (have HB:=HB5.out;exact EL))).src (by rw [List.length_map,List.length_take,HNL.out];omega)) (flv_one _) (by unfold maxLen;have:=HNL.out;omega) (by have:=HNL.out;omega) (by simp;omega) ?_;intro v' w6 ho6 hg6 hb6;obtain ⟨p6,c6,rfl⟩:=ho6.isSlice;have HO6:=Lib.hid ho6;have HG6:=Lib.hid hg6;have HB6:=Lib.hid hb6;have E1:=grownBy_blk hg6 (show Blk _ (w.heap.size+1) #[.int .i64 0,.int .i64 0,.slice none 0 0,.slice none 0 0] 25 by (have HB:=HQ1.out;exact KL)) (fun e=>by simp [Value.ownBlock] at e);have E2:=grownBy_blk hg6 (show Blk _ (w.heap.size+1+1) #[.int .i64 2,.int .i64 cd,.slice none 0 0,.slice none 0 0] 25 by (have HB:=HQ2.out;exact KL)) (fun e=>by simp [Value.ownBlock] at e);have HE1:=Lib.hid E1;obtain ⟨q5,y5,u5⟩:=E1.facts;have HE2:=Lib.hid E2;obtain ⟨q6,y6,u6⟩:=E2.facts;clear ho6 hg6 hb6 E1 E2))
 have ho:Hid (w6.ownsRow (w.heap.size+3) 27 1 (.slice p6 L c6) L ((ns.take L).map flv)):=Lib.hid (by
  have:=HO6.out
  rw [Nat.zero_add] at this
  exact this)
 have HFS:Hid (FlSl (fun b=>w.heap.size+3≤b) w6 (.slice p6 L c6) (ns.take L)):=Lib.hid (FlSl.of_owns ho.out (by rw [List.length_take,HNL.out];omega) fun b hb=>hb)
 have HEND:Hid (∀ W:World,w6.heap.size≤W.heap.size→(∀ b,w.heap.size+3≤b→b<w6.heap.size→W.heap[b]?=w6.heap[b]?)→Bel w W→IsGm G (newOf (.mk 2 d ns ks)) w (.returned (.agg #[.int .i64 2,.int .i64 cd,.slice p6 L c6,.slice none 0 0])) W):=Lib.hid fun W hW hk hb=>by
  rw [HNEW.out]
  exact ⟨_,_,_,_,_,_,rfl,HFS.out.keep hW hk (fun b _ hb=>hG b (by omega)),GmSl.nil G W,hb⟩
 have HB6':Hid (Bel w w6):=Lib.hid ((show Bel w _ by (have HB:=HB5.out;exact EL)).of_row HG6.out (fun g hg=>by simp [Value.ownBlock] at hg))
 refine post_ret (results_one rfl (resIs_agg (n:=4) (cs:=#[.int .i64 2,.int .i64 cd,.slice p6 L c6,.slice none 0 0]) (by rfl) Tryz.underlying25 (by kernel_rfl) (T:=25) ?_ rfl)) (HEND.out _ ?_ (fun b hb hl=>?_) ?_)
 ·have HB:=HE1.out
  exact SL
 ·simp
 ·repeat rw [Below.heap_setCell _ _ _ _ (by simp;omega)]
 ·have HB:=HB6'.out
  exact EL
end Go.Proofs.YtpipehenfcbjbaaGreatDoor
set_option linter.unusedVariables false
namespace Go.Proofs.YtpipehenfcbjbaaGreatDoor
open Go.ChangeShapes Go.WideShapes Go.ChangeAt Go.RowKit
set_option maxHeartbeats 8000000 in
set_option maxRecDepth 100000 in
theorem spNewPoint_0 (d:Int) (ns:List Nat) (ks:List Gm) (h31:ns.length≤1048576) (hq:ns.length / wd (ct d)=0):SpNew (.mk 1 d ns ks):=by
 intro G F pn nn cn pk nk ck w hN hK hG
 obtain ⟨hnl,hncap,hcap⟩:=hN.len
 have hnl2:ns.length=nn:=hnl
 have HNS:=Lib.hid (show FlSl F w (.slice pn nn cn) ns from hN)
 clear hK hN
 show Calls Tryz.prog 10 #[.agg #[.int .i64 1,.int .i64 d,.slice pn nn cn,.slice pk nk ck]] w _
 have HNEW:Hid (newOf (.mk 1 d ns ks)=.mk 1 (ct d) (ns.take (0)) []):=Lib.hid (by
  rw [newOf,if_pos (Or.inl (by decide)),if_pos (by decide)]
  congr 2
  rw [hq];simp)
 have a3:bits .and .i64 d 3=(ct d:Nat):=by
  rw [i64_and3]
  unfold ct
  omega
 have hc3:=ct_le d
 generalize hcd:ct d=cd at *
 have hD:=wd_bd cd
 have HW:Hid (∀ W,Calls Tryz.prog 26 #[.int .i64 cd] W fun e w'=>e=.returned (.int .i64 (wd cd))∧W=w'):=Lib.hid fun W=>by
  have:=width_any cd W
  rw [ct_nat hc3] at this
  exact this
 have hq0:((nn:Int) / (wd cd:Int))=((nn / wd cd:Nat):Int):=(Int.natCast_ediv _ _).symm
 have hq1:nn / wd cd≤nn:=Nat.div_le_self _ _
 rw [hnl2] at hq
 clear hcd hc3
 obtain ⟨i0,hi,hz0,hz1,hz2⟩:=info_parts infoF
 generalize nn / wd cd=q at *
 subst hq
 generalize wd cd=D at *
 obtain ⟨hD1,hD2⟩:=hD
 have HNL:=Lib.hid hnl2
 clear hnl hnl2
 have hwl:IntKind.i64.wrap (0:Int)=(0:Int):=by
  rw [IntKind.wrap_i64]
  omega
 have hLc:(0:Int)≤(cn:Int):=by omega
 have hL0:(0:Int)≤(0:Int):=by omega
 go_enter Tryz.func10,Tryz.ntmps10
 go_wp2_with (go_at_call 14;(with_reducible refine (leaf_any _ _).mono ?_);rintro e w' ⟨rfl,rfl⟩)
 go_quiet ((go_at_call 26;exact Calls.quiet_of_same ((HW.out _).mono fun _ _ h=>⟨h.1,h.2.symm⟩)))
 go_wp2
 generalize hW:World.drewN (World.alloc (World.alloc (World.alloc w _) _) _) _=w5 at *
 have B0:Blk w5 w.heap.size #[.int .i64 1,.int .i64 d,.slice pn nn cn,.slice pk nk ck] 25:=by
  subst hW
  exact KL
 have B1:Blk w5 (w.heap.size+1) #[.int .i64 0,.int .i64 0,.slice none 0 0,.slice none 0 0] 25:=by
  subst hW
  exact KL
 have B2:Blk w5 (w.heap.size+1+1) #[.int .i64 1,.int .i64 cd,.slice none 0 0,.slice none 0 0] 25:=by
  subst hW
  exact KL
 have HB5:Hid (Bel w w5):=Lib.hid (by
  subst hW
  exact EL)
 have hsz5:w.heap.size+3≤w5.heap.size:=by
  subst hW
  simp
 clear hW
 have HQ1:=Lib.hid B1
 have HQ2:=Lib.hid B2
 obtain ⟨r0,z0,l0⟩:=B0.facts
 obtain ⟨r2,z2,l2⟩:=B2.facts
 clear B0 B1 B2
 refine wp_region_still_tail 10 (by kernel_rfl) (by kernel_rfl) ?_
 simp only [List.take_succ_cons,List.take_zero,List.drop_succ_cons,List.drop_zero]
 repeat still_step
 still_call ((HW.out _).mono fun _ _ h=>⟨h.1,h.2.symm⟩)
 repeat still_step
 refine wpStill_nil ?_
 change wpList _ _ _ _ _ w5.drew
 go_wp2_with (at_builtin;(refine wpList_append_some _ rfl (.tmp 40) (.tmp 48) 22 rfl (w.heap.size+3) 27 i0 _ 1 8 Tryz.underlying22 hi hz0 hz1 hz2 rfl (by decide) (.slice none 0 0) 0 [] rfl (World.ownsRow_nil _ _ _ _) pn 0 cn ((ns.take 0).map flv) rfl (by rw [List.length_map,List.length_take,HNL.out];omega) (fun hm=>(HNS.out.bel (show Bel w _ by (have HB:=HB5.out;exact EL))).src (by rw [List.length_map,List.length_take,HNL.out];omega)) (flv_one _) (by unfold maxLen;have:=HNL.out;omega) (by have:=HNL.out;omega) (by simp;omega) ?_;intro v' w6 ho6 hg6 hb6;obtain ⟨p6,c6,rfl⟩:=ho6.isSlice;have HO6:=Lib.hid ho6;have HG6:=Lib.hid hg6;have HB6:=Lib.hid hb6;have E1:=grownBy_blk hg6 (show Blk _ (w.heap.size+1) #[.int .i64 0,.int .i64 0,.slice none 0 0,.slice none 0 0] 25 by (have HB:=HQ1.out;exact KL)) (fun e=>by simp [Value.ownBlock] at e);have E2:=grownBy_blk hg6 (show Blk _ (w.heap.size+1+1) #[.int .i64 1,.int .i64 cd,.slice none 0 0,.slice none 0 0] 25 by (have HB:=HQ2.out;exact KL)) (fun e=>by simp [Value.ownBlock] at e);have HE1:=Lib.hid E1;obtain ⟨q5,y5,u5⟩:=E1.facts;have HE2:=Lib.hid E2;obtain ⟨q6,y6,u6⟩:=E2.facts;clear ho6 hg6 hb6 E1 E2))
 have ho:Hid (w6.ownsRow (w.heap.size+3) 27 1 (.slice p6 0 c6) 0 ((ns.take 0).map flv)):=Lib.hid (by
  have:=HO6.out
  rw [Nat.zero_add] at this
  exact this)
 have HFS:Hid (FlSl (fun b=>w.heap.size+3≤b) w6 (.slice p6 0 c6) (ns.take 0)):=Lib.hid (FlSl.of_owns ho.out (by rw [List.length_take,HNL.out];omega) fun b hb=>hb)
 have HEND:Hid (∀ W:World,w6.heap.size≤W.heap.size→(∀ b,w.heap.size+3≤b→b<w6.heap.size→W.heap[b]?=w6.heap[b]?)→Bel w W→IsGm G (newOf (.mk 1 d ns ks)) w (.returned (.agg #[.int .i64 1,.int .i64 cd,.slice p6 0 c6,.slice none 0 0])) W):=Lib.hid fun W hW hk hb=>by
  rw [HNEW.out]
  exact ⟨_,_,_,_,_,_,rfl,HFS.out.keep hW hk (fun b _ hb=>hG b (by omega)),GmSl.nil G W,hb⟩
 have HB6':Hid (Bel w w6):=Lib.hid ((show Bel w _ by (have HB:=HB5.out;exact EL)).of_row HG6.out (fun g hg=>by simp [Value.ownBlock] at hg))
 refine post_ret (results_one rfl (resIs_agg (n:=4) (cs:=#[.int .i64 1,.int .i64 cd,.slice p6 0 c6,.slice none 0 0]) (by rfl) Tryz.underlying25 (by kernel_rfl) (T:=25) ?_ rfl)) (HEND.out _ ?_ (fun b hb hl=>?_) ?_)
 ·have HB:=HE1.out
  exact SL
 ·simp
 ·repeat rw [Below.heap_setCell _ _ _ _ (by simp;omega)]
 ·have HB:=HB6'.out
  exact EL
set_option maxHeartbeats 8000000 in
set_option maxRecDepth 100000 in
theorem spNewPoint_1 (d:Int) (ns:List Nat) (ks:List Gm) (h31:ns.length≤1048576) (hq:ns.length / wd (ct d)=1):SpNew (.mk 1 d ns ks):=by
 intro G F pn nn cn pk nk ck w hN hK hG
 obtain ⟨hnl,hncap,hcap⟩:=hN.len
 have hnl2:ns.length=nn:=hnl
 have HNS:=Lib.hid (show FlSl F w (.slice pn nn cn) ns from hN)
 clear hK hN
 show Calls Tryz.prog 10 #[.agg #[.int .i64 1,.int .i64 d,.slice pn nn cn,.slice pk nk ck]] w _
 have HNEW:Hid (newOf (.mk 1 d ns ks)=.mk 1 (ct d) (ns.take (wd (ct d))) []):=Lib.hid (by
  rw [newOf,if_pos (Or.inl (by decide)),if_pos (by decide)]
  congr 2
  rw [hq];simp)
 have a3:bits .and .i64 d 3=(ct d:Nat):=by
  rw [i64_and3]
  unfold ct
  omega
 have hc3:=ct_le d
 generalize hcd:ct d=cd at *
 have hD:=wd_bd cd
 have HW:Hid (∀ W,Calls Tryz.prog 26 #[.int .i64 cd] W fun e w'=>e=.returned (.int .i64 (wd cd))∧W=w'):=Lib.hid fun W=>by
  have:=width_any cd W
  rw [ct_nat hc3] at this
  exact this
 have hq0:((nn:Int) / (wd cd:Int))=((nn / wd cd:Nat):Int):=(Int.natCast_ediv _ _).symm
 have hq1:nn / wd cd≤nn:=Nat.div_le_self _ _
 rw [hnl2] at hq
 have hDn:wd cd≤nn:=by
  have h1:=Nat.div_mul_le_self nn (wd cd)
  have h2:1*wd cd≤nn / wd cd*wd cd:=Nat.mul_le_mul_right _ (by omega)
  omega
 clear hcd hc3
 obtain ⟨i0,hi,hz0,hz1,hz2⟩:=info_parts infoF
 generalize nn / wd cd=q at *
 subst hq
 generalize wd cd=D at *
 obtain ⟨hD1,hD2⟩:=hD
 have HNL:=Lib.hid hnl2
 clear hnl hnl2
 have hwl:IntKind.i64.wrap (D:Int)=(D:Int):=by
  rw [IntKind.wrap_i64]
  omega
 have hLc:(D:Int)≤(cn:Int):=by omega
 have hL0:(0:Int)≤(D:Int):=by omega
 go_enter Tryz.func10,Tryz.ntmps10
 go_wp2_with (go_at_call 14;(with_reducible refine (leaf_any _ _).mono ?_);rintro e w' ⟨rfl,rfl⟩)
 go_quiet ((go_at_call 26;exact Calls.quiet_of_same ((HW.out _).mono fun _ _ h=>⟨h.1,h.2.symm⟩)))
 go_wp2
 generalize hW:World.drewN (World.alloc (World.alloc (World.alloc w _) _) _) _=w5 at *
 have B0:Blk w5 w.heap.size #[.int .i64 1,.int .i64 d,.slice pn nn cn,.slice pk nk ck] 25:=by
  subst hW
  exact KL
 have B1:Blk w5 (w.heap.size+1) #[.int .i64 0,.int .i64 0,.slice none 0 0,.slice none 0 0] 25:=by
  subst hW
  exact KL
 have B2:Blk w5 (w.heap.size+1+1) #[.int .i64 1,.int .i64 cd,.slice none 0 0,.slice none 0 0] 25:=by
  subst hW
  exact KL
 have HB5:Hid (Bel w w5):=Lib.hid (by
  subst hW
  exact EL)
 have hsz5:w.heap.size+3≤w5.heap.size:=by
  subst hW
  simp
 clear hW
 have HQ1:=Lib.hid B1
 have HQ2:=Lib.hid B2
 obtain ⟨r0,z0,l0⟩:=B0.facts
 obtain ⟨r2,z2,l2⟩:=B2.facts
 clear B0 B1 B2
 refine wp_region_still_tail 10 (by kernel_rfl) (by kernel_rfl) ?_
 simp only [List.take_succ_cons,List.take_zero,List.drop_succ_cons,List.drop_zero]
 repeat still_step
 still_call ((HW.out _).mono fun _ _ h=>⟨h.1,h.2.symm⟩)
 repeat still_step
 refine wpStill_nil ?_
 change wpList _ _ _ _ _ w5.drew
 go_wp2_with (at_builtin;(refine wpList_append_some _ rfl (.tmp 40) (.tmp 48) 22 rfl (w.heap.size+3) 27 i0 _ 1 8 Tryz.underlying22 hi hz0 hz1 hz2 rfl (by decide) (.slice none 0 0) 0 [] rfl (World.ownsRow_nil _ _ _ _) pn D cn ((ns.take D).map flv) rfl (by rw [List.length_map,List.length_take,HNL.out];omega) (fun hm=>(HNS.out.bel (show Bel w _ by (have HB:=HB5.out;exact EL))).src (by rw [List.length_map,List.length_take,HNL.out];omega)) (flv_one _) (by unfold maxLen;have:=HNL.out;omega) (by have:=HNL.out;omega) (by simp;omega) ?_;intro v' w6 ho6 hg6 hb6;obtain ⟨p6,c6,rfl⟩:=ho6.isSlice;have HO6:=Lib.hid ho6;have HG6:=Lib.hid hg6;have HB6:=Lib.hid hb6;have E1:=grownBy_blk hg6 (show Blk _ (w.heap.size+1) #[.int .i64 0,.int .i64 0,.slice none 0 0,.slice none 0 0] 25 by (have HB:=HQ1.out;exact KL)) (fun e=>by simp [Value.ownBlock] at e);have E2:=grownBy_blk hg6 (show Blk _ (w.heap.size+1+1) #[.int .i64 1,.int .i64 cd,.slice none 0 0,.slice none 0 0] 25 by (have HB:=HQ2.out;exact KL)) (fun e=>by simp [Value.ownBlock] at e);have HE1:=Lib.hid E1;obtain ⟨q5,y5,u5⟩:=E1.facts;have HE2:=Lib.hid E2;obtain ⟨q6,y6,u6⟩:=E2.facts;clear ho6 hg6 hb6 E1 E2))
 have ho:Hid (w6.ownsRow (w.heap.size+3) 27 1 (.slice p6 D c6) D ((ns.take D).map flv)):=Lib.hid (by
  have:=HO6.out
  rw [Nat.zero_add] at this
  exact this)
 have HFS:Hid (FlSl (fun b=>w.heap.size+3≤b) w6 (.slice p6 D c6) (ns.take D)):=Lib.hid (FlSl.of_owns ho.out (by rw [List.length_take,HNL.out];omega) fun b hb=>hb)
 have HEND:Hid (∀ W:World,w6.heap.size≤W.heap.size→(∀ b,w.heap.size+3≤b→b<w6.heap.size→W.heap[b]?=w6.heap[b]?)→Bel w W→IsGm G (newOf (.mk 1 d ns ks)) w (.returned (.agg #[.int .i64 1,.int .i64 cd,.slice p6 D c6,.slice none 0 0])) W):=Lib.hid fun W hW hk hb=>by
  rw [HNEW.out]
  exact ⟨_,_,_,_,_,_,rfl,HFS.out.keep hW hk (fun b _ hb=>hG b (by omega)),GmSl.nil G W,hb⟩
 have HB6':Hid (Bel w w6):=Lib.hid ((show Bel w _ by (have HB:=HB5.out;exact EL)).of_row HG6.out (fun g hg=>by simp [Value.ownBlock] at hg))
 refine post_ret (results_one rfl (resIs_agg (n:=4) (cs:=#[.int .i64 1,.int .i64 cd,.slice p6 D c6,.slice none 0 0]) (by rfl) Tryz.underlying25 (by kernel_rfl) (T:=25) ?_ rfl)) (HEND.out _ ?_ (fun b hb hl=>?_) ?_)
 ·have HB:=HE1.out
  exact SL
 ·simp
 ·repeat rw [Below.heap_setCell _ _ _ _ (by simp;omega)]
 ·have HB:=HB6'.out
  exact EL
set_option maxHeartbeats 8000000 in
set_option maxRecDepth 100000 in
theorem spNewPoint_2 (d:Int) (ns:List Nat) (ks:List Gm) (h31:ns.length≤1048576) (hq:1<ns.length / wd (ct d)):SpNew (.mk 1 d ns ks):=by
 intro G F pn nn cn pk nk ck w hN hK hG
 obtain ⟨hnl,hncap,hcap⟩:=hN.len
 have hnl2:ns.length=nn:=hnl
 have HNS:=Lib.hid (show FlSl F w (.slice pn nn cn) ns from hN)
 clear hK hN
 show Calls Tryz.prog 10 #[.agg #[.int .i64 1,.int .i64 d,.slice pn nn cn,.slice pk nk ck]] w _
 have HNEW:Hid (newOf (.mk 1 d ns ks)=.mk 1 (ct d) (ns.take (wd (ct d))) []):=Lib.hid (by
  rw [newOf,if_pos (Or.inl (by decide)),if_pos (by decide)]
  congr 2
  rw [Nat.min_eq_right (Nat.le_of_lt hq),Nat.one_mul])
 have a3:bits .and .i64 d 3=(ct d:Nat):=by
  rw [i64_and3]
  unfold ct
  omega
 have hc3:=ct_le d
 generalize hcd:ct d=cd at *
 have hD:=wd_bd cd
 have HW:Hid (∀ W,Calls Tryz.prog 26 #[.int .i64 cd] W fun e w'=>e=.returned (.int .i64 (wd cd))∧W=w'):=Lib.hid fun W=>by
  have:=width_any cd W
  rw [ct_nat hc3] at this
  exact this
 have hq0:((nn:Int) / (wd cd:Int))=((nn / wd cd:Nat):Int):=(Int.natCast_ediv _ _).symm
 have hq1:nn / wd cd≤nn:=Nat.div_le_self _ _
 rw [hnl2] at hq
 have hDn:wd cd≤nn:=by
  have h1:=Nat.div_mul_le_self nn (wd cd)
  have h2:1*wd cd≤nn / wd cd*wd cd:=Nat.mul_le_mul_right _ (by omega)
  omega
 clear hcd hc3
 obtain ⟨i0,hi,hz0,hz1,hz2⟩:=info_parts infoF
 generalize nn / wd cd=q at *
 have hqm:¬ ((q:Int)<1):=by omega
 have hqm2:(1:Int)<(q:Int):=by omega
 have hqm3:¬ (q:Int)=1:=by omega
 generalize wd cd=D at *
 obtain ⟨hD1,hD2⟩:=hD
 have HNL:=Lib.hid hnl2
 clear hnl hnl2
 have hwl:IntKind.i64.wrap (D:Int)=(D:Int):=by
  rw [IntKind.wrap_i64]
  omega
 have hLc:(D:Int)≤(cn:Int):=by omega
 have hL0:(0:Int)≤(D:Int):=by omega
 go_enter Tryz.func10,Tryz.ntmps10
 go_wp2_with (go_at_call 14;(with_reducible refine (leaf_any _ _).mono ?_);rintro e w' ⟨rfl,rfl⟩)
 go_quiet ((go_at_call 26;exact Calls.quiet_of_same ((HW.out _).mono fun _ _ h=>⟨h.1,h.2.symm⟩)))
 go_wp2
 generalize hW:World.drewN (World.alloc (World.alloc (World.alloc w _) _) _) _=w5 at *
 have B0:Blk w5 w.heap.size #[.int .i64 1,.int .i64 d,.slice pn nn cn,.slice pk nk ck] 25:=by
  subst hW
  exact KL
 have B1:Blk w5 (w.heap.size+1) #[.int .i64 0,.int .i64 0,.slice none 0 0,.slice none 0 0] 25:=by
  subst hW
  exact KL
 have B2:Blk w5 (w.heap.size+1+1) #[.int .i64 1,.int .i64 cd,.slice none 0 0,.slice none 0 0] 25:=by
  subst hW
  exact KL
 have HB5:Hid (Bel w w5):=Lib.hid (by
  subst hW
  exact EL)
 have hsz5:w.heap.size+3≤w5.heap.size:=by
  subst hW
  simp
 clear hW
 have HQ1:=Lib.hid B1
 have HQ2:=Lib.hid B2
 obtain ⟨r0,z0,l0⟩:=B0.facts
 obtain ⟨r2,z2,l2⟩:=B2.facts
 clear B0 B1 B2
 refine wp_region_still_tail 10 (by kernel_rfl) (by kernel_rfl) ?_
 simp only [List.take_succ_cons,List.take_zero,List.drop_succ_cons,List.drop_zero]
 repeat still_step
 still_call ((HW.out _).mono fun _ _ h=>⟨h.1,h.2.symm⟩)
 repeat still_step
 refine wpStill_nil ?_
 change wpList _ _ _ _ _ w5.drew
 go_wp2_with (at_builtin;(refine wpList_append_some _ rfl (.tmp 40) (.tmp 48) 22 rfl (w.heap.size+3) 27 i0 _ 1 8 Tryz.underlying22 hi hz0 hz1 hz2 rfl (by decide) (.slice none 0 0) 0 [] rfl (World.ownsRow_nil _ _ _ _) pn D cn ((ns.take D).map flv) rfl (by rw [List.length_map,List.length_take,HNL.out];omega) (fun hm=>(HNS.out.bel (show Bel w _ by (have HB:=HB5.out;exact EL))).src (by rw [List.length_map,List.length_take,HNL.out];omega)) (flv_one _) (by unfold maxLen;have:=HNL.out;omega) (by have:=HNL.out;omega) (by simp;omega) ?_;intro v' w6 ho6 hg6 hb6;obtain ⟨p6,c6,rfl⟩:=ho6.isSlice;have HO6:=Lib.hid ho6;have HG6:=Lib.hid hg6;have HB6:=Lib.hid hb6;have E1:=grownBy_blk hg6 (show Blk _ (w.heap.size+1) #[.int .i64 0,.int .i64 0,.slice none 0 0,.slice none 0 0] 25 by (have HB:=HQ1.out;exact KL)) (fun e=>by simp [Value.ownBlock] at e);have E2:=grownBy_blk hg6 (show Blk _ (w.heap.size+1+1) #[.int .i64 1,.int .i64 cd,.slice none 0 0,.slice none 0 0] 25 by (have HB:=HQ2.out;exact KL)) (fun e=>by simp [Value.ownBlock] at e);have HE1:=Lib.hid E1;obtain ⟨q5,y5,u5⟩:=E1.facts;have HE2:=Lib.hid E2;obtain ⟨q6,y6,u6⟩:=E2.facts;clear ho6 hg6 hb6 E1 E2))
 have ho:Hid (w6.ownsRow (w.heap.size+3) 27 1 (.slice p6 D c6) D ((ns.take D).map flv)):=Lib.hid (by
  have:=HO6.out
  rw [Nat.zero_add] at this
  exact this)
 have HFS:Hid (FlSl (fun b=>w.heap.size+3≤b) w6 (.slice p6 D c6) (ns.take D)):=Lib.hid (FlSl.of_owns ho.out (by rw [List.length_take,HNL.out];omega) fun b hb=>hb)
 have HEND:Hid (∀ W:World,w6.heap.size≤W.heap.size→(∀ b,w.heap.size+3≤b→b<w6.heap.size→W.heap[b]?=w6.heap[b]?)→Bel w W→IsGm G (newOf (.mk 1 d ns ks)) w (.returned (.agg #[.int .i64 1,.int .i64 cd,.slice p6 D c6,.slice none 0 0])) W):=Lib.hid fun W hW hk hb=>by
  rw [HNEW.out]
  exact ⟨_,_,_,_,_,_,rfl,HFS.out.keep hW hk (fun b _ hb=>hG b (by omega)),GmSl.nil G W,hb⟩
 have HB6':Hid (Bel w w6):=Lib.hid ((show Bel w _ by (have HB:=HB5.out;exact EL)).of_row HG6.out (fun g hg=>by simp [Value.ownBlock] at hg))
 refine post_ret (results_one rfl (resIs_agg (n:=4) (cs:=#[.int .i64 1,.int .i64 cd,.slice p6 D c6,.slice none 0 0]) (by rfl) Tryz.underlying25 (by kernel_rfl) (T:=25) ?_ rfl)) (HEND.out _ ?_ (fun b hb hl=>?_) ?_)
 ·have HB:=HE1.out
  exact SL
 ·simp
 ·repeat rw [Below.heap_setCell _ _ _ _ (by simp;omega)]
 ·have HB:=HB6'.out
  exact EL
theorem spNewPoint_any (d:Int) (ns:List Nat) (ks:List Gm) (h31:ns.length≤1048576):SpNew (.mk 1 d ns ks):=by
 rcases Nat.lt_or_ge 1 (ns.length / wd (ct d)) with h|h
 ·exact spNewPoint_2 d ns ks h31 h
 ·rcases Nat.eq_zero_or_pos (ns.length / wd (ct d)) with h0|h0
  ·exact spNewPoint_0 d ns ks h31 h0
  ·exact spNewPoint_1 d ns ks h31 (by omega)
end Go.Proofs.YtpipehenfcbjbaaGreatDoor
set_option linter.unusedVariables false
namespace Go.Proofs.YtpipehenfcbjbaaGreatDoor
open Go.ChangeShapes Go.WideShapes Go.ChangeAt Go.RowKit
theorem i64_and_small (a b:Nat) (ha:a≤3) (hb:b≤3):bits .and .i64 (a:Int) (b:Int)=((a &&& b:Nat):Int):=by
 have h1:a=0∨a=1∨a=2∨a=3:=by omega
 have h2:b=0∨b=1∨b=2∨b=3:=by omega
 rcases h1 with rfl|rfl|rfl|rfl<;>rcases h2 with rfl|rfl|rfl|rfl<;>decide
theorem and_small (a b:Nat) (ha:a≤3):a &&& b≤3:=Nat.le_trans Nat.and_le_left ha
theorem newOf_dim (g:Gm):∃ c:Nat,c≤3∧(newOf g).dim=c:=by
 cases g with
 | mk k d ns ks =>
  rw [newOf]
  split
  ·exact ⟨ct d,ct_le d,rfl⟩
  ·split
   ·exact ⟨ct d,ct_le d,rfl⟩
   ·refine ⟨_,?_,rfl⟩
    unfold common
    have key:∀ (l:List Gm) (a:Nat),a≤3→l.foldl (fun a g=>a &&& g.dim.toNat) a≤3:=fun l=>by
     induction l with
     | nil=>exact fun a h=>h
     | cons x r ih=>exact fun a h=>ih _ (and_small _ _ h)
    exact key _ 3 (by decide)
theorem common_snoc (l:List Gm) (g:Gm):common (l ++ [g])=common l &&& g.dim.toNat:=by
 unfold common
 rw [List.foldl_append]
 rfl
end Go.Proofs.YtpipehenfcbjbaaGreatDoor
set_option linter.unusedVariables false
namespace Go.Proofs.YtpipehenfcbjbaaGreatDoor
open Go.ChangeShapes Go.WideShapes Go.ChangeAt Go.RowKit
mutual
/-- All types of a geometry are c. -/
def Uni (c:Nat):Gm→Prop
 | .mk _ d _ ks=>d=c∧UniAll c ks
def UniAll (c:Nat):List Gm→Prop
 | []=>True
 | g :: r=>Uni c g∧UniAll c r
end
mutual
theorem force_uni (c:Nat):∀ g:Gm,Uni c (force c g)
 | .mk k d ns ks=>by
  rw [force,Uni]
  exact ⟨rfl,forceAll_uni c ks⟩
theorem forceAll_uni (c:Nat):∀ l:List Gm,UniAll c (forceAll c l)
 | []=>by rw [forceAll,UniAll];trivial
 | g :: r=>by
  rw [forceAll,UniAll]
  exact ⟨force_uni c g,forceAll_uni c r⟩
end
mutual
theorem force_size {c c':Nat} (hc:c≤3) (h:wd c'≤wd c):∀ g:Gm,Uni c g→(force c' g).size≤g.size
 | .mk k d ns ks,hu=>by
  rw [Uni] at hu
  have h2:=forceAll_size hc h ks hu.2
  have hd:ct d=c:=by rw [hu.1];exact ct_nat hc
  rw [force,Gm.size,Gm.size,forceN_len,hd]
  have h3:ns.length / wd c*wd c'≤ns.length / wd c*wd c:=Nat.mul_le_mul_left _ h
  have h4:=Nat.div_mul_le_self ns.length (wd c)
  omega
theorem forceAll_size {c c':Nat} (hc:c≤3) (h:wd c'≤wd c):∀ l:List Gm,UniAll c l→Gm.sizes (forceAll c' l)≤Gm.sizes l
 | [],_=>by rw [forceAll];exact Nat.le_refl _
 | g :: r,hu=>by
  rw [UniAll] at hu
  have h1:=force_size hc h g hu.1
  have h2:=forceAll_size hc h r hu.2
  rw [forceAll,Gm.sizes,Gm.sizes]
  omega
end
end Go.Proofs.YtpipehenfcbjbaaGreatDoor
set_option linter.unusedVariables false
namespace Go.Proofs.YtpipehenfcbjbaaGreatDoor
open Go.ChangeShapes Go.WideShapes Go.ChangeAt Go.RowKit
theorem forceAll_size' {c':Nat}:∀ l:List Gm,(∀ g ∈ l,∃ c,c≤3∧Uni c g∧wd c'≤wd c)→Gm.sizes (forceAll c' l)≤Gm.sizes l
 | [],_=>by rw [forceAll];exact Nat.le_refl _
 | g :: r,hu=>by
  obtain ⟨c,hc,h1,h2⟩:=hu g (by simp)
  have h3:=force_size hc h2 g h1
  have h4:=forceAll_size' r fun k hk=>hu k (by simp [hk])
  rw [forceAll,Gm.sizes,Gm.sizes]
  omega
theorem wd_and (a b:Nat) (ha:a≤3) (hb:b≤3):wd (a &&& b)≤wd b∧wd (a &&& b)≤wd a:=by
 have h1:a=0∨a=1∨a=2∨a=3:=by omega
 have h2:b=0∨b=1∨b=2∨b=3:=by omega
 rcases h1 with rfl|rfl|rfl|rfl<;>rcases h2 with rfl|rfl|rfl|rfl<;>decide
theorem wd_common:∀ (l:List Gm) (a:Nat),a≤3→(∀ g ∈ l,g.dim.toNat≤3)→wd (l.foldl (fun a g=>a &&& g.dim.toNat) a)≤wd a∧∀ g ∈ l,wd (l.foldl (fun a g=>a &&& g.dim.toNat) a)≤wd g.dim.toNat
 | [],a,h,_=>⟨Nat.le_refl _,fun g hg=>by simp at hg⟩
 | x :: r,a,h,hd=>by
  have hx:=hd x (by simp)
  have h1:=wd_and a x.dim.toNat h hx
  have h2:=wd_common r (a &&& x.dim.toNat) (and_small _ _ h) fun g hg=>hd g (by simp [hg])
  simp only [List.foldl_cons]
  refine ⟨Nat.le_trans h2.1 h1.2,fun g hg=>?_⟩
  rcases List.mem_cons.1 hg with rfl|hg
  ·exact Nat.le_trans h2.1 h1.1
  ·exact h2.2 g hg
end Go.Proofs.YtpipehenfcbjbaaGreatDoor
set_option linter.unusedVariables false
namespace Go.Proofs.YtpipehenfcbjbaaGreatDoor
open Go.ChangeShapes Go.WideShapes Go.ChangeAt Go.RowKit
theorem newOf_uni (g:Gm):∃ c:Nat,c≤3∧(newOf g).dim=c∧Uni c (newOf g):=by
 cases g with
 | mk k d ns ks =>
  rw [newOf]
  split
  ·exact ⟨ct d,ct_le d,rfl,by rw [Uni];exact ⟨rfl,by rw [UniAll];trivial⟩⟩
  ·split
   ·exact ⟨ct d,ct_le d,rfl,by rw [Uni];exact ⟨rfl,by rw [UniAll];trivial⟩⟩
   ·exact ⟨_,common_le _ 3 (by decide),(force_kind _ _).2,force_uni _ _⟩
theorem newAll_mem {want:Int}:∀ {l:List Gm} {x:Gm},x ∈ newAll want l→∃ g ∈ l,x=newOf g
 | [],x,h=>by rw [newAll] at h;simp at h
 | a :: r,x,h=>by
  rw [newAll] at h
  split at h
  ·rcases List.mem_cons.1 h with rfl|h
   ·exact ⟨a,by simp,rfl⟩
   ·obtain ⟨g,h1,h2⟩:=newAll_mem h
    exact ⟨g,by simp [h1],h2⟩
  ·obtain ⟨g,h1,h2⟩:=newAll_mem h
   exact ⟨g,by simp [h1],h2⟩
theorem newAll_sizes {want:Int}:∀ (l:List Gm),(∀ g ∈ l,(newOf g).size≤g.size)→Gm.sizes (newAll want l)≤Gm.sizes l
 | [],_=>by rw [newAll];exact Nat.le_refl _
 | a :: r,h=>by
  have h1:=h a (by simp)
  have h2:=newAll_sizes (want:=want) r fun g hg=>h g (by simp [hg])
  rw [newAll]
  split
  ·rw [Gm.sizes,Gm.sizes];omega
  ·rw [Gm.sizes];omega
theorem newOf_size:∀ (n:Nat) (g:Gm),g.size≤n→(newOf g).size≤g.size
 | 0,g,h=>absurd h (by have:=g.size_pos;omega)
 | n+1,.mk k d ns ks,h=>by
  have hk:∀ g ∈ ks,(newOf g).size≤g.size:=fun g hg=>newOf_size n g (by
   have h2:=Gm.size_mem hg
   simp only [Gm.size] at h
   omega)
  have hs:=newAll_sizes (want:=kidOf (kindOf k)) ks hk
  rw [newOf]
  split
  ·rw [Gm.size,Gm.size]
   have:Gm.sizes []=0:=rfl
   rw [this,List.length_take]
   omega
  ·split
   ·rw [Gm.size,Gm.size]
    have:Gm.sizes []=0:=rfl
    rw [this,List.length_nil]
    omega
   ·rw [force,Gm.size,Gm.size,forceN_len]
    have hu:∀ g ∈ newAll (kidOf (kindOf k)) ks,∃ c,c≤3∧Uni c g∧wd (common (newAll (kidOf (kindOf k)) ks))≤wd c:=fun x hx=>by
     obtain ⟨g,h1,rfl⟩:=newAll_mem hx
     obtain ⟨c,hc,hd,hu⟩:=newOf_uni g
     refine ⟨c,hc,hu,?_⟩
     have:=(wd_common (newAll (kidOf (kindOf k)) ks) 3 (by decide) fun y hy=>by
      obtain ⟨g',h1',rfl⟩:=newAll_mem hy
      obtain ⟨c',hc',hd',-⟩:=newOf_uni g'
      rw [hd']
      simpa using hc').2 _ hx
     rw [hd] at this
     simpa [common] using this
    have h3:=forceAll_size' _ hu
    simp only [List.length_nil,Nat.zero_div,Nat.zero_mul]
    omega
end Go.Proofs.YtpipehenfcbjbaaGreatDoor
