/-
 spec.totalOf,spec.Finite,spec.IsClosed,spec.ringed: what they say,or that they come back.
-/
import Derived.Test.YtpipehenfcbjbaaGreatDoorPaw
import Derived.Test.YtpipehenfcbjbaaGreatDoorPan
import Derived.Test.YtpipehenfcbjbaaGreatDoorPav
import Derived.BigRegion
set_option linter.unusedVariables false
set_option linter.unusedSimpArgs false
namespace Go.Proofs.YtpipehenfcbjbaaGreatDoor
open Go.ChangeShapes Go.WideShapes Go.ChangeAt Go.RowKit
def TotSp (g:Gm):Prop:=GmArg g fun v w=>Calls Tryz.prog 27 #[v] w fun e w'=>e=.returned (.int .i64 (totG g))∧Bel w w'
set_option maxHeartbeats 4000000 in
set_option maxRecDepth 100000 in
theorem totSp_ind:∀ (n:Nat) (g:Gm),g.size≤n→g.size≤1048576→TotSp g:=by
 intro n
 induction n with
 | zero=>exact fun g h=>absurd h (by have:=g.size_pos;omega)
 | succ n ih =>
  intro g hsz hbig F pn nn cn pk nk ck w hN hK
  obtain ⟨k,d,ns,ks⟩:=g
  obtain ⟨hnl,-,-⟩:=hN.len
  obtain ⟨_,_,hve,hkl,hkc⟩:=hK.isSlice
  cases hve
  change ks.length≤ck at hkl
  show Calls Tryz.prog 27 #[.agg #[.int .i64 k,.int .i64 d,.slice pn nn cn,.slice pk ks.length ck]] w _
  have HK:=Lib.hid (show GmSl F w (.slice pk ks.length ck) ks from hK)
  have hnl2:ns.length=nn:=hnl
  have HIH:Hid (∀ g ∈ ks,TotSp g):=Lib.hid fun g hg=>ih g (by
   have h2:=Gm.size_mem hg
   simp only [Gm.size] at hsz
   omega) (by
   have h2:=Gm.size_mem hg
   simp only [Gm.size] at hbig
   omega)
  have HTB:Hid (∀ l:List Gm,totAll l+l.length≤Gm.sizes l):=Lib.hid totAll_size
  have HTL:=Lib.hid (sizes_take_le ks)
  have hsk:Gm.sizes ks≤1048576:=by rw [Gm.size] at hbig;omega
  have HSK:=Lib.hid hsk
  have hte:totG (.mk k d ns ks)=totAll ks+ks.length:=by rw [totG]
  rw [hte]
  clear ih hsz hbig hN hK hnl hnl2 hsk hte
  generalize hn:ks.length=n at *
  have HN:=Lib.hid hn
  have hn31:n≤1048576:=by have:=HTB.out ks;have:=HSK.out;omega
  clear hn
  go_enter Tryz.func27,Tryz.ntmps27
  go_wp2
  go_loopw [3,12] (fun dv iv wr=>∃ t:Nat,dv=.int .i64 ((totAll (ks.take t)+n:Nat):Int)∧iv=.int .i64 t∧t≤n∧Bel w wr) (fun _ iv _=>n - (intOf iv).toNat)
  case atStart=>exact ⟨0,by simp [totAll],rfl,Nat.zero_le _,by exact EL⟩
  case round =>
   obtain ⟨t,rfl,rfl,ht,hbel⟩:=hrel
   have HBEL:=Lib.hid hbel
   by_cases htn:t<n
   ·obtain ⟨kd,hkd⟩:∃ kd,ks[t]?=some kd:=⟨_,List.getElem?_eq_getElem (by have:=HN.out;omega)⟩
    have HKD:=Lib.hid (HIH.out kd (List.mem_iff_getElem?.2 ⟨t,hkd⟩))
    obtain ⟨b,off,pn',nn',cn',pk',nk',ck',rfl,hlt,-,d0,d1,d2,d3,hf,hg'⟩:=HK.out.at hkd
    have D0:=cell_kept hbel d0
    have D1:=cell_kept hbel d1
    have D2:=cell_kept hbel d2
    have D3:=cell_kept hbel d3
    have hbl:b<wr.heap.size:=Nat.lt_of_lt_of_le hlt hbel.size
    have HC:Hid (∀ W,Bel w W→Calls Tryz.prog 27 #[.agg #[.int .i64 kd.kind,.int .i64 kd.dim,.slice pn' nn' cn',.slice pk' nk' ck']] W fun e w'=>e=.returned (.int .i64 (totG kd))∧Bel W w'):=Lib.hid fun W hW=>GmArg.of HKD.out hf hg' hW
    have HTK:=Lib.hid (totAll_take hkd)
    have hb1:totAll (ks.take t)+totG kd≤1048576:=by
     have h1:=totG_size kd
     have h2:=HTB.out (ks.take t)
     have h3:=sizes_take ks t kd hkd
     have h4:=HTL.out (t+1)
     have h5:=HSK.out
     omega
    clear HKD d0 d1 d2 d3 hf hg' hbel hkd
    generalize kd.dim=kdim at *
    generalize hkk:kd.kind=kkind at *
    generalize totG kd=hv at *
    generalize totAll (ks.take t)=ha at *
    by_cases h0:kkind=0
    ·have q0:(kkind == 0)=true:=by simp [h0]
     have HNX:Hid (totAll (ks.take (t+1))+n=ha+n+hv):=Lib.hid (by rw [HTK.out,if_pos h0];omega)
     clear h0 hkk HTK
     go_wp2_with (go_at_call 27;(with_reducible refine (HC.out _ ?hb).mono ?_);(case hb=>exact HBEL.out.alloc _);rintro e w3 ⟨rfl,hb⟩;have HB3:Hid (Bel wr w3):=Lib.hid ((Bel.alloc1 _ _).trans hb);clear hb)
     go_roundw
     case rel=>exact ⟨t+1,by rw [HNX.out];go_num,by go_num,by omega,HBEL.out.trans HB3.out⟩
     case measure=>simp [intOf];omega
    ·have q0:(kkind == 0)=false:=by simp [h0]
     have HNX:Hid (totAll (ks.take (t+1))+n=ha+n):=Lib.hid (by rw [HTK.out,if_neg h0];omega)
     clear h0 hkk HTK
     go_wp2
     go_roundw
     case rel=>exact ⟨t+1,by rw [HNX.out],by go_num,by omega,HBEL.out.alloc _⟩
     case measure=>simp [intOf];omega
   ·obtain rfl:t=n:=by omega
    have hx:ks.take t=ks:=List.take_of_length_le (by have:=HN.out;omega)
    have HX:=Lib.hid hx
    clear hx hbel
    go_wp2
    go_ret
    exact ⟨by rw [HX.out];rfl,HBEL.out⟩
theorem totSp_any (g:Gm) (h:g.size≤1048576):TotSp g:=totSp_ind g.size g (Nat.le_refl _) h
/-- A number less itself is 0. -/
def finS (x:Nat):Bool:=match floatBits .sub .f64 x x with
 | some r=>FloatKind.f64.format.order r 0 == some .eq
 | none=>false
theorem finS_not (x:Nat) (w:World):(FloatKind.f64.format.order (fR .sub x x w) 0 != some Ordering.eq)=!finS x:=by
 unfold fR finS
 cases floatBits .sub .f64 x x with
 | some r=>rfl
 | none =>
  show (FloatKind.f64.format.order (nanAt w x x) 0 != some Ordering.eq)=true
  rw [order_nanAt_left]
  rfl
theorem allN_take {f:Nat→Bool} {ps:List Nat} {t:Nat} {q:Nat} (h:ps[t]?=some q):(ps.take (t+1)).all f=((ps.take t).all f && f q):=by
 rw [List.take_add_one,h]
 simp
theorem allN_false {f:Nat→Bool} {ps:List Nat} {t:Nat} {q:Nat} (h:ps[t]?=some q) (k:f q=false):ps.all f=false:=by
 rw [List.all_eq_false]
 exact ⟨q,List.mem_iff_getElem?.2 ⟨t,h⟩,by rw [k];simp⟩
set_option maxHeartbeats 4000000 in
set_option maxRecDepth 100000 in
theorem finite_any (g:Gm) (hsz:g.size≤1048576):GmArg g fun v w=>Calls Tryz.prog 63 #[v] w (IsB ((allOf g).all finS) w):=by
 intro F pn nn cn pk nk ck w hN hK
 have HAN:Hid (∀ W,Bel w W→Calls Tryz.prog 20 #[.agg #[.int .i64 g.kind,.int .i64 g.dim,.slice pn nn cn,.slice pk nk ck]] W (IsFls (fun _=>True) (allOf g) g.size W)):=Lib.hid fun W hW=>GmArg.of (allNums_any g hsz (fun _=>True)) hN hK hW (New.any W)
 clear hN hK
 generalize g.kind=kind at *
 generalize g.dim=dim at *
 generalize g.size=sz at *
 generalize allOf g=xs at *
 go_enter Tryz.func63,Tryz.ntmps63
 go_wp2_with (go_at_call 20;(with_reducible refine (HAN.out _ ?hb).mono ?_);(case hb=>exact EL);rintro e w1 ⟨p1,m1,c1,rfl,hf,hm,hb1⟩;have hl:=hf.len.1;have HL:=Lib.hid hl;have HF:=Lib.hid hf;have HB1:Hid (Bel w w1):=Lib.hid ((show Bel w _ by exact EL).trans hb1);clear hb1 hf hl)
 have hsub:∀ (x y:Nat) (w:World),Sem.run Tryz.prog (binOp BinOp.sub 27 (.float .f64 x) (.float .f64 y)) w=.ok (.float .f64 (fR .sub x y w)) (w.drewN (fK .sub x y)):=fun x y w=>run_float_any _ .sub _ (by simp) x y w
 go_loopw [8] (fun iv wr=>∃ t:Nat,iv=.int .i64 t∧t≤m1∧Bel w1 wr∧(xs.take t).all finS=true) (fun iv _=>m1 - (intOf iv).toNat)
 case atStart=>exact ⟨0,rfl,Nat.zero_le _,Bel.refl _,by simp⟩
 case round =>
  obtain ⟨t,rfl,ht,hbel,hall⟩:=hrel
  have HALL:=Lib.hid hall
  clear hall
  have HBEL:=Lib.hid hbel
  by_cases htn:t<m1
  ·obtain ⟨x,hx⟩:∃ x,xs[t]?=some x:=⟨_,List.getElem?_eq_getElem (by have:=HL.out;omega)⟩
   obtain ⟨b,off,rfl,hlt,hF2,hc⟩:=HF.out.cells (by omega)
   have D0:=cell_kept hbel (hc t x hx)
   have hbl:b<wr.heap.size:=Nat.lt_of_lt_of_le hlt hbel.size
   have HFS:=Lib.hid (finS_not x wr)
   have HTK:=Lib.hid (allN_take (f:=finS) hx)
   have HAF:Hid (finS x=false→xs.all finS=false):=Lib.hid (allN_false hx)
   clear hc hbel hx hF2
   cases hq:(FloatKind.f64.format.order (fR .sub x x wr) 0 != some Ordering.eq)
   ·have HT:Hid (finS x=true):=Lib.hid (by have:=HFS.out;rw [hq] at this;simpa using this.symm)
    go_wp2
    go_roundw
    case rel=>exact ⟨t+1,by go_num,by omega,(by (have HB:=HBEL.out;exact EL)),by rw [HTK.out,HALL.out,HT.out];rfl⟩
    case measure=>simp [intOf];omega
   ·have HT:Hid (finS x=false):=Lib.hid (by have:=HFS.out;rw [hq] at this;simpa using this.symm)
    go_wp2
    go_ret
    exact IsB.mk' (HAF.out HT.out).symm (by (have HB:=HB1.out.trans HBEL.out;exact EL))
  ·go_wp2
   go_ret
   exact IsB.mk' (by have:=HALL.out;rw [List.take_of_length_le (by have:=HL.out;omega)] at this;rw [this]) (HB1.out.trans HBEL.out)
set_option maxHeartbeats 4000000 in
set_option maxRecDepth 100000 in
theorem isClosed_any (g:Gm) (hsz:g.size≤1048576):GmArg g fun v w=>Calls Tryz.prog 64 #[v] w (IsBool w):=by
 intro F pn nn cn pk nk ck w hN hK
 have hnl:g.nums.length≤1048576:=by rw [g.size_eq] at hsz;omega
 have HPL:Hid (∀ (W:World),Bel w W→Calls Tryz.prog 33 #[.slice pn nn cn,.int .i64 g.dim] W (IsPls (fun b=>W.heap.size≤b) W (plsOf (ct g.dim) g.nums))):=Lib.hid fun W hW=>places_any _ F _ _ _ W (fun b h=>h) (hN.bel hW) (by omega)
 clear hN hK hsz hnl
 generalize g.kind=kind at *
 generalize plsOf (ct g.dim) g.nums=pls at *
 generalize g.dim=dim at *
 by_cases hk:kind=2
 ·have qk:(kind != 2)=false:=by simp [hk]
  clear hk
  by_cases hl:pls.length=0
  ·have ql:((pls.length:Int) == 0)=true:=by simp [hl]
   clear hl
   go_enter Tryz.func64,Tryz.ntmps64
   go_wp2_with (go_at_call 33;(with_reducible refine (HPL.out _ ?hb).mono ?_);(case hb=>exact EL);rintro e w1 ⟨v1,rfl,⟨pp,cp,rfl,hpl,hpc,hcs⟩,hb1⟩;have C0:Blk w1 w.heap.size #[.int .i64 kind,.int .i64 dim,.slice pn nn cn,.slice pk nk ck] 25:=Blk.bel (by exact KL) hb1;have HB1:Hid (Bel w w1):=Lib.hid ((show Bel w _ by exact EL).trans hb1);obtain ⟨r0,y0,u0⟩:=C0.facts;have HCS:=Lib.hid hcs;clear hb1 C0 hcs)
   go_ret
   exact ⟨_,rfl,HB1.out⟩
  ·have ql:((pls.length:Int) == 0)=false:=beq_eq_false_iff_ne.2 (by omega)
   obtain ⟨a,ha⟩:∃ a,pls[0]?=some a:=⟨_,List.getElem?_eq_getElem (by omega)⟩
   obtain ⟨b,hb⟩:∃ b,pls[pls.length - 1]?=some b:=⟨_,List.getElem?_eq_getElem (by omega)⟩
   have HA:=Lib.hid ha
   have HB:=Lib.hid hb
   have HNE:Hid (pls ≠ []):=Lib.hid (by intro e;rw [e] at hl;simp at hl)
   clear ha hb
   generalize hm:pls.length=m at *
   have hm1:0<m:=by omega
   clear hl
   go_enter Tryz.func64,Tryz.ntmps64
   go_wp2_with (go_at_call 33;(with_reducible refine (HPL.out _ ?hb).mono ?_);(case hb=>exact EL);rintro e w1 ⟨v1,rfl,⟨pp,cp,rfl,hpl,hpc,hcs⟩,hb1⟩;have C0:Blk w1 w.heap.size #[.int .i64 kind,.int .i64 dim,.slice pn nn cn,.slice pk nk ck] 25:=Blk.bel (by exact KL) hb1;have HB1:Hid (Bel w w1):=Lib.hid ((show Bel w _ by exact EL).trans hb1);obtain ⟨r0,y0,u0⟩:=C0.facts;have HCS:=Lib.hid hcs;clear hb1 C0 hcs)
   obtain ⟨bb,off,rfl,hlt,hF2,hcs⟩:=HCS.out HNE.out
   obtain ⟨d0,d1,d2,d3⟩:=hcs 0 _ HA.out
   obtain ⟨e0,e1,e2,e3⟩:=hcs (m - 1) _ HB.out
   simp only [Nat.zero_mul,Nat.add_zero] at d0 d1 d2 d3
   clear hcs hF2
   generalize a.x=ax at *
   generalize a.y=ay at *
   generalize a.z=az at *
   generalize a.m=am at *
   generalize b.x=bx at *
   generalize b.y=by' at *
   generalize b.z=bz at *
   generalize b.m=bm at *
   have hsb:(((m:Nat):Int) - 1)=((m - 1:Nat):Int):=by omega
   cases hq:(FloatKind.f64.format.order ax bx == some Ordering.eq)
   all_goals
    go_region
    all_goals go_wp2
    all_goals go_ret
    all_goals exact ⟨_,rfl,by (have HB:=HB1.out;exact EL)⟩
 ·have qk:(kind != 2)=true:=by simp [hk]
  clear hk
  go_enter Tryz.func64,Tryz.ntmps64
  go_wp2_with (go_at_call 33;(with_reducible refine (HPL.out _ ?hb).mono ?_);(case hb=>exact EL);rintro e w1 ⟨v1,rfl,⟨pp,cp,rfl,hpl,hpc,hcs⟩,hb1⟩;have C0:Blk w1 w.heap.size #[.int .i64 kind,.int .i64 dim,.slice pn nn cn,.slice pk nk ck] 25:=Blk.bel (by exact KL) hb1;have HB1:Hid (Bel w w1):=Lib.hid ((show Bel w _ by exact EL).trans hb1);obtain ⟨r0,y0,u0⟩:=C0.facts;have HCS:=Lib.hid hcs;clear hb1 C0 hcs)
  go_ret
  exact ⟨_,rfl,HB1.out⟩
def Ringed (g:Gm):Prop:=GmArg g fun v w=>Calls Tryz.prog 30 #[v] w (IsBool w)
set_option maxHeartbeats 4000000 in
set_option maxRecDepth 100000 in
theorem ringed_ind:∀ (n:Nat) (g:Gm),g.size≤n→g.size≤1048576→Ringed g:=by
 intro n
 induction n with
 | zero=>exact fun g h=>absurd h (by have:=g.size_pos;omega)
 | succ n ih =>
  intro g hsz hbig F pn nn cn pk nk ck w hN hK
  obtain ⟨k,d,ns,ks⟩:=g
  obtain ⟨hnl,-,-⟩:=hN.len
  obtain ⟨_,_,hve,hkl,hkc⟩:=hK.isSlice
  cases hve
  change ks.length≤ck at hkl
  show Calls Tryz.prog 30 #[.agg #[.int .i64 k,.int .i64 d,.slice pn nn cn,.slice pk ks.length ck]] w _
  have HK:=Lib.hid (show GmSl F w (.slice pk ks.length ck) ks from hK)
  have hnl2:ns.length=nn:=hnl
  have HIH:Hid (∀ g ∈ ks,Ringed g):=Lib.hid fun g hg=>ih g (by
   have h2:=Gm.size_mem hg
   simp only [Gm.size] at hsz
   omega) (by
   have h2:=Gm.size_mem hg
   simp only [Gm.size] at hbig
   omega)
  have HCL:Hid (∀ g ∈ ks,GmArg g fun v w=>Calls Tryz.prog 64 #[v] w (IsBool w)):=Lib.hid fun g hg=>isClosed_any g (by
   have h2:=Gm.size_mem hg
   simp only [Gm.size] at hbig
   omega)
  have hn31:ks.length≤1048576:=by
   have:=Gm.len_sizes ks
   rw [Gm.size] at hbig
   omega
  clear ih hsz hbig hN hK hnl hnl2
  generalize hn:ks.length=n at *
  have HN:=Lib.hid hn
  clear hn
  go_enter Tryz.func30,Tryz.ntmps30
  go_wp2
  go_loopw [8] (fun iv wr=>∃ t:Nat,iv=.int .i64 t∧t≤n∧Bel w wr∧Blk wr w.heap.size #[.int .i64 k,.int .i64 d,.slice pn nn cn,.slice pk n ck] 25) (fun iv _=>n - (intOf iv).toNat)
  case atStart=>exact ⟨0,rfl,Nat.zero_le _,by exact EL,by exact KL⟩
  case round =>
   obtain ⟨t,rfl,ht,hbel,hb3⟩:=hrel
   have HBEL:=Lib.hid hbel
   have HG3:=Lib.hid hb3
   obtain ⟨r3,z3,l3⟩:=hb3.facts
   by_cases htn:t<n
   ·obtain ⟨kd,hkd⟩:∃ kd,ks[t]?=some kd:=⟨_,List.getElem?_eq_getElem (by have:=HN.out;omega)⟩
    have HKD:=Lib.hid (HIH.out kd (List.mem_iff_getElem?.2 ⟨t,hkd⟩))
    have HKC:=Lib.hid (HCL.out kd (List.mem_iff_getElem?.2 ⟨t,hkd⟩))
    obtain ⟨b,off,pn',nn',cn',pk',nk',ck',rfl,hlt,-,d0,d1,d2,d3,hf,hg'⟩:=HK.out.at hkd
    have D0:=cell_kept hbel d0
    have D1:=cell_kept hbel d1
    have D2:=cell_kept hbel d2
    have D3:=cell_kept hbel d3
    have hbl:b<wr.heap.size:=Nat.lt_of_lt_of_le hlt hbel.size
    have HC:Hid (∀ W,Bel w W→Calls Tryz.prog 30 #[.agg #[.int .i64 kd.kind,.int .i64 kd.dim,.slice pn' nn' cn',.slice pk' nk' ck']] W (IsBool W)):=Lib.hid fun W hW=>GmArg.of HKD.out hf hg' hW
    have HD:Hid (∀ W,Bel w W→Calls Tryz.prog 64 #[.agg #[.int .i64 kd.kind,.int .i64 kd.dim,.slice pn' nn' cn',.slice pk' nk' ck']] W (IsBool W)):=Lib.hid fun W hW=>GmArg.of HKC.out hf hg' hW
    clear HKD HKC d0 d1 d2 d3 hf hg' hbel hkd hb3
    generalize kd.dim=kdim at *
    generalize kd.kind=kkind at *
    by_cases h3:k=3
    ·have q3:(k == 3)=true:=by simp [h3]
     clear h3
     go_wp2_with (first
      | (go_at_call 64;(with_reducible refine (HD.out _ ?hb).mono ?_);(case hb=>exact HBEL.out.alloc _);rintro e w3 ⟨bc,rfl,hb⟩;have HB3:Hid (Bel wr w3):=Lib.hid ((Bel.alloc1 _ _).trans hb);have C5:Blk w3 wr.heap.size #[.int .i64 kkind,.int .i64 kdim,.slice pn' nn' cn',.slice pk' nk' ck'] 25:=Blk.bel (by exact KL) hb;obtain ⟨r5,z5,l5⟩:=C5.facts;have HP3:=Lib.hid (HG3.out.bel HB3.out);clear hb C5;cases bc)
      | (go_at_call 30;(with_reducible refine (HC.out _ ?hb).mono ?_);(case hb=>exact HBEL.out.trans HB3.out);rintro e w4 ⟨br,rfl,hb⟩;have HB4:Hid (Bel wr w4):=Lib.hid (HB3.out.trans hb);have HP4:=Lib.hid (HG3.out.bel HB4.out);clear hb;cases br))
     ·go_ret
      exact ⟨_,rfl,HBEL.out.trans HB3.out⟩
     ·go_ret
      exact ⟨_,rfl,HBEL.out.trans HB4.out⟩
     ·go_roundw
      case rel=>exact ⟨t+1,by go_num,by omega,HBEL.out.trans HB4.out,HP4.out⟩
      case measure=>simp [intOf];omega
    ·have q3:(k == 3)=false:=by simp [h3]
     clear h3
     go_wp2_with (first
      | (go_at_call 30;(with_reducible refine (HC.out _ ?hb).mono ?_);(case hb=>exact HBEL.out.alloc _);rintro e w4 ⟨br,rfl,hb⟩;have HB4:Hid (Bel wr w4):=Lib.hid ((Bel.alloc1 _ _).trans hb);have HP4:=Lib.hid (HG3.out.bel HB4.out);clear hb;cases br))
     ·go_ret
      exact ⟨_,rfl,HBEL.out.trans HB4.out⟩
     ·go_roundw
      case rel=>exact ⟨t+1,by go_num,by omega,HBEL.out.trans HB4.out,HP4.out⟩
      case measure=>simp [intOf];omega
   ·obtain rfl:t=n:=by omega
    clear hbel
    go_wp2
    go_ret
    exact ⟨_,rfl,HBEL.out⟩
theorem ringed_any (g:Gm) (h:g.size≤1048576):Ringed g:=ringed_ind g.size g (Nat.le_refl _) h
end Go.Proofs.YtpipehenfcbjbaaGreatDoor
