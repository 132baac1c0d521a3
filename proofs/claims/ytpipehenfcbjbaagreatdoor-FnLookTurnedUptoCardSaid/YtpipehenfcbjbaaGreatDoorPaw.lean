/-
 spec.EnvOf: the least box around a geometry's numbers.
-/
import Derived.Test.YtpipehenfcbjbaaGreatDoorPav
import Derived.Test.YtpipehenfcbjbaaGreatDoorPal
set_option linter.unusedVariables false
set_option linter.unusedSimpArgs false
namespace Go.Proofs.YtpipehenfcbjbaaGreatDoor
open Go.ChangeShapes Go.WideShapes Go.ChangeAt Go.RowKit
def EnvSp (g:Gm):Prop:=GmArg g fun v w=>Calls Tryz.prog 24 #[v] w (IsPlainEnv (evOf g) w)
/-- The box around the first t parts that count. -/
def evKids (k:Int) (ks:List Gm) (t:Nat):Ev:=if k=3 then evHead (ks.take t) else evAll (ks.take t)
theorem evKids_zero (k:Int) (ks:List Gm):evKids k ks 0=.no:=by
 unfold evKids
 split<;>rw [List.take_zero]<;>rfl
theorem evKids_next {k:Int} {ks:List Gm} {t:Nat} {g:Gm} (h:ks[t]?=some g) (hc:k ≠ 3∨t=0):evKids k ks (t+1)=(evKids k ks t).join (evOf g):=by
 by_cases h3:k=3
 ·obtain rfl:t=0:=by omega
  unfold evKids
  rw [if_pos h3,if_pos h3]
  cases ks with
  | nil=>simp at h
  | cons a r =>
   simp at h
   subst h
   rw [List.take_succ_cons,List.take_zero,List.take_zero,evHead,evHead,Ev.no_join]
 ·unfold evKids
  rw [if_neg h3,if_neg h3]
  exact evAll_take h
theorem evKids_same {k:Int} {ks:List Gm} {t:Nat} {g:Gm} (h:ks[t]?=some g) (hk:k=3) (ht:0<t):evKids k ks (t+1)=evKids k ks t:=by
 unfold evKids
 rw [if_pos hk,if_pos hk]
 cases ks with
 | nil=>simp at h
 | cons a r =>
  obtain ⟨t',rfl⟩:∃ t',t=t'+1:=⟨t - 1,by omega⟩
  rw [List.take_succ_cons,List.take_succ_cons,evHead,evHead]
theorem evKids_all (k d:Int) (ns:List Nat) (ks:List Gm):(evNums (ct d) ns).join (evKids k ks ks.length)=evOf (.mk k d ns ks):=by
 unfold evKids
 rw [List.take_length,evOf]
set_option maxHeartbeats 8000000 in
set_option maxRecDepth 100000 in
theorem envSp_ind:∀ (n:Nat) (g:Gm),g.size≤n→g.size≤1048576→NN g→EnvSp g:=by
 intro n
 induction n with
 | zero=>exact fun g h=>absurd h (by have:=g.size_pos;omega)
 | succ n ih =>
  intro g hsz hbig hnn F pn nn cn pk nk ck w hN hK
  have hnk:=hnn.nums
  have hnd:=fun k (h:k ∈ g.kids)=>hnn.kid h
  obtain ⟨k,d,ns,ks⟩:=g
  obtain ⟨_,_,hve,hkl,hkc⟩:=hK.isSlice
  cases hve
  change ks.length≤ck at hkl
  change ∀ x ∈ ns,nnB x=true at hnk
  change ∀ g ∈ ks,NN g at hnd
  show Calls Tryz.prog 24 #[.agg #[.int .i64 k,.int .i64 d,.slice pn nn cn,.slice pk ks.length ck]] w _
  have HK:=Lib.hid (show GmSl F w (.slice pk ks.length ck) ks from hK)
  have HNS:=Lib.hid (show FlSl F w (.slice pn nn cn) ns from hN)
  have hnl:ns.length≤1048576:=by rw [Gm.size] at hbig;omega
  have HIH:Hid (∀ g ∈ ks,EnvSp g):=Lib.hid fun g hg=>ih g (by
   have h2:=Gm.size_mem hg
   simp only [Gm.size] at hsz
   omega) (by
   have h2:=Gm.size_mem hg
   simp only [Gm.size] at hbig
   omega) (hnd g hg)
  have HPL:Hid (∀ (W:World),Bel w W→Calls Tryz.prog 33 #[.slice pn nn cn,.int .i64 d] W (IsPls (fun b=>W.heap.size≤b) W (plsOf (ct d) ns))):=Lib.hid fun W hW=>places_any _ F _ _ _ W (fun b h=>h) (HNS.out.bel hW) (by omega)
  have HNZ:Hid (∀ i,nnB (ns.getD i 0)=true):=Lib.hid fun i=>by
   rcases Nat.lt_or_ge i ns.length with h|h
   ·have e:ns.getD i 0=ns[i]:=by simp [List.getD,h]
    rw [e]
    exact hnk _ (List.getElem_mem h)
   ·have e:ns.getD i 0=0:=by simp [List.getD,h]
    rw [e]
    decide +kernel
  have HFIN:=Lib.hid (evKids_all k d ns ks)
  have HQL:Hid ((plsOf (ct d) ns).length=ns.length / wd (ct d)):=Lib.hid (plsOf_len _ _)
  have hql31:ns.length / wd (ct d)≤2147483647:=by
   have:=Nat.div_le_self ns.length (wd (ct d))
   omega
  have HAT:Hid (∀ i,i<ns.length / wd (ct d)→(plsOf (ct d) ns)[i]?=some (plAt (ct d) ns i)):=Lib.hid fun i hi=>plsOf_get hi
  rw [← HFIN.out]
  clear ih hsz hbig hnn hnk hnd hN hK HFIN hnl
  generalize hcd:ct d=c at *
  generalize hpls:plsOf c ns=pls at *
  generalize hqq:ns.length / wd c=ql at *
  generalize hn:ks.length=n at *
  have HN:=Lib.hid hn
  have HEV:Hid (evNums c ns=evUp c ns ql):=Lib.hid (by unfold evNums;rw [hqq])
  rw [HEV.out]
  clear hn hqq hpls hcd
  go_enter Tryz.func24,Tryz.ntmps24
  go_wp2_with (first
   | (go_at_call 33;(with_reducible refine (HPL.out _ ?hb).mono ?_);(case hb=>exact EL);rintro e w1 ⟨v1,rfl,hp,hb1⟩;have C0:Blk w1 w.heap.size #[.int .i64 k,.int .i64 d,.slice pn nn cn,.slice pk n ck] 25:=Blk.bel (by exact KL) hb1;have C1:Blk w1 (w.heap.size+1) #[.bool false,.float .f64 0,.float .f64 0,.float .f64 0,.float .f64 0] 31:=Blk.bel (by exact KL) hb1;have C2:Blk w1 (w.heap.size+1+1) #[.bool false,.float .f64 0,.float .f64 0,.float .f64 0,.float .f64 0] 31:=Blk.bel (by exact KL) hb1;have HB1:Hid (Bel w w1):=Lib.hid ((show Bel w _ by exact EL).trans hb1);have HC0:=Lib.hid C0;have HC1:=Lib.hid C1;have HC2:=Lib.hid C2;obtain ⟨pp,cp,rfl,hpl,hpc,hcs⟩:=hp;have HCS:=Lib.hid hcs;have HPL2:=Lib.hid hpl;clear hb1 C0 C1 C2 hcs))
  have hpq:pls.length=ql:=HQL.out
  rw [hpq] at hpl
  try rw [hpq]
  have hpc':=hpc
  clear hpq
  go_loopw [14] (fun iv wr=>∃ (t:Nat) (f:Bool) (ea eb ec ed:Nat),iv=.int .i64 t∧t≤ql∧Bel w wr∧w1.heap.size≤wr.heap.size∧Abv (w.heap.size+3) w1 wr∧Blk wr w.heap.size #[.int .i64 k,.int .i64 d,.slice pn nn cn,.slice pk n ck] 25∧Blk wr (w.heap.size+1) #[.bool false,.float .f64 0,.float .f64 0,.float .f64 0,.float .f64 0] 31∧Blk wr (w.heap.size+1+1) #[.bool f,.float .f64 ea,.float .f64 eb,.float .f64 ec,.float .f64 ed] 31∧EvW f ea eb ec ed (evUp c ns t)) (fun iv _=>ql - (intOf iv).toNat)
  case atStart=>exact ⟨0,false,0,0,0,0,rfl,Nat.zero_le _,HB1.out,Nat.le_refl _,Abv.refl _ _,HC0.out,HC1.out,HC2.out,⟨rfl,rfl,rfl,rfl,rfl⟩⟩
  case round =>
   obtain ⟨t,f,ea,eb,ec,ed,rfl,ht,hbel,hgrow,habv,hb0,hb1,hb2,hev⟩:=hrel
   have HBEL:=Lib.hid hbel
   have HGROW:=Lib.hid hgrow
   have HABV:=Lib.hid habv
   have HD0:=Lib.hid hb0
   have HD1:=Lib.hid hb1
   have HD2:=Lib.hid hb2
   have HEVW:=Lib.hid hev
   obtain ⟨s0,t0,m0⟩:=hb0.facts
   obtain ⟨s1,t1,m1⟩:=hb1.facts
   obtain ⟨s2,t2,m2⟩:=hb2.facts
   clear hbel habv hb0 hb1 hb2 hev
   by_cases htq:t<ql
   ·obtain ⟨b,off,rfl,hlt,hF2,hcs⟩:=HCS.out (by intro e;have:=HQL.out;rw [e] at this;simp at this;omega)
    obtain ⟨d0,d1,d2,d3⟩:=hcs t _ (HAT.out t htq)
    have hF3:w.heap.size+3≤b:=by simpa using hF2
    have hkeep:wr.heap[b]?=w1.heap[b]?:=HABV.out b hF3 hlt
    have D0:=(World.cell?_of_block (w:=w1) (w':=wr) hkeep).trans d0
    have D1:=(World.cell?_of_block (w:=w1) (w':=wr) hkeep).trans d1
    have D2:=(World.cell?_of_block (w:=w1) (w':=wr) hkeep).trans d2
    have D3:=(World.cell?_of_block (w:=w1) (w':=wr) hkeep).trans d3
    have hbl:b<wr.heap.size:=by omega
    have HPT:Hid (EvW true (plAt c ns t).x (plAt c ns t).y (plAt c ns t).x (plAt c ns t).y (ptEv (ns.getD (t*wd c) 0) (ns.getD (t*wd c+1) 0))):=Lib.hid (ptEv_is (HNZ.out _) (HNZ.out _))
    have HUP:Hid (evUp c ns (t+1)=(evUp c ns t).join (ptEv (ns.getD (t*wd c) 0) (ns.getD (t*wd c+1) 0))):=Lib.hid rfl
    clear hcs d0 d1 d2 d3 hkeep hF2
    generalize (plAt c ns t).x=px at *
    generalize (plAt c ns t).y=py at *
    generalize (plAt c ns t).z=pz at *
    generalize (plAt c ns t).m=pm at *
    generalize ptEv (ns.getD (t*wd c) 0) (ns.getD (t*wd c+1) 0)=pe at *
    go_wp2_with (first
     | (go_at_call 59;(with_reducible refine (wider_any HEVW.out HPT.out _).mono ?_);rintro e w3 ⟨f',xa,xb,xc,xd,rfl,hev',hb3⟩;have HEV3:=Lib.hid hev';have HB3:Hid (Bel wr w3):=Lib.hid ((Bel.alloc1 wr _).trans hb3);have C0:=HD0.out.bel HB3.out;have C1:=HD1.out.bel HB3.out;have C2:=HD2.out.bel HB3.out;have HE0:=Lib.hid C0;have HE1:=Lib.hid C1;have HE2:=Lib.hid C2;obtain ⟨x2,y2,v2⟩:=C2.facts;clear hb3 hev' C0 C1 C2))
    go_roundw
    case rel =>
     have hs3:=HB3.out.size
     exact ⟨t+1,f',xa,xb,xc,xd,by go_num,by omega,(HBEL.out.trans HB3.out) |> (fun HB=>by exact EL),by (have:=HGROW.out;simp;omega),by (have H:=HABV.out.bel HGROW.out HB3.out;(repeat (first|exact H|refine Abv.set ?_ _ (by simp)))),(by have HB:=HE0.out;exact KL),(by have HB:=HE1.out;exact KL),(by have HB:=HE2.out;exact SL),by rw [HUP.out];exact HEV3.out⟩
    case measure=>simp [intOf];omega
   ·obtain rfl:t=ql:=by omega
    obtain ⟨tq,htq0⟩:∃ tq,tq=t:=⟨_,rfl⟩
    subst htq0
    obtain ⟨w2,hw2⟩:∃ w2,w2=wr:=⟨_,rfl⟩
    subst hw2
    go_wp2
    have HG2:=Lib.hid hgrow
    go_loopw [34] (fun iv wr=>∃ (t:Nat) (f:Bool) (ea eb ec ed:Nat),iv=.int .i64 t∧t≤n∧Bel w wr∧Blk wr w.heap.size #[.int .i64 k,.int .i64 d,.slice pn nn cn,.slice pk n ck] 25∧Blk wr (w.heap.size+1) #[.bool false,.float .f64 0,.float .f64 0,.float .f64 0,.float .f64 0] 31∧Blk wr (w.heap.size+1+1) #[.bool f,.float .f64 ea,.float .f64 eb,.float .f64 ec,.float .f64 ed] 31∧EvW f ea eb ec ed ((evUp c ns tq).join (evKids k ks t))) (fun iv _=>n - (intOf iv).toNat)
    case atStart=>exact ⟨0,f,ea,eb,ec,ed,rfl,Nat.zero_le _,HBEL.out,HD0.out,HD1.out,HD2.out,by rw [evKids_zero,Ev.join_no];exact HEVW.out⟩
    case round =>
     clear s0 t0 m0 s1 t1 m1 s2 t2 m2
     obtain ⟨t,f,ea,eb,ec,ed,rfl,ht,hbel,hb0,hb1,hb2,hev⟩:=hrel
     have HBEL:=Lib.hid hbel
     have HD0:=Lib.hid hb0
     have HD1:=Lib.hid hb1
     have HD2:=Lib.hid hb2
     have HEVW:=Lib.hid hev
     obtain ⟨s0,t0',m0⟩:=hb0.facts
     obtain ⟨s1,t1,m1⟩:=hb1.facts
     obtain ⟨s2,t2,m2⟩:=hb2.facts
     clear hb0 hb1 hb2 hev
     by_cases htn:t<n
     ·obtain ⟨kd,hkd⟩:∃ kd,ks[t]?=some kd:=⟨_,List.getElem?_eq_getElem (by have:=HN.out;omega)⟩
      have HKD:=Lib.hid (HIH.out kd (List.mem_iff_getElem?.2 ⟨t,hkd⟩))
      obtain ⟨b,off,pn',nn',cn',pk',nk',ck',rfl,hlt,-,d0,d1,d2,d3,hf,hg'⟩:=HK.out.at hkd
      have D0:=cell_kept hbel d0
      have D1:=cell_kept hbel d1
      have D2:=cell_kept hbel d2
      have D3:=cell_kept hbel d3
      have hbl:b<wr.heap.size:=Nat.lt_of_lt_of_le hlt hbel.size
      have HC:Hid (∀ W,Bel w W→Calls Tryz.prog 24 #[.agg #[.int .i64 kd.kind,.int .i64 kd.dim,.slice pn' nn' cn',.slice pk' nk' ck']] W (IsPlainEnv (evOf kd) W)):=Lib.hid fun W hW=>GmArg.of HKD.out hf hg' hW
      have HNX:Hid (k ≠ 3∨t=0→(evUp c ns tq).join (evKids k ks (t+1))=((evUp c ns tq).join (evKids k ks t)).join (evOf kd)):=Lib.hid fun h=>by rw [evKids_next hkd h,Ev.join_assoc]
      have HSM:Hid (k=3→0<t→evKids k ks (t+1)=evKids k ks t):=Lib.hid fun h h2=>evKids_same hkd h h2
      clear HKD d0 d1 d2 d3 hf hg' hbel hkd
      generalize kd.dim=kdim at *
      generalize kd.kind=kkind at *
      generalize evOf kd=ek at *
      by_cases hc:k ≠ 3∨t=0
      ·have hnx:=HNX.out hc
       have HNX2:=Lib.hid hnx
       clear HNX HSM hnx
       by_cases h3:k=3
       ·have ht0:t=0:=by omega
        have q3:(k != 3)=false:=by simp [h3]
        have q0:((t:Int) == 0)=true:=by simp [ht0]
        clear hc h3 ht0
        go_wp2
        (go_region_with (first
         | (go_at_call 24;(with_reducible refine (HC.out _ ?hb).mono ?_);(case hb=>(have HB:=HBEL.out;exact EL));rintro e w3 ⟨fk,ka,kb,kc,kdd,rfl,hek,hb3⟩;have HEK:=Lib.hid hek;have HB3:Hid (Bel wr w3):=Lib.hid ((show Bel wr _ by exact EL).trans hb3);have C0:=HD0.out.bel HB3.out;have C1:=HD1.out.bel HB3.out;have C2:=HD2.out.bel HB3.out;have HE0:=Lib.hid C0;have HE1:=Lib.hid C1;have HE2:=Lib.hid C2;obtain ⟨x2,y2,v2⟩:=C2.facts;clear hb3 hek C0 C1 C2)
         | (go_at_call 59;(with_reducible refine (wider_any HEVW.out HEK.out _).mono ?_);rintro e w4 ⟨f',xa,xb,xc,xd,rfl,hev',hb4⟩;have HEV4:=Lib.hid hev';have HB4:Hid (Bel wr w4):=Lib.hid (HB3.out.trans hb4);have C0:=HE0.out.bel hb4;have C1:=HE1.out.bel hb4;have C2:=HE2.out.bel hb4;have HI0:=Lib.hid C0;have HI1:=Lib.hid C1;have HI2:=Lib.hid C2;obtain ⟨x3,y3,v3⟩:=C2.facts;clear hb4 hev' C0 C1 C2)))
        all_goals
         go_wp2
         go_roundw
         case rel=>exact ⟨t+1,f',xa,xb,xc,xd,by go_num,by omega,by (have HB:=HBEL.out.trans HB4.out;exact EL),(by have HB:=HI0.out;exact KL),(by have HB:=HI1.out;exact KL),(by have HB:=HI2.out;exact SL),by rw [HNX2.out];exact HEV4.out⟩
         case measure=>simp [intOf];omega
       ·have q3:(k != 3)=true:=by simp [h3]
        clear hc h3
        go_wp2
        (go_region_with (first
         | (go_at_call 24;(with_reducible refine (HC.out _ ?hb).mono ?_);(case hb=>(have HB:=HBEL.out;exact EL));rintro e w3 ⟨fk,ka,kb,kc,kdd,rfl,hek,hb3⟩;have HEK:=Lib.hid hek;have HB3:Hid (Bel wr w3):=Lib.hid ((show Bel wr _ by exact EL).trans hb3);have C0:=HD0.out.bel HB3.out;have C1:=HD1.out.bel HB3.out;have C2:=HD2.out.bel HB3.out;have HE0:=Lib.hid C0;have HE1:=Lib.hid C1;have HE2:=Lib.hid C2;obtain ⟨x2,y2,v2⟩:=C2.facts;clear hb3 hek C0 C1 C2)
         | (go_at_call 59;(with_reducible refine (wider_any HEVW.out HEK.out _).mono ?_);rintro e w4 ⟨f',xa,xb,xc,xd,rfl,hev',hb4⟩;have HEV4:=Lib.hid hev';have HB4:Hid (Bel wr w4):=Lib.hid (HB3.out.trans hb4);have C0:=HE0.out.bel hb4;have C1:=HE1.out.bel hb4;have C2:=HE2.out.bel hb4;have HI0:=Lib.hid C0;have HI1:=Lib.hid C1;have HI2:=Lib.hid C2;obtain ⟨x3,y3,v3⟩:=C2.facts;clear hb4 hev' C0 C1 C2)))
        all_goals
         go_wp2
         go_roundw
         case rel=>exact ⟨t+1,f',xa,xb,xc,xd,by go_num,by omega,by (have HB:=HBEL.out.trans HB4.out;exact EL),(by have HB:=HI0.out;exact KL),(by have HB:=HI1.out;exact KL),(by have HB:=HI2.out;exact SL),by rw [HNX2.out];exact HEV4.out⟩
         case measure=>simp [intOf];omega
      ·have h3:k=3:=by omega
       have ht0:0<t:=by omega
       have hsm:=HSM.out h3 ht0
       have HSM2:=Lib.hid hsm
       have q3:(k != 3)=false:=by simp [h3]
       have q0:((t:Int) == 0)=false:=by simp;omega
       clear HNX HSM hsm hc h3
       go_wp2
       go_roundw
       case rel=>exact ⟨t+1,f,ea,eb,ec,ed,by go_num,by omega,by (have HB:=HBEL.out;exact EL),(by have HB:=HD0.out;exact KL),(by have HB:=HD1.out;exact KL),(by have HB:=HD2.out;exact KL),by rw [HSM2.out];exact HEVW.out⟩
       case measure=>simp [intOf];omega
     ·obtain rfl:t=n:=by omega
      go_wp2
      refine post_ret (results_one rfl (resIs_agg (n:=5) (cs:=#[.bool f,.float .f64 ea,.float .f64 eb,.float .f64 ec,.float .f64 ed]) (by rfl) Tryz.underlying31 (by kernel_rfl) (T:=31) ?_ rfl)) (IsPlainEnv.mk' HEVW.out ?_)
      ·have HB:=HD1.out
       exact SL
      ·have HB:=HBEL.out
       exact EL
theorem envSp_any (g:Gm) (h:g.size≤1048576) (hn:NN g):EnvSp g:=envSp_ind g.size g (Nat.le_refl _) h hn
end Go.Proofs.YtpipehenfcbjbaaGreatDoor
