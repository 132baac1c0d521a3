/-
 spec.twice,spec.winding,spec.WholeXY: they come back;WholeXY says yes only where all places are whole.
-/
import Derived.Test.YtpipehenfcbjbaaGreatDoorPax
import Derived.Test.YtpipehenfcbjbaaGreatDoorPaz
set_option linter.unusedVariables false
set_option linter.unusedSimpArgs false
namespace Go.Proofs.YtpipehenfcbjbaaGreatDoor
open Go.ChangeShapes Go.WideShapes Go.ChangeAt Go.RowKit
theorem shapeSp_any (g:Gm) (h64:N64 g) (hsz:g.size≤1048576):GmArg g fun v w=>Calls Tryz.prog 35 #[v,.int .i64 1048576] w (IsShape w g):=fun F pn nn cn pk nk ck w hN hK=>shapeOf_any g.size g (Nat.le_refl _) h64 hsz F w pn nn cn pk nk ck hN hK
/-- The places of an answer of ShapeOf, whatever it says. -/
theorem shape_pts {w w':World} {g:Gm} {ok:Bool} {kind:Int} {pp:Option Addr} {np cp:Nat} (hsz:g.size≤1048576)
  (h1:ok=true→kind=g.kind∧(∃ ps,XySl (fun b=>w.heap.size≤b) w' (.slice pp np cp) ps∧PtsAre (ct g.dim) g.nums ps)∧Shp g) (h2:ok=false→pp=none∧np=0∧cp=0) :
  ∃ ps,XySl (fun b=>w.heap.size≤b) w' (.slice pp np cp) ps∧SmallPts ps∧ps.length≤1048576:=by
 cases ok with
 | true =>
  obtain ⟨-,⟨ps,hx,hp⟩,-⟩:=h1 rfl
  refine ⟨ps,hx,hp.small,?_⟩
  have:=hp.1
  have h3:=Nat.div_le_self g.nums.length (wd (ct g.dim))
  have h4:=g.size_eq
  omega
 | false =>
  obtain ⟨rfl,rfl,rfl⟩:=h2 rfl
  exact ⟨[],⟨none,0,rfl,by simp,by simp,fun h=>absurd rfl h⟩,fun p h=>by simp at h,by simp⟩
def IsNum (w:World) (e:Ending) (w':World):Prop:=∃ z:Int,e=.returned (.int .i64 z)∧Bel w w'
set_option maxHeartbeats 4000000 in
set_option maxRecDepth 100000 in
theorem twice_any (g:Gm) (h64:N64 g) (hsz:g.size≤1048576):GmArg g fun v w=>Calls Tryz.prog 62 #[v] w (IsNum w):=by
 intro F pn nn cn pk nk ck w hN hK
 have HSH:Hid (∀ W,Bel w W→Calls Tryz.prog 35 #[.agg #[.int .i64 g.kind,.int .i64 g.dim,.slice pn nn cn,.slice pk nk ck],.int .i64 1048576] W (IsShape W g)):=Lib.hid fun W hW=>GmArg.of (shapeSp_any g h64 hsz) hN hK hW
 have HSZ:=Lib.hid hsz
 clear hN hK hsz h64
 generalize g.kind=kind at *
 generalize g.dim=dim at *
 go_enter Tryz.func62,Tryz.ntmps62
 go_wp2_with (first
  | (go_at_call 35;(with_reducible refine (HSH.out _ ?hb).mono ?_);(case hb=>exact EL);rintro e w1 ⟨ok,kq,pp,np,cp,pq,nq,cq,rfl,hb1,h1,h2,h3⟩;obtain ⟨ps,hx,hs,hl⟩:=shape_pts HSZ.out h1 h2;have HX:=Lib.hid hx;have HS:=Lib.hid hs;have HL:=Lib.hid hl;have HB1:Hid (Bel w w1):=Lib.hid ((show Bel w _ by exact EL).trans hb1);clear hb1 h1 h2 h3 hx hs hl)
  | (go_at_call 36;(with_reducible refine (area2_any _ _ _ (HX.out.bel ?hb) HS.out HL.out).mono ?_);(case hb=>exact EL);rintro e w2 ⟨rfl,hb2⟩;have HB2:Hid (Bel w w2):=Lib.hid ((show Bel w _ by (have HB:=HB1.out;exact EL)).trans hb2);clear hb2))
 go_ret
 exact ⟨_,rfl,HB2.out⟩
/-- Whole places from -2^20 to 2^20, and finite numbers. -/
def whG (g:Gm):Bool:=shB g && (allOf g).all finS
def IsWhole (g:Gm) (w:World) (e:Ending) (w':World):Prop:=e=.returned (.bool (whG g))∧(whG g=true→Shp g)∧Bel w w'
set_option maxHeartbeats 4000000 in
set_option maxRecDepth 100000 in
theorem wholeXY_any (g:Gm) (h64:N64 g) (hsz:g.size≤1048576):GmArg g fun v w=>Calls Tryz.prog 29 #[v,.int .i64 1048576] w (IsWhole g w):=by
 intro F pn nn cn pk nk ck w hN hK
 have HSH:Hid (∀ W,Bel w W→Calls Tryz.prog 35 #[.agg #[.int .i64 g.kind,.int .i64 g.dim,.slice pn nn cn,.slice pk nk ck],.int .i64 1048576] W (IsShape W g)):=Lib.hid fun W hW=>GmArg.of (shapeSp_any g h64 hsz) hN hK hW
 have HFI:Hid (∀ W,Bel w W→Calls Tryz.prog 63 #[.agg #[.int .i64 g.kind,.int .i64 g.dim,.slice pn nn cn,.slice pk nk ck]] W (IsB ((allOf g).all finS) W)):=Lib.hid fun W hW=>GmArg.of (finite_any g hsz) hN hK hW
 clear hN hK hsz h64
 generalize g.kind=kind at *
 generalize g.dim=dim at *
 go_enter Tryz.func29,Tryz.ntmps29
 go_wp2_with (first
  | (go_at_call 35;(with_reducible refine (HSH.out _ ?hb).mono ?_);(case hb=>exact EL);rintro e w1 ⟨ok,kq,pp,np,cp,pq,nq,cq,rfl,hb1,h1,h2,h3⟩;have HW:Hid (ok=true→Shp g):=Lib.hid (fun h=>(h1 h).2.2);have HE3:=Lib.hid h3;have C0:Blk w1 w.heap.size #[.int .i64 kind,.int .i64 dim,.slice pn nn cn,.slice pk nk ck] 25:=Blk.bel (by exact KL) hb1;obtain ⟨r0,y0,u0⟩:=C0.facts;have HB1:Hid (Bel w w1):=Lib.hid ((show Bel w _ by exact EL).trans hb1);clear hb1 h1 h2 h3 C0;cases ok)
  | (go_at_call 63;(with_reducible refine (HFI.out _ ?hb).mono ?_);(case hb=>(have HB:=HB1.out;exact EL));rintro e w2 ⟨rfl,hb2⟩;have HB2:Hid (Bel w w2):=Lib.hid ((show Bel w _ by (have HB:=HB1.out;exact EL)).trans hb2);clear hb2))
 ·go_ret
  have hw:whG g=false:=by unfold whG;rw [← HE3.out];rfl
  exact ⟨by rw [hw];rfl,fun h=>by rw [hw] at h;simp at h,by (have HB:=HB1.out;exact EL)⟩
 ·go_ret
  have hw:whG g=(allOf g).all finS:=by unfold whG;rw [← HE3.out];rfl
  exact ⟨by rw [hw];rfl,fun _=>HW.out (by simp),HB2.out⟩
def IsTwo (w:World) (e:Ending) (w':World):Prop:=∃ a b:Bool,e=.returned (.tuple #[.bool a,.bool b])∧Bel w w'
def Winds (g:Gm):Prop:=GmArg g fun v w=>Calls Tryz.prog 28 #[v] w (IsTwo w)
set_option maxHeartbeats 4000000 in
set_option maxRecDepth 100000 in
theorem winds_ind:∀ (n:Nat) (g:Gm),g.size≤n→g.size≤1048576→N64 g→Winds g:=by
 intro n
 induction n with
 | zero=>exact fun g h=>absurd h (by have:=g.size_pos;omega)
 | succ n ih =>
  intro g hsz hbig h64 F pn nn cn pk nk ck w hN hK
  have h64k:=fun k (h:k ∈ g.kids)=>h64.kid h
  obtain ⟨k,d,ns,ks⟩:=g
  change ∀ g ∈ ks,N64 g at h64k
  obtain ⟨hnl,-,-⟩:=hN.len
  obtain ⟨_,_,hve,hkl,hkc⟩:=hK.isSlice
  cases hve
  change ks.length≤ck at hkl
  show Calls Tryz.prog 28 #[.agg #[.int .i64 k,.int .i64 d,.slice pn nn cn,.slice pk ks.length ck]] w _
  have HK:=Lib.hid (show GmSl F w (.slice pk ks.length ck) ks from hK)
  have hnl2:ns.length=nn:=hnl
  have HIH:Hid (∀ g ∈ ks,Winds g):=Lib.hid fun g hg=>ih g (by
   have h2:=Gm.size_mem hg
   simp only [Gm.size] at hsz
   omega) (by
   have h2:=Gm.size_mem hg
   simp only [Gm.size] at hbig
   omega) (h64k g hg)
  have HTW:Hid (∀ g ∈ ks,GmArg g fun v w=>Calls Tryz.prog 62 #[v] w (IsNum w)):=Lib.hid fun g hg=>twice_any g (h64k g hg) (by
   have h2:=Gm.size_mem hg
   simp only [Gm.size] at hbig
   omega)
  have hn31:ks.length≤1048576:=by
   have:=Gm.len_sizes ks
   rw [Gm.size] at hbig
   omega
  clear ih hsz hbig hN hK hnl hnl2 h64 h64k
  generalize hn:ks.length=n at *
  have HN:=Lib.hid hn
  clear hn
  go_enter Tryz.func28,Tryz.ntmps28
  go_wp2
  go_loopw [2,3,12] (fun av bv iv wr=>∃ (a b:Bool) (t:Nat),av=.bool a∧bv=.bool b∧iv=.int .i64 t∧t≤n∧Bel w wr∧Blk wr w.heap.size #[.int .i64 k,.int .i64 d,.slice pn nn cn,.slice pk n ck] 25) (fun _ _ iv _=>n - (intOf iv).toNat)
  case atStart=>exact ⟨true,true,0,rfl,rfl,rfl,Nat.zero_le _,by exact EL,by exact KL⟩
  case round =>
   obtain ⟨a,b,t,rfl,rfl,rfl,ht,hbel,hb3⟩:=hrel
   have HBEL:=Lib.hid hbel
   have HG3:=Lib.hid hb3
   obtain ⟨r3,z3,l3⟩:=hb3.facts
   by_cases htn:t<n
   ·obtain ⟨kd,hkd⟩:∃ kd,ks[t]?=some kd:=⟨_,List.getElem?_eq_getElem (by have:=HN.out;omega)⟩
    have HKD:=Lib.hid (HIH.out kd (List.mem_iff_getElem?.2 ⟨t,hkd⟩))
    have HKC:=Lib.hid (HTW.out kd (List.mem_iff_getElem?.2 ⟨t,hkd⟩))
    obtain ⟨bb,off,pn',nn',cn',pk',nk',ck',rfl,hlt,-,d0,d1,d2,d3,hf,hg'⟩:=HK.out.at hkd
    have D0:=cell_kept hbel d0
    have D1:=cell_kept hbel d1
    have D2:=cell_kept hbel d2
    have D3:=cell_kept hbel d3
    have hbl:bb<wr.heap.size:=Nat.lt_of_lt_of_le hlt hbel.size
    have HC:Hid (∀ W,Bel w W→Calls Tryz.prog 28 #[.agg #[.int .i64 kd.kind,.int .i64 kd.dim,.slice pn' nn' cn',.slice pk' nk' ck']] W (IsTwo W)):=Lib.hid fun W hW=>GmArg.of HKD.out hf hg' hW
    have HD:Hid (∀ W,Bel w W→Calls Tryz.prog 62 #[.agg #[.int .i64 kd.kind,.int .i64 kd.dim,.slice pn' nn' cn',.slice pk' nk' ck']] W (IsNum W)):=Lib.hid fun W hW=>GmArg.of HKC.out hf hg' hW
    clear HKD HKC d0 d1 d2 d3 hf hg' hbel hkd hb3
    generalize kd.dim=kdim at *
    generalize kd.kind=kkind at *
    by_cases h3:k=3
    ·have q3:(k == 3)=true:=by simp [h3]
     clear h3
     by_cases ht0:t=0
     ·have q0:((t:Int) == 0)=true:=by simp [ht0]
      have g0:((0:Int)<(t:Int))=False:=eq_false (by omega)
      clear ht0
      cases a<;>cases b <;>
      (go_wp2_with (first
       | (go_at_call 28;(with_reducible refine (HC.out _ ?hb).mono ?_);(case hb=>exact HBEL.out.alloc _);rintro e w3 ⟨ka,kb,rfl,hb⟩;have HB3:Hid (Bel wr w3):=Lib.hid ((Bel.alloc1 _ _).trans hb);have C5:Blk w3 wr.heap.size #[.int .i64 kkind,.int .i64 kdim,.slice pn' nn' cn',.slice pk' nk' ck'] 25:=Blk.bel (by exact KL) hb;obtain ⟨r5,z5,l5⟩:=C5.facts;have C6:=HG3.out.bel HB3.out;obtain ⟨r6,z6,l6⟩:=C6.facts;have HP3:=Lib.hid C6;clear hb C5 C6)
       | (go_at_call 62;(with_reducible refine (HD.out _ ?hb).mono ?_);(case hb=>exact HBEL.out.trans HB3.out);rintro e w4 ⟨z,rfl,hb⟩;have HB4:Hid (Bel wr w4):=Lib.hid (HB3.out.trans hb);have HP4:=Lib.hid (HP3.out.bel hb);clear hb;rcases (show z<0∨z=0∨0<z by omega) with hz|hz|hz<;>(have hz1:(z<0)=(if z<0 then True else False):=by simp)<;>(first|(have hz2:(0<z)=False:=eq_false (by omega);have hz3:(z<0)=True:=eq_true hz;clear hz hz1)|(have hz2:(0<z)=True:=eq_true hz;have hz3:(z<0)=False:=eq_false (by omega);clear hz hz1)|(have hz2:(0<z)=False:=eq_false (by omega);have hz3:(z<0)=False:=eq_false (by omega);clear hz hz1))))
       all_goals (go_wp2;go_roundw;(case rel=>exact ⟨_,_,t+1,rfl,rfl,by go_num,by omega,HBEL.out.trans HB4.out,HP4.out⟩);(case measure=>(simp [intOf];omega))))
     ·have q0:((t:Int) == 0)=false:=by simp;omega
      have g0:((0:Int)<(t:Int))=True:=eq_true (by omega)
      clear ht0
      cases a<;>cases b <;>
      (go_wp2_with (first
       | (go_at_call 28;(with_reducible refine (HC.out _ ?hb).mono ?_);(case hb=>exact HBEL.out.alloc _);rintro e w3 ⟨ka,kb,rfl,hb⟩;have HB3:Hid (Bel wr w3):=Lib.hid ((Bel.alloc1 _ _).trans hb);have C5:Blk w3 wr.heap.size #[.int .i64 kkind,.int .i64 kdim,.slice pn' nn' cn',.slice pk' nk' ck'] 25:=Blk.bel (by exact KL) hb;obtain ⟨r5,z5,l5⟩:=C5.facts;have C6:=HG3.out.bel HB3.out;obtain ⟨r6,z6,l6⟩:=C6.facts;have HP3:=Lib.hid C6;clear hb C5 C6)
       | (go_at_call 62;(with_reducible refine (HD.out _ ?hb).mono ?_);(case hb=>exact HBEL.out.trans HB3.out);rintro e w4 ⟨z,rfl,hb⟩;have HB4:Hid (Bel wr w4):=Lib.hid (HB3.out.trans hb);have HP4:=Lib.hid (HP3.out.bel hb);clear hb))
       all_goals (go_wp2;go_roundw;(case rel=>exact ⟨_,_,t+1,rfl,rfl,by go_num,by omega,HBEL.out.trans HB4.out,HP4.out⟩);(case measure=>(simp [intOf];omega))))
    ·have q3:(k == 3)=false:=by simp [h3]
     clear h3
     cases a<;>cases b <;>
     (go_wp2_with (first
      | (go_at_call 28;(with_reducible refine (HC.out _ ?hb).mono ?_);(case hb=>exact HBEL.out.alloc _);rintro e w3 ⟨ka,kb,rfl,hb⟩;have HB3:Hid (Bel wr w3):=Lib.hid ((Bel.alloc1 _ _).trans hb);have C5:Blk w3 wr.heap.size #[.int .i64 kkind,.int .i64 kdim,.slice pn' nn' cn',.slice pk' nk' ck'] 25:=Blk.bel (by exact KL) hb;obtain ⟨r5,z5,l5⟩:=C5.facts;have C6:=HG3.out.bel HB3.out;obtain ⟨r6,z6,l6⟩:=C6.facts;have HP3:=Lib.hid C6;clear hb C5 C6))
      all_goals (go_wp2;go_roundw;(case rel=>exact ⟨_,_,t+1,rfl,rfl,by go_num,by omega,HBEL.out.trans HB3.out,HP3.out⟩);(case measure=>(simp [intOf];omega))))
   ·obtain rfl:t=n:=by omega
    clear hbel
    go_wp2
    refine post_ret (results_two rfl (resIs_tmp rfl) (resIs_tmp rfl)) ⟨_,_,rfl,HBEL.out⟩
theorem winds_any (g:Gm) (h:g.size≤1048576) (h6:N64 g):Winds g:=winds_ind g.size g (Nat.le_refl _) h h6
end Go.Proofs.YtpipehenfcbjbaaGreatDoor
