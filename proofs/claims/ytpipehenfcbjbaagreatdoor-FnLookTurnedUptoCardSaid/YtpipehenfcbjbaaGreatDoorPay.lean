/-
 spec.SummaryOf: it comes back with a string.
-/
import Derived.Test.YtpipehenfcbjbaaGreatDoorPax
import Derived.BigRegion
import Derived.Deep.RegionHeld3
set_option linter.unusedVariables false
set_option linter.unusedSimpArgs false
namespace Go.Proofs.YtpipehenfcbjbaaGreatDoor
open Go.ChangeShapes Go.WideShapes Go.ChangeAt Go.RowKit
def IsText (w:World) (e:Ending) (w':World):Prop:=∃ s,e=.returned (.string s)∧Bel w w'
theorem counted_int (z:Int) (hz:0≤z∧z≤4194304) (a b:ByteArray) (ha:a.size≤100) (hb:b.size≤100) (w:World):Calls Tryz.prog 60 #[.int .i64 z,.string a,.string b] w (IsStr w):=by
 obtain ⟨n,rfl⟩:=Int.eq_ofNat_of_zero_le hz.1
 exact counted_any n (by omega) a b ha hb w
theorem count10_int (z:Int) (hz:0≤z∧z≤4194304) (w:World):Calls Tryz.prog 61 #[.int .i64 z] w (IsStr w):=by
 obtain ⟨n,rfl⟩:=Int.eq_ofNat_of_zero_le hz.1
 refine (count10_any n (by omega) w).mono ?_
 rintro e w' ⟨s,rfl,hs,hb⟩
 exact ⟨s,rfl,by omega,hb⟩
theorem kn_at (s:Nat) (hs:s≤6):∃ kn:ByteArray,(#[.string ⟨#[71,101,111,109,101,116,114,121,67,111,108,108,101,99,116,105,111,110]⟩,.string ⟨#[80,111,105,110,116]⟩,.string ⟨#[76,105,110,101,83,116,114,105,110,103]⟩,.string ⟨#[80,111,108,121,103,111,110]⟩,.string ⟨#[77,117,108,116,105,80,111,105,110,116]⟩,.string ⟨#[77,117,108,116,105,76,105,110,101,83,116,114,105,110,103]⟩,.string ⟨#[77,117,108,116,105,80,111,108,121,103,111,110]⟩]:Array Value)[s]?=some (.string kn)∧kn.size≤30:=by
 have:s=0∨s=1∨s=2∨s=3∨s=4∨s=5∨s=6:=by omega
 rcases this with rfl|rfl|rfl|rfl|rfl|rfl|rfl<;>exact ⟨_,rfl,by decide⟩
theorem cn_at (c:Nat) (hc:c≤3):∃ cn:ByteArray,(#[.string ⟨#[88,89]⟩,.string ⟨#[88,89,90]⟩,.string ⟨#[88,89,77]⟩,.string ⟨#[88,89,90,77]⟩]:Array Value)[c]?=some (.string cn)∧cn.size≤30:=by
 have:c=0∨c=1∨c=2∨c=3:=by omega
 rcases this with rfl|rfl|rfl|rfl<;>exact ⟨_,rfl,by decide⟩
set_option maxHeartbeats 8000000 in
set_option maxRecDepth 100000 in
theorem summaryOf_any (g:Gm) (hsz:g.size≤1048576) {s c:Nat} (hs:s≤6) (hc:c≤3) (hks:g.kind=s) (hdc:g.dim=c):GmArg g fun v w=>Calls Tryz.prog 25 #[v] w (IsText w):=by
 intro F pn nn cn pk nk ck w hN hK
 have HAN:Hid (∀ W,Bel w W→Calls Tryz.prog 20 #[.agg #[.int .i64 g.kind,.int .i64 g.dim,.slice pn nn cn,.slice pk nk ck]] W (IsFls (fun _=>True) (allOf g) g.size W)):=Lib.hid fun W hW=>GmArg.of (allNums_any g hsz (fun _=>True)) hN hK hW (New.any W)
 have HTO:Hid (∀ W,Bel w W→Calls Tryz.prog 27 #[.agg #[.int .i64 g.kind,.int .i64 g.dim,.slice pn nn cn,.slice pk nk ck]] W fun e w'=>e=.returned (.int .i64 (totG g))∧Bel W w'):=Lib.hid fun W hW=>GmArg.of (totSp_any g hsz) hN hK hW
 have HWI:=Lib.hid (fun W=>width_any g.dim W)
 have hct:ct g.dim=c:=by rw [hdc];unfold ct;omega
 have htot:totG g≤1048576:=by have:=totG_size g;omega
 obtain ⟨_,_,hve,hkl,hkc⟩:=hK.isSlice
 cases hve
 have hn31:g.kids.length≤1048576:=by
  have:=Gm.len_sizes g.kids
  rw [g.size_eq] at hsz
  omega
 have HKZ:Hid (Gm.sizes g.kids≤1048576):=Lib.hid (by rw [g.size_eq] at hsz;omega)
 have HK:=Lib.hid hK
 have HSL:Hid (∀ i:Nat,∀ k:Gm,g.kids[i]?=some k→k.kids.length≤k.size):=Lib.hid fun i k _=>by
  have:=Gm.len_sizes k.kids
  have:=k.size_eq
  omega
 rw [hct] at HWI
 have hw2:=(wd_bd c).1
 obtain ⟨kn,hkn,hkns⟩:=kn_at s hs
 obtain ⟨cw,hcw,hcws⟩:=cn_at c hc
 rw [hks,hdc] at HAN HTO
 rw [hdc] at HWI
 rw [hks,hdc]
 have HSQ:=Lib.hid hsz
 clear hN hK hks hdc hct hsz
 generalize totG g=tot at *
 generalize g.size=sz at *
 generalize allOf g=xs at *
 generalize hkk:g.kids=ks at *
 clear hkk
 generalize hnn:ks.length=n at *
 have HNN:=Lib.hid hnn
 clear hnn
 generalize hwq:wd c=q at *
 clear hwq
 have hA0:(9223372036854775807<kn.size+1)=False:=eq_false (by omega)
 have hA1:(9223372036854775807<kn.size+1+cw.size)=False:=eq_false (by omega)
 have hA2:(9223372036854775807<kn.size+1+cw.size+7)=False:=eq_false (by omega)
 have hq0:¬ (q:Int)=0:=by omega
 have hq0n:¬ q=0:=by omega
 go_enter Tryz.func25,Tryz.ntmps25
 go_wp2
 go_region
 all_goals
  go_wp2
  generalize hH:(kn ++ { data:=#[91] } ++ cw ++ { data:=#[93,32,119,105,116,104,32] }:ByteArray)=H
  have hHs:H.size≤100:=by
   rw [← hH]
   have h1:(ByteArray.mk #[91]).size=1:=rfl
   have h2:(ByteArray.mk #[93,32,119,105,116,104,32]).size=7:=rfl
   simp only [ByteArray.size_append,h1,h2]
   omega
  clear hA0 hA1 hA2 hkn hcw hkns hcws
  have hbw:=Bel.alloc1 w (.cells #[.int .i64 (s:Int),.int .i64 (c:Int),.slice pn nn cn,.slice pk n ck] 25)
  go_region_held3 (fun w'=>(∀ o,w'.cell? ⟨w.heap.size,o,none⟩=(#[.int .i64 (s:Int),.int .i64 (c:Int),.slice pn nn cn,.slice pk n ck]:Array Value)[o]?)∧Blk w' (w.heap.size) #[.int .i64 (s:Int),.int .i64 (c:Int),.slice pn nn cn,.slice pk n ck] 25∧Bel w w')
   (exact K1L)
   (first
   | (go_at_call 26;(with_reducible refine (HWI.out _).mono ?_);rintro e x2 ⟨rfl,rfl⟩)
   | (go_at_call 20;(with_reducible refine (HAN.out _ ?hb).mono ?_);(case hb=>exact EL);rintro e x1 ⟨p1,m1,c1,rfl,hf,hm,hb1⟩;have HB1:Hid (Bel w x1):=Lib.hid ((show Bel w _ by exact EL).trans hb1);have HC1:Hid (Blk x1 w.heap.size #[.int .i64 (s:Int),.int .i64 (c:Int),.slice pn nn cn,.slice pk n ck] 25):=Lib.hid (Blk.bel (by exact KL) hb1);obtain ⟨pq,hpq⟩:∃ pq,m1 / q=pq:=⟨_,rfl⟩;have hpb:pq≤1048576:=(by have:=HSQ.out;have:=Nat.div_le_self m1 q;omega);have hzq:wrap64 ((m1:Int) / (q:Int))=(pq:Int):=(by rw [← Int.natCast_ediv,hpq];unfold wrap64;omega);have hzq2:IntKind.i64.wrap ((m1:Int) / (q:Int))=(pq:Int):=(by unfold wrap64 at hzq;rw [IntKind.wrap_i64];exact hzq);clear hf hpq))
  have C1:=HC1.out
  obtain ⟨r1,y1,u1⟩:=C1.facts
  try simp only [hzq2]
  clear C1 hzq hzq2 hm
  by_cases h1:s=1
  ·have e1:((s:Int) == 1)=true:=by simp [h1]
   clear h1
   go_wp2_with (first
    | (go_at_call 60;(with_reducible refine (counted_int _ ⟨by omega,by omega⟩ _ _ (by decide) (by decide) _).mono ?_);rintro e x2 ⟨t2,rfl,hs2,hb2⟩;have HB2:Hid (Bel w x2):=Lib.hid (HB1.out.trans hb2);have HC2:Hid (Blk x2 w.heap.size #[.int .i64 (s:Int),.int .i64 (c:Int),.slice pn nn cn,.slice pk n ck] 25):=Lib.hid (HC1.out.bel hb2);have C2:=HC2.out;obtain ⟨r2,y2,u2⟩:=C2.facts;clear hb2 C2;have hF2a:(9223372036854775807<H.size+t2.size)=False:=eq_false (by omega);have hF2b:(9223372036854775807<H.size+t2.size+7)=False:=eq_false (by omega);have hF2c:(9223372036854775807<H.size+t2.size+15)=False:=eq_false (by omega)))
   go_ret
   exact ⟨_,rfl,HB2.out⟩
  ·have e1:((s:Int) == 1)=false:=beq_eq_false_iff_ne.2 (by omega)
   by_cases h2:s=2
   ·have e2:((s:Int) == 2)=true:=by simp [h2]
    clear h2
    go_wp2_with (first
     | (go_at_call 61;(with_reducible refine (count10_int _ ⟨by omega,by omega⟩ _).mono ?_);rintro e x2 ⟨t2,rfl,hs2,hb2⟩;have HB2:Hid (Bel w x2):=Lib.hid (HB1.out.trans hb2);have HC2:Hid (Blk x2 w.heap.size #[.int .i64 (s:Int),.int .i64 (c:Int),.slice pn nn cn,.slice pk n ck] 25):=Lib.hid (HC1.out.bel hb2);have C2:=HC2.out;obtain ⟨r2,y2,u2⟩:=C2.facts;clear hb2 C2;have hF2a:(9223372036854775807<H.size+t2.size)=False:=eq_false (by omega);have hF2b:(9223372036854775807<H.size+t2.size+7)=False:=eq_false (by omega);have hF2c:(9223372036854775807<H.size+t2.size+15)=False:=eq_false (by omega)))
    go_ret
    exact ⟨_,rfl,HB2.out⟩
   ·have e2:((s:Int) == 2)=false:=beq_eq_false_iff_ne.2 (by omega)
    by_cases h3:s=3
    ·have e3:((s:Int) == 3)=true:=by simp [h3]
     clear h3
     go_wp2_with (first
      | (go_at_call 61;(with_reducible refine (count10_int _ ⟨by omega,by omega⟩ _).mono ?_);rintro e x3 ⟨t3,rfl,hs3,hb3⟩;have HB3:Hid (Bel w x3):=Lib.hid (HB2.out.trans hb3);have HC3:Hid (Blk x3 w.heap.size #[.int .i64 (s:Int),.int .i64 (c:Int),.slice pn nn cn,.slice pk n ck] 25):=Lib.hid (HC2.out.bel hb3);have C3:=HC3.out;obtain ⟨r3,y3,u3⟩:=C3.facts;clear hb3 C3;have hF3a:(9223372036854775807<H.size+t2.size+15+t3.size)=False:=eq_false (by omega);have hF3b:(9223372036854775807<H.size+t2.size+15+t3.size+13)=False:=eq_false (by omega);have hF3c:(9223372036854775807<H.size+t2.size+15+t3.size+5)=False:=eq_false (by omega))
      | (go_at_call 60;(with_reducible refine (counted_int _ ⟨by omega,by omega⟩ _ _ (by decide) (by decide) _).mono ?_);rintro e x2 ⟨t2,rfl,hs2,hb2⟩;have HB2:Hid (Bel w x2):=Lib.hid (HB1.out.trans hb2);have HC2:Hid (Blk x2 w.heap.size #[.int .i64 (s:Int),.int .i64 (c:Int),.slice pn nn cn,.slice pk n ck] 25):=Lib.hid (HC1.out.bel hb2);have C2:=HC2.out;obtain ⟨r2,y2,u2⟩:=C2.facts;clear hb2 C2;have hF2a:(9223372036854775807<H.size+t2.size)=False:=eq_false (by omega);have hF2b:(9223372036854775807<H.size+t2.size+7)=False:=eq_false (by omega);have hF2c:(9223372036854775807<H.size+t2.size+15)=False:=eq_false (by omega)))
     go_ret
     exact ⟨_,rfl,HB3.out⟩
    ·have e3:((s:Int) == 3)=false:=beq_eq_false_iff_ne.2 (by omega)
     by_cases h4:s=4
     ·have e4:((s:Int) == 4)=true:=by simp [h4]
      clear h4
      go_wp2_with (first
       | (go_at_call 60;(with_reducible refine (counted_int _ ⟨by omega,by omega⟩ _ _ (by decide) (by decide) _).mono ?_);rintro e x2 ⟨t2,rfl,hs2,hb2⟩;have HB2:Hid (Bel w x2):=Lib.hid (HB1.out.trans hb2);have HC2:Hid (Blk x2 w.heap.size #[.int .i64 (s:Int),.int .i64 (c:Int),.slice pn nn cn,.slice pk n ck] 25):=Lib.hid (HC1.out.bel hb2);have C2:=HC2.out;obtain ⟨r2,y2,u2⟩:=C2.facts;clear hb2 C2;have hF2a:(9223372036854775807<H.size+t2.size)=False:=eq_false (by omega);have hF2b:(9223372036854775807<H.size+t2.size+7)=False:=eq_false (by omega);have hF2c:(9223372036854775807<H.size+t2.size+15)=False:=eq_false (by omega)))
      go_ret
      exact ⟨_,rfl,HB2.out⟩
     ·have e4:((s:Int) == 4)=false:=beq_eq_false_iff_ne.2 (by omega)
      by_cases h5:s=5
      ·have e5:((s:Int) == 5)=true:=by simp [h5]
       clear h5
       go_wp2_with (first
        | (go_at_call 61;(with_reducible refine (count10_int _ ⟨by omega,by omega⟩ _).mono ?_);rintro e x3 ⟨t3,rfl,hs3,hb3⟩;have HB3:Hid (Bel w x3):=Lib.hid (HB2.out.trans hb3);have HC3:Hid (Blk x3 w.heap.size #[.int .i64 (s:Int),.int .i64 (c:Int),.slice pn nn cn,.slice pk n ck] 25):=Lib.hid (HC2.out.bel hb3);have C3:=HC3.out;obtain ⟨r3,y3,u3⟩:=C3.facts;clear hb3 C3;have hF3a:(9223372036854775807<H.size+t2.size+15+t3.size)=False:=eq_false (by omega);have hF3b:(9223372036854775807<H.size+t2.size+15+t3.size+13)=False:=eq_false (by omega);have hF3c:(9223372036854775807<H.size+t2.size+15+t3.size+5)=False:=eq_false (by omega))
        | (go_at_call 60;(with_reducible refine (counted_int _ ⟨by omega,by omega⟩ _ _ (by decide) (by decide) _).mono ?_);rintro e x2 ⟨t2,rfl,hs2,hb2⟩;have HB2:Hid (Bel w x2):=Lib.hid (HB1.out.trans hb2);have HC2:Hid (Blk x2 w.heap.size #[.int .i64 (s:Int),.int .i64 (c:Int),.slice pn nn cn,.slice pk n ck] 25):=Lib.hid (HC1.out.bel hb2);have C2:=HC2.out;obtain ⟨r2,y2,u2⟩:=C2.facts;clear hb2 C2;have hF2a:(9223372036854775807<H.size+t2.size)=False:=eq_false (by omega);have hF2b:(9223372036854775807<H.size+t2.size+7)=False:=eq_false (by omega);have hF2c:(9223372036854775807<H.size+t2.size+15)=False:=eq_false (by omega)))
       go_ret
       exact ⟨_,rfl,HB3.out⟩
      ·have e5:((s:Int) == 5)=false:=beq_eq_false_iff_ne.2 (by omega)
       by_cases h6:s=6
       ·have e6:((s:Int) == 6)=true:=by simp [h6]
        clear h6
        go_wp2
        go_loopw [5,82] (fun dv iv wr=>∃ (r t:Nat),dv=.int .i64 r∧iv=.int .i64 t∧t≤n∧r≤Gm.sizes (ks.take t)∧Bel w wr∧Blk wr w.heap.size #[.int .i64 (s:Int),.int .i64 (c:Int),.slice pn nn cn,.slice pk n ck] 25) (fun _ iv _=>n - (intOf iv).toNat)
        case atStart=>exact ⟨0,0,rfl,rfl,Nat.zero_le _,Nat.zero_le _,HB1.out,HC1.out⟩
        case round =>
         obtain ⟨r,t,rfl,rfl,ht,hr,hbel,hb3⟩:=hrel
         have HBEL:=Lib.hid hbel
         have HG3:=Lib.hid hb3
         obtain ⟨r3,z3,l3⟩:=hb3.facts
         have hrb:r≤1048576:=by
          have:=sizes_take_le ks t
          have:=HKZ.out
          omega
         have HR:=Lib.hid hr
         clear hr
         by_cases htn:t<n
         ·obtain ⟨kd,hkd⟩:∃ kd,ks[t]?=some kd:=⟨_,List.getElem?_eq_getElem (by have:=HNN.out;omega)⟩
          obtain ⟨b,off,pn',nn',cn',pk',nk',ck',rfl,hlt,-,d0,d1,d2,d3,hf,hg'⟩:=HK.out.at hkd
          obtain ⟨_,_,hve',-,-⟩:=hg'.isSlice
          cases hve'
          have D0:=cell_kept hbel d0
          have D1:=cell_kept hbel d1
          have D2:=cell_kept hbel d2
          have D3:=cell_kept hbel d3
          have hbl:b<wr.heap.size:=Nat.lt_of_lt_of_le hlt hbel.size
          have hkk:kd.kids.length≤kd.size:=HSL.out t kd hkd
          have hst:=sizes_take ks t kd hkd
          have hst2:=sizes_take_le ks (t+1)
          have hst3:=HKZ.out
          have hr:=HR.out
          have HST:Hid (r+kd.kids.length≤Gm.sizes (ks.take (t+1))):=Lib.hid (by omega)
          have hkn:kd.kids.length≤1048576:=by omega
          clear d0 d1 d2 d3 hf hg' hbel hkd hb3 hkk hst hst2 hst3 hr
          generalize kd.kids.length=kl at *
          generalize kd.dim=kdim at *
          generalize kd.kind=kkind at *
          go_wp2
          go_roundw
          case rel=>exact ⟨r+kl,t+1,by go_num,by go_num,by omega,HST.out,HBEL.out.alloc _,HG3.out.alloc _⟩
          case measure=>simp [intOf];omega
         ·obtain rfl:n=t:=by omega
          have HB1:=HBEL
          have HC1:=HG3
          clear hbel
          go_wp2_with (first
           | (go_at_call 61;(with_reducible refine (count10_int _ ⟨by omega,by omega⟩ _).mono ?_);rintro e x4 ⟨t4,rfl,hs4,hb4⟩;have HB4:Hid (Bel w x4):=Lib.hid (HB3.out.trans hb4);have HC4:Hid (Blk x4 w.heap.size #[.int .i64 (s:Int),.int .i64 (c:Int),.slice pn nn cn,.slice pk n ck] 25):=Lib.hid (HC3.out.bel hb4);have C4:=HC4.out;obtain ⟨r4,y4,u4⟩:=C4.facts;clear hb4 C4;have hF4a:(9223372036854775807<H.size+t2.size+15+t3.size+5+t4.size)=False:=eq_false (by omega);have hF4b:(9223372036854775807<H.size+t2.size+15+t3.size+5+t4.size+13)=False:=eq_false (by omega))
           | (go_at_call 60;(with_reducible refine (counted_int _ ⟨by omega,by omega⟩ _ _ (by decide) (by decide) _).mono ?_);rintro e x3 ⟨t3,rfl,hs3,hb3⟩;have HB3:Hid (Bel w x3):=Lib.hid (HB2.out.trans hb3);have HC3:Hid (Blk x3 w.heap.size #[.int .i64 (s:Int),.int .i64 (c:Int),.slice pn nn cn,.slice pk n ck] 25):=Lib.hid (HC2.out.bel hb3);have C3:=HC3.out;obtain ⟨r3,y3,u3⟩:=C3.facts;clear hb3 C3;have hF3a:(9223372036854775807<H.size+t2.size+15+t3.size)=False:=eq_false (by omega);have hF3b:(9223372036854775807<H.size+t2.size+15+t3.size+13)=False:=eq_false (by omega);have hF3c:(9223372036854775807<H.size+t2.size+15+t3.size+5)=False:=eq_false (by omega))
           | (go_at_call 60;(with_reducible refine (counted_int _ ⟨by omega,by omega⟩ _ _ (by decide) (by decide) _).mono ?_);rintro e x2 ⟨t2,rfl,hs2,hb2⟩;have HB2:Hid (Bel w x2):=Lib.hid (HB1.out.trans hb2);have HC2:Hid (Blk x2 w.heap.size #[.int .i64 (s:Int),.int .i64 (c:Int),.slice pn nn cn,.slice pk n ck] 25):=Lib.hid (HC1.out.bel hb2);have C2:=HC2.out;obtain ⟨r2,y2,u2⟩:=C2.facts;clear hb2 C2;have hF2a:(9223372036854775807<H.size+t2.size)=False:=eq_false (by omega);have hF2b:(9223372036854775807<H.size+t2.size+7)=False:=eq_false (by omega);have hF2c:(9223372036854775807<H.size+t2.size+15)=False:=eq_false (by omega)))
          go_ret
          exact ⟨_,rfl,HB4.out⟩
       ·have e6:((s:Int) == 6)=false:=beq_eq_false_iff_ne.2 (by omega)
        go_wp2_with (first
         | (go_at_call 60;(with_reducible refine (counted_int _ ⟨by omega,by omega⟩ _ _ (by decide) (by decide) _).mono ?_);rintro e x3 ⟨t3,rfl,hs3,hb3⟩;have HB3:Hid (Bel w x3):=Lib.hid (HB2.out.trans hb3);have HC3:Hid (Blk x3 w.heap.size #[.int .i64 (s:Int),.int .i64 (c:Int),.slice pn nn cn,.slice pk n ck] 25):=Lib.hid (HC2.out.bel hb3);have C3:=HC3.out;obtain ⟨r3,y3,u3⟩:=C3.facts;clear hb3 C3;have hF3a:(9223372036854775807<H.size+t2.size+15+t3.size)=False:=eq_false (by omega);have hF3b:(9223372036854775807<H.size+t2.size+15+t3.size+13)=False:=eq_false (by omega);have hF3c:(9223372036854775807<H.size+t2.size+15+t3.size+5)=False:=eq_false (by omega))
         | (go_at_call 60;(with_reducible refine (counted_int _ ⟨by omega,by omega⟩ _ _ (by decide) (by decide) _).mono ?_);rintro e x2 ⟨t2,rfl,hs2,hb2⟩;have HB2:Hid (Bel w x2):=Lib.hid (HB5.out.trans hb2);have HC2:Hid (Blk x2 w.heap.size #[.int .i64 (s:Int),.int .i64 (c:Int),.slice pn nn cn,.slice pk n ck] 25):=Lib.hid (HC5.out.bel hb2);have C2:=HC2.out;obtain ⟨r2,y2,u2⟩:=C2.facts;clear hb2 C2;have hF2a:(9223372036854775807<H.size+t2.size)=False:=eq_false (by omega);have hF2b:(9223372036854775807<H.size+t2.size+7)=False:=eq_false (by omega);have hF2c:(9223372036854775807<H.size+t2.size+15)=False:=eq_false (by omega))
         | (go_at_call 27;(with_reducible refine (HTO.out _ ?hb).mono ?_);(case hb=>exact HB1.out);rintro e x5 ⟨rfl,hb5⟩;have HB5:Hid (Bel w x5):=Lib.hid (HB1.out.trans hb5);have HC5:Hid (Blk x5 w.heap.size #[.int .i64 (s:Int),.int .i64 (c:Int),.slice pn nn cn,.slice pk n ck] 25):=Lib.hid (HC1.out.bel hb5);have C5:=HC5.out;obtain ⟨r5,y5,u5⟩:=C5.facts;clear hb5 C5))
        go_ret
        exact ⟨_,rfl,HB3.out⟩
end Go.Proofs.YtpipehenfcbjbaaGreatDoor
