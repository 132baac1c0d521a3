/-
 Envelopes of multis,collections,geometries. No panic;what stood in memory has not turned.
-/
import Derived.Test.YtpipehenfcbjbaaGreatDoorPal
import Derived.Deep.RegionHeld3
set_option linter.unusedVariables false
set_option linter.unusedSimpArgs false
namespace Go.Proofs.YtpipehenfcbjbaaGreatDoor
open Go.ChangeShapes Go.WideShapes Go.ChangeAt Go.RowKit Ieee
def GeoEnv (g:Gm):Prop:=∀ (F:Nat→Prop) (cs:List Value) (w:World),Ob F w 7 cs g→NN g→Calls Tryz.prog 50 #[.agg cs.toArray] w (IsEnv (evOf g) w)
set_option maxHeartbeats 8000000 in
set_option maxRecDepth 100000 in
theorem multiPointEnv_any {F:Nat→Prop} {cs:List Value} {g:Gm} (w:World) (h:Ob F w 4 cs g) (hnn:NN g):Calls Tryz.prog 137 #[.agg cs.toArray] w (IsEnv (evOf g) w):=by
 obtain ⟨p,cap,c,gs,rfl,hc,rfl,hn31,hsl⟩:=h.sl (e:=1) (k:=6) rfl
 have he:evOf (.mk (4:Nat) c [] gs)=evAll gs:=by
  rw [evOf,if_neg (by decide),evNums_nil,Ev.no_join]
 rw [he]
 have HNN:Hid (∀ k ∈ gs,NN k):=Lib.hid fun k hk=>hnn.kid (by simpa [Gm.kids] using hk)
 have HSL:=Lib.hid hsl
 clear h hsl he hnn
 show Calls Tryz.prog 137 #[.agg #[.slice p gs.length cap,.int .u8 c]] w _
 generalize hn:gs.length=n at *
 have HN:=Lib.hid hn
 clear hn
 go_enter Tryz.func137,Tryz.ntmps137
 go_wp2
 go_loopw [9] (fun iv wr=>∃ (t:Nat) (f:Bool) (a b' c' d:Nat),iv=.int .i64 t∧t≤n∧Bel w wr∧EvW f a b' c' d (evAll (gs.take t))∧Blk wr (w.heap.size+1) #[.float .f64 0,.float .f64 0,.float .f64 0,.float .f64 0,.bool false] 81∧Blk wr (w.heap.size+1+1) #[.float .f64 a,.float .f64 b',.float .f64 c',.float .f64 d,.bool f] 81) (fun iv _=>n - (intOf iv).toNat)
 case atStart=>exact ⟨0,false,0,0,0,0,rfl,Nat.zero_le _,by exact EL,⟨rfl,rfl,rfl,rfl,rfl⟩,by exact KL,by exact KL⟩
 case round =>
  obtain ⟨t,f,a,b',c',d,rfl,ht,hbel,hev,hb1,hb2⟩:=hrel
  have HBEL:=Lib.hid hbel
  have HEV:=Lib.hid hev
  have HG1:=Lib.hid hb1
  have HG2:=Lib.hid hb2
  obtain ⟨r1,y1,u1⟩:=hb1.facts
  obtain ⟨r2,y2,u2⟩:=hb2.facts
  clear hev hb1 hb2
  by_cases htn:t<n
  ·obtain ⟨g,hg⟩:∃ g,gs[t]?=some g:=⟨_,List.getElem?_eq_getElem (by have:=HN.out;omega)⟩
   obtain ⟨_,_,hve,_,_,hq⟩:=HSL.out
   cases hve
   obtain ⟨b,off,rfl,hlt,-,hr⟩:=hq (by intro e;rw [e] at hg;simp at hg)
   obtain ⟨cl,hcl,hcell,hob⟩:=hr t g hg
   have HC:Hid (∀ W,Bel w W→Calls Tryz.prog 134 #[.agg cl.toArray] W (IsEnv (evOf g) W)):=Lib.hid fun W hW=>pointEnv_any (hob.bel hW) (HNN.out g (List.mem_iff_getElem?.2 ⟨t,hg⟩)) W
   obtain ⟨x0,y0,a0,m0,d0,f0,hcs0,-⟩:=hob.pt;cases hcs0
   have D0:=cell_kept hbel (hcell 0 (.float .f64 x0) rfl)
   have D1:=cell_kept hbel (hcell 1 (.float .f64 y0) rfl)
   have D2:=cell_kept hbel (hcell 2 (.float .f64 a0) rfl)
   have D3:=cell_kept hbel (hcell 3 (.float .f64 m0) rfl)
   have D4:=cell_kept hbel (hcell 4 (.int .u8 d0) rfl)
   have D5:=cell_kept hbel (hcell 5 (.bool f0) rfl)
   simp only [Nat.add_zero] at D0
   have E1:=D1
   rw [← Nat.add_assoc] at E1
   have E2:=D2
   rw [← Nat.add_assoc] at E2
   have E3:=D3
   rw [← Nat.add_assoc] at E3
   have E4:=D4
   rw [← Nat.add_assoc] at E4
   have E5:=D5
   rw [← Nat.add_assoc] at E5
   have hbl:b<wr.heap.size:=Nat.lt_of_lt_of_le hlt hbel.size
   have HTK:=Lib.hid (evAll_take hg)
   clear hq hr hcell hob hcl hbel hg
   generalize evOf g=eg at *
   generalize evAll (gs.take t)=et at *
   go_wp2
   generalize hW4:World.alloc wr _=w4 at *
   have hb4:Bel wr w4:=by
    subst hW4
    exact EL
   have C5:Blk w4 wr.heap.size #[.float .f64 x0,.float .f64 y0,.float .f64 a0,.float .f64 m0,.int .u8 d0,.bool f0] 107:=by
    subst hW4
    exact KL
   have C2:=HG2.out.bel hb4
   have C1:=HG1.out.bel hb4
   have HB4:Hid (Bel w w4):=Lib.hid (HBEL.out.trans hb4)
   clear hW4 hb4 r1 y1 u1 r2 y2 u2
   have HC1:=Lib.hid C1
   have HC2:=Lib.hid C2
   obtain ⟨r5,y5,u5⟩:=C5.facts
   obtain ⟨r2,y2,u2⟩:=C2.facts
   clear C1 C2 C5
   go_region_with (first
    | (go_at_call 134;(with_reducible refine (HC.out _ ?hb).mono ?_);(case hb=>(have HB:=HB4.out;exact EL));rintro e w5 ⟨f2,a2,b2,c2,d2,rfl,he2,hb5⟩;have HE2:=Lib.hid he2;have hb6:Bel w4 w5:=(by exact EL);have HB5:Hid (Bel w w5):=Lib.hid (HB4.out.trans hb6);have C1:=HC1.out.bel hb6;have C2:=HC2.out.bel hb6;have HD1:=Lib.hid C1;have HD2:=Lib.hid C2;obtain ⟨r6,y6,u6⟩:=C2.facts;clear C1 C2 he2 hb5 hb6)
    | (go_at_call 182;(with_reducible refine (expandEnv_any HEV.out HE2.out _).mono ?_);rintro e w6 ⟨f3,a3,b3,c3,d3,rfl,he3,hb7⟩;have HE3:=Lib.hid he3;have hb8:Bel w5 w6:=(by exact EL);have HB6:Hid (Bel w w6):=Lib.hid (HB5.out.trans hb8);have C1:=HD1.out.bel hb8;have C2:=HD2.out.bel hb8;have HE1:=Lib.hid C1;have HF2:=Lib.hid C2;obtain ⟨r7,y7,u7⟩:=C2.facts;clear C1 C2 he3 hb7 hb8))
   all_goals
    go_wp2
    go_roundw
    case rel=>exact ⟨t+1,f3,a3,b3,c3,d3,by go_num,by omega,by have HB:=HB6.out;exact EL,by rw [HTK.out];exact HE3.out,by have HB:=HE1.out;exact SL,by have HB:=HF2.out;exact SL⟩
    case measure=>simp [intOf];omega
  ·obtain rfl:t=n:=by omega
   have hx:gs.take t=gs:=List.take_of_length_le (by have:=HN.out;omega)
   rw [hx] at HEV
   clear hx hbel
   generalize evAll gs=et at *
   go_wp2
   refine post_ret (results_one rfl (resIs_agg (n:=5) (cs:=#[.float .f64 a,.float .f64 b',.float .f64 c',.float .f64 d,.bool f]) (by rfl) Tryz.underlying81 (by kernel_rfl) (T:=81) ?_ rfl)) (IsEnv.mk' HEV.out ?_)
   ·have HB:=HG1.out
    exact SL
   ·have HB:=HBEL.out
    exact EL
set_option maxHeartbeats 8000000 in
set_option maxRecDepth 100000 in
theorem multiLineEnv_any {F:Nat→Prop} {cs:List Value} {g:Gm} (w:World) (h:Ob F w 5 cs g) (hnn:NN g):Calls Tryz.prog 138 #[.agg cs.toArray] w (IsEnv (evOf g) w):=by
 obtain ⟨p,cap,c,gs,rfl,hc,rfl,hn31,hsl⟩:=h.sl (e:=2) (k:=2) rfl
 have he:evOf (.mk (5:Nat) c [] gs)=evAll gs:=by
  rw [evOf,if_neg (by decide),evNums_nil,Ev.no_join]
 rw [he]
 have HNN:Hid (∀ k ∈ gs,NN k):=Lib.hid fun k hk=>hnn.kid (by simpa [Gm.kids] using hk)
 have HSL:=Lib.hid hsl
 clear h hsl he hnn
 show Calls Tryz.prog 138 #[.agg #[.slice p gs.length cap,.int .u8 c]] w _
 generalize hn:gs.length=n at *
 have HN:=Lib.hid hn
 clear hn
 go_enter Tryz.func138,Tryz.ntmps138
 go_wp2
 go_loopw [9] (fun iv wr=>∃ (t:Nat) (f:Bool) (a b' c' d:Nat),iv=.int .i64 t∧t≤n∧Bel w wr∧EvW f a b' c' d (evAll (gs.take t))∧Blk wr (w.heap.size+1) #[.float .f64 0,.float .f64 0,.float .f64 0,.float .f64 0,.bool false] 81∧Blk wr (w.heap.size+1+1) #[.float .f64 a,.float .f64 b',.float .f64 c',.float .f64 d,.bool f] 81) (fun iv _=>n - (intOf iv).toNat)
 case atStart=>exact ⟨0,false,0,0,0,0,rfl,Nat.zero_le _,by exact EL,⟨rfl,rfl,rfl,rfl,rfl⟩,by exact KL,by exact KL⟩
 case round =>
  obtain ⟨t,f,a,b',c',d,rfl,ht,hbel,hev,hb1,hb2⟩:=hrel
  have HBEL:=Lib.hid hbel
  have HEV:=Lib.hid hev
  have HG1:=Lib.hid hb1
  have HG2:=Lib.hid hb2
  obtain ⟨r1,y1,u1⟩:=hb1.facts
  obtain ⟨r2,y2,u2⟩:=hb2.facts
  clear hev hb1 hb2
  by_cases htn:t<n
  ·obtain ⟨g,hg⟩:∃ g,gs[t]?=some g:=⟨_,List.getElem?_eq_getElem (by have:=HN.out;omega)⟩
   obtain ⟨_,_,hve,_,_,hq⟩:=HSL.out
   cases hve
   obtain ⟨b,off,rfl,hlt,-,hr⟩:=hq (by intro e;rw [e] at hg;simp at hg)
   obtain ⟨cl,hcl,hcell,hob⟩:=hr t g hg
   have HC:Hid (∀ W,Bel w W→Calls Tryz.prog 135 #[.agg cl.toArray] W (IsEnv (evOf g) W)):=Lib.hid fun W hW=>lineEnv_any hob (HNN.out g (List.mem_iff_getElem?.2 ⟨t,hg⟩)) W hW
   obtain ⟨d0,p0,n0,q0,xs0,hcs0,-⟩:=hob.ln;cases hcs0
   have D0:=cell_kept hbel (hcell 0 (.int .u8 d0) rfl)
   have D1:=cell_kept hbel (hcell 1 (.slice p0 n0 q0) rfl)
   simp only [Nat.add_zero] at D0
   have E1:=D1
   rw [← Nat.add_assoc] at E1
   have hbl:b<wr.heap.size:=Nat.lt_of_lt_of_le hlt hbel.size
   have HTK:=Lib.hid (evAll_take hg)
   clear hq hr hcell hob hcl hbel hg
   generalize evOf g=eg at *
   generalize evAll (gs.take t)=et at *
   go_wp2
   generalize hW4:World.alloc wr _=w4 at *
   have hb4:Bel wr w4:=by
    subst hW4
    exact EL
   have C5:Blk w4 wr.heap.size #[.int .u8 d0,.slice p0 n0 q0] 111:=by
    subst hW4
    exact KL
   have C2:=HG2.out.bel hb4
   have C1:=HG1.out.bel hb4
   have HB4:Hid (Bel w w4):=Lib.hid (HBEL.out.trans hb4)
   clear hW4 hb4 r1 y1 u1 r2 y2 u2
   have HC1:=Lib.hid C1
   have HC2:=Lib.hid C2
   obtain ⟨r5,y5,u5⟩:=C5.facts
   obtain ⟨r2,y2,u2⟩:=C2.facts
   clear C1 C2 C5
   go_region_with (first
    | (go_at_call 135;(with_reducible refine (HC.out _ ?hb).mono ?_);(case hb=>(have HB:=HB4.out;exact EL));rintro e w5 ⟨f2,a2,b2,c2,d2,rfl,he2,hb5⟩;have HE2:=Lib.hid he2;have hb6:Bel w4 w5:=(by exact EL);have HB5:Hid (Bel w w5):=Lib.hid (HB4.out.trans hb6);have C1:=HC1.out.bel hb6;have C2:=HC2.out.bel hb6;have HD1:=Lib.hid C1;have HD2:=Lib.hid C2;obtain ⟨r6,y6,u6⟩:=C2.facts;clear C1 C2 he2 hb5 hb6)
    | (go_at_call 182;(with_reducible refine (expandEnv_any HEV.out HE2.out _).mono ?_);rintro e w6 ⟨f3,a3,b3,c3,d3,rfl,he3,hb7⟩;have HE3:=Lib.hid he3;have hb8:Bel w5 w6:=(by exact EL);have HB6:Hid (Bel w w6):=Lib.hid (HB5.out.trans hb8);have C1:=HD1.out.bel hb8;have C2:=HD2.out.bel hb8;have HE1:=Lib.hid C1;have HF2:=Lib.hid C2;obtain ⟨r7,y7,u7⟩:=C2.facts;clear C1 C2 he3 hb7 hb8))
   all_goals
    go_wp2
    go_roundw
    case rel=>exact ⟨t+1,f3,a3,b3,c3,d3,by go_num,by omega,by have HB:=HB6.out;exact EL,by rw [HTK.out];exact HE3.out,by have HB:=HE1.out;exact SL,by have HB:=HF2.out;exact SL⟩
    case measure=>simp [intOf];omega
  ·obtain rfl:t=n:=by omega
   have hx:gs.take t=gs:=List.take_of_length_le (by have:=HN.out;omega)
   rw [hx] at HEV
   clear hx hbel
   generalize evAll gs=et at *
   go_wp2
   refine post_ret (results_one rfl (resIs_agg (n:=5) (cs:=#[.float .f64 a,.float .f64 b',.float .f64 c',.float .f64 d,.bool f]) (by rfl) Tryz.underlying81 (by kernel_rfl) (T:=81) ?_ rfl)) (IsEnv.mk' HEV.out ?_)
   ·have HB:=HG1.out
    exact SL
   ·have HB:=HBEL.out
    exact EL
set_option maxHeartbeats 8000000 in
set_option maxRecDepth 100000 in
theorem multiPolygonEnv_any {F:Nat→Prop} {cs:List Value} {g:Gm} (w:World) (h:Ob F w 6 cs g) (hnn:NN g):Calls Tryz.prog 139 #[.agg cs.toArray] w (IsEnv (evOf g) w):=by
 obtain ⟨p,cap,c,gs,rfl,hc,rfl,hn31,hsl⟩:=h.sl (e:=3) (k:=2) rfl
 have he:evOf (.mk (6:Nat) c [] gs)=evAll gs:=by
  rw [evOf,if_neg (by decide),evNums_nil,Ev.no_join]
 rw [he]
 have HNN:Hid (∀ k ∈ gs,NN k):=Lib.hid fun k hk=>hnn.kid (by simpa [Gm.kids] using hk)
 have HSL:=Lib.hid hsl
 clear h hsl he hnn
 show Calls Tryz.prog 139 #[.agg #[.slice p gs.length cap,.int .u8 c]] w _
 generalize hn:gs.length=n at *
 have HN:=Lib.hid hn
 clear hn
 go_enter Tryz.func139,Tryz.ntmps139
 go_wp2
 go_loopw [9] (fun iv wr=>∃ (t:Nat) (f:Bool) (a b' c' d:Nat),iv=.int .i64 t∧t≤n∧Bel w wr∧EvW f a b' c' d (evAll (gs.take t))∧Blk wr (w.heap.size+1) #[.float .f64 0,.float .f64 0,.float .f64 0,.float .f64 0,.bool false] 81∧Blk wr (w.heap.size+1+1) #[.float .f64 a,.float .f64 b',.float .f64 c',.float .f64 d,.bool f] 81) (fun iv _=>n - (intOf iv).toNat)
 case atStart=>exact ⟨0,false,0,0,0,0,rfl,Nat.zero_le _,by exact EL,⟨rfl,rfl,rfl,rfl,rfl⟩,by exact KL,by exact KL⟩
 case round =>
  obtain ⟨t,f,a,b',c',d,rfl,ht,hbel,hev,hb1,hb2⟩:=hrel
  have HBEL:=Lib.hid hbel
  have HEV:=Lib.hid hev
  have HG1:=Lib.hid hb1
  have HG2:=Lib.hid hb2
  obtain ⟨r1,y1,u1⟩:=hb1.facts
  obtain ⟨r2,y2,u2⟩:=hb2.facts
  clear hev hb1 hb2
  by_cases htn:t<n
  ·obtain ⟨g,hg⟩:∃ g,gs[t]?=some g:=⟨_,List.getElem?_eq_getElem (by have:=HN.out;omega)⟩
   obtain ⟨_,_,hve,_,_,hq⟩:=HSL.out
   cases hve
   obtain ⟨b,off,rfl,hlt,-,hr⟩:=hq (by intro e;rw [e] at hg;simp at hg)
   obtain ⟨cl,hcl,hcell,hob⟩:=hr t g hg
   have HC:Hid (∀ W,Bel w W→Calls Tryz.prog 136 #[.agg cl.toArray] W (IsEnv (evOf g) W)):=Lib.hid fun W hW=>polyEnv_any hob (HNN.out g (List.mem_iff_getElem?.2 ⟨t,hg⟩)) W hW
   obtain ⟨p0,n0,q0,d0,hcs0⟩:=hob.ofSl (c:=0) (e:=2) (k:=2) rfl;cases hcs0
   have D0:=cell_kept hbel (hcell 0 (.slice p0 n0 q0) rfl)
   have D1:=cell_kept hbel (hcell 1 (.int .u8 d0) rfl)
   simp only [Nat.add_zero] at D0
   have E1:=D1
   rw [← Nat.add_assoc] at E1
   have hbl:b<wr.heap.size:=Nat.lt_of_lt_of_le hlt hbel.size
   have HTK:=Lib.hid (evAll_take hg)
   clear hq hr hcell hob hcl hbel hg
   generalize evOf g=eg at *
   generalize evAll (gs.take t)=et at *
   go_wp2
   generalize hW4:World.alloc wr _=w4 at *
   have hb4:Bel wr w4:=by
    subst hW4
    exact EL
   have C5:Blk w4 wr.heap.size #[.slice p0 n0 q0,.int .u8 d0] 91:=by
    subst hW4
    exact KL
   have C2:=HG2.out.bel hb4
   have C1:=HG1.out.bel hb4
   have HB4:Hid (Bel w w4):=Lib.hid (HBEL.out.trans hb4)
   clear hW4 hb4 r1 y1 u1 r2 y2 u2
   have HC1:=Lib.hid C1
   have HC2:=Lib.hid C2
   obtain ⟨r5,y5,u5⟩:=C5.facts
   obtain ⟨r2,y2,u2⟩:=C2.facts
   clear C1 C2 C5
   go_region_with (first
    | (go_at_call 136;(with_reducible refine (HC.out _ ?hb).mono ?_);(case hb=>(have HB:=HB4.out;exact EL));rintro e w5 ⟨f2,a2,b2,c2,d2,rfl,he2,hb5⟩;have HE2:=Lib.hid he2;have hb6:Bel w4 w5:=(by exact EL);have HB5:Hid (Bel w w5):=Lib.hid (HB4.out.trans hb6);have C1:=HC1.out.bel hb6;have C2:=HC2.out.bel hb6;have HD1:=Lib.hid C1;have HD2:=Lib.hid C2;obtain ⟨r6,y6,u6⟩:=C2.facts;clear C1 C2 he2 hb5 hb6)
    | (go_at_call 182;(with_reducible refine (expandEnv_any HEV.out HE2.out _).mono ?_);rintro e w6 ⟨f3,a3,b3,c3,d3,rfl,he3,hb7⟩;have HE3:=Lib.hid he3;have hb8:Bel w5 w6:=(by exact EL);have HB6:Hid (Bel w w6):=Lib.hid (HB5.out.trans hb8);have C1:=HD1.out.bel hb8;have C2:=HD2.out.bel hb8;have HE1:=Lib.hid C1;have HF2:=Lib.hid C2;obtain ⟨r7,y7,u7⟩:=C2.facts;clear C1 C2 he3 hb7 hb8))
   all_goals
    go_wp2
    go_roundw
    case rel=>exact ⟨t+1,f3,a3,b3,c3,d3,by go_num,by omega,by have HB:=HB6.out;exact EL,by rw [HTK.out];exact HE3.out,by have HB:=HE1.out;exact SL,by have HB:=HF2.out;exact SL⟩
    case measure=>simp [intOf];omega
  ·obtain rfl:t=n:=by omega
   have hx:gs.take t=gs:=List.take_of_length_le (by have:=HN.out;omega)
   rw [hx] at HEV
   clear hx hbel
   generalize evAll gs=et at *
   go_wp2
   refine post_ret (results_one rfl (resIs_agg (n:=5) (cs:=#[.float .f64 a,.float .f64 b',.float .f64 c',.float .f64 d,.bool f]) (by rfl) Tryz.underlying81 (by kernel_rfl) (T:=81) ?_ rfl)) (IsEnv.mk' HEV.out ?_)
   ·have HB:=HG1.out
    exact SL
   ·have HB:=HBEL.out
    exact EL
set_option maxHeartbeats 8000000 in
set_option maxRecDepth 100000 in
theorem collEnv_any {F:Nat→Prop} {cs:List Value} {g:Gm} (w:World) (h:Ob F w 0 cs g) (hnn:NN g) (hih:∀ k ∈ g.kids,GeoEnv k):Calls Tryz.prog 133 #[.agg cs.toArray] w (IsEnv (evOf g) w):=by
 obtain ⟨p,cap,c,gs,rfl,hc,rfl,hn31,hsl⟩:=h.sl (e:=7) (k:=2) rfl
 have HIH:Hid (∀ k ∈ gs,GeoEnv k):=Lib.hid hih
 clear hih
 have he:evOf (.mk (0:Nat) c [] gs)=evAll gs:=by
  rw [evOf,if_neg (by decide),evNums_nil,Ev.no_join]
 rw [he]
 have HNN:Hid (∀ k ∈ gs,NN k):=Lib.hid fun k hk=>hnn.kid (by simpa [Gm.kids] using hk)
 have HSL:=Lib.hid hsl
 clear h hsl he hnn
 show Calls Tryz.prog 133 #[.agg #[.slice p gs.length cap,.int .u8 c]] w _
 generalize hn:gs.length=n at *
 have HN:=Lib.hid hn
 clear hn
 go_enter Tryz.func133,Tryz.ntmps133
 go_wp2
 go_loopw [9] (fun iv wr=>∃ (t:Nat) (f:Bool) (a b' c' d:Nat),iv=.int .i64 t∧t≤n∧Bel w wr∧EvW f a b' c' d (evAll (gs.take t))∧Blk wr (w.heap.size+1) #[.float .f64 0,.float .f64 0,.float .f64 0,.float .f64 0,.bool false] 81∧Blk wr (w.heap.size+1+1) #[.float .f64 a,.float .f64 b',.float .f64 c',.float .f64 d,.bool f] 81) (fun iv _=>n - (intOf iv).toNat)
 case atStart=>exact ⟨0,false,0,0,0,0,rfl,Nat.zero_le _,by exact EL,⟨rfl,rfl,rfl,rfl,rfl⟩,by exact KL,by exact KL⟩
 case round =>
  obtain ⟨t,f,a,b',c',d,rfl,ht,hbel,hev,hb1,hb2⟩:=hrel
  have HBEL:=Lib.hid hbel
  have HEV:=Lib.hid hev
  have HG1:=Lib.hid hb1
  have HG2:=Lib.hid hb2
  obtain ⟨r1,y1,u1⟩:=hb1.facts
  obtain ⟨r2,y2,u2⟩:=hb2.facts
  clear hev hb1 hb2
  by_cases htn:t<n
  ·obtain ⟨g,hg⟩:∃ g,gs[t]?=some g:=⟨_,List.getElem?_eq_getElem (by have:=HN.out;omega)⟩
   obtain ⟨_,_,hve,_,_,hq⟩:=HSL.out
   cases hve
   obtain ⟨b,off,rfl,hlt,-,hr⟩:=hq (by intro e;rw [e] at hg;simp at hg)
   obtain ⟨cl,hcl,hcell,hob⟩:=hr t g hg
   have HC:Hid (∀ W,Bel w W→Calls Tryz.prog 50 #[.agg cl.toArray] W (IsEnv (evOf g) W)):=Lib.hid fun W hW=>HIH.out g (List.mem_iff_getElem?.2 ⟨t,hg⟩) F _ W (hob.bel hW) (HNN.out g (List.mem_iff_getElem?.2 ⟨t,hg⟩))
   obtain ⟨s0,b0,cl0,hcs0,-⟩:=hob.gi;cases hcs0
   have D0:=cell_kept hbel (hcell 0 (.int .i64 s0) rfl)
   have D1:=cell_kept hbel (hcell 1 (.iface (ptrT s0) (.pointer (some ⟨b0,0,none⟩))) rfl)
   simp only [Nat.add_zero] at D0
   have E1:=D1
   rw [← Nat.add_assoc] at E1
   have hbl:b<wr.heap.size:=Nat.lt_of_lt_of_le hlt hbel.size
   have HTK:=Lib.hid (evAll_take hg)
   clear hq hr hcell hob hcl hbel hg
   generalize evOf g=eg at *
   generalize evAll (gs.take t)=et at *
   go_wp2
   generalize hW4:World.alloc wr _=w4 at *
   have hb4:Bel wr w4:=by
    subst hW4
    exact EL
   have C5:Blk w4 wr.heap.size #[.int .i64 s0,.iface (ptrT s0) (.pointer (some ⟨b0,0,none⟩))] 64:=by
    subst hW4
    exact KL
   have C2:=HG2.out.bel hb4
   have C1:=HG1.out.bel hb4
   have HB4:Hid (Bel w w4):=Lib.hid (HBEL.out.trans hb4)
   clear hW4 hb4 r1 y1 u1 r2 y2 u2
   have HC1:=Lib.hid C1
   have HC2:=Lib.hid C2
   obtain ⟨r5,y5,u5⟩:=C5.facts
   obtain ⟨r2,y2,u2⟩:=C2.facts
   clear C1 C2 C5
   go_region_with (first
    | (go_at_call 50;(with_reducible refine (HC.out _ ?hb).mono ?_);(case hb=>(have HB:=HB4.out;exact EL));rintro e w5 ⟨f2,a2,b2,c2,d2,rfl,he2,hb5⟩;have HE2:=Lib.hid he2;have hb6:Bel w4 w5:=(by exact EL);have HB5:Hid (Bel w w5):=Lib.hid (HB4.out.trans hb6);have C1:=HC1.out.bel hb6;have C2:=HC2.out.bel hb6;have HD1:=Lib.hid C1;have HD2:=Lib.hid C2;obtain ⟨r6,y6,u6⟩:=C2.facts;clear C1 C2 he2 hb5 hb6)
    | (go_at_call 182;(with_reducible refine (expandEnv_any HEV.out HE2.out _).mono ?_);rintro e w6 ⟨f3,a3,b3,c3,d3,rfl,he3,hb7⟩;have HE3:=Lib.hid he3;have hb8:Bel w5 w6:=(by exact EL);have HB6:Hid (Bel w w6):=Lib.hid (HB5.out.trans hb8);have C1:=HD1.out.bel hb8;have C2:=HD2.out.bel hb8;have HE1:=Lib.hid C1;have HF2:=Lib.hid C2;obtain ⟨r7,y7,u7⟩:=C2.facts;clear C1 C2 he3 hb7 hb8))
   all_goals
    go_wp2
    go_roundw
    case rel=>exact ⟨t+1,f3,a3,b3,c3,d3,by go_num,by omega,by have HB:=HB6.out;exact EL,by rw [HTK.out];exact HE3.out,by have HB:=HE1.out;exact SL,by have HB:=HF2.out;exact SL⟩
    case measure=>simp [intOf];omega
  ·obtain rfl:t=n:=by omega
   have hx:gs.take t=gs:=List.take_of_length_le (by have:=HN.out;omega)
   rw [hx] at HEV
   clear hx hbel
   generalize evAll gs=et at *
   go_wp2
   refine post_ret (results_one rfl (resIs_agg (n:=5) (cs:=#[.float .f64 a,.float .f64 b',.float .f64 c',.float .f64 d,.bool f]) (by rfl) Tryz.underlying81 (by kernel_rfl) (T:=81) ?_ rfl)) (IsEnv.mk' HEV.out ?_)
   ·have HB:=HG1.out
    exact SL
   ·have HB:=HBEL.out
    exact EL
set_option maxHeartbeats 8000000 in
set_option maxRecDepth 100000 in
theorem geoEnv_ind:∀ (n:Nat) (g:Gm),g.size≤n→GeoEnv g:=by
 intro n
 induction n with
 | zero=>exact fun g h=>absurd h (by have:=g.size_pos;omega)
 | succ n ih =>
  intro g hsz F cs w h hnn
  obtain ⟨s,b,cl,rfl,hs6,hlt,hFb,hc,ho⟩:=h.gi
  clear h
  have h7:s=0∨s=1∨s=2∨s=3∨s=4∨s=5∨s=6:=by omega
  have HO:Hid (∀ W,Bel w W→Ob F W s cl g):=Lib.hid fun W hW=>ho.bel hW
  have HIH:Hid (∀ k ∈ g.kids,GeoEnv k):=Lib.hid fun k hk=>ih k (by
   have:=g.size_eq
   have:=Gm.size_mem hk
   omega)
  clear ih hsz
  rcases h7 with rfl|rfl|rfl|rfl|rfl|rfl|rfl
  ·obtain ⟨p,cap,c,gs,hcs,-⟩:=ho.sl (e:=7) (k:=2) rfl
   subst hcs
   clear ho
   show Calls Tryz.prog 50 #[.agg #[.int .i64 0,.iface 170 (.pointer (some ⟨b,0,none⟩))]] w _
   have HM:Hid (∀ W,Bel w W→Calls Tryz.prog 83 #[.agg #[.int .i64 0,.iface 170 (.pointer (some ⟨b,0,none⟩))]] W fun e w'=>e=.returned (.agg #[.slice p gs.length cap,.int .u8 c])∧Bel W w'):=Lib.hid fun W hW=>mustAs_0 _ _ _ _ b W (cell_kept hW (hc 0 _ rfl)) (cell_kept hW (hc 1 _ rfl))
   have HC:Hid (∀ W,Bel w W→Calls Tryz.prog 133 #[.agg #[.slice p gs.length cap,.int .u8 c]] W (IsEnv (evOf g) W)):=Lib.hid fun W hW=>collEnv_any W (HO.out W hW) hnn HIH.out
   clear hc HO HIH hnn
   generalize evOf g=uv at *
   generalize gs.length=n at *
   go_enter Tryz.func50,Tryz.ntmps50
   go_wp2_with (first
    | (go_at_call 83;(with_reducible refine (HM.out _ ?hb).mono ?_);(case hb=>exact EL);rintro e w1 ⟨rfl,hb1⟩;have HB1:Hid (Bel w w1):=Lib.hid ((show Bel w _ by exact EL).trans hb1);have C2:Blk w1 (w.heap.size+1) #[.float .f64 0,.float .f64 0,.float .f64 0,.float .f64 0,.bool false] 81:=Blk.bel (by exact KL) hb1;have HC2:=Lib.hid C2;clear hb1 C2)
    | (go_at_call 133;(with_reducible refine (HC.out _ HB1.out).mono ?_);rintro e w2 ⟨f1,a1,b1,c1,d1,rfl,he1,hb2⟩;have HE1:=Lib.hid he1;have HB2:Hid (Bel w w2):=Lib.hid (HB1.out.trans hb2);have C2:=HC2.out.bel hb2;have HD2:=Lib.hid C2;obtain ⟨r2,y2,u2⟩:=C2.facts;clear hb2 C2 he1))
   refine post_ret (results_one rfl (resIs_agg (n:=5) (cs:=#[.float .f64 a1,.float .f64 b1,.float .f64 c1,.float .f64 d1,.bool f1]) (by rfl) Tryz.underlying81 (by kernel_rfl) (T:=81) ?_ rfl)) (IsEnv.mk' HE1.out ?_)
   ·have HB:=HD2.out
    exact SL
   ·have HB:=HB2.out
    exact EL
  ·obtain ⟨x,y,z,m,c,full,hcs,-⟩:=ho.pt
   subst hcs
   clear ho
   show Calls Tryz.prog 50 #[.agg #[.int .i64 1,.iface 164 (.pointer (some ⟨b,0,none⟩))]] w _
   have HM:Hid (∀ W,Bel w W→Calls Tryz.prog 97 #[.agg #[.int .i64 1,.iface 164 (.pointer (some ⟨b,0,none⟩))]] W fun e w'=>e=.returned (.agg #[.float .f64 x,.float .f64 y,.float .f64 z,.float .f64 m,.int .u8 c,.bool full])∧Bel W w'):=Lib.hid fun W hW=>mustAs_1 _ _ _ _ _ _ b W (cell_kept hW (hc 0 _ rfl)) (cell_kept hW (hc 1 _ rfl)) (cell_kept hW (hc 2 _ rfl)) (cell_kept hW (hc 3 _ rfl)) (cell_kept hW (hc 4 _ rfl)) (cell_kept hW (hc 5 _ rfl))
   have HC:Hid (∀ W,Bel w W→Calls Tryz.prog 134 #[.agg #[.float .f64 x,.float .f64 y,.float .f64 z,.float .f64 m,.int .u8 c,.bool full]] W (IsEnv (evOf g) W)):=Lib.hid fun W hW=>pointEnv_any (HO.out W hW) hnn W
   clear hc HO HIH hnn
   generalize evOf g=uv at *
   go_enter Tryz.func50,Tryz.ntmps50
   go_wp2_with (first
    | (go_at_call 97;(with_reducible refine (HM.out _ ?hb).mono ?_);(case hb=>exact EL);rintro e w1 ⟨rfl,hb1⟩;have HB1:Hid (Bel w w1):=Lib.hid ((show Bel w _ by exact EL).trans hb1);have C2:Blk w1 (w.heap.size+1) #[.float .f64 0,.float .f64 0,.float .f64 0,.float .f64 0,.bool false] 81:=Blk.bel (by exact KL) hb1;have HC2:=Lib.hid C2;clear hb1 C2)
    | (go_at_call 134;(with_reducible refine (HC.out _ HB1.out).mono ?_);rintro e w2 ⟨f1,a1,b1,c1,d1,rfl,he1,hb2⟩;have HE1:=Lib.hid he1;have HB2:Hid (Bel w w2):=Lib.hid (HB1.out.trans hb2);have C2:=HC2.out.bel hb2;have HD2:=Lib.hid C2;obtain ⟨r2,y2,u2⟩:=C2.facts;clear hb2 C2 he1))
   refine post_ret (results_one rfl (resIs_agg (n:=5) (cs:=#[.float .f64 a1,.float .f64 b1,.float .f64 c1,.float .f64 d1,.bool f1]) (by rfl) Tryz.underlying81 (by kernel_rfl) (T:=81) ?_ rfl)) (IsEnv.mk' HE1.out ?_)
   ·have HB:=HD2.out
    exact SL
   ·have HB:=HB2.out
    exact EL
  ·obtain ⟨c,p,n,cap,xs,hcs,-⟩:=ho.ln
   subst hcs
   clear ho
   show Calls Tryz.prog 50 #[.agg #[.int .i64 2,.iface 162 (.pointer (some ⟨b,0,none⟩))]] w _
   have HM:Hid (∀ W,Bel w W→Calls Tryz.prog 67 #[.agg #[.int .i64 2,.iface 162 (.pointer (some ⟨b,0,none⟩))]] W fun e w'=>e=.returned (.agg #[.int .u8 c,.slice p n cap])∧Bel W w'):=Lib.hid fun W hW=>mustAs_2 _ _ _ _ b W (cell_kept hW (hc 0 _ rfl)) (cell_kept hW (hc 1 _ rfl))
   have HC:Hid (∀ W,Bel w W→Calls Tryz.prog 135 #[.agg #[.int .u8 c,.slice p n cap]] W (IsEnv (evOf g) W)):=Lib.hid fun W hW=>lineEnv_any (HO.out W hW) hnn W (Bel.refl W)
   clear hc HO HIH hnn
   generalize evOf g=uv at *
   go_enter Tryz.func50,Tryz.ntmps50
   go_wp2_with (first
    | (go_at_call 67;(with_reducible refine (HM.out _ ?hb).mono ?_);(case hb=>exact EL);rintro e w1 ⟨rfl,hb1⟩;have HB1:Hid (Bel w w1):=Lib.hid ((show Bel w _ by exact EL).trans hb1);have C2:Blk w1 (w.heap.size+1) #[.float .f64 0,.float .f64 0,.float .f64 0,.float .f64 0,.bool false] 81:=Blk.bel (by exact KL) hb1;have HC2:=Lib.hid C2;clear hb1 C2)
    | (go_at_call 135;(with_reducible refine (HC.out _ HB1.out).mono ?_);rintro e w2 ⟨f1,a1,b1,c1,d1,rfl,he1,hb2⟩;have HE1:=Lib.hid he1;have HB2:Hid (Bel w w2):=Lib.hid (HB1.out.trans hb2);have C2:=HC2.out.bel hb2;have HD2:=Lib.hid C2;obtain ⟨r2,y2,u2⟩:=C2.facts;clear hb2 C2 he1))
   refine post_ret (results_one rfl (resIs_agg (n:=5) (cs:=#[.float .f64 a1,.float .f64 b1,.float .f64 c1,.float .f64 d1,.bool f1]) (by rfl) Tryz.underlying81 (by kernel_rfl) (T:=81) ?_ rfl)) (IsEnv.mk' HE1.out ?_)
   ·have HB:=HD2.out
    exact SL
   ·have HB:=HB2.out
    exact EL
  ·obtain ⟨p,cap,c,gs,hcs,-⟩:=ho.sl (e:=2) (k:=2) rfl
   subst hcs
   clear ho
   show Calls Tryz.prog 50 #[.agg #[.int .i64 3,.iface 165 (.pointer (some ⟨b,0,none⟩))]] w _
   have HM:Hid (∀ W,Bel w W→Calls Tryz.prog 72 #[.agg #[.int .i64 3,.iface 165 (.pointer (some ⟨b,0,none⟩))]] W fun e w'=>e=.returned (.agg #[.slice p gs.length cap,.int .u8 c])∧Bel W w'):=Lib.hid fun W hW=>mustAs_3 _ _ _ _ b W (cell_kept hW (hc 0 _ rfl)) (cell_kept hW (hc 1 _ rfl))
   have HC:Hid (∀ W,Bel w W→Calls Tryz.prog 136 #[.agg #[.slice p gs.length cap,.int .u8 c]] W (IsEnv (evOf g) W)):=Lib.hid fun W hW=>polyEnv_any (HO.out W hW) hnn W (Bel.refl W)
   clear hc HO HIH hnn
   generalize evOf g=uv at *
   generalize gs.length=n at *
   go_enter Tryz.func50,Tryz.ntmps50
   go_wp2_with (first
    | (go_at_call 72;(with_reducible refine (HM.out _ ?hb).mono ?_);(case hb=>exact EL);rintro e w1 ⟨rfl,hb1⟩;have HB1:Hid (Bel w w1):=Lib.hid ((show Bel w _ by exact EL).trans hb1);have C2:Blk w1 (w.heap.size+1) #[.float .f64 0,.float .f64 0,.float .f64 0,.float .f64 0,.bool false] 81:=Blk.bel (by exact KL) hb1;have HC2:=Lib.hid C2;clear hb1 C2)
    | (go_at_call 136;(with_reducible refine (HC.out _ HB1.out).mono ?_);rintro e w2 ⟨f1,a1,b1,c1,d1,rfl,he1,hb2⟩;have HE1:=Lib.hid he1;have HB2:Hid (Bel w w2):=Lib.hid (HB1.out.trans hb2);have C2:=HC2.out.bel hb2;have HD2:=Lib.hid C2;obtain ⟨r2,y2,u2⟩:=C2.facts;clear hb2 C2 he1))
   refine post_ret (results_one rfl (resIs_agg (n:=5) (cs:=#[.float .f64 a1,.float .f64 b1,.float .f64 c1,.float .f64 d1,.bool f1]) (by rfl) Tryz.underlying81 (by kernel_rfl) (T:=81) ?_ rfl)) (IsEnv.mk' HE1.out ?_)
   ·have HB:=HD2.out
    exact SL
   ·have HB:=HB2.out
    exact EL
  ·obtain ⟨p,cap,c,gs,hcs,-⟩:=ho.sl (e:=1) (k:=6) rfl
   subst hcs
   clear ho
   show Calls Tryz.prog 50 #[.agg #[.int .i64 4,.iface 167 (.pointer (some ⟨b,0,none⟩))]] w _
   have HM:Hid (∀ W,Bel w W→Calls Tryz.prog 76 #[.agg #[.int .i64 4,.iface 167 (.pointer (some ⟨b,0,none⟩))]] W fun e w'=>e=.returned (.agg #[.slice p gs.length cap,.int .u8 c])∧Bel W w'):=Lib.hid fun W hW=>mustAs_4 _ _ _ _ b W (cell_kept hW (hc 0 _ rfl)) (cell_kept hW (hc 1 _ rfl))
   have HC:Hid (∀ W,Bel w W→Calls Tryz.prog 137 #[.agg #[.slice p gs.length cap,.int .u8 c]] W (IsEnv (evOf g) W)):=Lib.hid fun W hW=>multiPointEnv_any W (HO.out W hW) hnn
   clear hc HO HIH hnn
   generalize evOf g=uv at *
   generalize gs.length=n at *
   go_enter Tryz.func50,Tryz.ntmps50
   go_wp2_with (first
    | (go_at_call 76;(with_reducible refine (HM.out _ ?hb).mono ?_);(case hb=>exact EL);rintro e w1 ⟨rfl,hb1⟩;have HB1:Hid (Bel w w1):=Lib.hid ((show Bel w _ by exact EL).trans hb1);have C2:Blk w1 (w.heap.size+1) #[.float .f64 0,.float .f64 0,.float .f64 0,.float .f64 0,.bool false] 81:=Blk.bel (by exact KL) hb1;have HC2:=Lib.hid C2;clear hb1 C2)
    | (go_at_call 137;(with_reducible refine (HC.out _ HB1.out).mono ?_);rintro e w2 ⟨f1,a1,b1,c1,d1,rfl,he1,hb2⟩;have HE1:=Lib.hid he1;have HB2:Hid (Bel w w2):=Lib.hid (HB1.out.trans hb2);have C2:=HC2.out.bel hb2;have HD2:=Lib.hid C2;obtain ⟨r2,y2,u2⟩:=C2.facts;clear hb2 C2 he1))
   refine post_ret (results_one rfl (resIs_agg (n:=5) (cs:=#[.float .f64 a1,.float .f64 b1,.float .f64 c1,.float .f64 d1,.bool f1]) (by rfl) Tryz.underlying81 (by kernel_rfl) (T:=81) ?_ rfl)) (IsEnv.mk' HE1.out ?_)
   ·have HB:=HD2.out
    exact SL
   ·have HB:=HB2.out
    exact EL
  ·obtain ⟨p,cap,c,gs,hcs,-⟩:=ho.sl (e:=2) (k:=2) rfl
   subst hcs
   clear ho
   show Calls Tryz.prog 50 #[.agg #[.int .i64 5,.iface 168 (.pointer (some ⟨b,0,none⟩))]] w _
   have HM:Hid (∀ W,Bel w W→Calls Tryz.prog 78 #[.agg #[.int .i64 5,.iface 168 (.pointer (some ⟨b,0,none⟩))]] W fun e w'=>e=.returned (.agg #[.slice p gs.length cap,.int .u8 c])∧Bel W w'):=Lib.hid fun W hW=>mustAs_5 _ _ _ _ b W (cell_kept hW (hc 0 _ rfl)) (cell_kept hW (hc 1 _ rfl))
   have HC:Hid (∀ W,Bel w W→Calls Tryz.prog 138 #[.agg #[.slice p gs.length cap,.int .u8 c]] W (IsEnv (evOf g) W)):=Lib.hid fun W hW=>multiLineEnv_any W (HO.out W hW) hnn
   clear hc HO HIH hnn
   generalize evOf g=uv at *
   generalize gs.length=n at *
   go_enter Tryz.func50,Tryz.ntmps50
   go_wp2_with (first
    | (go_at_call 78;(with_reducible refine (HM.out _ ?hb).mono ?_);(case hb=>exact EL);rintro e w1 ⟨rfl,hb1⟩;have HB1:Hid (Bel w w1):=Lib.hid ((show Bel w _ by exact EL).trans hb1);have C2:Blk w1 (w.heap.size+1) #[.float .f64 0,.float .f64 0,.float .f64 0,.float .f64 0,.bool false] 81:=Blk.bel (by exact KL) hb1;have HC2:=Lib.hid C2;clear hb1 C2)
    | (go_at_call 138;(with_reducible refine (HC.out _ HB1.out).mono ?_);rintro e w2 ⟨f1,a1,b1,c1,d1,rfl,he1,hb2⟩;have HE1:=Lib.hid he1;have HB2:Hid (Bel w w2):=Lib.hid (HB1.out.trans hb2);have C2:=HC2.out.bel hb2;have HD2:=Lib.hid C2;obtain ⟨r2,y2,u2⟩:=C2.facts;clear hb2 C2 he1))
   refine post_ret (results_one rfl (resIs_agg (n:=5) (cs:=#[.float .f64 a1,.float .f64 b1,.float .f64 c1,.float .f64 d1,.bool f1]) (by rfl) Tryz.underlying81 (by kernel_rfl) (T:=81) ?_ rfl)) (IsEnv.mk' HE1.out ?_)
   ·have HB:=HD2.out
    exact SL
   ·have HB:=HB2.out
    exact EL
  ·obtain ⟨p,cap,c,gs,hcs,-⟩:=ho.sl (e:=3) (k:=2) rfl
   subst hcs
   clear ho
   show Calls Tryz.prog 50 #[.agg #[.int .i64 6,.iface 169 (.pointer (some ⟨b,0,none⟩))]] w _
   have HM:Hid (∀ W,Bel w W→Calls Tryz.prog 80 #[.agg #[.int .i64 6,.iface 169 (.pointer (some ⟨b,0,none⟩))]] W fun e w'=>e=.returned (.agg #[.slice p gs.length cap,.int .u8 c])∧Bel W w'):=Lib.hid fun W hW=>mustAs_6 _ _ _ _ b W (cell_kept hW (hc 0 _ rfl)) (cell_kept hW (hc 1 _ rfl))
   have HC:Hid (∀ W,Bel w W→Calls Tryz.prog 139 #[.agg #[.slice p gs.length cap,.int .u8 c]] W (IsEnv (evOf g) W)):=Lib.hid fun W hW=>multiPolygonEnv_any W (HO.out W hW) hnn
   clear hc HO HIH hnn
   generalize evOf g=uv at *
   generalize gs.length=n at *
   go_enter Tryz.func50,Tryz.ntmps50
   go_wp2_with (first
    | (go_at_call 80;(with_reducible refine (HM.out _ ?hb).mono ?_);(case hb=>exact EL);rintro e w1 ⟨rfl,hb1⟩;have HB1:Hid (Bel w w1):=Lib.hid ((show Bel w _ by exact EL).trans hb1);have C2:Blk w1 (w.heap.size+1) #[.float .f64 0,.float .f64 0,.float .f64 0,.float .f64 0,.bool false] 81:=Blk.bel (by exact KL) hb1;have HC2:=Lib.hid C2;clear hb1 C2)
    | (go_at_call 139;(with_reducible refine (HC.out _ HB1.out).mono ?_);rintro e w2 ⟨f1,a1,b1,c1,d1,rfl,he1,hb2⟩;have HE1:=Lib.hid he1;have HB2:Hid (Bel w w2):=Lib.hid (HB1.out.trans hb2);have C2:=HC2.out.bel hb2;have HD2:=Lib.hid C2;obtain ⟨r2,y2,u2⟩:=C2.facts;clear hb2 C2 he1))
   refine post_ret (results_one rfl (resIs_agg (n:=5) (cs:=#[.float .f64 a1,.float .f64 b1,.float .f64 c1,.float .f64 d1,.bool f1]) (by rfl) Tryz.underlying81 (by kernel_rfl) (T:=81) ?_ rfl)) (IsEnv.mk' HE1.out ?_)
   ·have HB:=HD2.out
    exact SL
   ·have HB:=HB2.out
    exact EL
theorem geoEnv_any (g:Gm):GeoEnv g:=geoEnv_ind g.size g (Nat.le_refl _)
end Go.Proofs.YtpipehenfcbjbaaGreatDoor
