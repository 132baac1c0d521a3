/-
 Envelopes of points,line strings,polygons. No panic;what stood in memory has not turned.
-/
import Derived.Test.YtpipehenfcbjbaaGreatDoorPai
import Derived.Test.YtpipehenfcbjbaaGreatDoorPak
import Derived.BigRegion
set_option linter.unusedVariables false
set_option linter.unusedSimpArgs false
namespace Go.Proofs.YtpipehenfcbjbaaGreatDoor
open Go.ChangeShapes Go.WideShapes Go.ChangeAt Go.RowKit Ieee
mutual
/-- A geometry's box: of a polygon that of its first ring. -/
def evOf:Gm→Ev
 | .mk k d ns ks=>(evNums (ct d) ns).join (if k=3 then evHead ks else evAll ks)
def evHead:List Gm→Ev
 | []=>.no
 | g :: _=>evOf g
def evAll:List Gm→Ev
 | []=>.no
 | g :: r=>(evOf g).join (evAll r)
end
/-- No number is a NaN. -/
def NN (g:Gm):Prop:=∀ x ∈ allOf g,nnB x=true
theorem NN.nums {g:Gm} (h:NN g):∀ x ∈ g.nums,nnB x=true:=fun x hx=>by
 cases g with
 | mk k d ns ks =>
  apply h
  rw [allOf]
  exact List.mem_append_left _ hx
theorem allOfs_mem:∀ {ks:List Gm} {k:Gm} {x:Nat},k ∈ ks→x ∈ allOf k→x ∈ allOfs ks
 | [],k,x,h,_=>by simp at h
 | a :: r,k,x,h,hx=>by
  rw [allOfs]
  rcases List.mem_cons.1 h with rfl|h
  ·exact List.mem_append_left _ hx
  ·exact List.mem_append_right _ (allOfs_mem h hx)
theorem NN.kid {g k:Gm} (h:NN g) (hk:k ∈ g.kids):NN k:=fun x hx=>by
 cases g with
 | mk kk d ns ks =>
  apply h
  rw [allOf]
  exact List.mem_append_right _ (allOfs_mem hk hx)
theorem evAll_take {gs:List Gm} {t:Nat} {g:Gm} (h:gs[t]?=some g):evAll (gs.take (t+1))=(evAll (gs.take t)).join (evOf g):=by
 have key:∀ (l:List Gm) (a:Gm),evAll (l ++ [a])=(evAll l).join (evOf a):=fun l a=>by
  induction l with
  | nil=>rw [List.nil_append,evAll,evAll,evAll,Ev.join_no,Ev.no_join]
  | cons x r ih=>rw [List.cons_append,evAll,evAll,ih,Ev.join_assoc]
 rw [List.take_add_one,h]
 exact key _ _
theorem evNums_nil (c:Nat):evNums c []=.no:=by
 unfold evNums
 rw [List.length_nil,Nat.zero_div]
 rfl
theorem evOf_line (c:Nat) (hc:c≤3) (xs:List Nat):evOf (.mk 2 c xs [])=evNums c xs:=by
 rw [evOf,if_neg (by decide),evAll,Ev.join_no,ct_nat hc]
theorem evNums_pl (c:Nat) (hc:c≤3) (p:Pl):evNums c (numsOfPl c p)=ptEv p.x p.y:=by
 unfold evNums
 rw [numsOfPl_len,Nat.div_self (by have:=wd_bd c;omega),evUp_one]
 rfl
set_option maxHeartbeats 4000000 in
set_option maxRecDepth 100000 in
theorem lineEnv_any {F:Nat→Prop} {cs:List Value} {g:Gm} {w0:World} (h:Ob F w0 2 cs g) (hnn:NN g) (w:World) (hw:Bel w0 w):Calls Tryz.prog 135 #[.agg cs.toArray] w (IsEnv (evOf g) w):=by
 obtain ⟨c,p,n,cap,xs,rfl,hc,rfl,hf,hm,hb⟩:=h.ln
 rw [evOf_line c hc]
 have HS:Hid (∀ W,Bel w W→Calls Tryz.prog 185 #[.agg #[.int .u8 c,.slice p n cap]] W (IsEnv (evNums c xs) W)):=Lib.hid fun W hW=>seqEnv_any F p n cap c xs hc hf hm hb hnn.nums W (hw.trans hW)
 generalize evNums c xs=uv at *
 clear h hf hm hb hnn hw
 show Calls Tryz.prog 135 #[.agg #[.int .u8 c,.slice p n cap]] w _
 go_enter Tryz.func135,Tryz.ntmps135
 go_wp2_with (go_at_call 185;(with_reducible refine (HS.out _ ?hb).mono ?_);(case hb=>exact EL);rintro e w1 ⟨f1,a1,b1,c1,d1,rfl,he1,hb1⟩;have HE1:=Lib.hid he1;have HB1:Hid (Bel w w1):=Lib.hid ((show Bel w _ by exact EL).trans hb1);have C2:Blk w1 (w.heap.size+1) #[.float .f64 0,.float .f64 0,.float .f64 0,.float .f64 0,.bool false] 81:=Blk.bel (by exact KL) hb1;have HC2:=Lib.hid C2;obtain ⟨r2,y2,u2⟩:=C2.facts;clear hb1 C2 he1)
 refine post_ret (results_one rfl (resIs_agg (n:=5) (cs:=#[.float .f64 a1,.float .f64 b1,.float .f64 c1,.float .f64 d1,.bool f1]) (by rfl) Tryz.underlying81 (by kernel_rfl) (T:=81) ?_ rfl)) (IsEnv.mk' HE1.out ?_)
 ·have HB:=HC2.out
  exact SL
 ·have HB:=HB1.out
  exact EL
set_option maxHeartbeats 4000000 in
set_option maxRecDepth 100000 in
theorem pointXY_any (x y z m c:Nat) (full:Bool) (w:World):Calls Tryz.prog 183 #[.agg #[.float .f64 x,.float .f64 y,.float .f64 z,.float .f64 m,.int .u8 c,.bool full]] w fun e w'=>e=.returned (.tuple #[.agg #[.float .f64 x,.float .f64 y],.bool full])∧Bel w w':=by
 go_enter Tryz.func183,Tryz.ntmps183
 go_wp2
 go_region
 all_goals
  go_wp2
  refine post_ret (results_two rfl (resIs_agg (n:=2) (cs:=#[.float .f64 x,.float .f64 y]) (by rfl) Tryz.underlying79 (by kernel_rfl) (T:=79) ?_ rfl) (resIs_tmp (by rfl))) ⟨rfl,?_⟩
  ·exact SL
  ·exact EL
set_option maxHeartbeats 4000000 in
set_option maxRecDepth 100000 in
theorem pointEnv_any {F:Nat→Prop} {cs:List Value} {g:Gm} {w0:World} (h:Ob F w0 1 cs g) (hnn:NN g) (w:World):Calls Tryz.prog 134 #[.agg cs.toArray] w (IsEnv (evOf g) w):=by
 obtain ⟨x,y,z,m,c,full,rfl,hc,rfl⟩:=h.pt
 have HX:=Lib.hid (pointXY_any x y z m c full)
 cases full
 ·have he:evOf (.mk 1 c (if false=true then numsOfPl c ⟨x,y,z,m⟩ else []) [])=.no:=by
   rw [if_neg (by decide),evOf,if_neg (by decide),evAll,Ev.join_no,evNums_nil]
  rw [he]
  have HR:Hid (EvW false 0 0 0 0 .no):=Lib.hid ⟨rfl,rfl,rfl,rfl,rfl⟩
  generalize Ev.no=uv at *
  clear h hnn he
  show Calls Tryz.prog 134 #[.agg #[.float .f64 x,.float .f64 y,.float .f64 z,.float .f64 m,.int .u8 c,.bool false]] w _
  go_enter Tryz.func134,Tryz.ntmps134
  go_wp2_with (go_at_call 183;(with_reducible refine (HX.out _).mono ?_);rintro e w1 ⟨rfl,hb1⟩;have HB1:Hid (Bel w w1):=Lib.hid ((show Bel w _ by exact EL).trans hb1);have C2:Blk w1 (w.heap.size+1) #[.float .f64 0,.float .f64 0,.float .f64 0,.float .f64 0,.bool false] 81:=Blk.bel (by exact KL) hb1;have HC2:=Lib.hid C2;obtain ⟨r2,y2,u2⟩:=C2.facts;clear hb1 C2)
  refine post_ret (results_one rfl (resIs_agg (n:=5) (cs:=#[.float .f64 0,.float .f64 0,.float .f64 0,.float .f64 0,.bool false]) (by rfl) Tryz.underlying81 (by kernel_rfl) (T:=81) ?_ rfl)) (IsEnv.mk' HR.out ?_)
  ·have HB:=HC2.out
   exact SL
  ·have HB:=HB1.out
   exact EL
 ·have he:evOf (.mk 1 c (if true=true then numsOfPl c ⟨x,y,z,m⟩ else []) [])=ptEv x y:=by
   rw [if_pos rfl,evOf,if_neg (by decide),evAll,Ev.join_no,ct_nat hc,evNums_pl c hc]
  have hn:=hnn.nums
  rw [if_pos rfl] at hn
  have hx:nnB x=true:=hn x (by simp [Gm.nums,numsOfPl])
  have hy:nnB y=true:=hn y (by simp [Gm.nums,numsOfPl])
  rw [he]
  have HE:=Lib.hid (expandXY_any x y hx hy)
  generalize ptEv x y=uv at *
  clear h hnn he hn hx hy
  show Calls Tryz.prog 134 #[.agg #[.float .f64 x,.float .f64 y,.float .f64 z,.float .f64 m,.int .u8 c,.bool true]] w _
  go_enter Tryz.func134,Tryz.ntmps134
  go_wp2_with (first
   | (go_at_call 184;(with_reducible refine (HE.out _).mono ?_);rintro e w2 ⟨f2,a2,b2,c2,d2,rfl,he2,hb2⟩;have HE2:=Lib.hid he2;have HB2:Hid (Bel w w2):=Lib.hid ((show Bel w _ by (have HB:=HB1.out;exact EL)).trans hb2);have C2:Blk w2 (w.heap.size+1) #[.float .f64 0,.float .f64 0,.float .f64 0,.float .f64 0,.bool false] 81:=Blk.bel (by (have HB:=HC2.out;exact KL)) hb2;have HD2:=Lib.hid C2;obtain ⟨r3,y3,u3⟩:=C2.facts;clear hb2 C2 he2)
   | (go_at_call 183;(with_reducible refine (HX.out _).mono ?_);rintro e w1 ⟨rfl,hb1⟩;have HB1:Hid (Bel w w1):=Lib.hid ((show Bel w _ by exact EL).trans hb1);have C2:Blk w1 (w.heap.size+1) #[.float .f64 0,.float .f64 0,.float .f64 0,.float .f64 0,.bool false] 81:=Blk.bel (by exact KL) hb1;have HC2:=Lib.hid C2;clear hb1 C2))
  refine post_ret (results_one rfl (resIs_agg (n:=5) (cs:=#[.float .f64 a2,.float .f64 b2,.float .f64 c2,.float .f64 d2,.bool f2]) (by rfl) Tryz.underlying81 (by kernel_rfl) (T:=81) ?_ rfl)) (IsEnv.mk' HE2.out ?_)
  ·have HB:=HD2.out
   exact SL
  ·have HB:=HB2.out
   exact EL
/-- A polygon's first ring. -/
def ringOf:Gm→Gm
 | .mk _ d _ ks=>match ks with
  | []=>.mk 2 d [] []
  | r :: _=>r
set_option maxHeartbeats 4000000 in
set_option maxRecDepth 100000 in
theorem extRing_any (F:Nat→Prop) {cs:List Value} {g:Gm} (w:World) (hF:New F w) (h:Ob F w 3 cs g):Calls Tryz.prog 73 #[.agg cs.toArray] w (IsOb F w 2 (ringOf g)):=by
 have HEM:Hid (∀ W,Calls Tryz.prog 122 #[.agg cs.toArray] W fun e w'=>e=.returned (.bool (emptyOf g))∧Bel W w'):=Lib.hid (polygonEmpty_any h)
 obtain ⟨p,cap,c,gs,rfl,hc,rfl,hn31,hsl⟩:=h.sl (e:=2) (k:=2) rfl
 change Hid (∀ W,Calls Tryz.prog 122 #[.agg #[.slice p gs.length cap,.int .u8 c]] W _) at HEM
 cases gs with
 | nil =>
  have he:emptyOf (.mk (3:Nat) c [] [])=true:=by
   simp [emptyOf]
  rw [he] at HEM
  have hr:ringOf (.mk (3:Nat) c [] [])=force c (.mk 2 0 [] []):=by
   rw [force,forceAll]
   rfl
  rw [hr]
  have HFO:Hid (∀ W,w.heap.size+2≤W.heap.size→Calls Tryz.prog 163 #[.agg #[.int .u8 0,.slice none 0 0],.int .u8 c] W (IsOb (Loc F w.heap.size 2) W 2 (force c (.mk 2 0 [] [])))):=Lib.hid fun W hW=>lineForce_any (Loc F w.heap.size 2) [.int .u8 0,.slice none 0 0] (.mk 2 0 [] []) c hc W (fun b hb=>⟨hF b (by omega),Or.inr (by omega)⟩) (.line 0 none 0 0 [] (by decide) (FlSl.nil _ _) (by decide) (by decide))
  clear h hsl he hr
  generalize force c (.mk 2 0 [] [])=fg at *
  show Calls Tryz.prog 73 #[.agg #[.slice p 0 cap,.int .u8 c]] w _
  change Hid (∀ W,Calls Tryz.prog 122 #[.agg #[.slice p 0 cap,.int .u8 c]] W _) at HEM
  go_enter Tryz.func73,Tryz.ntmps73
  go_wp2_with (first
   | (go_at_call 122;(with_reducible refine (HEM.out _).mono ?_);rintro e w1 ⟨rfl,hb1⟩;have HB1:Hid (Bel w w1):=Lib.hid ((show Bel w _ by exact EL).trans hb1);have HSZ1:Hid (w.heap.size+2≤w1.heap.size):=Lib.hid (by have:=hb1.size;simp at this;omega);have C1:Blk w1 w.heap.size #[.slice p 0 cap,.int .u8 c] 91:=Blk.bel (by exact KL) hb1;have C2:Blk w1 (w.heap.size+1) #[.int .u8 0,.slice none 0 0] 111:=Blk.bel (by exact KL) hb1;have HC2:=Lib.hid C2;obtain ⟨r2,y2,u2⟩:=C1.facts;clear hb1 C1 C2)
   | (go_at_call 163;(with_reducible refine (HFO.out _ HSZ1.out).mono ?_);rintro e w2 ⟨cs2,rfl,ho2,hb2⟩;obtain ⟨c2,p2,n2,q2,xs2,hcs2,-⟩:=ho2.ln;cases hcs2;have HO2:=Lib.hid ho2;have HB2:Hid (Bel w w2):=Lib.hid (HB1.out.trans hb2);have C2:=HC2.out.bel hb2;have HD2:=Lib.hid C2;obtain ⟨r3,y3,u3⟩:=C2.facts;clear hb2 C2 ho2))
  refine post_ret (results_one rfl (resIs_agg (n:=2) (cs:=#[.int .u8 c2,.slice p2 n2 q2]) (by rfl) Tryz.underlying111 (by kernel_rfl) (T:=111) ?_ rfl)) ⟨[.int .u8 c2,.slice p2 n2 q2],rfl,?_,?_⟩
  ·have HB:=HD2.out
   exact SL
  ·exact Ob.out (((HO2.out.set (Loc.not (Nat.le_succ _) (by omega)) 0 _).set (Loc.not (Nat.le_succ _) (by omega)) 1 _))
  ·have HB:=HB2.out
   exact EL
 | cons r rs =>
  have he:emptyOf (.mk (3:Nat) c [] (r :: rs))=false:=by
   simp [emptyOf]
  rw [he] at HEM
  have hr:ringOf (.mk (3:Nat) c [] (r :: rs))=r:=rfl
  rw [hr]
  obtain ⟨_,_,hve,_,_,hq⟩:=hsl
  cases hve
  obtain ⟨b,off,rfl,hlt,-,hrow⟩:=hq (by simp)
  obtain ⟨cl,hcl,hcell,hob⟩:=hrow 0 r rfl
  obtain ⟨c2,p2,n2,q2,xs2,hcs2,-⟩:=hob.ln
  cases hcs2
  have D0:=hcell 0 (.int .u8 c2) rfl
  have D1:=hcell 1 (.slice p2 n2 q2) rfl
  simp only [Nat.zero_mul,Nat.add_zero,Nat.zero_add] at D0 D1
  have HOB:Hid (Ob (Loc F w.heap.size 2) w 2 [.int .u8 c2,.slice p2 n2 q2] r):=Lib.hid (hob.loc 2)
  have hlen:0<(r :: rs).length:=by simp
  have HD0:=Lib.hid D0
  have HD1:=Lib.hid D1
  clear h he hr hq hrow hcell hob D0 D1 hcl
  show Calls Tryz.prog 73 #[.agg #[.slice (some ⟨b,off,none⟩) (r :: rs).length cap,.int .u8 c]] w _
  generalize (r :: rs).length=n at *
  go_enter Tryz.func73,Tryz.ntmps73
  go_wp2_with (go_at_call 122;(with_reducible refine (HEM.out _).mono ?_);rintro e w1 ⟨rfl,hb1⟩;have hbw:Bel w w1:=((show Bel w _ by exact EL).trans hb1);have HB1:=Lib.hid hbw;have C1:Blk w1 w.heap.size #[.slice (some ⟨b,off,none⟩) n cap,.int .u8 c] 91:=Blk.bel (by exact KL) hb1;have C2:Blk w1 (w.heap.size+1) #[.int .u8 0,.slice none 0 0] 111:=Blk.bel (by exact KL) hb1;have HC2:=Lib.hid C2;obtain ⟨r2,y2,u2⟩:=C1.facts;obtain ⟨r3,y3,u3⟩:=C2.facts;have E0:=cell_kept hbw HD0.out;have E1:=cell_kept hbw HD1.out;have hbn:b<w1.heap.size:=Nat.lt_of_lt_of_le hlt hbw.size;clear hb1 C1 C2 hbw)
  refine post_ret (results_one rfl (resIs_agg (n:=2) (cs:=#[.int .u8 c2,.slice p2 n2 q2]) (by rfl) Tryz.underlying111 (by kernel_rfl) (T:=111) ?_ rfl)) ⟨[.int .u8 c2,.slice p2 n2 q2],rfl,?_,?_⟩
  ·have HB:=HC2.out
   exact SL
  ·exact Ob.out ((((HOB.out.bel HB1.out).set (Loc.not (Nat.le_succ _) (by omega)) 0 _).set (Loc.not (Nat.le_succ _) (by omega)) 1 _))
  ·have HB:=HB1.out
   exact EL
set_option maxHeartbeats 4000000 in
set_option maxRecDepth 100000 in
theorem polyEnv_any {F:Nat→Prop} {cs:List Value} {g:Gm} {w0:World} (h:Ob F w0 3 cs g) (hnn:NN g) (w:World) (hw:Bel w0 w):Calls Tryz.prog 136 #[.agg cs.toArray] w (IsEnv (evOf g) w):=by
 have HER:Hid (∀ W,Bel w W→Calls Tryz.prog 73 #[.agg cs.toArray] W (IsOb (fun _=>True) W 2 (ringOf g))):=Lib.hid fun W hW=>extRing_any (fun _=>True) W (New.any W) (((h.bel hw).bel hW).mono fun _ _ _=>trivial)
 obtain ⟨p,cap,c,gs,rfl,hc,rfl,hn31,hsl⟩:=h.sl (e:=2) (k:=2) rfl
 change Hid (∀ W,Bel w W→Calls Tryz.prog 73 #[.agg #[.slice p gs.length cap,.int .u8 c]] W _) at HER
 have hev:evOf (.mk (3:Nat) c [] gs)=evOf (ringOf (.mk (3:Nat) c [] gs)):=by
  rw [evOf,if_pos (by rfl),evNums_nil,Ev.no_join]
  cases gs with
  | nil =>
   have:ringOf (.mk (3:Nat) c [] [])=.mk 2 c [] []:=rfl
   rw [this,evOf_line c hc,evNums_nil]
   rfl
  | cons r rs=>rfl
 have hn2:NN (ringOf (.mk (3:Nat) c [] gs)):=by
  cases gs with
  | nil =>
   intro x hx
   simp [ringOf,allOf,allOfs] at hx
  | cons r rs=>exact hnn.kid (by simp [Gm.kids,ringOf])
 rw [hev]
 generalize ringOf (.mk (3:Nat) c [] gs)=rg at *
 have HLE:Hid (∀ (cl:List Value) (W W':World),Ob (fun _=>True) W 2 cl rg→Bel W W'→Calls Tryz.prog 135 #[.agg cl.toArray] W' (IsEnv (evOf rg) W')):=Lib.hid fun cl W W' ho hb=>lineEnv_any ho hn2 W' hb
 generalize evOf rg=uv at *
 clear h hsl hnn hev hn2 hw
 show Calls Tryz.prog 136 #[.agg #[.slice p gs.length cap,.int .u8 c]] w _
 generalize gs.length=n at *
 go_enter Tryz.func136,Tryz.ntmps136
 go_wp2_with (first
  | (go_at_call 73;(with_reducible refine (HER.out _ ?hb).mono ?_);(case hb=>exact EL);rintro e w1 ⟨cs1,rfl,ho1,hb1⟩;obtain ⟨c2,p2,n2,q2,xs2,hcs2,-⟩:=ho1.ln;cases hcs2;have HL1:=Lib.hid (HLE.out _ _ _ ho1 (Bel.refl _));have HB1:Hid (Bel w w1):=Lib.hid ((show Bel w _ by exact EL).trans hb1);have C2:Blk w1 (w.heap.size+1) #[.float .f64 0,.float .f64 0,.float .f64 0,.float .f64 0,.bool false] 81:=Blk.bel (by exact KL) hb1;have HC2:=Lib.hid C2;clear hb1 C2 ho1)
  | (go_at_call 135;(with_reducible refine (HL1.out).mono ?_);rintro e w2 ⟨f1,a1,b1,c1,d1,rfl,he1,hb2⟩;have HE1:=Lib.hid he1;have HB2:Hid (Bel w w2):=Lib.hid (HB1.out.trans hb2);have C2:=HC2.out.bel hb2;have HD2:=Lib.hid C2;obtain ⟨r2,y2,u2⟩:=C2.facts;clear hb2 C2 he1))
 refine post_ret (results_one rfl (resIs_agg (n:=5) (cs:=#[.float .f64 a1,.float .f64 b1,.float .f64 c1,.float .f64 d1,.bool f1]) (by rfl) Tryz.underlying81 (by kernel_rfl) (T:=81) ?_ rfl)) (IsEnv.mk' HE1.out ?_)
 ·have HB:=HD2.out
  exact SL
 ·have HB:=HB2.out
  exact EL
end Go.Proofs.YtpipehenfcbjbaaGreatDoor
set_option linter.unusedVariables false
set_option linter.unusedSimpArgs false
namespace Go.Proofs.YtpipehenfcbjbaaGreatDoor
open Go.ChangeShapes Go.WideShapes Go.ChangeAt Go.RowKit
set_option maxHeartbeats 4000000 in
set_option maxRecDepth 100000 in
theorem minMax_any {f:Bool} {a b c d:Nat} (h0:f=false→a=0∧b=0∧c=0∧d=0) (w:World):Calls Tryz.prog 132 #[.agg #[.float .f64 a,.float .f64 b,.float .f64 c,.float .f64 d,.bool f]] w fun e w'=>e=.returned (.tuple #[.agg #[.float .f64 a,.float .f64 b],.agg #[.float .f64 c,.float .f64 d],.bool f])∧Bel w w':=by
 have HE:=Lib.hid (envEmpty_any a b c d f)
 cases f
 ·obtain ⟨rfl,rfl,rfl,rfl⟩:=h0 rfl
  go_enter Tryz.func132,Tryz.ntmps132
  go_wp2_with (go_at_call 181;(with_reducible refine (HE.out _).mono ?_);rintro e w1 ⟨rfl,hb1⟩;have HB1:Hid (Bel w w1):=Lib.hid ((show Bel w _ by exact EL).trans hb1);have C1:Blk w1 (w.heap.size+1) #[.float .f64 0,.float .f64 0] 79:=Blk.bel (by exact KL) hb1;have C2:Blk w1 (w.heap.size+1+1) #[.float .f64 0,.float .f64 0] 79:=Blk.bel (by exact KL) hb1;have HC1:=Lib.hid C1;have HC2:=Lib.hid C2;obtain ⟨r1,y1,u1⟩:=C1.facts;obtain ⟨r2,y2,u2⟩:=C2.facts;clear hb1 C1 C2)
  refine post_ret (results_three rfl (resIs_agg (n:=2) (cs:=#[.float .f64 0,.float .f64 0]) (by rfl) Tryz.underlying79 (by kernel_rfl) (T:=79) ?_ rfl) (resIs_agg (n:=2) (cs:=#[.float .f64 0,.float .f64 0]) (by rfl) Tryz.underlying79 (by kernel_rfl) (T:=79) ?_ rfl) (resIs_tmp (by rfl))) ⟨rfl,?_⟩
  ·have HB:=HC1.out
   exact SL
  ·have HB:=HC2.out
   exact SL
  ·have HB:=HB1.out
   exact EL
 ·clear h0
  go_enter Tryz.func132,Tryz.ntmps132
  go_wp2_with (go_at_call 181;(with_reducible refine (HE.out _).mono ?_);rintro e w1 ⟨rfl,hb1⟩;have HB1:Hid (Bel w w1):=Lib.hid ((show Bel w _ by exact EL).trans hb1);have C0:Blk w1 w.heap.size #[.float .f64 a,.float .f64 b,.float .f64 c,.float .f64 d,.bool true] 81:=Blk.bel (by exact KL) hb1;have C1:Blk w1 (w.heap.size+1) #[.float .f64 0,.float .f64 0] 79:=Blk.bel (by exact KL) hb1;have C2:Blk w1 (w.heap.size+1+1) #[.float .f64 0,.float .f64 0] 79:=Blk.bel (by exact KL) hb1;have HC1:=Lib.hid C1;have HC2:=Lib.hid C2;obtain ⟨r0,y0,u0⟩:=C0.facts;obtain ⟨r1,y1,u1⟩:=C1.facts;obtain ⟨r2,y2,u2⟩:=C2.facts;clear hb1 C0 C1 C2)
  go_region
  all_goals
   go_wp2
   refine post_ret (results_three rfl (resIs_agg (n:=2) (cs:=#[.float .f64 a,.float .f64 b]) (by rfl) Tryz.underlying79 (by kernel_rfl) (T:=79) ?_ rfl) (resIs_agg (n:=2) (cs:=#[.float .f64 c,.float .f64 d]) (by rfl) Tryz.underlying79 (by kernel_rfl) (T:=79) ?_ rfl) (resIs_tmp (by rfl))) ⟨rfl,?_⟩
   ·have HB:=HC1.out
    exact SL
   ·have HB:=HC2.out
    exact SL
   ·have HB:=HB1.out
    exact EL
theorem EvW.zero {f:Bool} {a b c d:Nat} {v:Ev} (h:EvW f a b c d v):f=false→a=0∧b=0∧c=0∧d=0:=by
 intro hf
 cases v with
 | no=>exact h.2
 | bx=>exact absurd (h.1.symm.trans hf) (by decide)
def IsPlainEnv (v:Ev) (w:World) (e:Ending) (w':World):Prop:=∃ f a b c d,e=.returned (.agg #[.bool f,.float .f64 a,.float .f64 b,.float .f64 c,.float .f64 d])∧EvW f a b c d v∧Bel w w'
set_option maxHeartbeats 4000000 in
set_option maxRecDepth 100000 in
theorem plainEnv_any {f:Bool} {a b c d:Nat} {v:Ev} (h:EvW f a b c d v) (w:World):Calls Tryz.prog 49 #[.agg #[.float .f64 a,.float .f64 b,.float .f64 c,.float .f64 d,.bool f]] w (IsPlainEnv v w):=by
 have HM:=Lib.hid (minMax_any h.zero)
 have HV:=Lib.hid h
 clear h
 go_enter Tryz.func49,Tryz.ntmps49
 go_wp2_with (go_at_call 132;(with_reducible refine (HM.out _).mono ?_);rintro e w1 ⟨rfl,hb1⟩;have HB1:Hid (Bel w w1):=Lib.hid ((show Bel w _ by exact EL).trans hb1);have C1:Blk w1 (w.heap.size+1) #[.bool false,.float .f64 0,.float .f64 0,.float .f64 0,.float .f64 0] 31:=Blk.bel (by exact KL) hb1;have HC1:=Lib.hid C1;have r9:=fun x y=>(show Blk ((w1.alloc x).alloc y) _ _ _ from (C1.alloc x).alloc y).facts.1;have y9:=fun x y=>(show Blk ((w1.alloc x).alloc y) _ _ _ from (C1.alloc x).alloc y).facts.2.1;obtain ⟨r1,y1,u1⟩:=C1.facts;clear hb1 C1)
 refine post_ret (results_one rfl (resIs_agg (n:=5) (cs:=#[.bool f,.float .f64 a,.float .f64 b,.float .f64 c,.float .f64 d]) (by rfl) Tryz.underlying31 (by kernel_rfl) (T:=31) ?_ rfl)) ⟨f,a,b,c,d,rfl,HV.out,?_⟩
 ·have HB:=HC1.out
  exact SL
 ·have HB:=HB1.out
  exact EL
end Go.Proofs.YtpipehenfcbjbaaGreatDoor
