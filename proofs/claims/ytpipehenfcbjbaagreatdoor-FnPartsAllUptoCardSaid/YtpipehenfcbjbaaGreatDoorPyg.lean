/-
 impl.part where the number is in its bounds: the part. No panic;what stood in memory has not turned.
-/
import Derived.Test.YtpipehenfcbjbaaGreatDoorPye
import Derived.Test.YtpipehenfcbjbaaGreatDoorPal
import Derived.Laws.Panics
import Derived.Test.YtpipehenfcbjbaaGreatDoorPai
import Derived.Recover
import Derived.Test.YtpipehenfcbjbaaGreatDoorPah
set_option linter.unusedVariables false
set_option linter.unusedSimpArgs false
namespace Go.Proofs.YtpipehenfcbjbaaGreatDoor
open Go.ChangeShapes Go.WideShapes Go.ChangeAt Go.RowKit
abbrev Any':Nat→Prop:=fun _=>True
def IsPart (kid:Gm) (w:World) (e:Ending) (w':World):Prop:=∃ cs:List Value,e=.returned (.tuple #[.agg cs.toArray,.bool true])∧Ob Any' w' 7 cs kid∧Bel w w'
set_option maxHeartbeats 4000000 in
set_option maxRecDepth 100000 in
theorem part_0 (g kid:Gm) (i:Nat) (hk:g.kids[i]?=some kid) (b:Nat) (cl:List Value) (w:World) (hc:∀ (j:Nat) (u:Value),cl[j]?=some u→w.cell? ⟨b,j,none⟩=some u) (ho:Ob Any' w 0 cl g):Calls Tryz.prog 38 #[.agg #[.int .i64 0,.iface 170 (.pointer (some ⟨b,0,none⟩))],.int .i64 i] w (IsPart kid w):=by
 have HEL:Hid (∀ W,Bel w W→w.heap.size+2≤W.heap.size→Calls Tryz.prog 84 #[.agg cl.toArray,.int .i64 i] W (IsEl (fun b=>b ≠ w.heap.size+1) 7 kid W)):=Lib.hid fun W hW _=>elem_0 (ho.mono (G:=fun b=>b ≠ w.heap.size+1) fun b hl _=>by omega) hk W hW
 obtain ⟨p,cap,c,gs,hcs,-,hge,hn31,-⟩:=ho.sl (e:=7) (k:=2) rfl
 subst hcs
 clear hge
 have HM:Hid (∀ W,Bel w W→Calls Tryz.prog 83 #[.agg #[.int .i64 0,.iface 170 (.pointer (some ⟨b,0,none⟩))]] W fun e w'=>e=.returned (.agg #[.slice p gs.length cap,.int .u8 c])∧Bel W w'):=Lib.hid fun W hW=>mustAs_0 p gs.length cap c b W (cell_kept hW (hc 0 _ rfl)) (cell_kept hW (hc 1 _ rfl))
 change Hid (∀ W,Bel w W→w.heap.size+2≤W.heap.size→Calls Tryz.prog 84 #[.agg #[.slice p gs.length cap,.int .u8 c],.int .i64 i] W (IsEl (fun b=>b ≠ w.heap.size+1) 7 kid W)) at HEL
 have HK:=Lib.hid geoKind_any
 clear hc ho hk
 generalize gs.length=n at *
 go_enter Tryz.func38,Tryz.ntmps38
 go_wp2_with (first
  | (go_at_call 84;(with_reducible refine (HEL.out _ HB2.out HS2.out).mono ?_);rintro e w3 ⟨cl3,rfl,hob3,hb3⟩;obtain ⟨a3,v3,z3,hc3,-⟩:=hob3.gi;subst hc3;have HOB:=Lib.hid hob3;have HB3:Hid (Bel w w3):=Lib.hid (HB2.out.trans hb3);have C3:=HR2.out.bel hb3;have HR3:=Lib.hid C3;obtain ⟨q3,q4,q5⟩:=C3.facts;clear hob3 hb3 C3)
  | (go_at_call 83;(with_reducible refine (HM.out _ HB1.out).mono ?_);rintro e w2 ⟨rfl,hb2⟩;have HB2:Hid (Bel w w2):=Lib.hid (HB1.out.trans hb2);have HS2:Hid (w.heap.size+2≤w2.heap.size):=Lib.hid (Nat.le_trans HS1.out hb2.size);have HR2:=Lib.hid (HR1.out.bel hb2);clear hb2)
  | (go_at_call 44;(with_reducible refine (HK.out _ _ _).mono ?_);rintro e w1 ⟨rfl,hb1⟩;have HB1:Hid (Bel w w1):=Lib.hid ((show Bel w _ by exact EL).trans hb1);have HS1:Hid (w.heap.size+2≤w1.heap.size):=Lib.hid (by have:=hb1.size;simp at this;omega);have C1:Blk w1 w.heap.size #[.int .i64 0,.iface 170 (.pointer (some ⟨b,0,none⟩))] 64:=Blk.bel (by exact KL) hb1;obtain ⟨r1,y1,l1⟩:=C1.facts;have HR1:Hid (Blk w1 (w.heap.size+1) #[.int .i64 0,.nilIface] 64):=Lib.hid (Blk.bel (by exact KL) hb1);clear hb1 C1))
 refine post_ret (results_two rfl (resIs_agg (n:=2) (cs:=#[.int .i64 a3,.iface (ptrT a3) (.pointer (some ⟨v3,0,none⟩))]) (by rfl) Tryz.underlying64 (by kernel_rfl) (T:=64) ?_ rfl) (resIs_tmp (by rfl))) ⟨[.int .i64 a3,.iface (ptrT a3) (.pointer (some ⟨v3,0,none⟩))],rfl,?_,?_⟩
 ·have HB:=HR3.out
  exact SL
 ·exact ((HOB.out.set (b:=w.heap.size+1) (by simp) 0 _).set (b:=w.heap.size+1) (by simp) 1 _).mono fun _ _ _=>trivial
 ·have HB:=HB3.out
  exact EL
set_option maxHeartbeats 4000000 in
set_option maxRecDepth 100000 in
theorem part_3a (g kid:Gm) (hrg:ringOf g=kid) (b:Nat) (cl:List Value) (w:World) (hc:∀ (j:Nat) (u:Value),cl[j]?=some u→w.cell? ⟨b,j,none⟩=some u) (ho:Ob Any' w 3 cl g):Calls Tryz.prog 38 #[.agg #[.int .i64 3,.iface 165 (.pointer (some ⟨b,0,none⟩))],.int .i64 0] w (IsPart kid w):=by
 have HEL:Hid (∀ W,Bel w W→w.heap.size+2≤W.heap.size→Calls Tryz.prog 73 #[.agg cl.toArray] W (IsOb (fun b=>b ≠ w.heap.size+1) W 2 kid)):=Lib.hid fun W hW hs=>by
  rw [← hrg]
  exact extRing_any _ W (fun b hb=>by omega) ((ho.mono (G:=fun b=>b ≠ w.heap.size+1) fun b hl _=>by omega).bel hW)
 obtain ⟨p,cap,c,gs,hcs,-,hge,hn31,-⟩:=ho.sl (e:=2) (k:=2) rfl
 subst hcs
 clear hge
 have HM:Hid (∀ W,Bel w W→Calls Tryz.prog 72 #[.agg #[.int .i64 3,.iface 165 (.pointer (some ⟨b,0,none⟩))]] W fun e w'=>e=.returned (.agg #[.slice p gs.length cap,.int .u8 c])∧Bel W w'):=Lib.hid fun W hW=>mustAs_3 p gs.length cap c b W (cell_kept hW (hc 0 _ rfl)) (cell_kept hW (hc 1 _ rfl))
 change Hid (∀ W,Bel w W→w.heap.size+2≤W.heap.size→Calls Tryz.prog 73 #[.agg #[.slice p gs.length cap,.int .u8 c]] W (IsOb (fun b=>b ≠ w.heap.size+1) W 2 kid)) at HEL
 have HAS:Hid (∀ (cs:List Value) (W:World),Ob (fun b=>b ≠ w.heap.size+1) W 2 cs kid→w.heap.size+2≤W.heap.size→Calls Tryz.prog 74 #[.agg cs.toArray] W (IsOb (fun b=>b ≠ w.heap.size+1) W 7 kid)):=Lib.hid fun cs W h hs=>asGeo_2 _ cs kid W (fun b hb=>by omega) h
 have HK:=Lib.hid geoKind_any
 clear hc ho hrg
 generalize gs.length=n at *
 go_enter Tryz.func38,Tryz.ntmps38
 go_wp2_with (first
  | (go_at_call 74;(with_reducible refine (HAS.out cl3 w3 HOB.out HS3.out).mono ?_);rintro e w4 ⟨cl4,rfl,hob4,hb4⟩;obtain ⟨a4,v4,z4,hc4,-⟩:=hob4.gi;subst hc4;have HOB4:=Lib.hid hob4;have HB4:Hid (Bel w w4):=Lib.hid (HB3.out.trans hb4);have C4:=HR3.out.bel hb4;have HR4:=Lib.hid C4;obtain ⟨q3,q4,q5⟩:=C4.facts;clear hob4 hb4 C4)
  | (go_at_call 73;(with_reducible refine (HEL.out _ HB2.out HS2.out).mono ?_);rintro e w3 ⟨cl3,rfl,hob3,hb3⟩;have HOB:=Lib.hid hob3;have HS3:Hid (w.heap.size+2≤w3.heap.size):=Lib.hid (Nat.le_trans HS2.out hb3.size);have HB3:Hid (Bel w w3):=Lib.hid (HB2.out.trans hb3);have HR3:=Lib.hid (HR2.out.bel hb3);clear hob3 hb3)
  | (go_at_call 72;(with_reducible refine (HM.out _ HB1.out).mono ?_);rintro e w2 ⟨rfl,hb2⟩;have HB2:Hid (Bel w w2):=Lib.hid (HB1.out.trans hb2);have HS2:Hid (w.heap.size+2≤w2.heap.size):=Lib.hid (Nat.le_trans HS1.out hb2.size);have HR2:=Lib.hid (HR1.out.bel hb2);clear hb2)
  | (go_at_call 44;(with_reducible refine (HK.out _ _ _).mono ?_);rintro e w1 ⟨rfl,hb1⟩;have HB1:Hid (Bel w w1):=Lib.hid ((show Bel w _ by exact EL).trans hb1);have HS1:Hid (w.heap.size+2≤w1.heap.size):=Lib.hid (by have:=hb1.size;simp at this;omega);have C1:Blk w1 w.heap.size #[.int .i64 3,.iface 165 (.pointer (some ⟨b,0,none⟩))] 64:=Blk.bel (by exact KL) hb1;obtain ⟨r1,y1,l1⟩:=C1.facts;have HR1:Hid (Blk w1 (w.heap.size+1) #[.int .i64 0,.nilIface] 64):=Lib.hid (Blk.bel (by exact KL) hb1);clear hb1 C1))
 refine post_ret (results_two rfl (resIs_agg (n:=2) (cs:=#[.int .i64 a4,.iface (ptrT a4) (.pointer (some ⟨v4,0,none⟩))]) (by rfl) Tryz.underlying64 (by kernel_rfl) (T:=64) ?_ rfl) (resIs_tmp (by rfl))) ⟨[.int .i64 a4,.iface (ptrT a4) (.pointer (some ⟨v4,0,none⟩))],rfl,?_,?_⟩
 ·have HB:=HR4.out
  exact SL
 ·exact ((HOB4.out.set (b:=w.heap.size+1) (by simp) 0 _).set (b:=w.heap.size+1) (by simp) 1 _).mono fun _ _ _=>trivial
 ·have HB:=HB4.out
  exact EL
set_option maxHeartbeats 4000000 in
set_option maxRecDepth 100000 in
theorem part_3b (g kid:Gm) (i j:Nat) (hj:j+1=i) (hk:g.kids[i]?=some kid) (b:Nat) (cl:List Value) (w:World) (hc:∀ (j:Nat) (u:Value),cl[j]?=some u→w.cell? ⟨b,j,none⟩=some u) (ho:Ob Any' w 3 cl g):Calls Tryz.prog 38 #[.agg #[.int .i64 3,.iface 165 (.pointer (some ⟨b,0,none⟩))],.int .i64 i] w (IsPart kid w):=by
 have HEL:Hid (∀ W,Bel w W→w.heap.size+2≤W.heap.size→Calls Tryz.prog 75 #[.agg cl.toArray,.int .i64 j] W (IsEl (fun b=>b ≠ w.heap.size+1) 2 kid W)):=Lib.hid fun W hW _=>elem_3 (ho.mono (G:=fun b=>b ≠ w.heap.size+1) fun b hl _=>by omega) hk W hW hj
 have hil:i<g.kids.length:=(List.getElem?_eq_some_iff.1 hk).1
 obtain ⟨p,cap,c,gs,hcs,-,hge,hn31,-⟩:=ho.sl (e:=2) (k:=2) rfl
 subst hcs
 rw [hge] at hil
 change i<gs.length at hil
 clear hge
 have hi0:((i:Int) == 0)=false:=by simp<;>omega
 have hiw:IntKind.i64.wrap ((i:Int) - 1)=(j:Int):=by
  rw [IntKind.wrap_i64]
  omega
 have HM:Hid (∀ W,Bel w W→Calls Tryz.prog 72 #[.agg #[.int .i64 3,.iface 165 (.pointer (some ⟨b,0,none⟩))]] W fun e w'=>e=.returned (.agg #[.slice p gs.length cap,.int .u8 c])∧Bel W w'):=Lib.hid fun W hW=>mustAs_3 p gs.length cap c b W (cell_kept hW (hc 0 _ rfl)) (cell_kept hW (hc 1 _ rfl))
 change Hid (∀ W,Bel w W→w.heap.size+2≤W.heap.size→Calls Tryz.prog 75 #[.agg #[.slice p gs.length cap,.int .u8 c],.int .i64 j] W (IsEl (fun b=>b ≠ w.heap.size+1) 2 kid W)) at HEL
 have HAS:Hid (∀ (cs:List Value) (W:World),Ob (fun b=>b ≠ w.heap.size+1) W 2 cs kid→w.heap.size+2≤W.heap.size→Calls Tryz.prog 74 #[.agg cs.toArray] W (IsOb (fun b=>b ≠ w.heap.size+1) W 7 kid)):=Lib.hid fun cs W h hs=>asGeo_2 _ cs kid W (fun b hb=>by omega) h
 have HK:=Lib.hid geoKind_any
 clear hc ho hk
 generalize gs.length=n at *
 go_enter Tryz.func38,Tryz.ntmps38
 go_wp2_with (first
  | (go_at_call 74;(with_reducible refine (HAS.out cl3 w3 HOB.out HS3.out).mono ?_);rintro e w4 ⟨cl4,rfl,hob4,hb4⟩;obtain ⟨a4,v4,z4,hc4,-⟩:=hob4.gi;subst hc4;have HOB4:=Lib.hid hob4;have HB4:Hid (Bel w w4):=Lib.hid (HB3.out.trans hb4);have C4:=HR3.out.bel hb4;have HR4:=Lib.hid C4;obtain ⟨q3,q4,q5⟩:=C4.facts;clear hob4 hb4 C4)
  | (go_at_call 75;(with_reducible refine (HEL.out _ HB2.out HS2.out).mono ?_);rintro e w3 ⟨cl3,rfl,hob3,hb3⟩;have HOB:=Lib.hid hob3;have HS3:Hid (w.heap.size+2≤w3.heap.size):=Lib.hid (Nat.le_trans HS2.out hb3.size);have HB3:Hid (Bel w w3):=Lib.hid (HB2.out.trans hb3);have HR3:=Lib.hid (HR2.out.bel hb3);clear hob3 hb3)
  | (go_at_call 72;(with_reducible refine (HM.out _ HB1.out).mono ?_);rintro e w2 ⟨rfl,hb2⟩;have HB2:Hid (Bel w w2):=Lib.hid (HB1.out.trans hb2);have HS2:Hid (w.heap.size+2≤w2.heap.size):=Lib.hid (Nat.le_trans HS1.out hb2.size);have HR2:=Lib.hid (HR1.out.bel hb2);clear hb2)
  | (go_at_call 44;(with_reducible refine (HK.out _ _ _).mono ?_);rintro e w1 ⟨rfl,hb1⟩;have HB1:Hid (Bel w w1):=Lib.hid ((show Bel w _ by exact EL).trans hb1);have HS1:Hid (w.heap.size+2≤w1.heap.size):=Lib.hid (by have:=hb1.size;simp at this;omega);have C1:Blk w1 w.heap.size #[.int .i64 3,.iface 165 (.pointer (some ⟨b,0,none⟩))] 64:=Blk.bel (by exact KL) hb1;obtain ⟨r1,y1,l1⟩:=C1.facts;have HR1:Hid (Blk w1 (w.heap.size+1) #[.int .i64 0,.nilIface] 64):=Lib.hid (Blk.bel (by exact KL) hb1);clear hb1 C1))
 refine post_ret (results_two rfl (resIs_agg (n:=2) (cs:=#[.int .i64 a4,.iface (ptrT a4) (.pointer (some ⟨v4,0,none⟩))]) (by rfl) Tryz.underlying64 (by kernel_rfl) (T:=64) ?_ rfl) (resIs_tmp (by rfl))) ⟨[.int .i64 a4,.iface (ptrT a4) (.pointer (some ⟨v4,0,none⟩))],rfl,?_,?_⟩
 ·have HB:=HR4.out
  exact SL
 ·exact ((HOB4.out.set (b:=w.heap.size+1) (by simp) 0 _).set (b:=w.heap.size+1) (by simp) 1 _).mono fun _ _ _=>trivial
 ·have HB:=HB4.out
  exact EL
set_option maxHeartbeats 4000000 in
set_option maxRecDepth 100000 in
theorem part_4 (g kid:Gm) (i:Nat) (hk:g.kids[i]?=some kid) (b:Nat) (cl:List Value) (w:World) (hc:∀ (j:Nat) (u:Value),cl[j]?=some u→w.cell? ⟨b,j,none⟩=some u) (ho:Ob Any' w 4 cl g):Calls Tryz.prog 38 #[.agg #[.int .i64 4,.iface 167 (.pointer (some ⟨b,0,none⟩))],.int .i64 i] w (IsPart kid w):=by
 have HEL:Hid (∀ W,Bel w W→w.heap.size+2≤W.heap.size→Calls Tryz.prog 77 #[.agg cl.toArray,.int .i64 i] W (IsEl (fun b=>b ≠ w.heap.size+1) 1 kid W)):=Lib.hid fun W hW _=>elem_4 (ho.mono (G:=fun b=>b ≠ w.heap.size+1) fun b hl _=>by omega) hk W hW
 obtain ⟨p,cap,c,gs,hcs,-,hge,hn31,-⟩:=ho.sl (e:=1) (k:=6) rfl
 subst hcs
 clear hge
 have HM:Hid (∀ W,Bel w W→Calls Tryz.prog 76 #[.agg #[.int .i64 4,.iface 167 (.pointer (some ⟨b,0,none⟩))]] W fun e w'=>e=.returned (.agg #[.slice p gs.length cap,.int .u8 c])∧Bel W w'):=Lib.hid fun W hW=>mustAs_4 p gs.length cap c b W (cell_kept hW (hc 0 _ rfl)) (cell_kept hW (hc 1 _ rfl))
 change Hid (∀ W,Bel w W→w.heap.size+2≤W.heap.size→Calls Tryz.prog 77 #[.agg #[.slice p gs.length cap,.int .u8 c],.int .i64 i] W (IsEl (fun b=>b ≠ w.heap.size+1) 1 kid W)) at HEL
 have HAS:Hid (∀ (cs:List Value) (W:World),Ob (fun b=>b ≠ w.heap.size+1) W 1 cs kid→w.heap.size+2≤W.heap.size→Calls Tryz.prog 71 #[.agg cs.toArray] W (IsOb (fun b=>b ≠ w.heap.size+1) W 7 kid)):=Lib.hid fun cs W h hs=>asGeo_1 _ cs kid W (fun b hb=>by omega) h
 have HK:=Lib.hid geoKind_any
 clear hc ho hk
 generalize gs.length=n at *
 go_enter Tryz.func38,Tryz.ntmps38
 go_wp2_with (first
  | (go_at_call 71;(with_reducible refine (HAS.out cl3 w3 HOB.out HS3.out).mono ?_);rintro e w4 ⟨cl4,rfl,hob4,hb4⟩;obtain ⟨a4,v4,z4,hc4,-⟩:=hob4.gi;subst hc4;have HOB4:=Lib.hid hob4;have HB4:Hid (Bel w w4):=Lib.hid (HB3.out.trans hb4);have C4:=HR3.out.bel hb4;have HR4:=Lib.hid C4;obtain ⟨q3,q4,q5⟩:=C4.facts;clear hob4 hb4 C4)
  | (go_at_call 77;(with_reducible refine (HEL.out _ HB2.out HS2.out).mono ?_);rintro e w3 ⟨cl3,rfl,hob3,hb3⟩;have HOB:=Lib.hid hob3;have HS3:Hid (w.heap.size+2≤w3.heap.size):=Lib.hid (Nat.le_trans HS2.out hb3.size);have HB3:Hid (Bel w w3):=Lib.hid (HB2.out.trans hb3);have HR3:=Lib.hid (HR2.out.bel hb3);clear hob3 hb3)
  | (go_at_call 76;(with_reducible refine (HM.out _ HB1.out).mono ?_);rintro e w2 ⟨rfl,hb2⟩;have HB2:Hid (Bel w w2):=Lib.hid (HB1.out.trans hb2);have HS2:Hid (w.heap.size+2≤w2.heap.size):=Lib.hid (Nat.le_trans HS1.out hb2.size);have HR2:=Lib.hid (HR1.out.bel hb2);clear hb2)
  | (go_at_call 44;(with_reducible refine (HK.out _ _ _).mono ?_);rintro e w1 ⟨rfl,hb1⟩;have HB1:Hid (Bel w w1):=Lib.hid ((show Bel w _ by exact EL).trans hb1);have HS1:Hid (w.heap.size+2≤w1.heap.size):=Lib.hid (by have:=hb1.size;simp at this;omega);have C1:Blk w1 w.heap.size #[.int .i64 4,.iface 167 (.pointer (some ⟨b,0,none⟩))] 64:=Blk.bel (by exact KL) hb1;obtain ⟨r1,y1,l1⟩:=C1.facts;have HR1:Hid (Blk w1 (w.heap.size+1) #[.int .i64 0,.nilIface] 64):=Lib.hid (Blk.bel (by exact KL) hb1);clear hb1 C1))
 refine post_ret (results_two rfl (resIs_agg (n:=2) (cs:=#[.int .i64 a4,.iface (ptrT a4) (.pointer (some ⟨v4,0,none⟩))]) (by rfl) Tryz.underlying64 (by kernel_rfl) (T:=64) ?_ rfl) (resIs_tmp (by rfl))) ⟨[.int .i64 a4,.iface (ptrT a4) (.pointer (some ⟨v4,0,none⟩))],rfl,?_,?_⟩
 ·have HB:=HR4.out
  exact SL
 ·exact ((HOB4.out.set (b:=w.heap.size+1) (by simp) 0 _).set (b:=w.heap.size+1) (by simp) 1 _).mono fun _ _ _=>trivial
 ·have HB:=HB4.out
  exact EL
set_option maxHeartbeats 4000000 in
set_option maxRecDepth 100000 in
theorem part_5 (g kid:Gm) (i:Nat) (hk:g.kids[i]?=some kid) (b:Nat) (cl:List Value) (w:World) (hc:∀ (j:Nat) (u:Value),cl[j]?=some u→w.cell? ⟨b,j,none⟩=some u) (ho:Ob Any' w 5 cl g):Calls Tryz.prog 38 #[.agg #[.int .i64 5,.iface 168 (.pointer (some ⟨b,0,none⟩))],.int .i64 i] w (IsPart kid w):=by
 have HEL:Hid (∀ W,Bel w W→w.heap.size+2≤W.heap.size→Calls Tryz.prog 79 #[.agg cl.toArray,.int .i64 i] W (IsEl (fun b=>b ≠ w.heap.size+1) 2 kid W)):=Lib.hid fun W hW _=>elem_5 (ho.mono (G:=fun b=>b ≠ w.heap.size+1) fun b hl _=>by omega) hk W hW
 obtain ⟨p,cap,c,gs,hcs,-,hge,hn31,-⟩:=ho.sl (e:=2) (k:=2) rfl
 subst hcs
 clear hge
 have HM:Hid (∀ W,Bel w W→Calls Tryz.prog 78 #[.agg #[.int .i64 5,.iface 168 (.pointer (some ⟨b,0,none⟩))]] W fun e w'=>e=.returned (.agg #[.slice p gs.length cap,.int .u8 c])∧Bel W w'):=Lib.hid fun W hW=>mustAs_5 p gs.length cap c b W (cell_kept hW (hc 0 _ rfl)) (cell_kept hW (hc 1 _ rfl))
 change Hid (∀ W,Bel w W→w.heap.size+2≤W.heap.size→Calls Tryz.prog 79 #[.agg #[.slice p gs.length cap,.int .u8 c],.int .i64 i] W (IsEl (fun b=>b ≠ w.heap.size+1) 2 kid W)) at HEL
 have HAS:Hid (∀ (cs:List Value) (W:World),Ob (fun b=>b ≠ w.heap.size+1) W 2 cs kid→w.heap.size+2≤W.heap.size→Calls Tryz.prog 74 #[.agg cs.toArray] W (IsOb (fun b=>b ≠ w.heap.size+1) W 7 kid)):=Lib.hid fun cs W h hs=>asGeo_2 _ cs kid W (fun b hb=>by omega) h
 have HK:=Lib.hid geoKind_any
 clear hc ho hk
 generalize gs.length=n at *
 go_enter Tryz.func38,Tryz.ntmps38
 go_wp2_with (first
  | (go_at_call 74;(with_reducible refine (HAS.out cl3 w3 HOB.out HS3.out).mono ?_);rintro e w4 ⟨cl4,rfl,hob4,hb4⟩;obtain ⟨a4,v4,z4,hc4,-⟩:=hob4.gi;subst hc4;have HOB4:=Lib.hid hob4;have HB4:Hid (Bel w w4):=Lib.hid (HB3.out.trans hb4);have C4:=HR3.out.bel hb4;have HR4:=Lib.hid C4;obtain ⟨q3,q4,q5⟩:=C4.facts;clear hob4 hb4 C4)
  | (go_at_call 79;(with_reducible refine (HEL.out _ HB2.out HS2.out).mono ?_);rintro e w3 ⟨cl3,rfl,hob3,hb3⟩;have HOB:=Lib.hid hob3;have HS3:Hid (w.heap.size+2≤w3.heap.size):=Lib.hid (Nat.le_trans HS2.out hb3.size);have HB3:Hid (Bel w w3):=Lib.hid (HB2.out.trans hb3);have HR3:=Lib.hid (HR2.out.bel hb3);clear hob3 hb3)
  | (go_at_call 78;(with_reducible refine (HM.out _ HB1.out).mono ?_);rintro e w2 ⟨rfl,hb2⟩;have HB2:Hid (Bel w w2):=Lib.hid (HB1.out.trans hb2);have HS2:Hid (w.heap.size+2≤w2.heap.size):=Lib.hid (Nat.le_trans HS1.out hb2.size);have HR2:=Lib.hid (HR1.out.bel hb2);clear hb2)
  | (go_at_call 44;(with_reducible refine (HK.out _ _ _).mono ?_);rintro e w1 ⟨rfl,hb1⟩;have HB1:Hid (Bel w w1):=Lib.hid ((show Bel w _ by exact EL).trans hb1);have HS1:Hid (w.heap.size+2≤w1.heap.size):=Lib.hid (by have:=hb1.size;simp at this;omega);have C1:Blk w1 w.heap.size #[.int .i64 5,.iface 168 (.pointer (some ⟨b,0,none⟩))] 64:=Blk.bel (by exact KL) hb1;obtain ⟨r1,y1,l1⟩:=C1.facts;have HR1:Hid (Blk w1 (w.heap.size+1) #[.int .i64 0,.nilIface] 64):=Lib.hid (Blk.bel (by exact KL) hb1);clear hb1 C1))
 refine post_ret (results_two rfl (resIs_agg (n:=2) (cs:=#[.int .i64 a4,.iface (ptrT a4) (.pointer (some ⟨v4,0,none⟩))]) (by rfl) Tryz.underlying64 (by kernel_rfl) (T:=64) ?_ rfl) (resIs_tmp (by rfl))) ⟨[.int .i64 a4,.iface (ptrT a4) (.pointer (some ⟨v4,0,none⟩))],rfl,?_,?_⟩
 ·have HB:=HR4.out
  exact SL
 ·exact ((HOB4.out.set (b:=w.heap.size+1) (by simp) 0 _).set (b:=w.heap.size+1) (by simp) 1 _).mono fun _ _ _=>trivial
 ·have HB:=HB4.out
  exact EL
set_option maxHeartbeats 4000000 in
set_option maxRecDepth 100000 in
theorem part_6 (g kid:Gm) (i:Nat) (hk:g.kids[i]?=some kid) (b:Nat) (cl:List Value) (w:World) (hc:∀ (j:Nat) (u:Value),cl[j]?=some u→w.cell? ⟨b,j,none⟩=some u) (ho:Ob Any' w 6 cl g):Calls Tryz.prog 38 #[.agg #[.int .i64 6,.iface 169 (.pointer (some ⟨b,0,none⟩))],.int .i64 i] w (IsPart kid w):=by
 have HEL:Hid (∀ W,Bel w W→w.heap.size+2≤W.heap.size→Calls Tryz.prog 81 #[.agg cl.toArray,.int .i64 i] W (IsEl (fun b=>b ≠ w.heap.size+1) 3 kid W)):=Lib.hid fun W hW _=>elem_6 (ho.mono (G:=fun b=>b ≠ w.heap.size+1) fun b hl _=>by omega) hk W hW
 obtain ⟨p,cap,c,gs,hcs,-,hge,hn31,-⟩:=ho.sl (e:=3) (k:=2) rfl
 subst hcs
 clear hge
 have HM:Hid (∀ W,Bel w W→Calls Tryz.prog 80 #[.agg #[.int .i64 6,.iface 169 (.pointer (some ⟨b,0,none⟩))]] W fun e w'=>e=.returned (.agg #[.slice p gs.length cap,.int .u8 c])∧Bel W w'):=Lib.hid fun W hW=>mustAs_6 p gs.length cap c b W (cell_kept hW (hc 0 _ rfl)) (cell_kept hW (hc 1 _ rfl))
 change Hid (∀ W,Bel w W→w.heap.size+2≤W.heap.size→Calls Tryz.prog 81 #[.agg #[.slice p gs.length cap,.int .u8 c],.int .i64 i] W (IsEl (fun b=>b ≠ w.heap.size+1) 3 kid W)) at HEL
 have HAS:Hid (∀ (cs:List Value) (W:World),Ob (fun b=>b ≠ w.heap.size+1) W 3 cs kid→w.heap.size+2≤W.heap.size→Calls Tryz.prog 82 #[.agg cs.toArray] W (IsOb (fun b=>b ≠ w.heap.size+1) W 7 kid)):=Lib.hid fun cs W h hs=>asGeo_3 _ cs kid W (fun b hb=>by omega) h
 have HK:=Lib.hid geoKind_any
 clear hc ho hk
 generalize gs.length=n at *
 go_enter Tryz.func38,Tryz.ntmps38
 go_wp2_with (first
  | (go_at_call 82;(with_reducible refine (HAS.out cl3 w3 HOB.out HS3.out).mono ?_);rintro e w4 ⟨cl4,rfl,hob4,hb4⟩;obtain ⟨a4,v4,z4,hc4,-⟩:=hob4.gi;subst hc4;have HOB4:=Lib.hid hob4;have HB4:Hid (Bel w w4):=Lib.hid (HB3.out.trans hb4);have C4:=HR3.out.bel hb4;have HR4:=Lib.hid C4;obtain ⟨q3,q4,q5⟩:=C4.facts;clear hob4 hb4 C4)
  | (go_at_call 81;(with_reducible refine (HEL.out _ HB2.out HS2.out).mono ?_);rintro e w3 ⟨cl3,rfl,hob3,hb3⟩;have HOB:=Lib.hid hob3;have HS3:Hid (w.heap.size+2≤w3.heap.size):=Lib.hid (Nat.le_trans HS2.out hb3.size);have HB3:Hid (Bel w w3):=Lib.hid (HB2.out.trans hb3);have HR3:=Lib.hid (HR2.out.bel hb3);clear hob3 hb3)
  | (go_at_call 80;(with_reducible refine (HM.out _ HB1.out).mono ?_);rintro e w2 ⟨rfl,hb2⟩;have HB2:Hid (Bel w w2):=Lib.hid (HB1.out.trans hb2);have HS2:Hid (w.heap.size+2≤w2.heap.size):=Lib.hid (Nat.le_trans HS1.out hb2.size);have HR2:=Lib.hid (HR1.out.bel hb2);clear hb2)
  | (go_at_call 44;(with_reducible refine (HK.out _ _ _).mono ?_);rintro e w1 ⟨rfl,hb1⟩;have HB1:Hid (Bel w w1):=Lib.hid ((show Bel w _ by exact EL).trans hb1);have HS1:Hid (w.heap.size+2≤w1.heap.size):=Lib.hid (by have:=hb1.size;simp at this;omega);have C1:Blk w1 w.heap.size #[.int .i64 6,.iface 169 (.pointer (some ⟨b,0,none⟩))] 64:=Blk.bel (by exact KL) hb1;obtain ⟨r1,y1,l1⟩:=C1.facts;have HR1:Hid (Blk w1 (w.heap.size+1) #[.int .i64 0,.nilIface] 64):=Lib.hid (Blk.bel (by exact KL) hb1);clear hb1 C1))
 refine post_ret (results_two rfl (resIs_agg (n:=2) (cs:=#[.int .i64 a4,.iface (ptrT a4) (.pointer (some ⟨v4,0,none⟩))]) (by rfl) Tryz.underlying64 (by kernel_rfl) (T:=64) ?_ rfl) (resIs_tmp (by rfl))) ⟨[.int .i64 a4,.iface (ptrT a4) (.pointer (some ⟨v4,0,none⟩))],rfl,?_,?_⟩
 ·have HB:=HR4.out
  exact SL
 ·exact ((HOB4.out.set (b:=w.heap.size+1) (by simp) 0 _).set (b:=w.heap.size+1) (by simp) 1 _).mono fun _ _ _=>trivial
 ·have HB:=HB4.out
  exact EL
/-- The kinds that have parts. -/
def MultiK (k:Int):Prop:=k=0∨k=3∨k=4∨k=5∨k=6
theorem ringOf_cons {g kid:Gm} (h:g.kids[0]?=some kid):ringOf g=kid:=by
 cases g with
 | mk kk d ns ks =>
  cases ks with
  | nil=>simp [Gm.kids] at h
  | cons a r =>
   simp [Gm.kids] at h
   exact h
theorem part_in (g kid:Gm) (i:Nat) (hk:g.kids[i]?=some kid) (hm:MultiK g.kind) (cs:List Value) (w:World) (h:Ob Any' w 7 cs g):Calls Tryz.prog 38 #[.agg cs.toArray,.int .i64 i] w (IsPart kid w):=by
 obtain ⟨s,b,cl,rfl,hs6,hlt,hFb,hc,ho⟩:=h.gi
 have h7:s=0∨s=1∨s=2∨s=3∨s=4∨s=5∨s=6:=by omega
 rcases h7 with rfl|rfl|rfl|rfl|rfl|rfl|rfl
 ·exact part_0 g kid i hk b cl w hc ho
 ·have:=ho.kind (by decide);rcases hm with e|e|e|e|e<;>(rw [e] at this;simp at this)
 ·have:=ho.kind (by decide);rcases hm with e|e|e|e|e<;>(rw [e] at this;simp at this)
 ·cases i with
  | zero=>exact part_3a g kid (ringOf_cons hk) b cl w hc ho
  | succ j=>exact part_3b g kid (j+1) j rfl hk b cl w hc ho
 ·exact part_4 g kid i hk b cl w hc ho
 ·exact part_5 g kid i hk b cl w hc ho
 ·exact part_6 g kid i hk b cl w hc ho
theorem part_none (g:Gm) (h3:g.kind=3) (cs:List Value) (w:World) (h:Ob Any' w 7 cs g):Calls Tryz.prog 38 #[.agg cs.toArray,.int .i64 0] w (IsPart (ringOf g) w):=by
 obtain ⟨s,b,cl,rfl,hs6,hlt,hFb,hc,ho⟩:=h.gi
 have hs:s=3:=by
  have:=ho.kind (by omega)
  rw [h3] at this
  omega
 subst hs
 exact part_3a g _ rfl b cl w hc ho
end Go.Proofs.YtpipehenfcbjbaaGreatDoor
set_option linter.unusedVariables false
set_option linter.unusedSimpArgs false
namespace Go.Proofs.YtpipehenfcbjbaaGreatDoor
open Go.ChangeShapes Go.WideShapes Go.ChangeAt Go.RowKit
theorem run_bounds {α:Type} {P:Program} (W:World) (x y:Int) (code:BoundsCode):∃ v w',(boundsPanic .i64 x y code:Sem α).run P W=.halt (.panic (.iface P.rt.boundsError v)) w'∧Bel W w':=by
 unfold boundsPanic
 split
 ·refine ⟨_,_,by simp [runtimePanic,goPanic,go_sem];exact ⟨rfl,rfl⟩,?_⟩
  with_reducible exact (Bel.refl W).drew
 ·refine ⟨_,_,by simp [runtimePanic,goPanic,go_sem];exact ⟨rfl,rfl⟩,?_⟩
  with_reducible exact Bel.refl W
theorem run_out {P:Program} (t:TypeId) (a0:Option Addr) (len cap:Nat) (i:Int) (h:P.underlying t=some (.slice (P.elem t))) (hnil:a0=none→len=0) (ho:(len:Int)≤i) (W:World) :
  ∃ v w',(Instr.indexAt t (.slice a0 len cap) (.int .i64 i)).run P W=.halt (.panic (.iface P.rt.boundsError v)) w'∧Bel W w':=by
 cases a0 with
 | some a =>
  rw [run_indexAt_slice (h:=h),if_neg (by omega)]
  exact run_bounds W i len .index
 | none =>
  obtain rfl:=hnil rfl
  have e:(Instr.indexAt t (.slice none 0 cap) (.int .i64 i)).run P W=(boundsPanic .i64 i 0 .index).run P W:=by
   simp [Instr.indexAt,run_underlying h,asIntOf]
  rw [e]
  exact run_bounds W i 0 .index
theorem run_outs {P:Program} (t:TypeId) (a0:Option Addr) (len cap:Nat) (i:Int) (h:P.underlying t=some (.slice (P.elem t))) (hnil:a0=none→len=0) (ho:(len:Int)≤i) :
  ∃ (V:World→Value) (N:World→World),(∀ W,(Instr.indexAt t (.slice a0 len cap) (.int .i64 i)).run P W=.halt (.panic (.iface P.rt.boundsError (V W))) (N W))∧∀ W,Bel W (N W):=by
 have h:=fun W=>run_out (P:=P) t a0 len cap i h hnil ho W
 exact ⟨fun W=>(h W).choose,fun W=>(h W).choose_spec.choose,fun W=>(h W).choose_spec.choose_spec.1,fun W=>(h W).choose_spec.choose_spec.2⟩
def IsOut (w:World) (e:Ending) (w':World):Prop:=∃ v,e=.panicked [{ v:=.iface Tryz.prog.rt.boundsError v,recovered:=false }]∧Bel w w'
theorem Ob.nilSl {F:Nat→Prop} {w:World} {s e k:Nat} {cs:List Value} {g:Gm} (h:Ob F w s cs g) (he:partOf s=some (e,k)):∃ (p:Option Addr) (cap c:Nat),cs=[.slice p g.kids.length cap,.int .u8 c]∧(p=none→g.kids.length=0):=by
 obtain ⟨p,cap,c,gs,rfl,-,rfl,-,hsl⟩:=h.sl he
 refine ⟨p,cap,c,rfl,fun hp=>?_⟩
 obtain ⟨_,_,hve,_,_,hq⟩:=hsl
 cases hve
 change gs.length=0
 rcases Nat.eq_zero_or_pos gs.length with h0|h0
 ·exact h0
 ·obtain ⟨b,off,h1,-⟩:=hq (by intro e;rw [e] at h0;simp at h0)
  rw [hp] at h1
  simp at h1
set_option maxHeartbeats 4000000 in
set_option maxRecDepth 100000 in
theorem elemX_0 (p:Option Addr) (n cap c:Nat) (i:Int) (hnil:p=none→n=0) (hi:(n:Int)≤i) (w:World):Calls Tryz.prog 84 #[.agg #[.slice p n cap,.int .u8 c],.int .i64 i] w (IsOut w):=by
 obtain ⟨V,N,hrun,hb⟩:=run_outs (P:=Tryz.prog) 84 p n cap i (by kernel_rfl) hnil hi
 have HB:=Lib.hid hb
 clear hb
 go_enter Tryz.func84,Tryz.ntmps84
 go_wp2
 exact ⟨rfl,⟨_,rfl,(show Bel w _ by exact EL).trans (HB.out _)⟩⟩
set_option maxHeartbeats 4000000 in
set_option maxRecDepth 100000 in
theorem partX_0 (g:Gm) (i:Int) (hi:(g.kids.length:Int)≤i) (hi0:0≤i) (hi31:i≤2147483647) (b:Nat) (cl:List Value) (w:World) (hc:∀ (j:Nat) (u:Value),cl[j]?=some u→w.cell? ⟨b,j,none⟩=some u) (ho:Ob Any' w 0 cl g):Calls Tryz.prog 38 #[.agg #[.int .i64 0,.iface 170 (.pointer (some ⟨b,0,none⟩))],.int .i64 i] w (IsOut w):=by
 obtain ⟨p,cap,c,hcs,hnil⟩:=ho.nilSl (e:=7) (k:=2) rfl
 subst hcs
 generalize g.kids.length=n at *
 have HEL:Hid (∀ W,Calls Tryz.prog 84 #[.agg #[.slice p n cap,.int .u8 c],.int .i64 i] W (IsOut W)):=Lib.hid fun W=>elemX_0 p n cap c i hnil (by omega) W
 have HM:Hid (∀ W,Bel w W→Calls Tryz.prog 83 #[.agg #[.int .i64 0,.iface 170 (.pointer (some ⟨b,0,none⟩))]] W fun e w'=>e=.returned (.agg #[.slice p n cap,.int .u8 c])∧Bel W w'):=Lib.hid fun W hW=>mustAs_0 p n cap c b W (cell_kept hW (hc 0 _ rfl)) (cell_kept hW (hc 1 _ rfl))
 have HK:=Lib.hid geoKind_any
 clear hc ho hnil hi
 go_enter Tryz.func38,Tryz.ntmps38
 go_wp2_with (first
  | (go_at_call 84;(with_reducible refine (HEL.out _).mono ?_);rintro e w3 ⟨v,rfl,hb3⟩;have HB3:Hid (Bel w w3):=Lib.hid (HB2.out.trans hb3);clear hb3)
  | (go_at_call 83;(with_reducible refine (HM.out _ HB1.out).mono ?_);rintro e w2 ⟨rfl,hb2⟩;have HB2:Hid (Bel w w2):=Lib.hid (HB1.out.trans hb2);clear hb2)
  | (go_at_call 44;(with_reducible refine (HK.out _ _ _).mono ?_);rintro e w1 ⟨rfl,hb1⟩;have HB1:Hid (Bel w w1):=Lib.hid ((show Bel w _ by exact EL).trans hb1);have C1:Blk w1 w.heap.size #[.int .i64 0,.iface 170 (.pointer (some ⟨b,0,none⟩))] 64:=Blk.bel (by exact KL) hb1;obtain ⟨r1,y1,l1⟩:=C1.facts;clear hb1 C1))
 exact ⟨rfl,⟨_,rfl,HB3.out⟩⟩
set_option maxHeartbeats 4000000 in
set_option maxRecDepth 100000 in
theorem elemX_3 (p:Option Addr) (n cap c:Nat) (i:Int) (j:Int) (hj:j+1=i) (hj0:0≤j) (hj1:j≤2147483647) (hnil:p=none→n=0) (hi:(n:Int)≤i) (w:World):Calls Tryz.prog 75 #[.agg #[.slice p n cap,.int .u8 c],.int .i64 j] w (IsOut w):=by
 obtain ⟨V,N,hrun,hb⟩:=run_outs (P:=Tryz.prog) 89 p n cap i (by kernel_rfl) hnil hi
 have HB:=Lib.hid hb
 have hjm:(j == -1)=false:=by simp<;>omega
 have hjw:IntKind.i64.wrap (j+1)=i:=by
  rw [IntKind.wrap_i64]
  omega
 clear hj
 clear hb
 go_enter Tryz.func75,Tryz.ntmps75
 go_wp2
 exact ⟨rfl,⟨_,rfl,(show Bel w _ by exact EL).trans (HB.out _)⟩⟩
set_option maxHeartbeats 4000000 in
set_option maxRecDepth 100000 in
theorem partX_3 (g:Gm) (i:Int) (hi:(g.kids.length:Int)≤i) (hi0:1≤i) (hi31:i≤2147483647) (b:Nat) (cl:List Value) (w:World) (hc:∀ (j:Nat) (u:Value),cl[j]?=some u→w.cell? ⟨b,j,none⟩=some u) (ho:Ob Any' w 3 cl g):Calls Tryz.prog 38 #[.agg #[.int .i64 3,.iface 165 (.pointer (some ⟨b,0,none⟩))],.int .i64 i] w (IsOut w):=by
 obtain ⟨p,cap,c,hcs,hnil⟩:=ho.nilSl (e:=2) (k:=2) rfl
 subst hcs
 generalize g.kids.length=n at *
 have HEL:Hid (∀ W,Calls Tryz.prog 75 #[.agg #[.slice p n cap,.int .u8 c],.int .i64 (i - 1)] W (IsOut W)):=Lib.hid fun W=>elemX_3 p n cap c i (i - 1) (by omega) (by omega) (by omega) hnil (by omega) W
 have hz:(i == 0)=false:=by simp<;>omega
 have hzw:IntKind.i64.wrap (i - 1)=i - 1:=by
  rw [IntKind.wrap_i64]
  omega
 have HM:Hid (∀ W,Bel w W→Calls Tryz.prog 72 #[.agg #[.int .i64 3,.iface 165 (.pointer (some ⟨b,0,none⟩))]] W fun e w'=>e=.returned (.agg #[.slice p n cap,.int .u8 c])∧Bel W w'):=Lib.hid fun W hW=>mustAs_3 p n cap c b W (cell_kept hW (hc 0 _ rfl)) (cell_kept hW (hc 1 _ rfl))
 have HK:=Lib.hid geoKind_any
 clear hc ho hnil hi
 go_enter Tryz.func38,Tryz.ntmps38
 go_wp2_with (first
  | (go_at_call 75;(with_reducible refine (HEL.out _).mono ?_);rintro e w3 ⟨v,rfl,hb3⟩;have HB3:Hid (Bel w w3):=Lib.hid (HB2.out.trans hb3);clear hb3)
  | (go_at_call 72;(with_reducible refine (HM.out _ HB1.out).mono ?_);rintro e w2 ⟨rfl,hb2⟩;have HB2:Hid (Bel w w2):=Lib.hid (HB1.out.trans hb2);clear hb2)
  | (go_at_call 44;(with_reducible refine (HK.out _ _ _).mono ?_);rintro e w1 ⟨rfl,hb1⟩;have HB1:Hid (Bel w w1):=Lib.hid ((show Bel w _ by exact EL).trans hb1);have C1:Blk w1 w.heap.size #[.int .i64 3,.iface 165 (.pointer (some ⟨b,0,none⟩))] 64:=Blk.bel (by exact KL) hb1;obtain ⟨r1,y1,l1⟩:=C1.facts;clear hb1 C1))
 exact ⟨rfl,⟨_,rfl,HB3.out⟩⟩
set_option maxHeartbeats 4000000 in
set_option maxRecDepth 100000 in
theorem elemX_4 (p:Option Addr) (n cap c:Nat) (i:Int) (hnil:p=none→n=0) (hi:(n:Int)≤i) (w:World):Calls Tryz.prog 77 #[.agg #[.slice p n cap,.int .u8 c],.int .i64 i] w (IsOut w):=by
 obtain ⟨V,N,hrun,hb⟩:=run_outs (P:=Tryz.prog) 119 p n cap i (by kernel_rfl) hnil hi
 have HB:=Lib.hid hb
 clear hb
 go_enter Tryz.func77,Tryz.ntmps77
 go_wp2
 exact ⟨rfl,⟨_,rfl,(show Bel w _ by exact EL).trans (HB.out _)⟩⟩
set_option maxHeartbeats 4000000 in
set_option maxRecDepth 100000 in
theorem partX_4 (g:Gm) (i:Int) (hi:(g.kids.length:Int)≤i) (hi0:0≤i) (hi31:i≤2147483647) (b:Nat) (cl:List Value) (w:World) (hc:∀ (j:Nat) (u:Value),cl[j]?=some u→w.cell? ⟨b,j,none⟩=some u) (ho:Ob Any' w 4 cl g):Calls Tryz.prog 38 #[.agg #[.int .i64 4,.iface 167 (.pointer (some ⟨b,0,none⟩))],.int .i64 i] w (IsOut w):=by
 obtain ⟨p,cap,c,hcs,hnil⟩:=ho.nilSl (e:=1) (k:=6) rfl
 subst hcs
 generalize g.kids.length=n at *
 have HEL:Hid (∀ W,Calls Tryz.prog 77 #[.agg #[.slice p n cap,.int .u8 c],.int .i64 i] W (IsOut W)):=Lib.hid fun W=>elemX_4 p n cap c i hnil (by omega) W
 have HM:Hid (∀ W,Bel w W→Calls Tryz.prog 76 #[.agg #[.int .i64 4,.iface 167 (.pointer (some ⟨b,0,none⟩))]] W fun e w'=>e=.returned (.agg #[.slice p n cap,.int .u8 c])∧Bel W w'):=Lib.hid fun W hW=>mustAs_4 p n cap c b W (cell_kept hW (hc 0 _ rfl)) (cell_kept hW (hc 1 _ rfl))
 have HK:=Lib.hid geoKind_any
 clear hc ho hnil hi
 go_enter Tryz.func38,Tryz.ntmps38
 go_wp2_with (first
  | (go_at_call 77;(with_reducible refine (HEL.out _).mono ?_);rintro e w3 ⟨v,rfl,hb3⟩;have HB3:Hid (Bel w w3):=Lib.hid (HB2.out.trans hb3);clear hb3)
  | (go_at_call 76;(with_reducible refine (HM.out _ HB1.out).mono ?_);rintro e w2 ⟨rfl,hb2⟩;have HB2:Hid (Bel w w2):=Lib.hid (HB1.out.trans hb2);clear hb2)
  | (go_at_call 44;(with_reducible refine (HK.out _ _ _).mono ?_);rintro e w1 ⟨rfl,hb1⟩;have HB1:Hid (Bel w w1):=Lib.hid ((show Bel w _ by exact EL).trans hb1);have C1:Blk w1 w.heap.size #[.int .i64 4,.iface 167 (.pointer (some ⟨b,0,none⟩))] 64:=Blk.bel (by exact KL) hb1;obtain ⟨r1,y1,l1⟩:=C1.facts;clear hb1 C1))
 exact ⟨rfl,⟨_,rfl,HB3.out⟩⟩
set_option maxHeartbeats 4000000 in
set_option maxRecDepth 100000 in
theorem elemX_5 (p:Option Addr) (n cap c:Nat) (i:Int) (hnil:p=none→n=0) (hi:(n:Int)≤i) (w:World):Calls Tryz.prog 79 #[.agg #[.slice p n cap,.int .u8 c],.int .i64 i] w (IsOut w):=by
 obtain ⟨V,N,hrun,hb⟩:=run_outs (P:=Tryz.prog) 89 p n cap i (by kernel_rfl) hnil hi
 have HB:=Lib.hid hb
 clear hb
 go_enter Tryz.func79,Tryz.ntmps79
 go_wp2
 exact ⟨rfl,⟨_,rfl,(show Bel w _ by exact EL).trans (HB.out _)⟩⟩
set_option maxHeartbeats 4000000 in
set_option maxRecDepth 100000 in
theorem partX_5 (g:Gm) (i:Int) (hi:(g.kids.length:Int)≤i) (hi0:0≤i) (hi31:i≤2147483647) (b:Nat) (cl:List Value) (w:World) (hc:∀ (j:Nat) (u:Value),cl[j]?=some u→w.cell? ⟨b,j,none⟩=some u) (ho:Ob Any' w 5 cl g):Calls Tryz.prog 38 #[.agg #[.int .i64 5,.iface 168 (.pointer (some ⟨b,0,none⟩))],.int .i64 i] w (IsOut w):=by
 obtain ⟨p,cap,c,hcs,hnil⟩:=ho.nilSl (e:=2) (k:=2) rfl
 subst hcs
 generalize g.kids.length=n at *
 have HEL:Hid (∀ W,Calls Tryz.prog 79 #[.agg #[.slice p n cap,.int .u8 c],.int .i64 i] W (IsOut W)):=Lib.hid fun W=>elemX_5 p n cap c i hnil (by omega) W
 have HM:Hid (∀ W,Bel w W→Calls Tryz.prog 78 #[.agg #[.int .i64 5,.iface 168 (.pointer (some ⟨b,0,none⟩))]] W fun e w'=>e=.returned (.agg #[.slice p n cap,.int .u8 c])∧Bel W w'):=Lib.hid fun W hW=>mustAs_5 p n cap c b W (cell_kept hW (hc 0 _ rfl)) (cell_kept hW (hc 1 _ rfl))
 have HK:=Lib.hid geoKind_any
 clear hc ho hnil hi
 go_enter Tryz.func38,Tryz.ntmps38
 go_wp2_with (first
  | (go_at_call 79;(with_reducible refine (HEL.out _).mono ?_);rintro e w3 ⟨v,rfl,hb3⟩;have HB3:Hid (Bel w w3):=Lib.hid (HB2.out.trans hb3);clear hb3)
  | (go_at_call 78;(with_reducible refine (HM.out _ HB1.out).mono ?_);rintro e w2 ⟨rfl,hb2⟩;have HB2:Hid (Bel w w2):=Lib.hid (HB1.out.trans hb2);clear hb2)
  | (go_at_call 44;(with_reducible refine (HK.out _ _ _).mono ?_);rintro e w1 ⟨rfl,hb1⟩;have HB1:Hid (Bel w w1):=Lib.hid ((show Bel w _ by exact EL).trans hb1);have C1:Blk w1 w.heap.size #[.int .i64 5,.iface 168 (.pointer (some ⟨b,0,none⟩))] 64:=Blk.bel (by exact KL) hb1;obtain ⟨r1,y1,l1⟩:=C1.facts;clear hb1 C1))
 exact ⟨rfl,⟨_,rfl,HB3.out⟩⟩
set_option maxHeartbeats 4000000 in
set_option maxRecDepth 100000 in
theorem elemX_6 (p:Option Addr) (n cap c:Nat) (i:Int) (hnil:p=none→n=0) (hi:(n:Int)≤i) (w:World):Calls Tryz.prog 81 #[.agg #[.slice p n cap,.int .u8 c],.int .i64 i] w (IsOut w):=by
 obtain ⟨V,N,hrun,hb⟩:=run_outs (P:=Tryz.prog) 127 p n cap i (by kernel_rfl) hnil hi
 have HB:=Lib.hid hb
 clear hb
 go_enter Tryz.func81,Tryz.ntmps81
 go_wp2
 exact ⟨rfl,⟨_,rfl,(show Bel w _ by exact EL).trans (HB.out _)⟩⟩
set_option maxHeartbeats 4000000 in
set_option maxRecDepth 100000 in
theorem partX_6 (g:Gm) (i:Int) (hi:(g.kids.length:Int)≤i) (hi0:0≤i) (hi31:i≤2147483647) (b:Nat) (cl:List Value) (w:World) (hc:∀ (j:Nat) (u:Value),cl[j]?=some u→w.cell? ⟨b,j,none⟩=some u) (ho:Ob Any' w 6 cl g):Calls Tryz.prog 38 #[.agg #[.int .i64 6,.iface 169 (.pointer (some ⟨b,0,none⟩))],.int .i64 i] w (IsOut w):=by
 obtain ⟨p,cap,c,hcs,hnil⟩:=ho.nilSl (e:=3) (k:=2) rfl
 subst hcs
 generalize g.kids.length=n at *
 have HEL:Hid (∀ W,Calls Tryz.prog 81 #[.agg #[.slice p n cap,.int .u8 c],.int .i64 i] W (IsOut W)):=Lib.hid fun W=>elemX_6 p n cap c i hnil (by omega) W
 have HM:Hid (∀ W,Bel w W→Calls Tryz.prog 80 #[.agg #[.int .i64 6,.iface 169 (.pointer (some ⟨b,0,none⟩))]] W fun e w'=>e=.returned (.agg #[.slice p n cap,.int .u8 c])∧Bel W w'):=Lib.hid fun W hW=>mustAs_6 p n cap c b W (cell_kept hW (hc 0 _ rfl)) (cell_kept hW (hc 1 _ rfl))
 have HK:=Lib.hid geoKind_any
 clear hc ho hnil hi
 go_enter Tryz.func38,Tryz.ntmps38
 go_wp2_with (first
  | (go_at_call 81;(with_reducible refine (HEL.out _).mono ?_);rintro e w3 ⟨v,rfl,hb3⟩;have HB3:Hid (Bel w w3):=Lib.hid (HB2.out.trans hb3);clear hb3)
  | (go_at_call 80;(with_reducible refine (HM.out _ HB1.out).mono ?_);rintro e w2 ⟨rfl,hb2⟩;have HB2:Hid (Bel w w2):=Lib.hid (HB1.out.trans hb2);clear hb2)
  | (go_at_call 44;(with_reducible refine (HK.out _ _ _).mono ?_);rintro e w1 ⟨rfl,hb1⟩;have HB1:Hid (Bel w w1):=Lib.hid ((show Bel w _ by exact EL).trans hb1);have C1:Blk w1 w.heap.size #[.int .i64 6,.iface 169 (.pointer (some ⟨b,0,none⟩))] 64:=Blk.bel (by exact KL) hb1;obtain ⟨r1,y1,l1⟩:=C1.facts;clear hb1 C1))
 exact ⟨rfl,⟨_,rfl,HB3.out⟩⟩
theorem part_over (g:Gm) (hm:MultiK g.kind) (i:Nat) (hi:i=g.kids.length) (h3:g.kind=3→1≤i) (h31:i≤2147483647) (cs:List Value) (w:World) (h:Ob Any' w 7 cs g):Calls Tryz.prog 38 #[.agg cs.toArray,.int .i64 i] w (IsOut w):=by
 obtain ⟨s,b,cl,rfl,hs6,hlt,hFb,hc,ho⟩:=h.gi
 have h7:s=0∨s=1∨s=2∨s=3∨s=4∨s=5∨s=6:=by omega
 have hi2:(g.kids.length:Int)≤(i:Int):=by omega
 rcases h7 with rfl|rfl|rfl|rfl|rfl|rfl|rfl
 ·exact partX_0 g i hi2 (by omega) (by omega) b cl w hc ho
 ·have:=ho.kind (by decide);rcases hm with e|e|e|e|e<;>(rw [e] at this;simp at this)
 ·have:=ho.kind (by decide);rcases hm with e|e|e|e|e<;>(rw [e] at this;simp at this)
 ·exact partX_3 g i hi2 (by have:=h3 (ho.kind (by decide));omega) (by omega) b cl w hc ho
 ·exact partX_4 g i hi2 (by omega) (by omega) b cl w hc ho
 ·exact partX_5 g i hi2 (by omega) (by omega) b cl w hc ho
 ·exact partX_6 g i hi2 (by omega) (by omega) b cl w hc ho
end Go.Proofs.YtpipehenfcbjbaaGreatDoor
set_option linter.unusedVariables false
set_option linter.unusedSimpArgs false
namespace Go.Proofs.YtpipehenfcbjbaaGreatDoor
open Go.ChangeShapes Go.WideShapes Go.ChangeAt Go.RowKit
theorem partIdle (p q:Addr) (w:World) :
  CallsD Tryz.prog 37 #[.pointer (some p),.pointer (some q)] .returning w fun e u' w'=>e=.returned (.tuple #[])∧u'=.returning∧w'=w:=by
 refine callsD_of_wpS Tryz.func37 rfl fun c₀ cs hu=>?_
 apply wpS_seq
 apply wpS_region
 simp [wpOpsS,go_sem,recoverD,hu,Tryz.ntmps37,Exit.thenS]
 refine wpS_cond (t:=false) (by simp [Act.eval,Array.replicate]) ?_
 simp only [Bool.false_eq_true,if_false]
 refine wpS_of_wp (wp_skip ?_)
 cases c₀
 simp_all [bodyPostS,results,Tryz.results37]
theorem partCatch (b1 b2:Nat) (hne:b1 ≠ b2) (x0 x1 x2 x3 x4:Value) (u:TypeId) (pv:Value) (older:List PanicEntry) (w:World) (h1:Blk w b1 #[x0,x1,x2,x3] 25) (h2:Blk w b2 #[x4] 4) :
  CallsD Tryz.prog 37 #[.pointer (some ⟨b1,0,none⟩),.pointer (some ⟨b2,0,none⟩)] (.panicking ({ v:=.iface u pv,recovered:=false } :: older)) w fun e u' w'=>e=.returned (.tuple #[])∧u'=.panicking ({ v:=.iface u pv,recovered:=true } :: older)∧w'=((((w.setCell ⟨b1,0,none⟩ (.int .i64 0)).setCell ⟨b1,1,none⟩ (.int .i64 0)).setCell ⟨b1,2,none⟩ (.slice none 0 0)).setCell ⟨b1,3,none⟩ (.slice none 0 0)).setCell ⟨b2,0,none⟩ (.bool false):=by
 obtain ⟨r1,y1,l1⟩:=h1.facts
 obtain ⟨r2,y2,l2⟩:=h2.facts
 have hne':b2 ≠ b1:=fun e=>hne e.symm
 refine callsD_of_wpS Tryz.func37 rfl fun c₀ cs hu=>?_
 apply wpS_seq
 apply wpS_region
 simp [wpOpsS,go_sem,recoverD,hu,Tryz.ntmps37,Exit.thenS]
 refine wpS_cond (t:=true) (by simp [Act.eval,Array.replicate]) ?_
 simp only [if_true]
 apply wpS_region
 simp [wpOpsS,go_sem,r1,y1,r2,y2,hne,hne',bodyPostS,results,Tryz.results37]
/-- A part as plain data and that there is one. -/
def IsPd (G:Nat→Prop) (kid:Gm) (ok:Bool) (w:World) (e:Ending) (w':World):Prop:=∃ pn nn cn pk nk ck,e=.returned (.tuple #[.agg #[.int .i64 kid.kind,.int .i64 kid.dim,.slice pn nn cn,.slice pk nk ck],.bool ok])∧FlSl G w' (.slice pn nn cn) kid.nums∧GmSl G w' (.slice pk nk ck) kid.kids∧Bel w w'
set_option maxHeartbeats 8000000 in
set_option maxRecDepth 100000 in
theorem partOf_in (g kid:Gm) (hsz:g.size≤1048576) (i:Int) (hpart:∀ (cs:List Value) (W:World),Ob Any' W 7 cs (newOf g)→Calls Tryz.prog 38 #[.agg cs.toArray,.int .i64 i] W (IsPart kid W)) (G:Nat→Prop) (F:Nat→Prop) (pn:Option Addr) (nn cn:Nat) (pk:Option Addr) (nk ck:Nat) (w:World) (hG:New G w) (hN:FlSl F w (.slice pn nn cn) g.nums) (hK:GmSl F w (.slice pk nk ck) g.kids) :
  Calls Tryz.prog 15 #[.agg #[.int .i64 g.kind,.int .i64 g.dim,.slice pn nn cn,.slice pk nk ck],.int .i64 i] w (IsPd G kid true w):=by
 have HGE:Hid (∀ W,Bel w W→Calls Tryz.prog 39 #[.agg #[.int .i64 g.kind,.int .i64 g.dim,.slice pn nn cn,.slice pk nk ck]] W (IsOb Any' W 7 (newOf g))):=Lib.hid fun W hW=>geometry_any g hsz Any' pn nn cn pk nk ck W (New.any W) ((hN.bel hW).mono fun _ _ _=>trivial) ((hK.bel hW).mono fun _ _ _=>trivial)
 have HPA:=Lib.hid hpart
 have HPL:Hid (∀ (cs:List Value) (W:World),Ob Any' W 7 cs kid→Calls Tryz.prog 40 #[.agg cs.toArray] W (IsGm (fun b=>W.heap.size≤b) kid W)):=Lib.hid fun cs W h=>plain_any kid Any' (fun b=>W.heap.size≤b) cs W (fun b hb=>hb) h
 clear hN hK hpart hsz
 generalize g.kind=kind at *
 generalize g.dim=dim at *
 generalize newOf g=g' at *
 have hmf:∀ (fn:Fn) (first cap:Array Value) (w:World),(Instr.makeFunc fn first cap).run Tryz.prog w=.ok (.func fn first cap) w:=fun _ _ _ _=>rfl
 go_enter_defers Tryz.func15,Tryz.ntmps15
 go_wp2_with (first
  | (go_at_call 40;(with_reducible refine (HPL.out _ _ (HOK.out.bel ?hx)).mono ?_);(case hx=>exact EL);rintro e w3 ⟨p4,n4,c4,p5,n5,c5,rfl,hf4,hg4,hb4⟩;have HF4:=Lib.hid hf4;have HG4:=Lib.hid hg4;have HB3:Hid (Bel w w3):=Lib.hid ((show Bel w _ by (have HB:=HB2.out;exact EL)).trans hb4);have HS3:Hid (w2.heap.size+1≤w3.heap.size):=Lib.hid (by have:=hb4.size;simp at this;exact this);have C1:Blk w3 (w.heap.size+1) #[.int .i64 0,.int .i64 0,.slice none 0 0,.slice none 0 0] 25:=Blk.bel (by (have HB:=HR2.out;exact KL)) hb4;have C2:Blk w3 (w.heap.size+1+1) #[.bool false] 4:=Blk.bel (by (have HB:=HT2.out;exact KL)) hb4;have HR3:=Lib.hid C1;have HT3:=Lib.hid C2;obtain ⟨r5,y5,u5⟩:=C1.facts;obtain ⟨r6,y6,u6⟩:=C2.facts;clear hf4 hg4 hb4 C1 C2)
  | (go_at_call 38;(with_reducible refine (HPA.out _ _ HO.out).mono ?_);rintro e w2 ⟨ks,rfl,hok,hb2⟩;obtain ⟨sk,bk,zk,hks,-⟩:=hok.gi;subst hks;have HOK:=Lib.hid hok;have HB2:Hid (Bel w w2):=Lib.hid (HB1.out.trans hb2);have HS2:Hid (w.heap.size+3≤w2.heap.size):=Lib.hid (Nat.le_trans HS1.out hb2.size);have HR2:=Lib.hid (HR1.out.bel hb2);have HT2:=Lib.hid (HT1.out.bel hb2);clear hok hb2)
  | (go_at_call 39;(with_reducible refine (HGE.out _ ?hb).mono ?_);(case hb=>exact EL);rintro e w1 ⟨cs,rfl,ho,hb1⟩;have HB1:Hid (Bel w w1):=Lib.hid ((show Bel w _ by exact EL).trans hb1);obtain ⟨s,b,cl,hcs,-⟩:=ho.gi;subst hcs;have HO:=Lib.hid ho;have HS1:Hid (w.heap.size+3≤w1.heap.size):=Lib.hid (by have:=hb1.size;simp at this;omega);have HR1:Hid (Blk w1 (w.heap.size+1) #[.int .i64 0,.int .i64 0,.slice none 0 0,.slice none 0 0] 25):=Lib.hid (Blk.bel (by exact KL) hb1);have HT1:Hid (Blk w1 (w.heap.size+1+1) #[.bool false] 4):=Lib.hid (Blk.bel (by exact KL) hb1);clear ho hb1))
 generalize hW:World.setCell _ ⟨w.heap.size+1+1,0,none⟩ _=w5
 have D1:Blk w5 (w.heap.size+1) #[.int .i64 kid.kind,.int .i64 kid.dim,.slice p4 n4 c4,.slice p5 n5 c5] 25:=by
  rw [← hW]
  have HB:=HR3.out
  exact SL
 have D2:Blk w5 (w.heap.size+1+1) #[.bool true] 4:=by
  rw [← hW]
  have HB:=HT3.out
  exact SL
 have HBA:Bel w w5:=by
  rw [← hW]
  have HB:=HB3.out
  exact EL
 have hf5:FlSl G w5 (.slice p4 n4 c4) kid.nums:=by
  rw [← hW]
  have h2:=HS2.out
  refine HF4.out.keep (by simp) (fun b hb hl=>?_) (fun b _ hb=>hG b (by simp at hb;omega))
  simp at hb
  repeat rw [Below.heap_setCell _ _ _ _ (by simp;omega)]
 have hg5:GmSl G w5 (.slice p5 n5 c5) kid.kids:=by
  rw [← hW]
  have h2:=HS2.out
  refine HG4.out.keep (by simp) (fun b hb hl=>?_) (fun b _ hb=>hG b (by simp at hb;omega))
  simp at hb
  repeat rw [Below.heap_setCell _ _ _ _ (by simp;omega)]
 have q3:=D2.facts.1 0
 simp at q3
 clear hW r5 y5 u5 r6 y6 u6
 refine leaves_cons (f:=37) (args:=#[.pointer (some ⟨w.heap.size+1,0,none⟩),.pointer (some ⟨w.heap.size+1+1,0,none⟩)]) (by simp) (by simp [go_sem]) ?_
 refine (partIdle ⟨w.heap.size+1,0,none⟩ ⟨w.heap.size+1+1,0,none⟩ _).mono ?_
 rintro e u' w'' ⟨rfl,rfl,rfl⟩
 simp only [Leaves,settle]
 exact ⟨_,results_two rfl (resIs_agg (n:=4) (cs:=#[.int .i64 kid.kind,.int .i64 kid.dim,.slice p4 n4 c4,.slice p5 n5 c5]) (by rfl) Tryz.underlying25 (by kernel_rfl) (T:=25) D1 rfl) (resIs_cell (a:=⟨w.heap.size+1+1,0,none⟩) (v:=.bool true) (by rfl) (by simp [go_sem,q3])),p4,n4,c4,p5,n5,c5,rfl,hf5,hg5,HBA⟩
set_option maxHeartbeats 8000000 in
set_option maxRecDepth 100000 in
theorem partOf_out (g:Gm) (hsz:g.size≤1048576) (i:Int) (hpart:∀ (cs:List Value) (W:World),Ob Any' W 7 cs (newOf g)→Calls Tryz.prog 38 #[.agg cs.toArray,.int .i64 i] W (IsOut W)) (F:Nat→Prop) (pn:Option Addr) (nn cn:Nat) (pk:Option Addr) (nk ck:Nat) (w:World) (hN:FlSl F w (.slice pn nn cn) g.nums) (hK:GmSl F w (.slice pk nk ck) g.kids) :
  Calls Tryz.prog 15 #[.agg #[.int .i64 g.kind,.int .i64 g.dim,.slice pn nn cn,.slice pk nk ck],.int .i64 i] w fun e w'=>e=.returned (.tuple #[.agg #[.int .i64 0,.int .i64 0,.slice none 0 0,.slice none 0 0],.bool false])∧Bel w w':=by
 have HGE:Hid (∀ W,Bel w W→Calls Tryz.prog 39 #[.agg #[.int .i64 g.kind,.int .i64 g.dim,.slice pn nn cn,.slice pk nk ck]] W (IsOb Any' W 7 (newOf g))):=Lib.hid fun W hW=>geometry_any g hsz Any' pn nn cn pk nk ck W (New.any W) ((hN.bel hW).mono fun _ _ _=>trivial) ((hK.bel hW).mono fun _ _ _=>trivial)
 have HPA:=Lib.hid hpart
 clear hN hK hpart hsz
 generalize g.kind=kind at *
 generalize g.dim=dim at *
 generalize newOf g=g' at *
 have hmf:∀ (fn:Fn) (first cap:Array Value) (w:World),(Instr.makeFunc fn first cap).run Tryz.prog w=.ok (.func fn first cap) w:=fun _ _ _ _=>rfl
 go_enter_defers Tryz.func15,Tryz.ntmps15
 go_wp2_with (first
  | (go_at_call 38;(with_reducible refine (HPA.out _ _ HO.out).mono ?_);rintro e w2 ⟨pv,rfl,hb2⟩;have HB2:Hid (Bel w w2):=Lib.hid (HB1.out.trans hb2);have HR2:=Lib.hid (HR1.out.bel hb2);have HT2:=Lib.hid (HT1.out.bel hb2);clear hb2)
  | (go_at_call 39;(with_reducible refine (HGE.out _ ?hb).mono ?_);(case hb=>exact EL);rintro e w1 ⟨cs,rfl,ho,hb1⟩;have HB1:Hid (Bel w w1):=Lib.hid ((show Bel w _ by exact EL).trans hb1);obtain ⟨s,b,cl,hcs,-⟩:=ho.gi;subst hcs;have HO:=Lib.hid ho;have HR1:Hid (Blk w1 (w.heap.size+1) #[.int .i64 0,.int .i64 0,.slice none 0 0,.slice none 0 0] 25):=Lib.hid (Blk.bel (by exact KL) hb1);have HT1:Hid (Blk w1 (w.heap.size+1+1) #[.bool false] 4):=Lib.hid (Blk.bel (by exact KL) hb1);clear ho hb1))
 refine leaves_cons (f:=37) (args:=#[.pointer (some ⟨w.heap.size+1,0,none⟩),.pointer (some ⟨w.heap.size+1+1,0,none⟩)]) (by simp) (by simp [go_sem]) ?_
 refine (partCatch (w.heap.size+1) (w.heap.size+1+1) (by omega) _ _ _ _ _ _ _ _ _ HR2.out HT2.out).mono ?_
 rintro e u' w'' ⟨rfl,rfl,rfl⟩
 generalize hW:World.setCell _ ⟨w.heap.size+1+1,0,none⟩ _=w5
 have D1:Blk w5 (w.heap.size+1) #[.int .i64 0,.int .i64 0,.slice none 0 0,.slice none 0 0] 25:=by
  rw [← hW]
  have HB:=HR2.out
  exact SL
 have D2:Blk w5 (w.heap.size+1+1) #[.bool false] 4:=by
  rw [← hW]
  have HB:=HT2.out
  exact SL
 have HBA:Bel w w5:=by
  rw [← hW]
  have HB:=HB2.out
  exact EL
 have q3:=D2.facts.1 0
 simp at q3
 simp only [Leaves,settle]
 exact ⟨_,results_two rfl (resIs_agg (n:=4) (cs:=#[.int .i64 0,.int .i64 0,.slice none 0 0,.slice none 0 0]) (by rfl) Tryz.underlying25 (by kernel_rfl) (T:=25) D1 rfl) (resIs_cell (a:=⟨w.heap.size+1+1,0,none⟩) (v:=.bool false) (by rfl) (by simp [go_sem,q3])),rfl,HBA⟩
end Go.Proofs.YtpipehenfcbjbaaGreatDoor
set_option linter.unusedVariables false
set_option linter.unusedSimpArgs false
namespace Go.Proofs.YtpipehenfcbjbaaGreatDoor
open Go.ChangeShapes Go.WideShapes Go.ChangeAt Go.RowKit
def kOf:Nat→Nat
 | 0=>6
 | _=>2
def tOf:Nat→TypeId
 | 0=>107
 | 1=>111
 | _=>91
def f3 {α:Type} (a b c:α):Nat→α
 | 0=>a
 | 1=>b
 | _=>c
/-- Blocks that no row lies in, and not A. -/
def Off (A:Nat) (v:Nat→Value) (b:Nat):Prop:=b ≠ A∧∀ j,j<3→(v j).ownBlock ≠ some b
structure Rows3 (A B:Nat) (w:World) (v:Nat→Value) (n:Nat→Nat) (xs:Nat→List Value) (L:List Gm):Prop where
 own:∀ i:Nat,i<3→w.ownsRow B (tOf i) (kOf i) (v i) (n i) (xs i)
 len:∀ i:Nat,i<3→(newAll ((i:Int)+1) L).length=n i
 ne:∀ i j:Nat,i<3→j<3→i ≠ j→(v i).ownBlock=none∨(v i).ownBlock ≠ (v j).ownBlock
 row:∀ i:Nat,i<3→RowOb (Off A v) w (fun o=>(xs i)[o]?) (i+1) (kOf i) (newAll ((i:Int)+1) L)
theorem Rows3.nil (A B:Nat) (w:World):Rows3 A B w (f3 (.slice none 0 0) (.slice none 0 0) (.slice none 0 0)) (f3 0 0 0) (f3 [] [] []) [] where
 own i hi:=by
  have h3:i=0∨i=1∨i=2:=by omega
  rcases h3 with rfl|rfl|rfl<;>exact World.ownsRow_nil _ _ _ _
 len i hi:=by
  have h3:i=0∨i=1∨i=2:=by omega
  rcases h3 with rfl|rfl|rfl<;>rfl
 ne i j hi hj hn:=by
  have h3:i=0∨i=1∨i=2:=by omega
  rcases h3 with rfl|rfl|rfl<;>exact Or.inl rfl
 row i hi:=fun t g hg=>by simp [newAll] at hg
theorem ownsRow_bel {w w':World} {base size n:Nat} {e:TypeId} {v:Value} {xs:List Value} (h:w.ownsRow base e size v n xs) (hb:Bel w w'):w'.ownsRow base e size v n xs :=
 h.kept (World.grownBy.of_bel hb none) (by cases v.ownBlock<;>simp)
/-- A part of no kind that is gathered. -/
theorem Rows3.skip {A B:Nat} {w w':World} {v:Nat→Value} {n:Nat→Nat} {xs:Nat→List Value} {L:List Gm} (h:Rows3 A B w v n xs L) (hb:Bel w w') {kd:Gm} (hk:∀ i:Nat,i<3→(i:Int)+1 ≠ (newOf kd).kind):Rows3 A B w' v n xs (L ++ [kd]) where
 own i hi:=ownsRow_bel (h.own i hi) hb
 len i hi:=by
  rw [newAll_snoc,if_neg (by have:=hk i hi;omega),List.append_nil]
  exact h.len i hi
 ne:=h.ne
 row i hi:=by
  rw [newAll_snoc,if_neg (by have:=hk i hi;omega),List.append_nil]
  intro t g hg
  obtain ⟨cl,h1,h2,h3⟩:=h.row i hi t g hg
  exact ⟨cl,h1,h2,h3.bel hb⟩
theorem Rows3.push {A B:Nat} {w:World} {v:Nat→Value} {n:Nat→Nat} {xs:Nat→List Value} {L:List Gm} (h:Rows3 A B w v n xs L) (hA:A<w.heap.size) {i:Nat} (hi:i<3) {kd:Gm} (hk:(i:Int)+1=(newOf kd).kind) {w3 w6:World} {o:Obj} (h3:Bel w w3) {cl:List Value} (hcl:cl.length=kOf i) (ho:Ob (Off A v) w3 (i+1) cl (newOf kd)) {v6:Value} (ho6:w6.ownsRow B (tOf i) (kOf i) v6 (n i+1) (xs i ++ cl)) (hg:(w3.alloc o).grownBy w6 (v i).ownBlock) (hb6:v6.ownBlock=(v i).ownBlock∨v6.ownBlock=some (w3.alloc o).heap.size)
  {v':Nat→Value} {n':Nat→Nat} {xs':Nat→List Value} (e1:v' i=v6∧n' i=n i+1∧xs' i=xs i ++ cl) (e2:∀ j,j<3→j ≠ i→v' j=v j∧n' j=n j∧xs' j=xs j):Rows3 A B w6 v' n' xs' (L ++ [kd]):=by
 have hs3:=h3.size
 have hs6:=hg.size
 have hsa:(w3.alloc o).heap.size=w3.heap.size+1:=by simp
 have hlt:∀ j,j<3→∀ b,(v j).ownBlock=some b→b<w.heap.size:=fun j hj b hb=>((h.own j hj).lt b hb).2
 have hblk:∀ b,b<w3.heap.size→(v i).ownBlock ≠ some b→w6.heap[b]?=w3.heap[b]?:=fun b hb hn=>by
  rw [hg.block b (by omega) (fun e=>hn e.symm)]
  exact Below.heap_alloc _ _ _ hb
 have hown:∀ j,j<3→j ≠ i→w6.ownsRow B (tOf j) (kOf j) (v j) (n j) (xs j):=fun j hj hne=>(ownsRow_bel (h.own j hj) (h3.alloc o)).kept hg (h.ne j i hj hi hne)
 have hoff:∀ b,b<w3.heap.size→Off A v b→Off A v' b:=fun b hb ⟨q1,q2⟩=>⟨q1,fun j hj=>by
  by_cases hji:j=i
  ·subst hji
   rw [e1.1]
   rcases hb6 with e|e
   ·rw [e]
    exact q2 j hj
   ·rw [e]
    intro k
    have:=Option.some.inj k
    omega
  ·rw [(e2 j hj hji).1]
   exact q2 j hj⟩
 refine ⟨fun j hj=>?_,fun j hj=>?_,fun j k hj hk' hne=>?_,fun j hj=>?_⟩
 ·by_cases hji:j=i
  ·subst hji
   rw [e1.1,e1.2.1,e1.2.2]
   exact ho6
  ·obtain ⟨q1,q2,q3⟩:=e2 j hj hji
   rw [q1,q2,q3]
   exact hown j hj hji
 ·rw [newAll_snoc,List.length_append,h.len j hj]
  by_cases hji:j=i
  ·subst hji
   rw [if_pos (Or.inr hk),e1.2.1]
   rfl
  ·rw [if_neg (by omega),(e2 j hj hji).2.1]
   rfl
 ·have hfr:∀ q,q<3→(v q).ownBlock ≠ some (w3.alloc o).heap.size:=fun q hq e=>by
   have:=hlt q hq _ e
   omega
  by_cases hji:j=i
  ·subst hji
   have hki:k ≠ j:=fun e=>hne e.symm
   rw [e1.1,(e2 k hk' hki).1]
   rcases hb6 with e|e
   ·rw [e]
    exact h.ne j k hj hk' hne
   ·rw [e]
    exact Or.inr fun e'=>hfr k hk' e'.symm
  ·rw [(e2 j hj hji).1]
   by_cases hki:k=i
   ·subst hki
    rw [e1.1]
    rcases hb6 with e|e
    ·rw [e]
     exact h.ne j k hj hk' hne
    ·rw [e]
     exact Or.inr (hfr j hj)
   ·rw [(e2 k hk' hki).1]
    exact h.ne j k hj hk' hne
 ·have hkeep:RowOb (Off A v') w6 (fun o=>(xs j)[o]?) (j+1) (kOf j) (newAll ((j:Int)+1) L):=fun t g hg'=>by
   obtain ⟨cl',h1,h2,h4⟩:=h.row j hj t g hg'
   refine ⟨cl',h1,h2,h4.keep (by omega) (fun b hb hl=>?_) fun b hl hb=>hoff b (by omega) hb⟩
   rw [hblk b (by omega) (hb.2 i hi)]
   exact h3.block b hl
  by_cases hji:j=i
  ·subst hji
   rw [newAll_snoc,if_pos (Or.inr hk),e1.2.2]
   refine RowOb.push (t:=n j) (cl:=cl) hkeep (h.len j hj) (fun o u _ hu=>?_) hcl (fun t u hu=>?_) (ho.keep (by omega) (fun b hb hl=>hblk b hl (hb.2 j hj)) fun b hl hb=>hoff b hl hb)
   ·show (xs j ++ cl)[o]?=some u
    rw [List.getElem?_append_left (List.getElem?_eq_some_iff.1 hu).1]
    exact hu
   ·show (xs j ++ cl)[n j*kOf j+t]?=some u
    have hxl:=(h.own j hj).1
    rw [List.getElem?_append_right (by omega),hxl,Nat.add_sub_cancel_left]
    exact hu
  ·rw [newAll_snoc,if_neg (by omega),List.append_nil,(e2 j hj hji).2.2]
   exact hkeep
end Go.Proofs.YtpipehenfcbjbaaGreatDoor
