/-
 impl.NewOf: as plain data. No panic;what stood in memory has not turned.
-/
import Derived.Test.YtpipehenfcbjbaaGreatDoorPyi
import Derived.Test.YtpipehenfcbjbaaGreatDoorPyf
set_option linter.unusedVariables false
set_option linter.unusedSimpArgs false
namespace Go.Proofs.YtpipehenfcbjbaaGreatDoor
open Go.ChangeShapes Go.WideShapes Go.ChangeAt Go.RowKit
set_option maxHeartbeats 4000000 in
set_option maxRecDepth 100000 in
theorem newOfPd_any (kid:Gm) (s:Int) (pk:Option Addr) (n ck:Nat) (w:World) (G:Nat→Prop) (hG:New G w) (hn:∀ W,Bel w W→Calls Tryz.prog 41 #[.int .i64 s,.slice pk n ck] W (IsPart kid W)):Calls Tryz.prog 16 #[.int .i64 s,.slice pk n ck] w (IsPd G kid true w):=by
 have HN:=Lib.hid hn
 have HPL:Hid (∀ (cs:List Value) (W:World),Ob Any' W 7 cs kid→Calls Tryz.prog 40 #[.agg cs.toArray] W (IsGm (fun b=>W.heap.size≤b) kid W)):=Lib.hid fun cs W h=>plain_any kid Any' (fun b=>W.heap.size≤b) cs W (fun b hb=>hb) h
 clear hn
 go_enter Tryz.func16,Tryz.ntmps16
 go_wp2_with (first
  | (go_at_call 40;(with_reducible refine (HPL.out _ _ (HOK.out.bel ?hx)).mono ?_);(case hx=>exact EL);rintro e w3 ⟨p4,n4,c4,p5,n5,c5,rfl,hf4,hg4,hb4⟩;have HF4:=Lib.hid hf4;have HG4:=Lib.hid hg4;have HB3:Hid (Bel w w3):=Lib.hid ((show Bel w _ by (have HB:=HB2.out;exact EL)).trans hb4);have C1:Blk w3 w.heap.size #[.int .i64 0,.int .i64 0,.slice none 0 0,.slice none 0 0] 25:=Blk.bel (by (have HB:=HR2.out;exact KL)) hb4;have HR3:=Lib.hid C1;obtain ⟨r5,y5,u5⟩:=C1.facts;clear hf4 hg4 hb4 C1)
  | (go_at_call 41;(with_reducible refine (HN.out _ ?hb).mono ?_);(case hb=>exact EL);rintro e w2 ⟨ks,rfl,hok,hb2⟩;obtain ⟨sk,bk,zk,hks,-⟩:=hok.gi;subst hks;have HOK:=Lib.hid hok;have HS2:Hid (w.heap.size<w2.heap.size):=Lib.hid (by have:=hb2.size;simp at this;omega);have HB2:Hid (Bel w w2):=Lib.hid ((show Bel w _ by exact EL).trans hb2);have HR2:Hid (Blk w2 w.heap.size #[.int .i64 0,.int .i64 0,.slice none 0 0,.slice none 0 0] 25):=Lib.hid (Blk.bel (by exact KL) hb2);clear hok hb2))
 refine post_ret (results_two rfl (resIs_agg (n:=4) (cs:=#[.int .i64 kid.kind,.int .i64 kid.dim,.slice p4 n4 c4,.slice p5 n5 c5]) (by rfl) Tryz.underlying25 (by kernel_rfl) (T:=25) ?_ rfl) (resIs_tmp (by rfl))) ⟨p4,n4,c4,p5,n5,c5,rfl,?_,?_,?_⟩
 ·have HB:=HR3.out
  exact SL
 ·have h2:=HS2.out
  refine HF4.out.keep (by simp) (fun b hb hl=>?_) (fun b _ hb=>hG b (by simp at hb;omega))
  simp at hb
  repeat rw [Below.heap_setCell _ _ _ _ (by simp;omega)]
 ·have h2:=HS2.out
  refine HG4.out.keep (by simp) (fun b hb hl=>?_) (fun b _ hb=>hG b (by simp at hb;omega))
  simp at hb
  repeat rw [Below.heap_setCell _ _ _ _ (by simp;omega)]
 ·have HB:=HB3.out
  exact EL
end Go.Proofs.YtpipehenfcbjbaaGreatDoor
set_option linter.unusedVariables false
set_option linter.unusedSimpArgs false
namespace Go.Proofs.YtpipehenfcbjbaaGreatDoor
open Go.ChangeShapes Go.WideShapes Go.ChangeAt Go.RowKit
theorem Good.kids_fixed {c:Nat} (hc:c≤3) {g:Gm} (h:Good c g):∀ k ∈ g.kids,newOf k=k∧(kidOf g.kind<0∨kidOf g.kind=k.kind):=fun k hk=>by
 cases g with
 | mk kk d ns ks =>
  have hg:=h
  rw [Good] at hg
  have h2:=Goods.mem hg.2.2.2.2.2.2 hk
  exact ⟨newOf_fixed hc k.size k (Nat.le_refl _) h2.1,h2.2⟩
theorem newAll_self {want:Int}:∀ (l:List Gm),(∀ k ∈ l,newOf k=k∧(want<0∨want=k.kind))→newAll want l=l
 | [],_=>rfl
 | a :: r,h=>by
  obtain ⟨e1,e2⟩:=h a (by simp)
  rw [newAll,e1,if_pos e2,newAll_self r fun k hk=>h k (by simp [hk])]
/-- What is made of all parts again. -/
def againG (g:Gm):Gm:=if g.kids=[] then .mk g.kind 0 [] [] else g
theorem joinG_again {c:Nat} (hc:c≤3) {g:Gm} (h:Good c g) (hm:MultiK g.kind) (s:Nat) (hs:g.kind=s):joinG s g.kids=againG g:=by
 unfold joinG againG
 rw [← hs]
 by_cases h0:g.kids=[]
 ·rw [if_pos h0,if_pos h0]
 ·rw [if_neg h0,if_neg h0]
  have hcm:common g.kids=c:=common_good hc (fun k hk=>(h.kid hk).dim) h0
  rw [hcm]
  cases g with
  | mk kk d ns ks =>
   have hg:=h
   rw [Good] at hg
   obtain ⟨rfl,-,-,-,-,hnl,hks⟩:=hg
   have hl:¬ leafB kk:=by
    unfold leafB
    rcases hm with e|e|e|e|e<;>(simp only [Gm.kind] at e;omega)
   rw [hnl hl]
   show Gm.mk kk c [] (ks.map (force c))=Gm.mk kk c [] ks
   rw [← forceAll_map,forceAll_self hc ks hks]
theorem again_nn {g:Gm} (h:NN g):NN (againG g):=by
 unfold againG
 split
 ·intro x hx
  simp [allOf,allOfs] at hx
 ·exact h
theorem again_size {g:Gm} (h:g.size≤1048576):(againG g).size≤1048576:=by
 unfold againG
 split
 ·simp [Gm.size,Gm.sizes]
 ·exact h
theorem newOf_again {c:Nat} (hc:c≤3) {g:Gm} (h:Good c g) (hm:MultiK g.kind) (s:Nat) (hs:g.kind=s) (hsz:g.size≤1048576) (F:Nat→Prop) (pk:Option Addr) (ck:Nat) (w:World) (hK:GmSl F w (.slice pk g.kids.length ck) g.kids):Calls Tryz.prog 41 #[.int .i64 s,.slice pk g.kids.length ck] w (IsPart (againG g) w):=by
 have hk:=h.kids_fixed hc
 have hz:∀ k ∈ g.kids,k.size≤1048576:=fun k hk=>by
  have:=Gm.size_kid hk
  omega
 have hl:g.kids.length≤1048576:=by
  have:=Gm.len_sizes g.kids
  have:=g.size_eq
  omega
 have hj:=joinG_again hc h hm s hs
 rw [hs] at hm hk
 have h5:s=0∨s=3∨s=4∨s=5∨s=6:=by
  rcases hm with e|e|e|e|e<;>omega
 rcases h5 with rfl|rfl|rfl|rfl|rfl
 ·have hq:=newOf_0 g.kids hz hl F pk ck w hK
  have e:g.kids.map newOf=g.kids:=by
   rw [← newAll_all]
   exact newAll_self _ fun k hk'=>⟨(hk k hk').1,Or.inl (by decide)⟩
  rw [e,hj] at hq
  exact hq
 ·have hq:=newOf_3 g.kids hz hl F pk ck w hK
  rw [newAll_self (want:=2) _ hk,hj] at hq
  exact hq
 ·have hq:=newOf_4 g.kids hz hl F pk ck w hK
  rw [newAll_self (want:=1) _ hk,hj] at hq
  exact hq
 ·have hq:=newOf_5 g.kids hz hl F pk ck w hK
  rw [newAll_self (want:=2) _ hk,hj] at hq
  exact hq
 ·have hq:=newOf_6 g.kids hz hl F pk ck w hK
  rw [newAll_self (want:=3) _ hk,hj] at hq
  exact hq
/-- Whether PartOf finds something behind the last part. -/
def overB (g:Gm):Bool:=decide (g.kind=3) && decide (g.kids.length=0)
theorem partOf_over (g:Gm) (hsz:g.size≤1048576) (hm:MultiK (newOf g).kind) (hl:(newOf g).kids.length≤600) (F:Nat→Prop) (pn:Option Addr) (nn cn:Nat) (pk:Option Addr) (nk ck:Nat) (w:World) (hN:FlSl F w (.slice pn nn cn) g.nums) (hK:GmSl F w (.slice pk nk ck) g.kids) :
  Calls Tryz.prog 15 #[.agg #[.int .i64 g.kind,.int .i64 g.dim,.slice pn nn cn,.slice pk nk ck],.int .i64 ((newOf g).kids.length:Nat)] w fun e w'=>∃ (a b:Int) (p1:Option Addr) (n1 c1:Nat) (p2:Option Addr) (n2 c2:Nat),e=.returned (.tuple #[.agg #[.int .i64 a,.int .i64 b,.slice p1 n1 c1,.slice p2 n2 c2],.bool (overB (newOf g))])∧Bel w w':=by
 by_cases h3:(newOf g).kind=3∧(newOf g).kids.length=0
 ·have ho:overB (newOf g)=true:=by unfold overB;rw [decide_eq_true h3.1,decide_eq_true h3.2];rfl
  rw [ho,h3.2]
  refine (partOf_in g (ringOf (newOf g)) hsz 0 (fun cs W h=>part_none (newOf g) h3.1 cs W h) (fun _=>True) F pn nn cn pk nk ck w (New.any w) hN hK).mono ?_
  rintro e w' ⟨p1,n1,c1,p2,n2,c2,rfl,-,-,hb⟩
  exact ⟨_,_,_,_,_,_,_,_,rfl,hb⟩
 ·have ho:overB (newOf g)=false:=by
   unfold overB
   by_cases h4:(newOf g).kind=3
   ·rw [decide_eq_true h4,decide_eq_false (fun e=>h3 ⟨h4,e⟩)]
    rfl
   ·rw [decide_eq_false h4]
    rfl
  rw [ho]
  refine (partOf_out g hsz _ (fun cs W h=>part_over (newOf g) hm _ rfl (fun h4=>by
   rcases Nat.eq_zero_or_pos (newOf g).kids.length with e|e
   ·exact absurd ⟨h4,e⟩ h3
   ·exact e) (by omega) cs W h) F pn nn cn pk nk ck w hN hK).mono ?_
  rintro e w' ⟨rfl,hb⟩
  exact ⟨_,_,_,_,_,_,_,_,rfl,hb⟩
end Go.Proofs.YtpipehenfcbjbaaGreatDoor
