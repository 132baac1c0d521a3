/-
 spec.Area2 of places of whole numbers. No panic;what stood in memory has not turned.
-/
import Derived.Test.YtpipehenfcbjbaaGreatDoorPav
set_option linter.unusedVariables false
namespace Go.Proofs.YtpipehenfcbjbaaGreatDoor
open Go.ChangeShapes Go.WideShapes Go.ChangeAt Go.RowKit
def crossAt (ps:List (Int × Int)) (i:Nat):Int:=(ps.getD i (0,0)).1*(ps.getD (i+1) (0,0)).2 - (ps.getD (i+1) (0,0)).1*(ps.getD i (0,0)).2
def areaTo (ps:List (Int × Int)):Nat→Int
 | 0=>0
 | k+1=>areaTo ps k+crossAt ps k
def area2 (ps:List (Int × Int)):Int:=areaTo ps (ps.length - 1)
def SmallPts (ps:List (Int × Int)):Prop:=∀ p ∈ ps,(-1048576≤p.1∧p.1≤1048576)∧-1048576≤p.2∧p.2≤1048576
theorem prod_bd {a b:Int} (ha:-1048576≤a∧a≤1048576) (hb:-1048576≤b∧b≤1048576):-1099511627776≤a*b∧a*b≤1099511627776:=by
 have h1:(a*b).natAbs=a.natAbs*b.natAbs:=Int.natAbs_mul a b
 have h2:a.natAbs*b.natAbs≤1048576*1048576:=Nat.mul_le_mul (by omega) (by omega)
 omega
theorem SmallPts.getD {ps:List (Int × Int)} (h:SmallPts ps) (i:Nat):(-1048576≤(ps.getD i (0,0)).1∧(ps.getD i (0,0)).1≤1048576)∧-1048576≤(ps.getD i (0,0)).2∧(ps.getD i (0,0)).2≤1048576:=by
 rcases Nat.lt_or_ge i ps.length with k|k
 ·have e:ps.getD i (0,0)=ps[i]:=by simp [List.getD,k]
  rw [e]
  exact h _ (List.getElem_mem k)
 ·have e:ps.getD i (0,0)=(0,0):=by simp [List.getD,k]
  rw [e]
  decide
theorem cross_bd {ps:List (Int × Int)} (h:SmallPts ps) (i:Nat):-2199023255552≤crossAt ps i∧crossAt ps i≤2199023255552:=by
 unfold crossAt
 have a:=h.getD i
 have b:=h.getD (i+1)
 have p1:=prod_bd a.1 b.2
 have p2:=prod_bd b.1 a.2
 omega
theorem areaTo_bd {ps:List (Int × Int)} (h:SmallPts ps):∀ k:Nat,-(2199023255552*(k:Int))≤areaTo ps k∧areaTo ps k≤2199023255552*(k:Int)
 | 0=>by simp [areaTo]
 | k+1=>by
  have ih:=areaTo_bd h k
  have c:=cross_bd h k
  unfold areaTo
  omega
set_option maxHeartbeats 2000000 in
set_option maxRecDepth 100000 in
theorem area2_any {F:Nat→Prop} (v:Value) (ps:List (Int × Int)) (w:World) (h:XySl F w v ps) (hs:SmallPts ps) (hl:ps.length≤1048576) :
  Calls Tryz.prog 36 #[v] w fun e w'=>e=.returned (.int .i64 (area2 ps))∧Bel w w':=by
 obtain ⟨p,cap,rfl,hlc,hc,hr⟩:=h
 have HR:=Lib.hid hr
 have HS:=Lib.hid hs
 unfold area2
 generalize hn:ps.length=n at *
 have HN:=Lib.hid hn
 clear hr hs hn
 go_enter Tryz.func36,Tryz.ntmps36
 go_wp2
 go_loopw [3,4] (fun sv iv wr=>∃ k:Nat,sv=.int .i64 (areaTo ps k)∧iv=.int .i64 ((k:Int)+1)∧k≤n - 1∧Bel w wr) (fun _ iv _=>n - (intOf iv).toNat)
 case atStart=>exact ⟨0,rfl,rfl,by omega,Bel.refl _⟩
 case round =>
  obtain ⟨k,rfl,rfl,hk,hbel⟩:=hrel
  have HBEL:=Lib.hid hbel
  by_cases hkn:k+1<n
  ·have hlx:=HN.out
   obtain ⟨b,off,rfl,hlt,hF2,hcs⟩:=HR.out (by intro e;rw [e] at hlx;simp at hlx;omega)
   obtain ⟨q0,hq0⟩:∃ q,ps[k]?=some q:=⟨_,List.getElem?_eq_getElem (by omega)⟩
   obtain ⟨q1,hq1⟩:∃ q,ps[k+1]?=some q:=⟨_,List.getElem?_eq_getElem (by omega)⟩
   obtain ⟨d0,d1⟩:=hcs k q0 hq0
   obtain ⟨d2,d3⟩:=hcs (k+1) q1 hq1
   have D0:=cell_kept hbel d0
   have D1:=cell_kept hbel d1
   have D2:=cell_kept hbel d2
   have D3:=cell_kept hbel d3
   have hbl:b<wr.heap.size:=Nat.lt_of_lt_of_le hlt hbel.size
   have hcr:crossAt ps k=q0.1*q1.2 - q1.1*q0.2:=by
    unfold crossAt
    simp [List.getD,hq0,hq1]
   have hcb:=cross_bd HS.out k
   have hsb:=areaTo_bd HS.out k
   have hst:areaTo ps (k+1)=areaTo ps k+crossAt ps k:=rfl
   have hg0:=HS.out q0 (List.mem_iff_getElem?.2 ⟨k,hq0⟩)
   have hg1:=HS.out q1 (List.mem_iff_getElem?.2 ⟨k+1,hq1⟩)
   have hp1:=prod_bd hg0.1 hg1.2
   have hp2:=prod_bd hg1.1 hg0.2
   rw [hcr] at hcb hst
   obtain ⟨x0,y0⟩:=q0
   obtain ⟨x1,y1⟩:=q1
   simp only at *
   have HST:=Lib.hid hst
   clear hst hcr hlx hF2 hcs hq0 hq1 d0 d1 d2 d3 hbel hg0 hg1
   generalize areaTo ps k=s at *
   generalize ha:x0*y1=a at *
   generalize hb:x1*y0=c at *
   have i1:((k:Int)+1 - 1)=(k:Int):=by omega
   have i2:((k:Int)+1).toNat=k+1:=by omega
   go_wp2
   go_quiet (fail)
   go_wp2
   go_roundw
   case rel=>exact ⟨k+1,by rw [HST.out],by go_num,by omega,by have HB:=HBEL.out;exact EL⟩
   case measure=>simp [intOf];omega
  ·have e:k=n - 1:=by omega
   have HE:Hid (areaTo ps (n - 1)=areaTo ps k):=Lib.hid (by rw [e])
   have HBB:=Lib.hid hbel
   clear e hbel
   go_wp2
   go_ret
   exact ⟨by rw [HE.out];rfl,HBB.out⟩
/-! ### Rings -/
theorem PtsAre.small {c:Nat} {xs:List Nat} {ps:List (Int × Int)} (h:PtsAre c xs ps):SmallPts ps:=by
 intro p hp
 obtain ⟨i,hi⟩:=List.mem_iff_getElem?.1 hp
 have hlt:=(List.getElem?_eq_some_iff.1 hi).1
 rw [h.1] at hlt
 exact ⟨(h.2 i p _ hi (plsOf_get hlt)).2.2.1,(h.2 i p _ hi (plsOf_get hlt)).2.2.2⟩
end Go.Proofs.YtpipehenfcbjbaaGreatDoor
