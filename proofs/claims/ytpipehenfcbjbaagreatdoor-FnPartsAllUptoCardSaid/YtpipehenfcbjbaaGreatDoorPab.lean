/-
 Append to a row of the call's own: the block in which the longer row lies is the old one or a new one;in a region that draws its order too. No condition.
-/
import Derived.Test.YtpipehenfcbjbaaGreatDoorPaa
import Derived.Laws.AppendOwn
import Derived.Deep.RegionLaw
import Derived.Deep.RegionHeld3
import Derived.BigRegion
set_option linter.unusedVariables false
namespace Go.Proofs.YtpipehenfcbjbaaGreatDoor
open Go.ChangeShapes Go.WideShapes Go.ChangeAt Go.RowKit
section
variable {P:Program} (w:World)
theorem append_block (base:Nat) (t ty e:TypeId) (i:TypeInfo) (z:Value) (size bytes:Nat) (ht:P.underlying t=some (.slice e)) (hi:P.info? e=some i) (hz:i.zero=some z)
  (hsize:i.size=size) (hby:i.bytes=bytes) (v:Value) (n:Nat) (xs:List Value) (hown:w.ownsRow base e size v n xs)
  (a:Addr) (m c:Nat) (news:List Value) (hl:news.length=m*size) (hnews:∀ j u,news[j]?=some u→w.cell? (a.add j)=some u) (h1:∀ u ∈ news,u.oneCell'=true)
  (hm:0<m) (h63:n+m≤maxLen) (hbytes:(n+m)*bytes≤140737488355328) {v':Value} {w':World}
  (hr:(Builtin.append_ #[t,t] ty #[v,.slice (some a) m c]).run P w=.ok v' w'):v'.ownBlock=v.ownBlock∨v'.ownBlock=some w.heap.size:=by
 subst hsize
 subst hby
 have hsmall:n+m≤9223372036854775807:=by simp only [maxLen] at h63;omega
 rcases hown.2 with ⟨rfl,rfl⟩|⟨g,cap,cur,rfl,hbg,hg,hnc,hcm,hcs,htake⟩
 ·rw [run_append_nil w t ty e i z ht hi hz a m c news hl hnews hm (by omega) (by simp only [Nat.zero_add] at hbytes;omega)] at hr
  cases hr
  exact Or.inr rfl
 ·by_cases hroom:n+m≤cap
  ·have hfit:n*i.size+news.length≤cur.size:=by rw [hl,hcs,← Nat.add_mul];exact Nat.mul_le_mul_right _ hroom
   rw [run_append_room w t ty e i ht hi g n cap cur hg a m c news hl hnews h1 hroom hfit] at hr
   cases hr
   exact Or.inl rfl
  ·rw [run_append_grow w t ty e i z ht hi hz ⟨g,0,none⟩ n cap xs hown.1 (hown.cells rfl) a m c news hl hnews (by omega) (by omega) (growslice_fits (by omega) hbytes)] at hr
   cases hr
   exact Or.inr rfl

/-- Append, inside a region that draws its order. -/
theorem step_append_row {ops:Array Oper} {o:Oper} {a:Act} {K:Act→World→Prop} {Q:Exit→Act→World→Prop} (hgd:o.guard=none) (s x:Operand) (t:TypeId)
  (ho:o.op=.call { callee:=.builtin .append,args:=#[s,x],argTypes:=#[t,t] })
  (base:Nat) (e:TypeId) (i:TypeInfo) (z:Value) (size bytes:Nat) (ht:P.underlying t=some (.slice e)) (hi:P.info? e=some i) (hz:i.zero=some z)
  (hsize:i.size=size) (hby:i.bytes=bytes) (hzs:z.cells.size=size) (hsz:0<size)
  (v:Value) (n:Nat) (xs:List Value) (hs:a.eval s=v) (hown:w.ownsRow base e size v n xs)
  (ad:Addr) (m c:Nat) (news:List Value) (hx:a.eval x=.slice (some ad) m c) (hl:news.length=m*size) (hnews:∀ j u,news[j]?=some u→w.cell? (ad.add j)=some u) (h1:∀ u ∈ news,u.oneCell'=true)
  (hm:0<m) (h63:n+m≤maxLen) (hbytes:(n+m)*bytes≤140737488355328) (hbase:base≤w.heap.size)
  (h:∀ v' w',w'.ownsRow base e size v' (n+m) (xs ++ news)→w.grownBy w' v.ownBlock→(v'.ownBlock=v.ownBlock∨v'.ownBlock=some w.heap.size)→K (a.put o.dst v') w') :
  if Region.wanted o (yielded ops a.tmps)=true then o.wp P a w K Q else K (a.put o.dst undef) w:=by
 have hw:Region.wanted o (yielded ops a.tmps)=true:=by simp [Region.wanted,hgd]
 rw [if_pos hw]
 obtain ⟨v',w',hr,h2,h3,h4⟩:=run_append_own (P:=P) w base t o.type e i z size bytes ht hi hz hsize hby hzs hsz v n xs hown ad m c news hl hnews h1 h63 hbytes hbase
 have h5:=append_block (P:=P) w base t o.type e i z size bytes ht hi hz hsize hby v n xs hown ad m c news hl hnews h1 hm h63 hbytes hr
 unfold Oper.wp execOp
 simp only [ho,resolve,invoke,builtin,Sem.run_bind,Sem.run_pure,Result.andThen_ok,List.map_toArray,List.map_cons,List.map_nil,hs,hx,hr]
 exact h v' w' h2 h3 h5
/-- Append, in the order of the text. -/
theorem wpList_append_row {ops:Array Oper} {rest:List Oper} {o:Oper} {a:Act} {Q:Exit→Act→World→Prop} (hgd:o.guard=none) (s x:Operand) (t:TypeId)
  (ho:o.op=.call { callee:=.builtin .append,args:=#[s,x],argTypes:=#[t,t] })
  (base:Nat) (e:TypeId) (i:TypeInfo) (z:Value) (size bytes:Nat) (ht:P.underlying t=some (.slice e)) (hi:P.info? e=some i) (hz:i.zero=some z)
  (hsize:i.size=size) (hby:i.bytes=bytes) (hzs:z.cells.size=size) (hsz:0<size)
  (v:Value) (n:Nat) (xs:List Value) (hs:a.eval s=v) (hown:w.ownsRow base e size v n xs)
  (ad:Addr) (m c:Nat) (news:List Value) (hx:a.eval x=.slice (some ad) m c) (hl:news.length=m*size) (hnews:∀ j u,news[j]?=some u→w.cell? (ad.add j)=some u) (h1:∀ u ∈ news,u.oneCell'=true)
  (hm:0<m) (h63:n+m≤maxLen) (hbytes:(n+m)*bytes≤140737488355328) (hbase:base≤w.heap.size)
  (h:∀ v' w',w'.ownsRow base e size v' (n+m) (xs ++ news)→w.grownBy w' v.ownBlock→(v'.ownBlock=v.ownBlock∨v'.ownBlock=some w.heap.size)→wpList P ops Q rest (a.put o.dst v') w'):wpList P ops Q (o :: rest) a w:=by
 refine wpList_plain hgd fun K hK=>?_
 obtain ⟨v',w',hr,h2,h3,h4⟩:=run_append_own (P:=P) w base t o.type e i z size bytes ht hi hz hsize hby hzs hsz v n xs hown ad m c news hl hnews h1 h63 hbytes hbase
 have h5:=append_block (P:=P) w base t o.type e i z size bytes ht hi hz hsize hby v n xs hown ad m c news hl hnews h1 hm h63 hbytes hr
 unfold Oper.wp execOp
 simp only [ho,resolve,invoke,builtin,Sem.run_bind,Sem.run_pure,Result.andThen_ok,List.map_toArray,List.map_cons,List.map_nil,hs,hx,hr]
 exact hK _ _ (h v' w' h2 h3 h5)
end
end Go.Proofs.YtpipehenfcbjbaaGreatDoor
set_option linter.unusedVariables false
namespace Go.Proofs.YtpipehenfcbjbaaGreatDoor
open Go.ChangeShapes Go.WideShapes Go.ChangeAt Go.RowKit
theorem i64_and1 (n:Int):bits .and .i64 n 1=n % 2:=by
 have h3:(BitVec.ofInt 64 1).toNat=2 ^ 1 - 1:=by decide
 have key:(BitVec.ofInt 64 n &&& BitVec.ofInt 64 1).toNat=(n % ((2 ^ 64:Nat):Int)).toNat % 2 ^ 1:=by
  rw [BitVec.toNat_and,BitVec.toNat_ofInt,h3,Nat.and_two_pow_sub_one_eq_mod]
 show IntKind.i64.wrap ((BitVec.ofInt 64 n &&& BitVec.ofInt 64 1).toNat:Nat)=n % 2
 rw [key,IntKind.wrap_i64]
 omega
theorem nat_and2 (x:Nat):x &&& (BitVec.ofInt 64 2).toNat=x / 2 % 2*2:=by
 have e:(BitVec.ofInt 64 2).toNat=2:=by decide
 rw [e]
 apply Nat.eq_of_testBit_eq
 intro i
 rw [Nat.testBit_and]
 rcases Nat.mod_two_eq_zero_or_one (x / 2) with h|h
 ·rw [h]
  match i with
  | 0=>simp
  | 1=>simp [Nat.testBit_succ,h]
  | i+2=>simp [Nat.testBit_succ]
 ·rw [h]
  match i with
  | 0=>simp
  | 1=>simp [Nat.testBit_succ,h]
  | i+2=>simp [Nat.testBit_succ]
theorem i64_and2 (n:Int):bits .and .i64 n 2=n % 4 / 2*2:=by
 have key:(BitVec.ofInt 64 n &&& BitVec.ofInt 64 2).toNat=(n % ((2 ^ 64:Nat):Int)).toNat / 2 % 2*2:=by
  rw [BitVec.toNat_and,BitVec.toNat_ofInt]
  exact nat_and2 _
 show IntKind.i64.wrap ((BitVec.ofInt 64 n &&& BitVec.ofInt 64 2).toNat:Nat)=_
 rw [key,IntKind.wrap_i64]
 omega
theorem width_any (dim:Int) (w:World):Calls Tryz.prog 26 #[.int .i64 dim] w fun e w'=>e=.returned (.int .i64 (wd (ct dim)))∧w=w':=by
 have h1:=i64_and1 dim
 have h2:=i64_and1 (dim / 2)
 have hw:(wd (ct dim):Int)=2+dim % 2+dim / 2 % 2:=by unfold wd ct;omega
 rw [hw]
 clear hw
 have b1:0≤dim % 2∧dim % 2<2:=by omega
 have b2:0≤dim / 2 % 2∧dim / 2 % 2<2:=by omega
 obtain ⟨b1,b1'⟩:=b1
 obtain ⟨b2,b2'⟩:=b2
 generalize dim % 2=e1 at *
 generalize dim / 2 % 2=e2 at *
 go_enter Tryz.func26,Tryz.ntmps26
 go_wp2
 go_ret
 exact ⟨rfl,rfl⟩
/-- A place: four numbers. -/
structure Pl where
 x:Nat
 y:Nat
 z:Nat
 m:Nat
def plAt (c:Nat) (xs:List Nat) (k:Nat):Pl:=⟨xs.getD (k*wd c) 0,xs.getD (k*wd c+1) 0,if c % 2=1 then xs.getD (k*wd c+2) 0 else 0,if c / 2 % 2=1 then xs.getD (k*wd c+wd c - 1) 0 else 0⟩
def plsOf (c:Nat) (xs:List Nat):List Pl:=(List.range (xs.length / wd c)).map (plAt c xs)
def plVals (p:Pl):List Value:=[.float .f64 p.x,.float .f64 p.y,.float .f64 p.z,.float .f64 p.m]
def rowP (ps:List Pl):List Value:=ps.flatMap plVals
theorem rowP_snoc {ps:List Pl} {k:Nat} {p:Pl} (h:ps[k]?=some p):rowP (ps.take (k+1))=rowP (ps.take k) ++ plVals p:=by
 have hlt:=(List.getElem?_eq_some_iff.1 h).1
 have:ps.take (k+1)=ps.take k ++ [p]:=by rw [List.take_add_one,h];rfl
 rw [this]
 simp [rowP]
theorem rowP_at:∀ (ps:List Pl) (i:Nat) (p:Pl),ps[i]?=some p→(rowP ps)[i*4]?=some (.float .f64 p.x)∧(rowP ps)[i*4+1]?=some (.float .f64 p.y)∧(rowP ps)[i*4+2]?=some (.float .f64 p.z)∧(rowP ps)[i*4+3]?=some (.float .f64 p.m)
 | [],i,r,h=>by simp at h
 | y :: t,0,r,h=>by
  simp at h
  subst h
  simp [rowP,plVals]
 | y :: t,i+1,r,h=>by
  have ih:=rowP_at t i r (by simpa using h)
  have e:rowP (y :: t)=plVals y ++ rowP t:=rfl
  have up:∀ j,(rowP (y :: t))[(i+1)*4+j]?=(rowP t)[i*4+j]?:=fun j=>by
   rw [e,List.getElem?_append_right (by simp [plVals];omega)]
   congr 1
   simp [plVals]
   omega
  have up0:=up 0
  rw [Nat.add_zero,Nat.add_zero] at up0
  rw [up0,up 1,up 2,up 3]
  exact ih
/-- A slice of places. -/
def PlSl (F:Nat→Prop) (w:World) (v:Value) (ps:List Pl):Prop :=
 ∃ p cap,v=.slice p ps.length cap∧ps.length≤cap∧cap≤9223372036854775807 ∧
  (ps ≠ []→∃ b off,p=some ⟨b,off,none⟩∧b<w.heap.size∧F b∧∀ (i:Nat) (q:Pl),ps[i]?=some q→w.cell? ⟨b,off+i*4,none⟩=some (.float .f64 q.x)∧w.cell? ⟨b,off+i*4+1,none⟩=some (.float .f64 q.y)∧w.cell? ⟨b,off+i*4+2,none⟩=some (.float .f64 q.z)∧w.cell? ⟨b,off+i*4+3,none⟩=some (.float .f64 q.m))
theorem PlSl.of_owns {F:Nat→Prop} {w:World} {base n:Nat} {v:Value} {ps:List Pl} (h:w.ownsRow base 95 4 v n (rowP ps)) (hn:ps.length=n) (hF:∀ b,base≤b→F b):PlSl F w v ps:=by
 subst hn
 have hc:=fun (g:Nat) (hg:v.ownBlock=some g)=>h.cells hg
 rcases h.2 with ⟨rfl,h0⟩|⟨g,cap,cur,rfl,hb,hg,h1,h2,_⟩
 ·exact ⟨none,0,by rw [h0],by omega,by omega,fun hn=>absurd (List.length_eq_zero_iff.1 h0) hn⟩
 ·refine ⟨_,cap,rfl,h1,by unfold maxLen at h2;omega,fun _=>⟨g,0,rfl,(Array.getElem?_eq_some_iff.1 hg).1,hF g hb,fun i r hr=>?_⟩⟩
  have up:∀ {o u},(rowP ps)[o]?=some u→w.cell? ⟨g,0+o,none⟩=some u:=fun {o u} ho'=>by
   have:=hc g rfl o u ho'
   rw [add_none] at this
   rw [Nat.zero_add]
   exact this
  obtain ⟨a0,a1,a2,a3⟩:=rowP_at ps i r hr
  exact ⟨up a0,up a1,up a2,up a3⟩
def IsPls (F:Nat→Prop) (w:World) (ps:List Pl) (e:Ending) (w':World):Prop:=∃ v,e=.returned v∧PlSl F w' v ps∧Bel w w'
theorem infoP:(Tryz.prog.info? 95).map (fun i=>(i.zero,i.size,i.bytes))=some (some (.agg #[.float .f64 0,.float .f64 0,.float .f64 0,.float .f64 0]),4,32):=by kernel_rfl
theorem plsOf_len (c:Nat) (xs:List Nat):(plsOf c xs).length=xs.length / wd c:=by simp [plsOf]
theorem plsOf_get {c:Nat} {xs:List Nat} {k:Nat} (h:k<xs.length / wd c):(plsOf c xs)[k]?=some (plAt c xs k):=by simp [plsOf,h]
set_option maxHeartbeats 2000000 in
set_option maxRecDepth 100000 in
theorem places_0 (F G:Nat→Prop) (v:Value) (xs:List Nat) (dim:Int) (w:World) (hF:New F w) (h:FlSl G w v xs) (h31:xs.length≤2147483647) (hd:ct dim=0) :
  Calls Tryz.prog 33 #[v,.int .i64 dim] w (IsPls F w (plsOf 0 xs)):=by
 have hm:dim % 4=0:=by unfold ct at hd;omega
 have a1:bits .and .i64 dim 1=0:=by rw [i64_and1];omega
 have a2:bits .and .i64 dim 2=0:=by rw [i64_and2,hm];decide
 have hwd:wd (ct dim)=2:=by rw [hd];decide
 have HWD:=Lib.hid hwd
 have hq:wd 0=2:=by decide
 have HQW:=Lib.hid hq
 obtain ⟨p,cap,rfl,hl,hc,hr⟩:=h
 have HR:=Lib.hid hr
 obtain ⟨i0,hi,hz0,hz1,hz2⟩:=info_parts infoP
 generalize hn:xs.length=n at *
 have HN:=Lib.hid hn
 clear hm hd hwd hq hr hn
 go_enter Tryz.func33,Tryz.ntmps33
 go_wp2_with (go_at_call 26;(with_reducible refine (width_any _ _).mono ?_);rw [HWD.out];rintro e w' ⟨rfl,rfl⟩)
 go_loopw [5,7] (fun ov iv wr=>∃ k:Nat,iv=.int .i64 (k*2:Nat)∧k*2≤n∧Bel w wr∧wr.ownsRow w.heap.size 95 4 ov k (rowP ((plsOf 0 xs).take k))) (fun _ iv _=>n - (intOf iv).toNat)
 case atStart=>exact ⟨0,by simp,by omega,Bel.refl _,World.ownsRow_nil _ _ _ _⟩
 case round =>
  obtain ⟨k,rfl,hk,hbel,hown⟩:=hrel
  have HBEL:=Lib.hid hbel
  have HOWN:=Lib.hid hown
  obtain ⟨pv,cv,rfl⟩:=hown.isSlice
  by_cases hkn:k*2+2≤n
  ·have hlx:=HN.out
   obtain ⟨b,off,rfl,hlt,hF2,hcs⟩:=HR.out (by intro e;rw [e] at hlx;simp at hlx;omega)
   obtain ⟨x0,hx0⟩:∃ x,xs[k*2]?=some x:=⟨_,List.getElem?_eq_getElem (by omega)⟩
   have d0:=hcs _ _ hx0
   have D0:=cell_kept hbel d0
   obtain ⟨x1,hx1⟩:∃ x,xs[k*2+1]?=some x:=⟨_,List.getElem?_eq_getElem (by omega)⟩
   have d1:=hcs _ _ hx1
   have E1:=cell_kept hbel d1
   rw [← Nat.add_assoc] at d1
   have D1:=cell_kept hbel d1
   have hbl:b<wr.heap.size:=Nat.lt_of_lt_of_le hlt hbel.size
   have hkq:k<xs.length / wd 0:=by rw [HQW.out,Nat.lt_div_iff_mul_lt (by decide)];omega
   have hpl:plAt 0 xs k=⟨x0,x1,0,0⟩:=by
    unfold plAt
    rw [HQW.out]
    simp [hx0,hx1]
   have HPL:Hid ((plsOf 0 xs)[k]?=some ⟨x0,x1,0,0⟩):=Lib.hid (by rw [plsOf_get hkq,hpl])
   clear hlx hF2 hcs hkq hpl hown hbel hx0 hx1 d0 d1
   go_wp2
   go_region
   all_goals
    go_wp2_with (at_builtin;refine wpList_append_row _ rfl (.tmp 50) (.tmp 52) 52 rfl w.heap.size 95 i0 _ 4 32 Tryz.underlying52 hi hz0 hz1 hz2 rfl (by decide) (.slice pv k cv) k _ rfl (own_kept HOWN.out (show Bel wr _ by exact EL)) ⟨wr.heap.size+1,0,none⟩ 1 1 (plVals ⟨x0,x1,0,0⟩) rfl rfl (blk_arr (cs:=#[.float .f64 x0,.float .f64 x1,.float .f64 0,.float .f64 0]) (t:=95) (by exact KL)) (by simp [plVals,Value.oneCell']) (by decide) (by unfold maxLen;omega) (by omega) (by have:=HBEL.out.size;simp;omega) ?_;intro v' w6 ho6 hg6 hb6;obtain ⟨p6,c6,rfl⟩:=ho6.isSlice;have HO6:=Lib.hid ho6;have HB6:Hid (Bel w w6):=Lib.hid ((show Bel w _ from HBEL.out.trans (show Bel wr _ by exact EL)).of_row hg6 (fun g hg=>(HOWN.out.lt g hg).1));clear ho6 hg6 hb6)
    go_roundw
    case rel=>exact ⟨k+1,by go_num,by omega,HB6.out,by rw [rowP_snoc HPL.out];exact HO6.out⟩
    case measure=>simp [intOf];omega
  ·have hqq:n / 2=k:=by
    have:=Nat.div_add_mod n 2
    have:=Nat.mod_lt n (show 0<2 by decide)
    omega
   have hlen:(plsOf 0 xs).length=k:=by
    rw [plsOf_len,HN.out,HQW.out]
    exact hqq
   rw [List.take_of_length_le (Nat.le_of_eq hlen)] at hown
   have HR2:=Lib.hid (PlSl.of_owns (F:=F) hown hlen hF)
   clear hlen hown hqq
   go_wp2
   go_ret
   exact ⟨_,rfl,HR2.out,HBEL.out⟩
set_option maxHeartbeats 2000000 in
set_option maxRecDepth 100000 in
theorem places_1 (F G:Nat→Prop) (v:Value) (xs:List Nat) (dim:Int) (w:World) (hF:New F w) (h:FlSl G w v xs) (h31:xs.length≤2147483647) (hd:ct dim=1) :
  Calls Tryz.prog 33 #[v,.int .i64 dim] w (IsPls F w (plsOf 1 xs)):=by
 have hm:dim % 4=1:=by unfold ct at hd;omega
 have a1:bits .and .i64 dim 1=1:=by rw [i64_and1];omega
 have a2:bits .and .i64 dim 2=0:=by rw [i64_and2,hm];decide
 have hwd:wd (ct dim)=3:=by rw [hd];decide
 have HWD:=Lib.hid hwd
 have hq:wd 1=3:=by decide
 have HQW:=Lib.hid hq
 obtain ⟨p,cap,rfl,hl,hc,hr⟩:=h
 have HR:=Lib.hid hr
 obtain ⟨i0,hi,hz0,hz1,hz2⟩:=info_parts infoP
 generalize hn:xs.length=n at *
 have HN:=Lib.hid hn
 clear hm hd hwd hq hr hn
 go_enter Tryz.func33,Tryz.ntmps33
 go_wp2_with (go_at_call 26;(with_reducible refine (width_any _ _).mono ?_);rw [HWD.out];rintro e w' ⟨rfl,rfl⟩)
 go_loopw [5,7] (fun ov iv wr=>∃ k:Nat,iv=.int .i64 (k*3:Nat)∧k*3≤n∧Bel w wr∧wr.ownsRow w.heap.size 95 4 ov k (rowP ((plsOf 1 xs).take k))) (fun _ iv _=>n - (intOf iv).toNat)
 case atStart=>exact ⟨0,by simp,by omega,Bel.refl _,World.ownsRow_nil _ _ _ _⟩
 case round =>
  obtain ⟨k,rfl,hk,hbel,hown⟩:=hrel
  have HBEL:=Lib.hid hbel
  have HOWN:=Lib.hid hown
  obtain ⟨pv,cv,rfl⟩:=hown.isSlice
  by_cases hkn:k*3+3≤n
  ·have hlx:=HN.out
   obtain ⟨b,off,rfl,hlt,hF2,hcs⟩:=HR.out (by intro e;rw [e] at hlx;simp at hlx;omega)
   obtain ⟨x0,hx0⟩:∃ x,xs[k*3]?=some x:=⟨_,List.getElem?_eq_getElem (by omega)⟩
   have d0:=hcs _ _ hx0
   have D0:=cell_kept hbel d0
   obtain ⟨x1,hx1⟩:∃ x,xs[k*3+1]?=some x:=⟨_,List.getElem?_eq_getElem (by omega)⟩
   have d1:=hcs _ _ hx1
   have E1:=cell_kept hbel d1
   rw [← Nat.add_assoc] at d1
   have D1:=cell_kept hbel d1
   obtain ⟨x2,hx2⟩:∃ x,xs[k*3+2]?=some x:=⟨_,List.getElem?_eq_getElem (by omega)⟩
   have d2:=hcs _ _ hx2
   have E2:=cell_kept hbel d2
   rw [← Nat.add_assoc] at d2
   have D2:=cell_kept hbel d2
   have hbl:b<wr.heap.size:=Nat.lt_of_lt_of_le hlt hbel.size
   have hkq:k<xs.length / wd 1:=by rw [HQW.out,Nat.lt_div_iff_mul_lt (by decide)];omega
   have hpl:plAt 1 xs k=⟨x0,x1,x2,0⟩:=by
    unfold plAt
    rw [HQW.out]
    simp [hx0,hx1,hx2]
   have HPL:Hid ((plsOf 1 xs)[k]?=some ⟨x0,x1,x2,0⟩):=Lib.hid (by rw [plsOf_get hkq,hpl])
   clear hlx hF2 hcs hkq hpl hown hbel hx0 hx1 hx2 d0 d1 d2
   go_wp2
   go_region
   all_goals
    go_wp2_with (at_builtin;refine wpList_append_row _ rfl (.tmp 50) (.tmp 52) 52 rfl w.heap.size 95 i0 _ 4 32 Tryz.underlying52 hi hz0 hz1 hz2 rfl (by decide) (.slice pv k cv) k _ rfl (own_kept HOWN.out (show Bel wr _ by exact EL)) ⟨wr.heap.size+1,0,none⟩ 1 1 (plVals ⟨x0,x1,x2,0⟩) rfl rfl (blk_arr (cs:=#[.float .f64 x0,.float .f64 x1,.float .f64 x2,.float .f64 0]) (t:=95) (by exact KL)) (by simp [plVals,Value.oneCell']) (by decide) (by unfold maxLen;omega) (by omega) (by have:=HBEL.out.size;simp;omega) ?_;intro v' w6 ho6 hg6 hb6;obtain ⟨p6,c6,rfl⟩:=ho6.isSlice;have HO6:=Lib.hid ho6;have HB6:Hid (Bel w w6):=Lib.hid ((show Bel w _ from HBEL.out.trans (show Bel wr _ by exact EL)).of_row hg6 (fun g hg=>(HOWN.out.lt g hg).1));clear ho6 hg6 hb6)
    go_roundw
    case rel=>exact ⟨k+1,by go_num,by omega,HB6.out,by rw [rowP_snoc HPL.out];exact HO6.out⟩
    case measure=>simp [intOf];omega
  ·have hqq:n / 3=k:=by
    have:=Nat.div_add_mod n 3
    have:=Nat.mod_lt n (show 0<3 by decide)
    omega
   have hlen:(plsOf 1 xs).length=k:=by
    rw [plsOf_len,HN.out,HQW.out]
    exact hqq
   rw [List.take_of_length_le (Nat.le_of_eq hlen)] at hown
   have HR2:=Lib.hid (PlSl.of_owns (F:=F) hown hlen hF)
   clear hlen hown hqq
   go_wp2
   go_ret
   exact ⟨_,rfl,HR2.out,HBEL.out⟩
set_option maxHeartbeats 2000000 in
set_option maxRecDepth 100000 in
theorem places_2 (F G:Nat→Prop) (v:Value) (xs:List Nat) (dim:Int) (w:World) (hF:New F w) (h:FlSl G w v xs) (h31:xs.length≤2147483647) (hd:ct dim=2) :
  Calls Tryz.prog 33 #[v,.int .i64 dim] w (IsPls F w (plsOf 2 xs)):=by
 have hm:dim % 4=2:=by unfold ct at hd;omega
 have a1:bits .and .i64 dim 1=0:=by rw [i64_and1];omega
 have a2:bits .and .i64 dim 2=2:=by rw [i64_and2,hm];decide
 have hwd:wd (ct dim)=3:=by rw [hd];decide
 have HWD:=Lib.hid hwd
 have hq:wd 2=3:=by decide
 have HQW:=Lib.hid hq
 obtain ⟨p,cap,rfl,hl,hc,hr⟩:=h
 have HR:=Lib.hid hr
 obtain ⟨i0,hi,hz0,hz1,hz2⟩:=info_parts infoP
 generalize hn:xs.length=n at *
 have HN:=Lib.hid hn
 clear hm hd hwd hq hr hn
 go_enter Tryz.func33,Tryz.ntmps33
 go_wp2_with (go_at_call 26;(with_reducible refine (width_any _ _).mono ?_);rw [HWD.out];rintro e w' ⟨rfl,rfl⟩)
 go_loopw [5,7] (fun ov iv wr=>∃ k:Nat,iv=.int .i64 (k*3:Nat)∧k*3≤n∧Bel w wr∧wr.ownsRow w.heap.size 95 4 ov k (rowP ((plsOf 2 xs).take k))) (fun _ iv _=>n - (intOf iv).toNat)
 case atStart=>exact ⟨0,by simp,by omega,Bel.refl _,World.ownsRow_nil _ _ _ _⟩
 case round =>
  obtain ⟨k,rfl,hk,hbel,hown⟩:=hrel
  have HBEL:=Lib.hid hbel
  have HOWN:=Lib.hid hown
  obtain ⟨pv,cv,rfl⟩:=hown.isSlice
  by_cases hkn:k*3+3≤n
  ·have hlx:=HN.out
   obtain ⟨b,off,rfl,hlt,hF2,hcs⟩:=HR.out (by intro e;rw [e] at hlx;simp at hlx;omega)
   obtain ⟨x0,hx0⟩:∃ x,xs[k*3]?=some x:=⟨_,List.getElem?_eq_getElem (by omega)⟩
   have d0:=hcs _ _ hx0
   have D0:=cell_kept hbel d0
   obtain ⟨x1,hx1⟩:∃ x,xs[k*3+1]?=some x:=⟨_,List.getElem?_eq_getElem (by omega)⟩
   have d1:=hcs _ _ hx1
   have E1:=cell_kept hbel d1
   rw [← Nat.add_assoc] at d1
   have D1:=cell_kept hbel d1
   obtain ⟨x2,hx2⟩:∃ x,xs[k*3+2]?=some x:=⟨_,List.getElem?_eq_getElem (by omega)⟩
   have d2:=hcs _ _ hx2
   have E2:=cell_kept hbel d2
   rw [← Nat.add_assoc] at d2
   have D2:=cell_kept hbel d2
   have hbl:b<wr.heap.size:=Nat.lt_of_lt_of_le hlt hbel.size
   have hkq:k<xs.length / wd 2:=by rw [HQW.out,Nat.lt_div_iff_mul_lt (by decide)];omega
   have hpl:plAt 2 xs k=⟨x0,x1,0,x2⟩:=by
    unfold plAt
    rw [HQW.out]
    simp [hx0,hx1,hx2]
   have HPL:Hid ((plsOf 2 xs)[k]?=some ⟨x0,x1,0,x2⟩):=Lib.hid (by rw [plsOf_get hkq,hpl])
   clear hlx hF2 hcs hkq hpl hown hbel hx0 hx1 hx2 d0 d1 d2
   go_wp2
   go_region
   all_goals
    go_wp2_with (at_builtin;refine wpList_append_row _ rfl (.tmp 50) (.tmp 52) 52 rfl w.heap.size 95 i0 _ 4 32 Tryz.underlying52 hi hz0 hz1 hz2 rfl (by decide) (.slice pv k cv) k _ rfl (own_kept HOWN.out (show Bel wr _ by exact EL)) ⟨wr.heap.size+1,0,none⟩ 1 1 (plVals ⟨x0,x1,0,x2⟩) rfl rfl (blk_arr (cs:=#[.float .f64 x0,.float .f64 x1,.float .f64 0,.float .f64 x2]) (t:=95) (by exact KL)) (by simp [plVals,Value.oneCell']) (by decide) (by unfold maxLen;omega) (by omega) (by have:=HBEL.out.size;simp;omega) ?_;intro v' w6 ho6 hg6 hb6;obtain ⟨p6,c6,rfl⟩:=ho6.isSlice;have HO6:=Lib.hid ho6;have HB6:Hid (Bel w w6):=Lib.hid ((show Bel w _ from HBEL.out.trans (show Bel wr _ by exact EL)).of_row hg6 (fun g hg=>(HOWN.out.lt g hg).1));clear ho6 hg6 hb6)
    go_roundw
    case rel=>exact ⟨k+1,by go_num,by omega,HB6.out,by rw [rowP_snoc HPL.out];exact HO6.out⟩
    case measure=>simp [intOf];omega
  ·have hqq:n / 3=k:=by
    have:=Nat.div_add_mod n 3
    have:=Nat.mod_lt n (show 0<3 by decide)
    omega
   have hlen:(plsOf 2 xs).length=k:=by
    rw [plsOf_len,HN.out,HQW.out]
    exact hqq
   rw [List.take_of_length_le (Nat.le_of_eq hlen)] at hown
   have HR2:=Lib.hid (PlSl.of_owns (F:=F) hown hlen hF)
   clear hlen hown hqq
   go_wp2
   go_ret
   exact ⟨_,rfl,HR2.out,HBEL.out⟩
set_option maxHeartbeats 2000000 in
set_option maxRecDepth 100000 in
theorem places_3 (F G:Nat→Prop) (v:Value) (xs:List Nat) (dim:Int) (w:World) (hF:New F w) (h:FlSl G w v xs) (h31:xs.length≤2147483647) (hd:ct dim=3) :
  Calls Tryz.prog 33 #[v,.int .i64 dim] w (IsPls F w (plsOf 3 xs)):=by
 have hm:dim % 4=3:=by unfold ct at hd;omega
 have a1:bits .and .i64 dim 1=1:=by rw [i64_and1];omega
 have a2:bits .and .i64 dim 2=2:=by rw [i64_and2,hm];decide
 have hwd:wd (ct dim)=4:=by rw [hd];decide
 have HWD:=Lib.hid hwd
 have hq:wd 3=4:=by decide
 have HQW:=Lib.hid hq
 obtain ⟨p,cap,rfl,hl,hc,hr⟩:=h
 have HR:=Lib.hid hr
 obtain ⟨i0,hi,hz0,hz1,hz2⟩:=info_parts infoP
 generalize hn:xs.length=n at *
 have HN:=Lib.hid hn
 clear hm hd hwd hq hr hn
 go_enter Tryz.func33,Tryz.ntmps33
 go_wp2_with (go_at_call 26;(with_reducible refine (width_any _ _).mono ?_);rw [HWD.out];rintro e w' ⟨rfl,rfl⟩)
 go_loopw [5,7] (fun ov iv wr=>∃ k:Nat,iv=.int .i64 (k*4:Nat)∧k*4≤n∧Bel w wr∧wr.ownsRow w.heap.size 95 4 ov k (rowP ((plsOf 3 xs).take k))) (fun _ iv _=>n - (intOf iv).toNat)
 case atStart=>exact ⟨0,by simp,by omega,Bel.refl _,World.ownsRow_nil _ _ _ _⟩
 case round =>
  obtain ⟨k,rfl,hk,hbel,hown⟩:=hrel
  have HBEL:=Lib.hid hbel
  have HOWN:=Lib.hid hown
  obtain ⟨pv,cv,rfl⟩:=hown.isSlice
  by_cases hkn:k*4+4≤n
  ·have hlx:=HN.out
   obtain ⟨b,off,rfl,hlt,hF2,hcs⟩:=HR.out (by intro e;rw [e] at hlx;simp at hlx;omega)
   obtain ⟨x0,hx0⟩:∃ x,xs[k*4]?=some x:=⟨_,List.getElem?_eq_getElem (by omega)⟩
   have d0:=hcs _ _ hx0
   have D0:=cell_kept hbel d0
   obtain ⟨x1,hx1⟩:∃ x,xs[k*4+1]?=some x:=⟨_,List.getElem?_eq_getElem (by omega)⟩
   have d1:=hcs _ _ hx1
   have E1:=cell_kept hbel d1
   rw [← Nat.add_assoc] at d1
   have D1:=cell_kept hbel d1
   obtain ⟨x2,hx2⟩:∃ x,xs[k*4+2]?=some x:=⟨_,List.getElem?_eq_getElem (by omega)⟩
   have d2:=hcs _ _ hx2
   have E2:=cell_kept hbel d2
   rw [← Nat.add_assoc] at d2
   have D2:=cell_kept hbel d2
   obtain ⟨x3,hx3⟩:∃ x,xs[k*4+3]?=some x:=⟨_,List.getElem?_eq_getElem (by omega)⟩
   have d3:=hcs _ _ hx3
   have E3:=cell_kept hbel d3
   rw [← Nat.add_assoc] at d3
   have D3:=cell_kept hbel d3
   have hbl:b<wr.heap.size:=Nat.lt_of_lt_of_le hlt hbel.size
   have hkq:k<xs.length / wd 3:=by rw [HQW.out,Nat.lt_div_iff_mul_lt (by decide)];omega
   have hpl:plAt 3 xs k=⟨x0,x1,x2,x3⟩:=by
    unfold plAt
    rw [HQW.out]
    simp [hx0,hx1,hx2,hx3]
   have HPL:Hid ((plsOf 3 xs)[k]?=some ⟨x0,x1,x2,x3⟩):=Lib.hid (by rw [plsOf_get hkq,hpl])
   clear hlx hF2 hcs hkq hpl hown hbel hx0 hx1 hx2 hx3 d0 d1 d2 d3
   go_wp2
   go_region
   all_goals
    go_wp2_with (at_builtin;refine wpList_append_row _ rfl (.tmp 50) (.tmp 52) 52 rfl w.heap.size 95 i0 _ 4 32 Tryz.underlying52 hi hz0 hz1 hz2 rfl (by decide) (.slice pv k cv) k _ rfl (own_kept HOWN.out (show Bel wr _ by exact EL)) ⟨wr.heap.size+1,0,none⟩ 1 1 (plVals ⟨x0,x1,x2,x3⟩) rfl rfl (blk_arr (cs:=#[.float .f64 x0,.float .f64 x1,.float .f64 x2,.float .f64 x3]) (t:=95) (by exact KL)) (by simp [plVals,Value.oneCell']) (by decide) (by unfold maxLen;omega) (by omega) (by have:=HBEL.out.size;simp;omega) ?_;intro v' w6 ho6 hg6 hb6;obtain ⟨p6,c6,rfl⟩:=ho6.isSlice;have HO6:=Lib.hid ho6;have HB6:Hid (Bel w w6):=Lib.hid ((show Bel w _ from HBEL.out.trans (show Bel wr _ by exact EL)).of_row hg6 (fun g hg=>(HOWN.out.lt g hg).1));clear ho6 hg6 hb6)
    go_roundw
    case rel=>exact ⟨k+1,by go_num,by omega,HB6.out,by rw [rowP_snoc HPL.out];exact HO6.out⟩
    case measure=>simp [intOf];omega
  ·have hqq:n / 4=k:=by
    have:=Nat.div_add_mod n 4
    have:=Nat.mod_lt n (show 0<4 by decide)
    omega
   have hlen:(plsOf 3 xs).length=k:=by
    rw [plsOf_len,HN.out,HQW.out]
    exact hqq
   rw [List.take_of_length_le (Nat.le_of_eq hlen)] at hown
   have HR2:=Lib.hid (PlSl.of_owns (F:=F) hown hlen hF)
   clear hlen hown hqq
   go_wp2
   go_ret
   exact ⟨_,rfl,HR2.out,HBEL.out⟩
theorem places_any (F G:Nat→Prop) (v:Value) (xs:List Nat) (dim:Int) (w:World) (hF:New F w) (h:FlSl G w v xs) (h31:xs.length≤2147483647) :
  Calls Tryz.prog 33 #[v,.int .i64 dim] w (IsPls F w (plsOf (ct dim) xs)):=by
 have hc:=ct_le dim
 have h4:ct dim=0∨ct dim=1∨ct dim=2∨ct dim=3:=by omega
 rcases h4 with e|e|e|e
 ·rw [e]
  exact places_0 F G v xs dim w hF h h31 e
 ·rw [e]
  exact places_1 F G v xs dim w hF h h31 e
 ·rw [e]
  exact places_2 F G v xs dim w hF h h31 e
 ·rw [e]
  exact places_3 F G v xs dim w hF h h31 e
end Go.Proofs.YtpipehenfcbjbaaGreatDoor
