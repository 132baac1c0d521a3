/-
 A geometry turned about,in plain data. Plain.
-/
import Derived.Test.YtpipehenfcbjbaaGreatDoorPaj
import Derived.Test.YtpipehenfcbjbaaGreatDoorPal
import Derived.Test.YtpipehenfcbjbaaGreatDoorPan
import Derived.Test.YtpipehenfcbjbaaGreatDoorPar
import Derived.Test.YtpipehenfcbjbaaGreatDoorPav
import Derived.Test.YtpipehenfcbjbaaGreatDoorPba
set_option linter.unusedVariables false
namespace Go.Proofs.YtpipehenfcbjbaaGreatDoor
open Go.ChangeShapes Go.WideShapes Go.ChangeAt Go.RowKit
/-- A leaf's numbers, its places in reverse order. -/
def revN (c:Nat) (xs:List Nat):List Nat:=(plsOf c xs).reverse.flatMap (numsOfPl c)
mutual
/-- A geometry turned about. -/
def revG:Gm→Gm
 | .mk k d ns ks=>.mk k d (revN (ct d) ns) (revAll ks)
def revAll:List Gm→List Gm
 | []=>[]
 | g :: r=>revG g :: revAll r
end
theorem revAll_map:∀ l:List Gm,revAll l=l.map revG
 | []=>rfl
 | g :: r=>by rw [revAll,List.map_cons,revAll_map r]
section
variable {P:Program} (w:World)
/-- Append of a row that may be empty, inside a region that draws its order. -/
theorem step_append_rev {ops:Array Oper} {o:Oper} {a:Act} {K:Act→World→Prop} {Q:Exit→Act→World→Prop} (hgd:o.guard=none) (s x:Operand) (t:TypeId)
  (ho:o.op=.call { callee:=.builtin .append,args:=#[s,x],argTypes:=#[t,t] })
  (base:Nat) (e:TypeId) (i:TypeInfo) (z:Value) (size bytes:Nat) (ht:P.underlying t=some (.slice e)) (hi:P.info? e=some i) (hz:i.zero=some z)
  (hsize:i.size=size) (hby:i.bytes=bytes) (hzs:z.cells.size=size) (hsz:0<size)
  (v:Value) (n:Nat) (xs:List Value) (hs:a.eval s=v) (hown:w.ownsRow base e size v n xs)
  (p:Option Addr) (m c:Nat) (news:List Value) (hx:a.eval x=.slice p m c) (hl:news.length=m*size) (hnews:0<m→∃ ad,p=some ad∧∀ j u,news[j]?=some u→w.cell? (ad.add j)=some u) (h1:∀ u ∈ news,u.oneCell'=true)
  (h63:n+m≤maxLen) (hbytes:(n+m)*bytes≤140737488355328) (hbase:base≤w.heap.size)
  (h:∀ v' w',w'.ownsRow base e size v' (n+m) (xs ++ news)→w.grownBy w' v.ownBlock→(v'.ownBlock=v.ownBlock∨v'.ownBlock=some w.heap.size)→K (a.put o.dst v') w') :
  if Region.wanted o (yielded ops a.tmps)=true then o.wp P a w K Q else K (a.put o.dst undef) w:=by
 rcases Nat.eq_zero_or_pos m with rfl|hm
 ·have hn:news=[]:=List.length_eq_zero_iff.1 (by omega)
  subst hn
  have hw:Region.wanted o (yielded ops a.tmps)=true:=by simp [Region.wanted,hgd]
  rw [if_pos hw]
  have hr:=run_append_zero (P:=P) w base t o.type e i size ht hi v n xs hown p c
  unfold Oper.wp execOp
  simp only [ho,resolve,invoke,builtin,Sem.run_bind,Sem.run_pure,Result.andThen_ok,List.map_toArray,List.map_cons,List.map_nil,hs,hx,hr]
  exact h v w (by simpa using hown) (World.grownBy.of_bel (Bel.refl w) _) (Or.inl rfl)
 ·obtain ⟨ad,rfl,hq⟩:=hnews hm
  exact step_append_row w hgd s x t ho base e i z size bytes ht hi hz hsize hby hzs hsz v n xs hs hown ad m c news hx hl hq h1 hm h63 hbytes hbase h
end
end Go.Proofs.YtpipehenfcbjbaaGreatDoor
set_option linter.unusedVariables false
set_option linter.unusedSimpArgs false
namespace Go.Proofs.YtpipehenfcbjbaaGreatDoor
open Go.ChangeShapes Go.WideShapes Go.ChangeAt Go.RowKit
theorem PlSl.keep {F G:Nat→Prop} {w w':World} {v:Value} {ps:List Pl} (h:PlSl F w v ps) (hs:w.heap.size≤w'.heap.size) (hk:∀ b,F b→b<w.heap.size→w'.heap[b]?=w.heap[b]?) (hG:∀ b,b<w.heap.size→F b→G b):PlSl G w' v ps:=by
 obtain ⟨p,cap,hv,hl,hc,h⟩:=h
 refine ⟨p,cap,hv,hl,hc,fun hn=>?_⟩
 obtain ⟨b,off,hp,hlt,hF,hq⟩:=h hn
 have up:∀ {o:Nat} {x:Value},w.cell? ⟨b,o,none⟩=some x→w'.cell? ⟨b,o,none⟩=some x:=fun hi=>(World.cell?_of_block (w:=w) (hk b hF hlt)).trans hi
 exact ⟨b,off,hp,by omega,hG b hlt hF,fun i x hi=>by
  obtain ⟨a0,a1,a2,a3⟩:=hq i x hi
  exact ⟨up a0,up a1,up a2,up a3⟩⟩
theorem PlSl.bel {F:Nat→Prop} {w w':World} {v:Value} {ps:List Pl} (h:PlSl F w v ps) (hb:Bel w w'):PlSl F w' v ps:=h.keep hb.size (fun b _ hl=>hb.block b hl) fun _ _ h=>h
theorem PlSl.one {F:Nat→Prop} {w:World} {p:Option Addr} {q cap:Nat} {ps:List Pl} {j:Nat} {x:Pl} (h:PlSl F w (.slice p q cap) ps) (hj:ps[j]?=some x):∃ b off,p=some ⟨b,off,none⟩∧PlSl F w (.slice (some ⟨b,off+j*4,none⟩) 1 (cap - j)) [x]:=by
 obtain ⟨_,_,hv,hl,hc,h⟩:=h
 cases hv
 obtain ⟨b,off,hp,hlt,hF,hq⟩:=h (by intro e;rw [e] at hj;simp at hj)
 have hjl:=(List.getElem?_eq_some_iff.1 hj).1
 refine ⟨b,off,hp,some ⟨b,off+j*4,none⟩,cap - j,rfl,by simp;omega,by omega,fun _=>⟨b,off+j*4,rfl,hlt,hF,fun i y hi=>?_⟩⟩
 cases i with
 | zero =>
  simp at hi
  subst hi
  simpa using hq j x hj
 | succ i=>simp at hi
theorem rev_take {ks:List Gm} {t:Nat} {g:Gm} (h:ks[t]?=some g):(ks.take (t+1)).map revG=(ks.take t).map revG ++ [revG g]:=by
 rw [List.take_add_one,h]
 simp
theorem flat_take {c:Nat} {ps:List Pl} {t:Nat} {x:Pl} (h:ps[t]?=some x):(ps.take (t+1)).flatMap (numsOfPl c)=(ps.take t).flatMap (numsOfPl c) ++ numsOfPl c x:=by
 rw [List.take_add_one,h]
 simp
def SpRev (g:Gm):Prop:=∀ G:Nat→Prop,GmArg g fun v w=>New G w→Calls Tryz.prog 11 #[v] w (IsGm G (revG g) w)
set_option maxHeartbeats 8000000 in
set_option maxRecDepth 100000 in
theorem spRev_ind:∀ (n:Nat) (g:Gm),g.size≤n→g.size≤1048576→SpRev g:=by
 intro n
 induction n with
 | zero=>exact fun g h _=>absurd h (by have:=g.size_pos;omega)
 | succ n ih =>
  intro g hsz hbig G F pn nn cn pk nk ck w hN hK hG
  obtain ⟨k,d,ns,ks⟩:=g
  obtain ⟨hnl,hncap,-⟩:=hN.len
  obtain ⟨_,_,hve,hkl,hkc⟩:=hK.isSlice
  cases hve
  change ks.length≤ck at hkl
  show Calls Tryz.prog 11 #[.agg #[.int .i64 k,.int .i64 d,.slice pn nn cn,.slice pk ks.length ck]] w _
  have HK:=Lib.hid (show GmSl F w (.slice pk ks.length ck) ks from hK)
  have HNS:=Lib.hid (show FlSl F w (.slice pn nn cn) ns from hN)
  have hnl2:ns.length=nn:=hnl
  have hks:ks.length≤1048576:=by
   have:=Gm.len_sizes ks
   simp only [Gm.size] at hbig
   omega
  have hnb:nn≤1048576:=by
   simp only [Gm.size] at hbig
   omega
  have HIH:Hid (∀ g ∈ ks,SpRev g):=Lib.hid fun g hg=>ih g (by
   have h2:=Gm.size_mem hg
   simp only [Gm.size] at hsz
   omega) (by
   have h2:=Gm.size_mem hg
   simp only [Gm.size] at hbig
   omega)
  have HPL:Hid (∀ (W:World),Bel w W→w.heap.size+3≤W.heap.size→Calls Tryz.prog 33 #[.slice pn nn cn,.int .i64 d] W (IsPls (fun b=>w.heap.size+3≤b) W (plsOf (ct d) ns))):=Lib.hid fun W hW hs=>places_any _ F _ ns d W (fun b hb=>Nat.le_trans hs hb) (HNS.out.bel hW) (by rw [hnl2];omega)
  have HNU:Hid (∀ (v:Value) (x:Pl) (F':Nat→Prop) (W:World),PlSl F' W v [x]→Calls Tryz.prog 34 #[v,.int .i64 d] W (IsFlx (fun b=>W.heap.size≤b) (numsOfPl (ct d) x) W)):=Lib.hid fun v x F' W hp=>by
   have:=nums_any (fun b=>W.heap.size≤b) F' v [x] d W (fun b hb=>hb) hp (by simp)
   simpa using this
  obtain ⟨i0,hi,hz0,hz1,hz2⟩:=info_parts infoGm
  obtain ⟨i1,hi1,hy0,hy1,hy2⟩:=info_parts infoF
  have HQL:Hid ((plsOf (ct d) ns).length=nn / wd (ct d)):=Lib.hid (by rw [plsOf_len,hnl2])
  have hqb:nn / wd (ct d)*wd (ct d)≤nn:=Nat.div_mul_le_self _ _
  have hqn:nn / wd (ct d)≤nn:=Nat.div_le_self _ _
  have HD:=Lib.hid (wd_bd (ct d))
  have HFO:Hid (revG (.mk k d ns ks)=.mk k d ((plsOf (ct d) ns).reverse.flatMap (numsOfPl (ct d))) (ks.map revG)):=Lib.hid (by rw [revG,revAll_map,revN])
  have HNL:Hid (∀ x,(numsOfPl (ct d) x).length=wd (ct d)):=Lib.hid (numsOfPl_len (ct d))
  have HFL2:Hid (∀ l:List Pl,(l.flatMap (numsOfPl (ct d))).length=l.length*wd (ct d)):=Lib.hid (flatMap_len (ct d))
  clear ih hsz hN hK hnl hnl2 hbig
  generalize hn:ks.length=n at *
  have HN:=Lib.hid hn
  clear hn
  generalize plsOf (ct d) ns=pls at *
  generalize hqd:nn / wd (ct d)=q at *
  clear hqd
  generalize wd (ct d)=D at *
  have HQB:=Lib.hid hqb
  clear hqb
  have hwr0:IntKind.i64.wrap ((q:Int) - 1)=(q:Int) - 1:=by
   rw [IntKind.wrap_i64]
   omega
  go_enter Tryz.func11,Tryz.ntmps11
  go_wp2_with (go_at_call 33;(with_reducible refine (HPL.out _ ?hb ?hs).mono ?_);(case hb=>exact EL);(case hs=>simp);rintro e w1 ⟨v1,rfl,hp1,hb1⟩;obtain ⟨pv,cap,hv1,hcl,hcc,-⟩:=id hp1;rw [HQL.out] at hv1 hcl;subst hv1;have HP1:=Lib.hid hp1;have HSZ1:Hid (w.heap.size+3≤w1.heap.size):=Lib.hid (by have:=hb1.size;simp at this;omega);have HB1:Hid (Bel w w1):=Lib.hid ((((Bel.alloc1 w _).alloc _).alloc _).trans hb1);have HQ1:Hid (Blk w1 (w.heap.size+1) #[.int .i64 0,.int .i64 0,.slice none 0 0,.slice none 0 0] 25):=Lib.hid (((Blk.new' _ _ _ (by simp)).alloc _).bel hb1);have HQ2:Hid (Blk w1 (w.heap.size+2) #[.int .i64 k,.int .i64 d,.slice none 0 0,.slice none 0 0] 25):=Lib.hid ((Blk.new' _ _ _ (by simp)).bel hb1);have HQ0:Hid (Blk w1 w.heap.size #[.int .i64 k,.int .i64 d,.slice pn nn cn,.slice pk n ck] 25):=Lib.hid ((((Blk.new w _ _).alloc _).alloc _).bel hb1);clear hb1 hp1)
  go_loopw [5] (fun iv wr=>∃ (t m:Nat) (j:Int) (p:Option Addr) (c:Nat),iv=.int .i64 j∧j+1+t=q∧t≤q∧m=t*D∧Bel w wr∧w.heap.size+3≤wr.heap.size∧Blk wr w.heap.size #[.int .i64 k,.int .i64 d,.slice pn nn cn,.slice pk n ck] 25∧Blk wr (w.heap.size+1) #[.int .i64 0,.int .i64 0,.slice none 0 0,.slice none 0 0] 25∧Blk wr (w.heap.size+1+1) #[.int .i64 k,.int .i64 d,.slice p m c,.slice none 0 0] 25∧wr.ownsRow (w.heap.size+3) 27 1 (.slice p m c) m (((pls.reverse.take t).flatMap (numsOfPl (ct d))).map flv)∧PlSl (fun b=>w.heap.size+3≤b∧Value.ownBlock (.slice p m c) ≠ some b) wr (.slice pv q cap) pls) (fun iv _=>(intOf iv+1).toNat)
  case atStart =>
   refine ⟨0,0,(q:Int) - 1,none,0,rfl,by simp,Nat.zero_le _,by simp,HB1.out,HSZ1.out,HQ0.out,HQ1.out,HQ2.out,World.ownsRow_nil _ _ _ _,?_⟩
   exact HP1.out.keep (Nat.le_refl _) (fun _ _ _=>rfl) fun b _ hb=>⟨hb,by simp [Value.ownBlock]⟩
  case round =>
   obtain ⟨t,m,j,p,c,rfl,hjt,ht,hmt,hbel,hgrow,hb0,hb1,hb2,hown,hpls⟩:=hrel
   have HG0:=Lib.hid hb0
   obtain ⟨q0,y0,u0⟩:=hb0.facts
   have HMT:=Lib.hid hmt
   have HBEL:=Lib.hid hbel
   have HGROW:=Lib.hid hgrow
   have HG1:=Lib.hid hb1
   have HG2:=Lib.hid hb2
   have HOWN:=Lib.hid hown
   have HPLS:=Lib.hid hpls
   obtain ⟨q1,y1,u1⟩:=hb1.facts
   obtain ⟨q2,y2,u2⟩:=hb2.facts
   clear hb0 hb1 hb2 hown hpls hmt
   by_cases htn:t<q
   ·obtain ⟨i,rfl⟩:∃ i:Nat,j=(i:Int):=⟨j.toNat,by omega⟩
    have hti:q - 1 - t=i:=by omega
    have hrv:pls.reverse[t]?=pls[i]?:=by
     rw [List.getElem?_reverse (by rw [HQL.out];exact htn),HQL.out,hti]
    obtain ⟨x,hx⟩:∃ x,pls[i]?=some x:=⟨_,List.getElem?_eq_getElem (by rw [HQL.out];omega)⟩
    obtain ⟨b,off,rfl,hone⟩:=HPLS.out.one hx
    have HONE:=Lib.hid hone
    have HTK:=Lib.hid (flat_take (c:=ct d) (hrv.trans hx))
    have HC:Hid (∀ (W:World),Bel wr W→Calls Tryz.prog 34 #[.slice (some ⟨b,off+i*4,none⟩) 1 (cap - i),.int .i64 d] W (IsFlx (fun b=>W.heap.size≤b) (numsOfPl (ct d) x) W)):=Lib.hid fun W hW=>HNU.out _ x _ W (HONE.out.bel hW)
    have HXL:=Lib.hid (HNL.out x)
    have HML:=Lib.hid (HFL2.out (pls.reverse.take t))
    have hmD:m+D≤nn:=by
     have h1:=HMT.out
     have h2:=HQB.out
     have h3:(t+1)*D≤q*D:=Nat.mul_le_mul_right _ htn
     rw [Nat.add_mul,Nat.one_mul] at h3
     omega
    have hci:((i:Int)+1)≤(cap:Int):=by omega
    have hi0:(0:Int)≤(i:Int):=by omega
    have hii:(i:Int)≤(i:Int)+1:=by omega
    have hw1:IntKind.i64.wrap ((i:Int)+1)=(i:Int)+1:=by
     rw [IntKind.wrap_i64]
     omega
    have hnt:((i:Int)+1).toNat=i+1:=by omega
    have hge:(0:Int)≤(i:Int)+1:=by omega
    have hnn1:i≤i+1:=by omega
    have hne1:¬ cap=i:=by omega
    have hsb:i+1 - i=1:=by omega
    clear hx hrv hone
    generalize hys:numsOfPl (ct d) x=ys at *
    generalize hrw:(pls.reverse.take t).flatMap (numsOfPl (ct d))=rs at *
    go_wp2
    go_region_law (first
     | (go_simp;go_at_call 34;((with_reducible refine (HC.out _ ?hb).mono ?_);(case hb=>exact EL);rintro e w3 ⟨p3,m3,c3,rfl,hf3,hb3⟩;have hm3:=hf3.len.1;rw [HXL.out] at hm3;subst hm3;have HF3:=Lib.hid hf3;have HB3:Hid (Bel wr w3):=Lib.hid ((show Bel wr _ by exact EL).trans hb3);have C1:=HG1.out.bel HB3.out;have C2:=HG2.out.bel HB3.out;have HC0:=Lib.hid (HG0.out.bel HB3.out);have HC1:=Lib.hid C1;have HC2:=Lib.hid C2;obtain ⟨q3,y3,u3⟩:=C2.facts;clear hf3 hb3 C1 C2))
     | (refine step_append_rev _ rfl (.tmp 26) (.tmp 34) 22 rfl (w.heap.size+3) 27 i1 _ 1 8 Tryz.underlying22 hi1 hy0 hy1 hy2 rfl (by decide) (.slice p m c) m _ rfl (own_kept HOWN.out HB3.out) p3 D c3 (ys.map flv) rfl (by rw [List.length_map,HXL.out,Nat.mul_one]) HF3.out.feed (flv_one ys) (by unfold maxLen;omega) (by omega) (by have:=HGROW.out;have:=HB3.out.size;omega) ?_;intro v' w6 ho6 hg6 hb6;obtain ⟨p6,c6,rfl⟩:=ho6.isSlice;have HO6:=Lib.hid ho6;have HG6:=Lib.hid hg6;have HB6:=Lib.hid hb6;have E0:=grownBy_blk hg6 HC0.out (fun e=>by have:=(HOWN.out.lt _ e.symm).1;omega);have E1:=grownBy_blk hg6 HC1.out (fun e=>by have:=(HOWN.out.lt _ e.symm).1;omega);have E2:=grownBy_blk hg6 HC2.out (fun e=>by have:=(HOWN.out.lt _ e.symm).1;omega);have HE0:=Lib.hid E0;have HE1:=Lib.hid E1;have HE2:=Lib.hid E2;obtain ⟨q6,y6,u6⟩:=E2.facts;clear ho6 hg6 hb6 E0 E1 E2))
    all_goals
     go_wp2
     go_roundw
     case rel =>
      have hs6:=HG6.out.size
      have hs3:=HB3.out.size
      have hgr:=HGROW.out
      have hne:∀ b,b<w3.heap.size→Value.ownBlock (.slice p m c) ≠ some b→Value.ownBlock (.slice p6 (m+D) c6) ≠ some b:=fun b hb hn=>by
       rcases HB6.out with h|h
       ·rw [h]
        exact hn
       ·rw [h]
        intro e
        have:=Option.some.inj e
        omega
      have hblk:∀ b,b<w3.heap.size→Value.ownBlock (.slice p m c) ≠ some b→w6.heap[b]?=w3.heap[b]?:=fun b hb hn=>HG6.out.block b hb (fun e=>hn e.symm)
      refine ⟨t+1,m+D,(i:Int) - 1,p6,c6,rfl,by omega,by omega,by rw [HMT.out,Nat.add_mul,Nat.one_mul],?_,by simp;omega,?_,?_,?_,?_,?_⟩
      ·exact ((HBEL.out.trans HB3.out).of_row HG6.out (fun g hg=>by have:=(HOWN.out.lt g hg).1;omega)).setCell (by simp;omega) _
      ·have HB:=HE0.out
       exact KL
      ·have HB:=HE1.out
       exact KL
      ·exact Blk.cast (HE2.out.set 2 _) (by rfl)
      ·rw [HTK.out,List.map_append]
       exact HO6.out.kept (grownBy_set _ _ _ _) (HO6.out.ne_of_lt' (by omega))
      ·refine HPLS.out.keep (by simp;omega) (fun b hb hl=>?_) fun b hl hb=>⟨hb.1,hne b (by omega) hb.2⟩
       rw [Below.heap_setCell _ _ _ _ (by simp;omega),hblk b (by omega) hb.2]
       exact HB3.out.block b hl
     case measure=>simp [intOf]<;>omega
   ·obtain rfl:t=q:=by omega
    obtain rfl:j=-1:=by omega
    have hown:=HOWN.out
    rw [List.take_of_length_le (by rw [List.length_reverse,HQL.out];exact Nat.le_refl _)] at hown
    have HRL:Hid ((pls.reverse.flatMap (numsOfPl (ct d))).length=m):=Lib.hid (by rw [HFL2.out,List.length_reverse,HQL.out,HMT.out])
    obtain ⟨p2,hp2⟩:∃ x,x=p:=⟨_,rfl⟩
    obtain ⟨m2,hm2⟩:∃ x,x=m:=⟨_,rfl⟩
    obtain ⟨c2,hc2⟩:∃ x,x=c:=⟨_,rfl⟩
    have hg2:=HG2.out
    rw [← hp2,← hm2,← hc2] at hown hg2
    rw [← hm2] at HRL
    have HFS1:Hid (FlSl (fun b=>w.heap.size+3≤b) wr (.slice p2 m2 c2) (pls.reverse.flatMap (numsOfPl (ct d)))):=Lib.hid (FlSl.of_owns hown HRL.out fun b hb=>hb)
    have HBEL1:=HBEL
    have HGROW1:=HGROW
    have HG1a:=HG1
    have HG2a:=Lib.hid hg2
    obtain ⟨q3,y3,u3⟩:=hg2.facts
    clear hown HRL HG2 HOWN q2 y2 u2 HPLS HMT HBEL HGROW HG1 hg2
    generalize pls.reverse.flatMap (numsOfPl (ct d))=ys at *
    clear hp2 hm2 hc2
    go_wp2
    go_loopw [40] (fun iv wr=>∃ (t:Nat) (p:Option Addr) (c:Nat) (xs:List Value),iv=.int .i64 t∧t≤n∧Bel w wr∧w.heap.size+3≤wr.heap.size∧Blk wr (w.heap.size+1) #[.int .i64 0,.int .i64 0,.slice none 0 0,.slice none 0 0] 25∧Blk wr (w.heap.size+1+1) #[.int .i64 k,.int .i64 d,.slice p2 m2 c2,.slice p t c] 25∧wr.ownsRow (w.heap.size+3) 25 4 (.slice p t c) t xs∧RowGm (fun b=>w.heap.size+3≤b∧Value.ownBlock (.slice p t c) ≠ some b) wr xs ((ks.take t).map revG)∧FlSl (fun b=>w.heap.size+3≤b∧Value.ownBlock (.slice p t c) ≠ some b) wr (.slice p2 m2 c2) ys) (fun iv _=>n - (intOf iv).toNat)
    case atStart =>
     refine ⟨0,none,0,[],rfl,Nat.zero_le _,HBEL1.out,HGROW1.out,HG1a.out,HG2a.out,World.ownsRow_nil _ _ _ _,fun i g hg=>by simp at hg,?_⟩
     exact HFS1.out.mono fun b _ hb=>⟨hb,by simp [Value.ownBlock]⟩
    case round =>
     obtain ⟨t,p,c,xs,rfl,ht,hbel,hgrow,hb1,hb2,hown,hrow,hfl⟩:=hrel
     have HBEL:=Lib.hid hbel
     have HGROW:=Lib.hid hgrow
     have HG1:=Lib.hid hb1
     have HG2:=Lib.hid hb2
     have HOWN:=Lib.hid hown
     have HROW:=Lib.hid hrow
     have HFL:=Lib.hid hfl
     obtain ⟨q1,y1,u1⟩:=hb1.facts
     obtain ⟨q2,y2,u2⟩:=hb2.facts
     clear hb1 hb2 hown hrow hfl
     by_cases htn:t<n
     ·obtain ⟨kd,hkd⟩:∃ kd,ks[t]?=some kd:=⟨_,List.getElem?_eq_getElem (by have:=HN.out;omega)⟩
      have HKD:=Lib.hid (HIH.out kd (List.mem_iff_getElem?.2 ⟨t,hkd⟩))
      obtain ⟨b,off,pn',nn',cn',pk',nk',ck',rfl,hlt,-,d0,d1,d2,d3,hf,hg'⟩:=HK.out.at hkd
      have D0:=cell_kept hbel d0
      have D1:=cell_kept hbel d1
      have D2:=cell_kept hbel d2
      have D3:=cell_kept hbel d3
      have hbl:b<wr.heap.size:=Nat.lt_of_lt_of_le hlt hbel.size
      have HC:Hid (∀ (W:World),Bel w W→Calls Tryz.prog 11 #[.agg #[.int .i64 kd.kind,.int .i64 kd.dim,.slice pn' nn' cn',.slice pk' nk' ck']] W (IsGm (fun b=>W.heap.size≤b) (revG kd) W)):=Lib.hid fun W hW=>GmArg.of (HKD.out (fun b=>W.heap.size≤b)) hf hg' hW (fun b hb=>hb)
      have HTK:=Lib.hid (rev_take hkd)
      have HLT:Hid (((ks.take t).map revG).length=t):=Lib.hid (by rw [List.length_map,List.length_take,HN.out];omega)
      clear HKD d0 d1 d2 d3 hf hg' hbel hkd
      generalize kd.dim=kdim at *
      generalize kd.kind=kkind at *
      generalize revG kd=fk at *
      go_wp2
      go_region_law (first
       | (go_simp;go_at_call 11;((with_reducible refine (HC.out _ ?hb).mono ?_);(case hb=>(have HB:=HBEL.out;exact EL));rintro e w3 ⟨p4,n4,c4,p5,n5,c5,rfl,hf4,hg4,hb4⟩;have HF4:=Lib.hid hf4;have HG4:=Lib.hid hg4;have HB3:Hid (Bel wr w3):=Lib.hid (by exact EL);have HSZ3:Hid (wr.heap.size+1≤w3.heap.size):=Lib.hid (by have:=hb4.size;simp at this;exact this);have C1:=HG1.out.bel HB3.out;have C2:=HG2.out.bel HB3.out;have HC1:=Lib.hid C1;have HC2:=Lib.hid C2;obtain ⟨q3,y3,u3⟩:=C2.facts;clear hf4 hg4 hb4 C1 C2))
       | (refine step_append_row _ rfl (.tmp 45) (.tmp 48) 23 rfl (w.heap.size+3) 25 i0 _ 4 64 Tryz.underlying23 hi hz0 hz1 hz2 rfl (by decide) (.slice p t c) t xs rfl ((own_kept HOWN.out HB3.out).alloc _) ⟨w3.heap.size,0,none⟩ 1 1 [.int .i64 fk.kind,.int .i64 fk.dim,.slice p4 n4 c4,.slice p5 n5 c5] rfl rfl (cells_arr _ _ _ (by simp)) (by simp [Value.oneCell']) (by decide) (by unfold maxLen;omega) (by omega) (by have:=HGROW.out;have:=HB3.out.size;simp;omega) ?_;intro v' w6 ho6 hg6 hb6;obtain ⟨p6,c6,rfl⟩:=ho6.isSlice;have HO6:=Lib.hid ho6;have HG6:=Lib.hid hg6;have HB6:=Lib.hid hb6;have E1:=grownBy_blk hg6 (HC1.out.alloc _) (fun e=>by have:=(HOWN.out.lt _ e.symm).1;omega);have E2:=grownBy_blk hg6 (HC2.out.alloc _) (fun e=>by have:=(HOWN.out.lt _ e.symm).1;omega);have HE1:=Lib.hid E1;have HE2:=Lib.hid E2;obtain ⟨q6,y6,u6⟩:=E2.facts;clear ho6 hg6 hb6 E1 E2))
      all_goals
       go_wp2
       go_roundw
       case rel =>
        have hs3:=HSZ3.out
        have hs6:=HG6.out.size
        have hgr:=HGROW.out
        simp at hs6
        have hne:∀ b,b<w3.heap.size→Value.ownBlock (.slice p t c) ≠ some b→Value.ownBlock (.slice p6 (t+1) c6) ≠ some b:=fun b hb hn=>by
         rcases HB6.out with h|h
         ·rw [h]
          exact hn
         ·rw [h]
          intro e
          have:=Option.some.inj e
          simp at this
          omega
        have hblk:∀ b,b<w3.heap.size→Value.ownBlock (.slice p t c) ≠ some b→w6.heap[b]?=w3.heap[b]?:=fun b hb hn=>by
         rw [HG6.out.block b (by simp;omega) (fun e=>hn e.symm)]
         exact Below.heap_alloc _ _ _ (by simpa using hb)
        refine ⟨t+1,p6,c6,_,by go_num,by omega,?_,by simp;omega,?_,?_,(HO6.out.kept (grownBy_set _ _ _ _) (HO6.out.ne_of_lt' (by omega))),?_,?_⟩
        ·exact ((show Bel w _ from HBEL.out.trans (show Bel wr _ by (have HB:=HB3.out;exact EL))).of_row HG6.out (fun g hg=>by have:=(HOWN.out.lt g hg).1;omega)).setCell (by simp;omega) _
        ·have HB:=HE1.out
         exact KL
        ·exact Blk.cast (HE2.out.set 3 _) (by rfl)
        ·rw [HTK.out]
         refine RowGm.push (HROW.out.keep (by simp;omega) (fun b hb hl=>?_) fun b hl hb=>⟨hb.1,hne b (by omega) hb.2⟩) HLT.out HOWN.out.1 (HF4.out.keep (by simp;omega) (fun b hb hl=>?_) fun b hl hb=>⟨?_,?_⟩) (HG4.out.keep (by simp;omega) (fun b hb hl=>?_) fun b hl hb=>⟨?_,?_⟩)
         ·rw [Below.heap_setCell _ _ _ _ (by simp;omega),hblk b (by omega) hb.2]
          exact HB3.out.block b hl
         ·rw [Below.heap_setCell _ _ _ _ (by simp at hb;simp;omega),hblk b hl (fun e=>by have h1:=(HOWN.out.lt _ e).2;simp at hb;omega)]
         ·simp at hb;omega
         ·exact hne b hl (fun e=>by have h1:=(HOWN.out.lt _ e).2;simp at hb;omega)
         ·rw [Below.heap_setCell _ _ _ _ (by simp at hb;simp;omega),hblk b hl (fun e=>by have h1:=(HOWN.out.lt _ e).2;simp at hb;omega)]
         ·simp at hb;omega
         ·exact hne b hl (fun e=>by have h1:=(HOWN.out.lt _ e).2;simp at hb;omega)
        ·refine HFL.out.keep (by simp;omega) (fun b hb hl=>?_) fun b hl hb=>⟨hb.1,hne b (by omega) hb.2⟩
         rw [Below.heap_setCell _ _ _ _ (by simp;omega),hblk b (by omega) hb.2]
         exact HB3.out.block b hl
       case measure=>simp [intOf];omega
     ·obtain rfl:t=n:=by omega
      have hrow:=HROW.out
      rw [List.take_of_length_le (by have:=HN.out;omega)] at hrow
      have HGS:Hid (GmSl (fun b=>w.heap.size+3≤b) wr (.slice p t c) (ks.map revG)):=Lib.hid (RowGm.sl HOWN.out hrow (by rw [List.length_map,HN.out]) (fun b hb=>hb) fun b _ hb=>hb.1)
      have HFS:Hid (FlSl (fun b=>w.heap.size+3≤b) wr (.slice p2 m2 c2) ys):=Lib.hid (HFL.out.mono fun b _ hb=>hb.1)
      have HEND:Hid (∀ W:World,wr.heap.size≤W.heap.size→(∀ b,w.heap.size+3≤b→b<wr.heap.size→W.heap[b]?=wr.heap[b]?)→Bel w W→IsGm G (revG (.mk k d ns ks)) w (.returned (.agg #[.int .i64 k,.int .i64 d,.slice p2 m2 c2,.slice p t c])) W):=Lib.hid fun W hW hk hb=>by
       rw [HFO.out]
       exact ⟨_,_,_,_,_,_,rfl,HFS.out.keep hW hk (fun b _ hb=>hG b (by omega)),HGS.out.keep hW hk (fun b _ hb=>hG b (by omega)),hb⟩
      clear hrow hbel
      go_wp2
      refine post_ret (results_one rfl (resIs_agg (n:=4) (cs:=#[.int .i64 k,.int .i64 d,.slice p2 m2 c2,.slice p t c]) (by rfl) Tryz.underlying25 (by kernel_rfl) (T:=25) ?_ rfl)) (HEND.out _ ?_ (fun b hb hl=>?_) ?_)
      ·have HB:=HG1.out
       exact SL
      ·simp
      ·repeat rw [Below.heap_setCell _ _ _ _ (by simp;omega)]
      ·have HB:=HBEL.out
       exact EL
theorem spRev_any (g:Gm) (h:g.size≤1048576):SpRev g:=spRev_ind g.size g (Nat.le_refl _) h
end Go.Proofs.YtpipehenfcbjbaaGreatDoor
set_option linter.unusedVariables false
set_option linter.unusedSimpArgs false
namespace Go.Proofs.YtpipehenfcbjbaaGreatDoor
open Go.ChangeShapes Go.WideShapes Go.ChangeAt Go.RowKit
theorem revN_len (c:Nat) (xs:List Nat):(revN c xs).length=xs.length / wd c*wd c:=by
 unfold revN
 rw [flatMap_len,List.length_reverse,plsOf_len]
theorem revN_div (c:Nat) (xs:List Nat):(revN c xs).length / wd c=xs.length / wd c:=by
 rw [revN_len,Nat.mul_div_cancel _ (by have:=wd_bd c;omega)]
theorem numsOfPl_two (c:Nat) (p:Pl):∃ r,numsOfPl c p=p.x :: p.y :: r:=⟨_,by unfold numsOfPl;rw [List.append_assoc];rfl⟩
theorem flatP_at (c:Nat):∀ (ps:List Pl) (k:Nat) (p:Pl),ps[k]?=some p→(ps.flatMap (numsOfPl c)).getD (k*wd c) 0=p.x∧(ps.flatMap (numsOfPl c)).getD (k*wd c+1) 0=p.y
 | [],k,p,h=>by simp at h
 | a :: r,0,p,h=>by
  simp at h
  subst h
  obtain ⟨q,hq⟩:=numsOfPl_two c a
  rw [List.flatMap_cons,hq]
  simp
 | a :: r,k+1,p,h=>by
  have ih:=flatP_at c r k p (by simpa using h)
  have e:(k+1)*wd c=wd c+k*wd c:=by rw [Nat.add_mul,Nat.one_mul,Nat.add_comm]
  have hl:=numsOfPl_len c a
  have up:∀ j,((a :: r).flatMap (numsOfPl c)).getD (wd c+j) 0=(r.flatMap (numsOfPl c)).getD j 0:=fun j=>by
   rw [List.flatMap_cons]
   unfold List.getD
   rw [List.getElem?_append_right (by omega),hl,Nat.add_sub_cancel_left]
  rw [e,up,Nat.add_assoc,up]
  exact ih
theorem pls_rev {c:Nat} {xs:List Nat} {k:Nat} (h:k<xs.length / wd c):(plsOf c xs).reverse[k]?=some (plAt c xs (xs.length / wd c - 1 - k)):=by
 rw [List.getElem?_reverse (by rw [plsOf_len];exact h),plsOf_len]
 exact plsOf_get (by omega)
theorem revN_at {c:Nat} {xs:List Nat} {k:Nat} (h:k<xs.length / wd c):(revN c xs).getD (k*wd c) 0=xs.getD ((xs.length / wd c - 1 - k)*wd c) 0∧(revN c xs).getD (k*wd c+1) 0=xs.getD ((xs.length / wd c - 1 - k)*wd c+1) 0:=flatP_at c _ k _ (pls_rev h)
/-! ### Boxes -/
theorem Ev.join_comm (e f:Ev):e.join f=f.join e:=by
 cases e with
 | no=>rw [Ev.no_join,Ev.join_no]
 | bx a b c d =>
  cases f with
  | no=>rfl
  | bx p q r s =>
   have h1:min a p=min p a:=by omega
   have h2:min b q=min q b:=by omega
   have h3:max c r=max r c:=by omega
   have h4:max d s=max s d:=by omega
   simp only [Ev.join,h1,h2,h3,h4]
def evL:List (Nat × Nat)→Ev
 | []=>.no
 | p :: r=>(ptEv p.1 p.2).join (evL r)
theorem evL_append:∀ a b:List (Nat × Nat),evL (a ++ b)=(evL a).join (evL b)
 | [],b=>by rw [List.nil_append,evL,Ev.no_join]
 | p :: r,b=>by rw [List.cons_append,evL,evL,evL_append r b,Ev.join_assoc]
theorem evL_reverse:∀ a:List (Nat × Nat),evL a.reverse=evL a
 | []=>rfl
 | p :: r=>by
  rw [List.reverse_cons,evL_append,evL_reverse r,evL,evL,evL,Ev.join_no,Ev.join_comm]
def xyAt (c:Nat) (xs:List Nat) (i:Nat):Nat × Nat:=(xs.getD (i*wd c) 0,xs.getD (i*wd c+1) 0)
theorem evUp_L (c:Nat) (xs:List Nat):∀ k,evUp c xs k=evL ((List.range k).map (xyAt c xs))
 | 0=>rfl
 | k+1=>by
  rw [List.range_succ,List.map_append,evL_append,← evUp_L c xs k,List.map_cons,List.map_nil,evL,evL,Ev.join_no]
  rfl
theorem xy_rev (c:Nat) (xs:List Nat):(List.range (xs.length / wd c)).map (xyAt c (revN c xs))=((List.range (xs.length / wd c)).map (xyAt c xs)).reverse:=by
 refine List.ext_getElem? fun i=>?_
 by_cases h:i<xs.length / wd c
 ·obtain ⟨h1,h2⟩:=revN_at h
  have h3:xs.length / wd c - 1 - i<xs.length / wd c:=by omega
  have hA:((List.range (xs.length / wd c)).map (xyAt c (revN c xs)))[i]?=some (xyAt c (revN c xs) i):=by
   rw [List.getElem?_map,List.getElem?_range h]
   rfl
  have hB:((List.range (xs.length / wd c)).map (xyAt c xs)).reverse[i]?=some (xyAt c xs (xs.length / wd c - 1 - i)):=by
   rw [List.getElem?_reverse (by simpa using h),List.length_map,List.length_range,List.getElem?_map,List.getElem?_range h3]
   rfl
  rw [hA,hB]
  unfold xyAt
  rw [h1,h2]
 ·rw [List.getElem?_eq_none (by simp;omega),List.getElem?_eq_none (by simp;omega)]
theorem evNums_rev (c:Nat) (xs:List Nat):evNums c (revN c xs)=evNums c xs:=by
 unfold evNums
 rw [revN_div,evUp_L,evUp_L,xy_rev,evL_reverse]
mutual
theorem evOf_rev:∀ g:Gm,evOf (revG g)=evOf g
 | .mk k d ns ks=>by
  have h1:=evHead_rev ks
  have h2:=evAll_rev ks
  rw [revG,evOf,evOf,evNums_rev,h1,h2]
theorem evHead_rev:∀ l:List Gm,evHead (revAll l)=evHead l
 | []=>rfl
 | g :: r=>by
  have h:=evOf_rev g
  rw [revAll,evHead,evHead,h]
theorem evAll_rev:∀ l:List Gm,evAll (revAll l)=evAll l
 | []=>rfl
 | g :: r=>by
  have h1:=evOf_rev g
  have h2:=evAll_rev r
  rw [revAll,evAll,evAll,h1,h2]
end
/-! ### What is counted -/
theorem revG_kd (g:Gm):(revG g).kind=g.kind∧(revG g).dim=g.dim∧(revG g).kids=g.kids.map revG∧(revG g).nums=revN (ct g.dim) g.nums:=by
 cases g with
 | mk k d ns ks=>exact ⟨rfl,rfl,revAll_map ks,rfl⟩
theorem partsG_rev (g:Gm):partsG (revG g)=partsG g:=by
 obtain ⟨h1,h2,h3,h4⟩:=revG_kd g
 unfold partsG
 rw [h1,h2,h3,h4,revN_div,List.length_map]
mutual
theorem totG_rev:∀ g:Gm,totG (revG g)=totG g
 | .mk k d ns ks=>by
  have h:=totAll_rev ks
  rw [revG,totG,totG,h,revAll_map,List.length_map]
theorem totAll_rev:∀ l:List Gm,totAll (revAll l)=totAll l
 | []=>rfl
 | g :: r=>by
  have h1:=totG_rev g
  have h2:=totAll_rev r
  rw [revAll,totAll,totAll,(revG_kd g).1,h1,h2]
end
theorem ringsN_rev:∀ l:List Gm,ringsN (l.map revG)=ringsN l
 | []=>rfl
 | g :: r=>by
  rw [List.map_cons,ringsN,ringsN,(revG_kd g).2.2.1,List.length_map,ringsN_rev r]
theorem revN_nil (c:Nat):revN c []=[]:=List.length_eq_zero_iff.1 (by rw [revN_len];simp)
/-- Good data: what spec.New makes. -/
def leafB (k:Int):Prop:=k=1∨k=2
mutual
def Good (c:Nat):Gm→Prop
 | .mk k d ns ks=>d=c∧(0≤k∧k≤6)∧ns.length % wd c=0∧(k=1→ns.length≤wd c)∧(leafB k→ks=[])∧(¬ leafB k→ns=[])∧Goods c (kidOf k) ks
def Goods (c:Nat) (want:Int):List Gm→Prop
 | []=>True
 | g :: r=>(Good c g∧(want<0∨want=g.kind))∧Goods c want r
end
theorem Goods.mem {c:Nat} {want:Int}:∀ {l:List Gm} {g:Gm},Goods c want l→g ∈ l→Good c g∧(want<0∨want=g.kind)
 | [],g,_,h=>by simp at h
 | a :: r,g,h,hm=>by
  rw [Goods] at h
  rcases List.mem_cons.1 hm with rfl|k
  ·exact h.1
  ·exact Goods.mem h.2 k
theorem Goods.of {c:Nat} {want:Int}:∀ {l:List Gm},(∀ g ∈ l,Good c g∧(want<0∨want=g.kind))→Goods c want l
 | [],_=>by rw [Goods];trivial
 | a :: r,h=>by
  rw [Goods]
  exact ⟨h a (by simp),Goods.of fun g hg=>h g (by simp [hg])⟩
theorem Good.kid {c:Nat} {g k:Gm} (h:Good c g) (hk:k ∈ g.kids):Good c k:=by
 cases g with
 | mk kk d ns ks =>
  rw [Good] at h
  exact (Goods.mem h.2.2.2.2.2.2 hk).1
theorem Good.dim {c:Nat} {g:Gm} (h:Good c g):g.dim=c:=by
 cases g
 rw [Good] at h
 exact h.1
theorem Good.mod {c:Nat} {g:Gm} (h:Good c g):g.nums.length % wd c=0:=by
 cases g
 rw [Good] at h
 exact h.2.2.1
theorem revN_len_good {c:Nat} {xs:List Nat} (h:xs.length % wd c=0):(revN c xs).length=xs.length:=by
 rw [revN_len]
 exact Nat.div_mul_cancel (Nat.dvd_of_mod_eq_zero h)
mutual
theorem force_good {c c':Nat} (hc:c≤3):∀ g:Gm,Good c' g→c'≤3→Good c (force c g)
 | .mk k d ns ks,h,h3=>by
  rw [Good] at h
  obtain ⟨rfl,hk,hm,h1,hl,hnl,hks⟩:=h
  have hw:=wd_bd c
  have hw':=wd_bd c'
  rw [force,Good,ct_nat h3]
  refine ⟨rfl,hk,by rw [forceN_len];exact Nat.mul_mod_left _ _,fun e=>?_,fun e=>?_,fun e=>?_,?_⟩
  ·have h2:=h1 e
   rw [forceN_len]
   have h4:ns.length / wd c'≤1:=by
    have:=Nat.div_le_div_right (c:=wd c') h2
    rw [Nat.div_self (by omega)] at this
    exact this
   calc ns.length / wd c'*wd c≤1*wd c:=Nat.mul_le_mul_right _ h4
    _=wd c:=Nat.one_mul _
  ·rw [hl e,forceAll]
  ·rw [hnl e]
   exact forceN_nil _ _
  ·exact forceAll_good hc ks hks h3
theorem forceAll_good {c c':Nat} {want:Int} (hc:c≤3):∀ l:List Gm,Goods c' want l→c'≤3→Goods c want (forceAll c l)
 | [],_,_=>by rw [forceAll,Goods];trivial
 | g :: r,h,h3=>by
  rw [Goods] at h
  have h1:=force_good hc g h.1.1 h3
  have h2:=forceAll_good (want:=want) hc r h.2 h3
  rw [forceAll,Goods]
  exact ⟨⟨h1,by rw [(force_kind c g).1];exact h.1.2⟩,h2⟩
end
theorem kindOf_bd (k:Int):0≤kindOf k∧kindOf k≤6:=by
 unfold kindOf
 split<;>omega
theorem newOf_good:∀ (n:Nat) (g:Gm),g.size≤n→∃ c,c≤3∧Good c (newOf g)
 | 0,g,h=>absurd h (by have:=g.size_pos;omega)
 | n+1,.mk k d ns ks,h=>by
  have hk:∀ g ∈ ks,∃ c,c≤3∧Good c (newOf g):=fun g hg=>newOf_good n g (by
   have h2:=Gm.size_mem hg
   simp only [Gm.size] at h
   omega)
  have hb:=kindOf_bd k
  have hw:=wd_bd (ct d)
  rw [newOf]
  split
  ·rename_i hl
   refine ⟨ct d,ct_le d,?_⟩
   rw [Good]
   have hle:(if kindOf k=1 then min (ns.length / wd (ct d)) 1 else ns.length / wd (ct d))*wd (ct d)≤ns.length:=by
    have h1:=Nat.div_mul_le_self ns.length (wd (ct d))
    split
    ·exact Nat.le_trans (Nat.mul_le_mul_right _ (Nat.min_le_left _ _)) h1
    ·exact h1
   refine ⟨rfl,hb,?_,fun e=>?_,fun _=>rfl,fun e=>absurd hl e,by rw [Goods];trivial⟩
   ·rw [List.length_take,Nat.min_eq_left hle]
    exact Nat.mul_mod_left _ _
   ·rw [List.length_take,Nat.min_eq_left hle,if_pos e]
    calc min (ns.length / wd (ct d)) 1*wd (ct d)≤1*wd (ct d):=Nat.mul_le_mul_right _ (Nat.min_le_right _ _)
     _=wd (ct d):=Nat.one_mul _
  ·rename_i hl
   split
   ·refine ⟨ct d,ct_le d,?_⟩
    rw [Good]
    exact ⟨rfl,hb,by simp,fun _=>by simp,fun _=>rfl,fun _=>rfl,by rw [Goods];trivial⟩
   ·have hcm:common (newAll (kidOf (kindOf k)) ks)≤3:=common_le _ 3 (by decide)
    refine ⟨_,hcm,?_⟩
    generalize common (newAll (kidOf (kindOf k)) ks)=cm at *
    rw [force,Good]
    refine ⟨rfl,hb,by rw [forceN_len];exact Nat.mul_mod_left _ _,fun e=>absurd (Or.inl e) hl,fun e=>absurd e hl,fun _=>forceN_nil _ _,?_⟩
    rw [forceAll_map]
    refine Goods.of fun x hx=>?_
    obtain ⟨y,hy,rfl⟩:=List.mem_map.1 hx
    have key:∀ (l:List Gm),(∀ g ∈ l,∃ c,c≤3∧Good c (newOf g))→∀ y ∈ newAll (kidOf (kindOf k)) l,(∃ c,c≤3∧Good c y)∧(kidOf (kindOf k)<0∨kidOf (kindOf k)=y.kind):=fun l=>by
     induction l with
     | nil=>intro _ y hy;simp [newAll] at hy
     | cons a r ih =>
      intro hall y hy
      rw [newAll] at hy
      split at hy
      ·rename_i hq
       rcases List.mem_cons.1 hy with rfl|hy
       ·exact ⟨hall a (by simp),hq⟩
       ·exact ih (fun g hg=>hall g (by simp [hg])) y hy
      ·exact ih (fun g hg=>hall g (by simp [hg])) y hy
    obtain ⟨⟨c',h3,hg⟩,hq⟩:=key ks hk y hy
    exact ⟨force_good hcm y hg h3,by rw [(force_kind cm y).1];exact hq⟩
mutual
theorem force_self {c:Nat} (hc:c≤3):∀ g:Gm,Good c g→force c g=g
 | .mk k d ns ks,h=>by
  rw [Good] at h
  obtain ⟨rfl,-,hm,-,-,-,hks⟩:=h
  rw [force,ct_nat hc,forceN_self hc ns hm,forceAll_self hc ks hks]
theorem forceAll_self {c:Nat} {want:Int} (hc:c≤3):∀ l:List Gm,Goods c want l→forceAll c l=l
 | [],_=>rfl
 | g :: r,h=>by
  rw [Goods] at h
  have h1:=force_self hc g h.1.1
  have h2:=forceAll_self hc r h.2
  rw [forceAll,h1,h2]
end
theorem common_good {c:Nat} (hc:c≤3) {l:List Gm} (h:∀ g ∈ l,g.dim=c) (hn:l ≠ []):common l=c:=by
 have key:∀ (l:List Gm),(∀ g ∈ l,g.dim=c)→l.foldl (fun a g=>a &&& g.dim.toNat) c=c:=fun l=>by
  induction l with
  | nil=>intro _;rfl
  | cons a r ih =>
   intro hall
   rw [List.foldl_cons,hall a (by simp)]
   have:c &&& ((c:Int).toNat)=c:=by rw [Int.toNat_natCast,Nat.and_self]
   rw [this]
   exact ih fun g hg=>hall g (by simp [hg])
 cases l with
 | nil=>exact absurd rfl hn
 | cons a r =>
  unfold common
  rw [List.foldl_cons,h a (by simp)]
  have:3 &&& ((c:Int).toNat)=c:=by
   rw [Int.toNat_natCast]
   have h4:c=0∨c=1∨c=2∨c=3:=by omega
   rcases h4 with rfl|rfl|rfl|rfl<;>decide
  rw [this]
  exact key r fun g hg=>h g (by simp [hg])
theorem newOf_fixed {c:Nat} (hc:c≤3):∀ (n:Nat) (g:Gm),g.size≤n→Good c g→newOf g=g
 | 0,g,h,_=>absurd h (by have:=g.size_pos;omega)
 | n+1,.mk k d ns ks,h,hg=>by
  have hg2:=hg
  rw [Good] at hg
  obtain ⟨rfl,hk,hm,h1,hl,hnl,hks⟩:=hg
  have hkd:kindOf k=k:=by unfold kindOf;rw [if_pos hk]
  have hw:=wd_bd c
  have hall:newAll (kidOf k) ks=ks:=by
   have key:∀ (l:List Gm),(∀ g ∈ l,newOf g=g∧(kidOf k<0∨kidOf k=g.kind))→newAll (kidOf k) l=l:=fun l=>by
    induction l with
    | nil=>intro _;rfl
    | cons a r ih =>
     intro hx
     obtain ⟨e1,e2⟩:=hx a (by simp)
     rw [newAll,e1,if_pos e2,ih fun g hg=>hx g (by simp [hg])]
   exact key ks fun g hg=>⟨newOf_fixed hc n g (by
    have h2:=Gm.size_mem hg
    simp only [Gm.size] at h
    omega) (hks.mem hg).1,(hks.mem hg).2⟩
  rw [newOf,hkd,hall,ct_nat hc]
  have hd:=Nat.div_mul_cancel (Nat.dvd_of_mod_eq_zero hm)
  split
  ·rename_i hq
   rw [hl hq]
   by_cases e:k=1
   ·have h2:=h1 e
    have h4:ns.length / wd c≤1:=by
     have:=Nat.div_le_div_right (c:=wd c) h2
     rw [Nat.div_self (by omega)] at this
     exact this
    rw [if_pos e,Nat.min_eq_left h4,hd,List.take_length]
   ·rw [if_neg e,hd,List.take_length]
  ·rename_i hq
   rw [hnl hq]
   cases ks with
   | nil=>rfl
   | cons a r =>
    rw [if_neg (by simp),common_good hc (fun g hg=>(hks.mem hg).1.dim) (by simp)]
    rw [hnl hq] at hg2
    exact force_self hc _ hg2
mutual
theorem rev_good {c:Nat} (hc:c≤3):∀ g:Gm,Good c g→Good c (revG g)
 | .mk k d ns ks,h=>by
  rw [Good] at h
  obtain ⟨rfl,hk,hm,h1,hl,hnl,hks⟩:=h
  have h2:=revAll_good hc ks hks
  rw [revG,Good,ct_nat hc,revN_len_good hm]
  refine ⟨rfl,hk,hm,h1,fun e=>by rw [hl e];rfl,fun e=>by rw [hnl e];exact revN_nil _,h2⟩
theorem revAll_good {c:Nat} {want:Int} (hc:c≤3):∀ l:List Gm,Goods c want l→Goods c want (revAll l)
 | [],_=>by rw [revAll,Goods];trivial
 | g :: r,h=>by
  rw [Goods] at h
  have h1:=rev_good hc g h.1.1
  have h2:=revAll_good (want:=want) hc r h.2
  rw [revAll,Goods]
  exact ⟨⟨h1,by rw [(revG_kd g).1];exact h.1.2⟩,h2⟩
end
mutual
theorem rev_size {c:Nat} (hc:c≤3):∀ g:Gm,Good c g→(revG g).size=g.size
 | .mk k d ns ks,h=>by
  rw [Good] at h
  obtain ⟨rfl,-,hm,-,-,-,hks⟩:=h
  have h2:=revAll_size hc ks hks
  rw [revG,Gm.size,Gm.size,ct_nat hc,revN_len_good hm,h2]
theorem revAll_size {c:Nat} {want:Int} (hc:c≤3):∀ l:List Gm,Goods c want l→Gm.sizes (revAll l)=Gm.sizes l
 | [],_=>rfl
 | g :: r,h=>by
  rw [Goods] at h
  have h1:=rev_size hc g h.1.1
  have h2:=revAll_size hc r h.2
  rw [revAll,Gm.sizes,Gm.sizes,h1,h2]
end
mutual
theorem rev_all {c:Nat} (hc:c≤3):∀ g:Gm,Good c g→(allOf (revG g)).length=(allOf g).length
 | .mk k d ns ks,h=>by
  rw [Good] at h
  obtain ⟨rfl,-,hm,-,-,-,hks⟩:=h
  have h2:=revAll_all hc ks hks
  rw [revG,allOf,allOf,List.length_append,List.length_append,ct_nat hc,revN_len_good hm,h2]
theorem revAll_all {c:Nat} {want:Int} (hc:c≤3):∀ l:List Gm,Goods c want l→(allOfs (revAll l)).length=(allOfs l).length
 | [],_=>rfl
 | g :: r,h=>by
  rw [Goods] at h
  have h1:=rev_all hc g h.1.1
  have h2:=revAll_all hc r h.2
  rw [revAll,allOfs,allOfs,List.length_append,List.length_append,h1,h2]
end
mutual
theorem rev_empty {c:Nat} (hc:c≤3):∀ g:Gm,Good c g→emptyOf (revG g)=emptyOf g
 | .mk k d ns ks,h=>by
  rw [Good] at h
  obtain ⟨rfl,-,hm,-,-,-,hks⟩:=h
  have h2:=revAll_empty hc ks hks
  have h3:(revN c ns).isEmpty=ns.isEmpty:=by
   have hl:=revN_len_good hm
   cases ns with
   | nil=>rw [revN_nil]
   | cons a r =>
    cases hq:revN c (a :: r) with
    | nil=>rw [hq] at hl;simp at hl
    | cons=>rfl
  have h4:(revAll ks).isEmpty=ks.isEmpty:=by cases ks<;>rfl
  rw [revG,emptyOf,emptyOf,ct_nat hc,h2,h3,h4]
theorem revAll_empty {c:Nat} {want:Int} (hc:c≤3):∀ l:List Gm,Goods c want l→emptyAll (revAll l)=emptyAll l
 | [],_=>rfl
 | g :: r,h=>by
  rw [Goods] at h
  have h1:=rev_empty hc g h.1.1
  have h2:=revAll_empty hc r h.2
  rw [revAll,emptyAll,emptyAll,h1,h2]
end
theorem sumG_rev {c:Nat} (hc:c≤3) (g:Gm) (h:Good c g):sumG (revG g)=sumG g:=by
 obtain ⟨h1,h2,h3,h4⟩:=revG_kd g
 have h5:=rev_all hc g h
 unfold sumG sumG0 sumG1 sumG2 sumG3 sumG4 sumG5 sumG6
 rw [h1,h2,h3,h5,partsG_rev,totG_rev,ringsN_rev,List.length_map]
/-! ### Numbers -/
theorem mem_flat {c:Nat} {x:Nat} {ps:List Pl}:x ∈ ps.reverse.flatMap (numsOfPl c)↔x ∈ ps.flatMap (numsOfPl c):=by simp [List.mem_flatMap]
theorem revN_mem {c:Nat} (hc:c≤3) {xs:List Nat} {x:Nat} (h:x ∈ revN c xs):x ∈ xs:=by
 have h2:x ∈ forceN c c xs:=mem_flat.1 h
 rw [forceN_whole hc] at h2
 exact List.mem_of_mem_take h2
mutual
theorem rev_mem:∀ (g:Gm) {x:Nat},x ∈ allOf (revG g)→x ∈ allOf g
 | .mk k d ns ks,x,h=>by
  rw [revG,allOf] at h
  rw [allOf]
  rcases List.mem_append.1 h with h|h
  ·exact List.mem_append_left _ (revN_mem (ct_le d) h)
  ·exact List.mem_append_right _ (revAll_mem ks h)
theorem revAll_mem:∀ (l:List Gm) {x:Nat},x ∈ allOfs (revAll l)→x ∈ allOfs l
 | [],x,h=>h
 | g :: r,x,h=>by
  rw [revAll,allOfs] at h
  rw [allOfs]
  rcases List.mem_append.1 h with h|h
  ·exact List.mem_append_left _ (rev_mem g h)
  ·exact List.mem_append_right _ (revAll_mem r h)
end
/-! ### Areas -/
theorem shoe_congr {Z Y:Nat→Int × Int}:∀ k,(∀ i,i≤k→Z i=Y i)→shoe Z k=shoe Y k
 | 0,_=>rfl
 | k+1,h=>by rw [shoe,shoe,shoe_congr k fun i hi=>h i (by omega),h k (by omega),h (k+1) (by omega)]
theorem shoe_rev (Z:Nat→Int × Int) (m:Nat):∀ k,k≤m→shoe (fun i=>Z (m - i)) k=shoe Z (m - k) - shoe Z m
 | 0,_=>by simp [shoe]
 | k+1,h=>by
  have ih:=shoe_rev Z m k (by omega)
  have e:m - k=m - (k+1)+1:=by omega
  have h2:shoe Z (m - k)=shoe Z (m - (k+1))+((Z (m - k)).1+(Z (m - (k+1))).1)*((Z (m - k)).2 - (Z (m - (k+1))).2):=by
   rw [e,shoe,← e]
  rw [shoe,ih,h2]
  have h3:∀ a b p q:Int,(b+a)*(q - p)=-((a+b)*(p - q)):=fun a b p q=>by
   rw [Int.add_comm b a,← Int.mul_neg,Int.neg_sub]
  try simp only
  rw [h3]
  omega
theorem zOf_rev {c:Nat} {xs:List Nat} {i:Nat} (h:i<xs.length / wd c):zOf c (revN c xs) i=zOf c xs (xs.length / wd c - 1 - i):=by
 obtain ⟨h1,h2⟩:=revN_at h
 unfold zOf
 rw [h1,h2]
theorem areaL_rev (g:Gm):areaL (revG g)=-areaL g:=by
 obtain ⟨h1,h2,h3,h4⟩:=revG_kd g
 unfold areaL
 rw [h2,h4,revN_div]
 generalize ct g.dim=c
 generalize g.nums=xs
 have hr:=shoe_rev (zOf c xs) (xs.length / wd c - 1) (xs.length / wd c - 1) (Nat.le_refl _)
 rw [Nat.sub_self] at hr
 have h0:shoe (zOf c xs) 0=0:=rfl
 rw [h0] at hr
 rcases Nat.eq_zero_or_pos (xs.length / wd c) with e|e
 ·rw [e]
  rfl
 ·rw [shoe_congr (Y:=fun i=>zOf c xs (xs.length / wd c - 1 - i)) _ fun i hi=>zOf_rev (by omega),hr]
  omega
theorem ltZ_neg (a:Int):ltZ (-a)=gtZ a:=by
 unfold ltZ gtZ
 exact decide_eq_decide.2 (by omega)
theorem gtZ_neg (a:Int):gtZ (-a)=ltZ a:=by
 unfold ltZ gtZ
 exact decide_eq_decide.2 (by omega)
theorem cwRings_rev {f h:Int→Bool} (hf:∀ a,f (-a)=h a):∀ (b:Bool) (l:List Gm),cwRings f b (revAll l)=cwRings h b l
 | b,[]=>rfl
 | b,g :: r=>by rw [revAll,cwRings,cwRings,areaL_rev,hf,cwRings_rev hf false r]
mutual
theorem cwG_rev {f h:Int→Bool} (hf:∀ a,f (-a)=h a):∀ g:Gm,cwG f (revG g)=cwG h g
 | .mk k d ns ks=>by
  have h1:=cwAll_rev hf ks
  rw [revG,cwG,cwG,cwRings_rev hf,h1]
theorem cwAll_rev {f h:Int→Bool} (hf:∀ a,f (-a)=h a):∀ l:List Gm,cwAll f (revAll l)=cwAll h l
 | []=>rfl
 | g :: r=>by
  have h1:=cwG_rev hf g
  have h2:=cwAll_rev hf r
  rw [revAll,cwAll,cwAll,h1,h2]
end
mutual
theorem whole_rev:∀ g:Gm,WholeG g→WholeG (revG g)
 | .mk k d ns ks,h=>by
  rw [WholeG] at h
  have h2:=wholes_rev ks h.2
  rw [revG,WholeG,revN_div]
  refine ⟨⟨fun i hi=>?_,h.1.2⟩,h2⟩
  have:=h.1.1 (ns.length / wd (ct d) - 1 - i) (by omega)
  obtain ⟨e1,e2⟩:=revN_at hi
  rw [zOf_rev hi,e1,e2]
  exact this
theorem wholes_rev:∀ l:List Gm,WholeGs l→WholeGs (revAll l)
 | [],h=>h
 | g :: r,h=>by
  rw [WholeGs] at h
  have h1:=whole_rev g h.1
  have h2:=wholes_rev r h.2
  rw [revAll,WholeGs]
  exact ⟨h1,h2⟩
end
/-! ### Whole places -/
theorem Is.oneR {x:Nat} {p q:Rat} (h:Is x p) (k:Is x q):p=q:=by
 obtain ⟨s,m,i,h1,rfl⟩:=h
 obtain ⟨s',m',i',k1,rfl⟩:=k
 rw [h1] at k1
 cases k1
 rfl
theorem intW_eqR {x:Nat} {z:Int} (h:Is x (z:Rat)):intW x=z:=by
 unfold intW
 have hx:∃ z:Int,Is x (z:Rat):=⟨z,h⟩
 rw [dif_pos hx]
 exact Rat.intCast_inj.1 ((Classical.choose_spec hx).oneR h)
mutual
theorem shp_whole:∀ g:Gm,Shp g→g.size≤1024→WholeG g
 | .mk k d ns ks,h,hsz=>by
  rw [Shp] at h
  obtain ⟨⟨ps,hl,hp⟩,hk⟩:=h
  rw [Gm.size] at hsz
  have h2:=shps_whole ks hk (by omega)
  rw [WholeG]
  refine ⟨⟨fun i hi=>?_,Nat.le_trans (Nat.div_le_self _ _) (by omega)⟩,h2⟩
  have hi2:i<ps.length:=by omega
  obtain ⟨h3,h4,h5⟩:=hp i ps[i] (plAt (ct d) ns i) (List.getElem?_eq_getElem hi2) (plsOf_get hi)
  have h3:Is (ns.getD (i*wd (ct d)) 0) ((ps[i]).1:Rat):=h3
  have h4:Is (ns.getD (i*wd (ct d)+1) 0) ((ps[i]).2:Rat):=h4
  unfold zOf
  rw [intW_eqR h3,intW_eqR h4]
  exact ⟨h3,h4,h5⟩
theorem shps_whole:∀ l:List Gm,Shps l→Gm.sizes l≤1024→WholeGs l
 | [],h,_=>by rw [WholeGs];trivial
 | g :: r,h,hsz=>by
  rw [Shps] at h
  rw [Gm.sizes] at hsz
  have h1:=shp_whole g h.1 (by omega)
  have h2:=shps_whole r h.2 (by omega)
  rw [WholeGs]
  exact ⟨h1,h2⟩
end
end Go.Proofs.YtpipehenfcbjbaaGreatDoor
set_option linter.unusedVariables false
set_option linter.unusedSimpArgs false
namespace Go.Proofs.YtpipehenfcbjbaaGreatDoor
open Go.ChangeShapes Go.WideShapes Go.ChangeAt Go.RowKit
def Has (g:Gm):Prop:=GmArg g fun v w=>Calls Tryz.prog 13 #[v] w (IsBool w)
def Broad (g:Gm):Prop:=GmArg g fun v w=>Calls Tryz.prog 12 #[v] w (IsBool w)
set_option maxHeartbeats 8000000 in
set_option maxRecDepth 100000 in
theorem has_ind:∀ (n:Nat) (g:Gm),g.size≤n→g.size≤1048576→Has g:=by
 intro n
 induction n with
 | zero=>exact fun g h=>absurd h (by have:=g.size_pos;omega)
 | succ n ih =>
  intro g hsz hbig F pn nn cn pk nk ck w hN hK
  obtain ⟨k,d,ns,ks⟩:=g
  obtain ⟨hnl,-,-⟩:=hN.len
  obtain ⟨_,_,hve,hkl,hkc⟩:=hK.isSlice
  cases hve
  change ks.length≤ck at hkl
  show Calls Tryz.prog 13 #[.agg #[.int .i64 k,.int .i64 d,.slice pn nn cn,.slice pk ks.length ck]] w _
  have HK:=Lib.hid (show GmSl F w (.slice pk ks.length ck) ks from hK)
  have hnl2:ns.length=nn:=hnl
  have HIH:Hid (∀ g ∈ ks,Has g):=Lib.hid fun g hg=>ih g (by
   have h2:=Gm.size_mem hg
   simp only [Gm.size] at hsz
   omega) (by
   have h2:=Gm.size_mem hg
   simp only [Gm.size] at hbig
   omega)
  have hn31:ks.length≤1048576:=by
   have:=Gm.len_sizes ks
   rw [Gm.size] at hbig
   omega
  clear ih hsz hbig hN hK hnl hnl2
  generalize hn:ks.length=n at *
  have HN:=Lib.hid hn
  clear hn
  go_enter Tryz.func13,Tryz.ntmps13
  go_wp2
  go_loopw [8] (fun iv wr=>∃ t:Nat,iv=.int .i64 t∧t≤n∧Bel w wr∧Blk wr w.heap.size #[.int .i64 k,.int .i64 d,.slice pn nn cn,.slice pk n ck] 25) (fun iv _=>n - (intOf iv).toNat)
  case atStart=>exact ⟨0,rfl,Nat.zero_le _,by exact EL,by exact KL⟩
  case round =>
   obtain ⟨t,rfl,ht,hbel,hb3⟩:=hrel
   have HBEL:=Lib.hid hbel
   have HG3:=Lib.hid hb3
   obtain ⟨r3,z3,l3⟩:=hb3.facts
   by_cases htn:t<n
   ·obtain ⟨kd,hkd⟩:∃ kd,ks[t]?=some kd:=⟨_,List.getElem?_eq_getElem (by have:=HN.out;omega)⟩
    have HKD:=Lib.hid (HIH.out kd (List.mem_iff_getElem?.2 ⟨t,hkd⟩))
    obtain ⟨b,off,pn',nn',cn',pk',nk',ck',rfl,hlt,-,d0,d1,d2,d3,hf,hg'⟩:=HK.out.at hkd
    have D0:=cell_kept hbel d0
    have D1:=cell_kept hbel d1
    have D2:=cell_kept hbel d2
    have D3:=cell_kept hbel d3
    have hbl:b<wr.heap.size:=Nat.lt_of_lt_of_le hlt hbel.size
    have HC:Hid (∀ W,Bel w W→Calls Tryz.prog 13 #[.agg #[.int .i64 kd.kind,.int .i64 kd.dim,.slice pn' nn' cn',.slice pk' nk' ck']] W (IsBool W)):=Lib.hid fun W hW=>GmArg.of HKD.out hf hg' hW
    clear HKD d0 d1 d2 d3 hf hg' hbel hkd hb3
    generalize kd.dim=kdim at *
    generalize kd.kind=kkind at *
    go_wp2_with (first
     | (go_at_call 13;(with_reducible refine (HC.out _ ?hb).mono ?_);(case hb=>exact HBEL.out.alloc _);rintro e w4 ⟨br,rfl,hb⟩;have HB4:Hid (Bel wr w4):=Lib.hid ((Bel.alloc1 _ _).trans hb);have HP4:=Lib.hid (HG3.out.bel HB4.out);clear hb;cases br))
    ·go_roundw
     case rel=>exact ⟨t+1,by go_num,by omega,HBEL.out.trans HB4.out,HP4.out⟩
     case measure=>simp [intOf];omega
    ·go_ret
     exact ⟨_,rfl,HBEL.out.trans HB4.out⟩
   ·obtain rfl:t=n:=by omega
    clear hbel
    go_wp2
    go_ret
    exact ⟨_,rfl,HBEL.out⟩
theorem has_any (g:Gm) (h:g.size≤1048576):Has g:=has_ind g.size g (Nat.le_refl _) h
set_option maxHeartbeats 8000000 in
set_option maxRecDepth 100000 in
theorem broad_ind:∀ (n:Nat) (g:Gm),g.size≤n→g.size≤1048576→N64 g→Broad g:=by
 intro n
 induction n with
 | zero=>exact fun g h _ _=>absurd h (by have:=g.size_pos;omega)
 | succ n ih =>
  intro g hsz hbig h64 F pn nn cn pk nk ck w hN hK
  obtain ⟨k,d,ns,ks⟩:=g
  obtain ⟨hnl,-,-⟩:=hN.len
  obtain ⟨_,_,hve,hkl,hkc⟩:=hK.isSlice
  cases hve
  change ks.length≤ck at hkl
  show Calls Tryz.prog 12 #[.agg #[.int .i64 k,.int .i64 d,.slice pn nn cn,.slice pk ks.length ck]] w _
  have HK:=Lib.hid (show GmSl F w (.slice pk ks.length ck) ks from hK)
  have hnl2:ns.length=nn:=hnl
  have HIH:Hid (∀ g ∈ ks,Broad g):=Lib.hid fun g hg=>ih g (by
   have h2:=Gm.size_mem hg
   simp only [Gm.size] at hsz
   omega) (by
   have h2:=Gm.size_mem hg
   simp only [Gm.size] at hbig
   omega) (h64.kid hg)
  have HCL:Hid (∀ g ∈ ks,GmArg g fun v w=>Calls Tryz.prog 35 #[v,.int .i64 1048576] w (IsShape w g)):=Lib.hid fun g hg=>shapeSp_any g (h64.kid hg) (by
   have h2:=Gm.size_mem hg
   simp only [Gm.size] at hbig
   omega)
  have HSZ:Hid (∀ g ∈ ks,g.size≤1048576):=Lib.hid fun g hg=>by
   have h2:=Gm.size_mem hg
   simp only [Gm.size] at hbig
   omega
  have hn31:ks.length≤1048576:=by
   have:=Gm.len_sizes ks
   rw [Gm.size] at hbig
   omega
  clear ih hsz hbig h64 hN hK hnl hnl2
  generalize hn:ks.length=n at *
  have HN:=Lib.hid hn
  clear hn
  go_enter Tryz.func12,Tryz.ntmps12
  go_wp2
  go_loopw [10] (fun iv wr=>∃ t:Nat,iv=.int .i64 t∧t≤n∧Bel w wr∧Blk wr w.heap.size #[.int .i64 k,.int .i64 d,.slice pn nn cn,.slice pk n ck] 25) (fun iv _=>n - (intOf iv).toNat)
  case atStart=>exact ⟨0,rfl,Nat.zero_le _,by exact EL,by exact KL⟩
  case round =>
   obtain ⟨t,rfl,ht,hbel,hb3⟩:=hrel
   have HBEL:=Lib.hid hbel
   have HG3:=Lib.hid hb3
   obtain ⟨r3,z3,l3⟩:=hb3.facts
   by_cases htn:t<n
   ·obtain ⟨kd,hkd⟩:∃ kd,ks[t]?=some kd:=⟨_,List.getElem?_eq_getElem (by have:=HN.out;omega)⟩
    have HKD:=Lib.hid (HIH.out kd (List.mem_iff_getElem?.2 ⟨t,hkd⟩))
    have HKC:=Lib.hid (HCL.out kd (List.mem_iff_getElem?.2 ⟨t,hkd⟩))
    obtain ⟨b,off,pn',nn',cn',pk',nk',ck',rfl,hlt,-,d0,d1,d2,d3,hf,hg'⟩:=HK.out.at hkd
    have D0:=cell_kept hbel d0
    have D1:=cell_kept hbel d1
    have D2:=cell_kept hbel d2
    have D3:=cell_kept hbel d3
    have hbl:b<wr.heap.size:=Nat.lt_of_lt_of_le hlt hbel.size
    have HC:Hid (∀ W,Bel w W→Calls Tryz.prog 12 #[.agg #[.int .i64 kd.kind,.int .i64 kd.dim,.slice pn' nn' cn',.slice pk' nk' ck']] W (IsBool W)):=Lib.hid fun W hW=>GmArg.of HKD.out hf hg' hW
    have HD:Hid (∀ W,Bel w W→Calls Tryz.prog 35 #[.agg #[.int .i64 kd.kind,.int .i64 kd.dim,.slice pn' nn' cn',.slice pk' nk' ck'],.int .i64 1048576] W (IsShape W kd)):=Lib.hid fun W hW=>GmArg.of HKC.out hf hg' hW
    have HKZ:=Lib.hid (HSZ.out kd (List.mem_iff_getElem?.2 ⟨t,hkd⟩))
    clear HKD HKC d0 d1 d2 d3 hf hg' hbel hkd hb3
    generalize kd.dim=kdim at *
    generalize kd.kind=kkind at *
    by_cases h3:k=3
    ·have q3:(k == 3)=true:=by simp [h3]
     clear h3
     go_wp2_with (first
      | (go_at_call 36;(with_reducible refine (area2_any _ _ _ (HX.out.bel ?hb) HS.out HL.out).mono ?_);(case hb=>exact EL);rintro e w5 ⟨rfl,hb5⟩;have HB5:Hid (Bel wr w5):=Lib.hid ((show Bel wr _ by (have HB:=HB3.out;exact EL)).trans hb5);have HP5:=Lib.hid (HG3.out.bel HB5.out);clear hb5)
      | (go_at_call 35;(with_reducible refine (HD.out _ ?hb).mono ?_);(case hb=>exact HBEL.out.trans HB4.out);rintro e w3 ⟨ok,kq,pp,np,cp,pq,nq,cq,rfl,hb,h1,h2,h3⟩;obtain ⟨ps,hx,hs,hl⟩:=shape_pts HKZ.out h1 h2;have HX:=Lib.hid hx;have HS:=Lib.hid hs;have HL:=Lib.hid hl;have HB3:Hid (Bel wr w3):=Lib.hid (HB4.out.trans hb);have C3:=HG3.out.bel HB3.out;have HP3:=Lib.hid C3;obtain ⟨r6,z6,l6⟩:=C3.facts;clear hb h1 h2 h3 hx hs hl C3;cases ok)
      | (go_at_call 12;(with_reducible refine (HC.out _ ?hb).mono ?_);(case hb=>exact HBEL.out.alloc _);rintro e w4 ⟨br,rfl,hb⟩;have HB4:Hid (Bel wr w4):=Lib.hid ((Bel.alloc1 _ _).trans hb);have HP4:=Lib.hid (HG3.out.bel HB4.out);have C5:Blk w4 wr.heap.size #[.int .i64 kkind,.int .i64 kdim,.slice pn' nn' cn',.slice pk' nk' ck'] 25:=Blk.bel (by exact KL) hb;obtain ⟨r5,z5,l5⟩:=C5.facts;clear hb C5;cases br))
     all_goals first
      | (go_ret;first|exact ⟨_,rfl,HBEL.out.trans HB5.out⟩|exact ⟨_,rfl,HBEL.out.trans HB4.out⟩|exact ⟨_,rfl,HBEL.out.trans (by (have HB:=HB3.out;exact EL))⟩)
      | (go_roundw;(case rel=>first|exact ⟨t+1,by go_num,by omega,HBEL.out.trans HB5.out,HP5.out⟩|exact ⟨t+1,by go_num,by omega,HBEL.out.trans (by (have HB:=HB3.out;exact EL)),by (have HB:=HP3.out;exact KL)⟩);(case measure=>(simp [intOf];omega)))
    ·have q3:(k == 3)=false:=by simp [h3]
     clear h3
     go_wp2_with (first
      | (go_at_call 36;(with_reducible refine (area2_any _ _ _ (HX.out.bel ?hb) HS.out HL.out).mono ?_);(case hb=>exact EL);rintro e w5 ⟨rfl,hb5⟩;have HB5:Hid (Bel wr w5):=Lib.hid ((show Bel wr _ by (have HB:=HB3.out;exact EL)).trans hb5);have HP5:=Lib.hid (HG3.out.bel HB5.out);clear hb5)
      | (go_at_call 35;(with_reducible refine (HD.out _ ?hb).mono ?_);(case hb=>exact HBEL.out.trans HB4.out);rintro e w3 ⟨ok,kq,pp,np,cp,pq,nq,cq,rfl,hb,h1,h2,h3⟩;obtain ⟨ps,hx,hs,hl⟩:=shape_pts HKZ.out h1 h2;have HX:=Lib.hid hx;have HS:=Lib.hid hs;have HL:=Lib.hid hl;have HB3:Hid (Bel wr w3):=Lib.hid (HB4.out.trans hb);have C3:=HG3.out.bel HB3.out;have HP3:=Lib.hid C3;obtain ⟨r6,z6,l6⟩:=C3.facts;clear hb h1 h2 h3 hx hs hl C3;cases ok)
      | (go_at_call 12;(with_reducible refine (HC.out _ ?hb).mono ?_);(case hb=>exact HBEL.out.alloc _);rintro e w4 ⟨br,rfl,hb⟩;have HB4:Hid (Bel wr w4):=Lib.hid ((Bel.alloc1 _ _).trans hb);have HP4:=Lib.hid (HG3.out.bel HB4.out);have C5:Blk w4 wr.heap.size #[.int .i64 kkind,.int .i64 kdim,.slice pn' nn' cn',.slice pk' nk' ck'] 25:=Blk.bel (by exact KL) hb;obtain ⟨r5,z5,l5⟩:=C5.facts;clear hb C5;cases br))
     all_goals first
      | (go_ret;first|exact ⟨_,rfl,HBEL.out.trans HB5.out⟩|exact ⟨_,rfl,HBEL.out.trans HB4.out⟩|exact ⟨_,rfl,HBEL.out.trans (by (have HB:=HB3.out;exact EL))⟩)
      | (go_roundw;(case rel=>first|exact ⟨t+1,by go_num,by omega,HBEL.out.trans HB5.out,HP5.out⟩|exact ⟨t+1,by go_num,by omega,HBEL.out.trans (by (have HB:=HB3.out;exact EL)),by (have HB:=HP3.out;exact KL)⟩);(case measure=>(simp [intOf];omega)))
   ·obtain rfl:t=n:=by omega
    clear hbel
    go_wp2
    go_ret
    exact ⟨_,rfl,HBEL.out⟩
theorem broad_any (g:Gm) (h:g.size≤1048576) (h64:N64 g):Broad g:=broad_ind g.size g (Nat.le_refl _) h h64
end Go.Proofs.YtpipehenfcbjbaaGreatDoor
