/-
 Line strings: their type,under another type;rows of objects. No panic;what stood in memory has not turned.
-/
import Derived.Test.YtpipehenfcbjbaaGreatDoorPae
import Derived.Test.YtpipehenfcbjbaaGreatDoorPaf
set_option linter.unusedVariables false
namespace Go.Proofs.YtpipehenfcbjbaaGreatDoor
open Go.ChangeShapes Go.WideShapes Go.ChangeAt Go.RowKit
theorem Ob.ln {F:Nat→Prop} {w:World} {cs:List Value} {g:Gm} (h:Ob F w 2 cs g):∃ (c:Nat) (p:Option Addr) (n cap:Nat) (xs:List Nat),cs=[.int .u8 c,.slice p n cap]∧c≤3∧g=.mk 2 c xs []∧FlSl F w (.slice p n cap) xs∧n % wd c=0∧n / wd c≤1048576:=by
 cases h with
 | line c p n cap xs hc h hw hb=>exact ⟨c,p,n,cap,xs,rfl,hc,rfl,h,hw,hb⟩
 | parts s e k c p cap gs cs he hc hl hcap hb h0 hkk h1=>cases he
theorem force_ln {c:Nat} (hc:c≤3) (c':Nat) (xs:List Nat):force c' (.mk 2 c xs [])=.mk 2 c' (forceN c c' xs) []:=by
 simp only [force,forceAll,ct_nat hc]
theorem lineType_any (c:Int) (p:Option Addr) (n cap:Nat) (w:World):Calls Tryz.prog 112 #[.agg #[.int .u8 c,.slice p n cap]] w fun e w'=>e=.returned (.int .u8 c)∧Bel w w':=by
 go_enter Tryz.func112,Tryz.ntmps112
 go_wp2_with (go_at_call 180;refine (seqType_any _ _ _ _ _).mono ?_;rintro e w1 ⟨rfl,hb1⟩;have HB1:Hid (Bel w w1):=Lib.hid ((Bel.alloc1 w _).trans hb1);clear hb1)
 go_ret
 exact ⟨rfl,HB1.out⟩
set_option maxRecDepth 100000 in
theorem lineForce_any (F:Nat→Prop) (cs:List Value) (g:Gm) (c':Nat) (hc':c'≤3) (w:World) (hF:New F w) (h:Ob F w 2 cs g):Calls Tryz.prog 163 #[.agg cs.toArray,.int .u8 c'] w (IsOb F w 2 (force c' g)):=by
 obtain ⟨c,p,n,cap,xs,rfl,hc,rfl,hf,hw,hb⟩:=h.ln
 rw [force_ln hc]
 have hl:=hf.len.1
 have HS:Hid (∀ W,Bel w W→Calls Tryz.prog 201 #[.agg #[.int .u8 c,.slice p n cap],.int .u8 c'] W (IsSeq (fun b=>W.heap.size≤b∨(F b∧b<w.heap.size)) W c' (forceN c c' xs))):=Lib.hid fun W hW=>seqForce_any _ c c' p n cap xs hc hc' W (fun b hb=>Or.inl hb) ((hf.keep hW.size (fun b _ hl=>hW.block b hl) fun b hl hb=>Or.inr ⟨hb,hl⟩)) hw hb
 have HLEN:Hid ((forceN c c' xs).length % wd c'=0∧(forceN c c' xs).length / wd c'≤1048576):=Lib.hid (by
  have h0:=wd_bd c'
  rw [forceN_len,hl]
  exact ⟨Nat.mul_mod_left _ _,by rw [Nat.mul_div_cancel _ (by omega)];exact hb⟩)
 clear h hf hw hb hl
 show Calls Tryz.prog 163 #[.agg #[.int .u8 c,.slice p n cap],.int .u8 c'] w _
 generalize forceN c c' xs=ys at *
 go_enter Tryz.func163,Tryz.ntmps163
 go_wp2_with (go_at_call 201;(with_reducible refine (HS.out _ ?hb).mono ?_);(case hb=>exact EL);rintro e w1 ⟨p1,n1,c1,rfl,hf1,hb1⟩;have HF1:=Lib.hid hf1;have B2:=(Blk.new' (w.alloc (.cells #[.int .u8 c,.slice p n cap] 111)) #[.int .u8 0,.slice none 0 0] 111 (b:=w.heap.size+1) (by simp)).bel hb1;have HB1:Hid (Bel w w1):=Lib.hid (((Bel.alloc1 w _).alloc _).trans hb1);obtain ⟨r2,z2,l2⟩:=B2.facts;have HP2:=Lib.hid B2;clear hf1 hb1 B2)
 have hl:=HF1.out.len.1
 refine post_ret (results_one rfl (resIs_agg (n:=2) (cs:=#[.int .u8 c',.slice p1 n1 c1]) (by rfl) Tryz.underlying111 (by kernel_rfl) (T:=111) ?_ rfl)) ⟨_,rfl,.line c' p1 n1 c1 ys hc' ?_ (by rw [← hl];exact HLEN.out.1) (by rw [← hl];exact HLEN.out.2),?_⟩
 ·have HB:=HP2.out
  exact SL
 ·refine HF1.out.keep (by simp) (fun b hb hl=>?_) (fun b _ hb=>?_)
  ·rw [Below.heap_setCell _ _ _ _ (by simp;simp at hb;omega),Below.heap_setCell _ _ _ _ (by simp;simp at hb;omega)]
  ·rcases hb with hb|hb
   ·exact hF b (by simp at hb;omega)
   ·exact hb.1
 ·have HB:=HB1.out
  exact EL

/-! ### Rows of objects -/
def RowOb (F:Nat→Prop) (w:World) (arr:Nat→Option Value) (e k:Nat) (hs:List Gm):Prop:=∀ (i:Nat) (g:Gm),hs[i]?=some g→∃ cl:List Value,cl.length=k∧(∀ (j:Nat) (u:Value),cl[j]?=some u→arr (i*k+j)=some u)∧Ob F w e cl g
/-- A slice of objects. -/
def ObSl (F:Nat→Prop) (w:World) (e k:Nat) (v:Value) (gs:List Gm):Prop :=
 ∃ p cap,v=.slice p gs.length cap∧gs.length≤cap∧cap≤9223372036854775807∧(gs ≠ []→∃ b off,p=some ⟨b,off,none⟩∧b<w.heap.size∧F b∧RowOb F w (fun o=>w.cell? ⟨b,off+o,none⟩) e k gs)
theorem RowOb.keep {F G:Nat→Prop} {w w':World} {arr:Nat→Option Value} {e k:Nat} {hs:List Gm} (h:RowOb F w arr e k hs) (hs':w.heap.size≤w'.heap.size) (hk:∀ b,F b→b<w.heap.size→w'.heap[b]?=w.heap[b]?) (hG:∀ b,b<w.heap.size→F b→G b):RowOb G w' arr e k hs:=fun i g hg=>by
 obtain ⟨cl,h1,h2,h3⟩:=h i g hg
 exact ⟨cl,h1,h2,h3.keep hs' hk hG⟩
theorem RowOb.cells {F:Nat→Prop} {w:World} {arr arr':Nat→Option Value} {e k:Nat} {hs:List Gm} (h:RowOb F w arr e k hs) (hc:∀ o u,arr o=some u→arr' o=some u):RowOb F w arr' e k hs:=fun i g hg=>by
 obtain ⟨cl,h1,h2,h3⟩:=h i g hg
 exact ⟨cl,h1,fun j u hu=>hc _ _ (h2 j u hu),h3⟩
theorem ObSl.keep {F G:Nat→Prop} {w w':World} {e k:Nat} {v:Value} {gs:List Gm} (h:ObSl F w e k v gs) (hs:w.heap.size≤w'.heap.size) (hk:∀ b,F b→b<w.heap.size→w'.heap[b]?=w.heap[b]?) (hG:∀ b,b<w.heap.size→F b→G b):ObSl G w' e k v gs:=by
 obtain ⟨p,cap,hv,hl,hc,h⟩:=h
 refine ⟨p,cap,hv,hl,hc,fun hn=>?_⟩
 obtain ⟨b,off,hp,hlt,hF,hr⟩:=h hn
 refine ⟨b,off,hp,by omega,hG b hlt hF,(hr.keep hs hk hG).cells fun o u ho=>(World.cell?_of_block (w:=w) (hk b hF hlt)).trans ho⟩
theorem ObSl.ob {F:Nat→Prop} {w:World} {s e k c:Nat} {p:Option Addr} {n cap:Nat} {gs:List Gm} (h:ObSl F w e k (.slice p n cap) gs) (he:partOf s=some (e,k)) (hc:c≤3) (hb:gs.length≤1048576):Ob F w s [.slice p n cap,.int .u8 c] (.mk s c [] gs):=by
 obtain ⟨p',cap',hv,hl,hcap,h⟩:=h
 cases hv
 have hex:∀ i,∃ cl:List Value,∀ g,gs[i]?=some g→cl.length=k∧(∀ b off,p=some ⟨b,off,none⟩→∀ (j:Nat) (u:Value),cl[j]?=some u→w.cell? ⟨b,off+i*k+j,none⟩=some u)∧Ob F w e cl g:=fun i=>by
  cases hg:gs[i]? with
  | none=>exact ⟨[],fun g h=>by cases h⟩
  | some g =>
   obtain ⟨b,off,hp,_,_,hr⟩:=h (by intro e;rw [e] at hg;simp at hg)
   obtain ⟨cl,h1,h2,h3⟩:=hr i g hg
   refine ⟨cl,fun g' hg'=>?_⟩
   cases hg'
   refine ⟨h1,fun b' off' hp' j u hu=>?_,h3⟩
   rw [hp] at hp'
   cases hp'
   have:=h2 j u hu
   simp only [← Nat.add_assoc] at this
   exact this
 have hcs:=fun i=>(hex i).choose_spec
 refine .parts s e k c p cap gs (fun i=>(hex i).choose) he hc hl hcap hb (fun hn=>?_) (fun i g hg=>(hcs i g hg).1) (fun i g hg=>(hcs i g hg).2.2)
 obtain ⟨b,off,hp,hlt,hF,_⟩:=h hn
 exact ⟨b,off,hp,hlt,hF,fun i g hg j u hu=>(hcs i g hg).2.1 b off hp j u hu⟩
theorem Ob.sl {F:Nat→Prop} {w:World} {s e k:Nat} {cs:List Value} {g:Gm} (h:Ob F w s cs g) (he:partOf s=some (e,k)):∃ (p:Option Addr) (cap c:Nat) (gs:List Gm),cs=[.slice p gs.length cap,.int .u8 c]∧c≤3∧g=.mk s c [] gs∧gs.length≤1048576∧ObSl F w e k (.slice p gs.length cap) gs:=by
 cases h with
 | point x y z m c full hc=>cases he
 | line c p n cap xs hc h hw hb=>cases he
 | geo s b cs g hs' hb hF hc h=>cases he
 | parts s e' k' c p cap gs cs he' hc hl hcap hb h0 hkk h1 =>
  rw [he] at he'
  cases he'
  refine ⟨p,cap,c,gs,rfl,hc,rfl,hb,p,cap,rfl,hl,hcap,fun hn=>?_⟩
  obtain ⟨b,off,hp,hlt,hF,hq⟩:=h0 hn
  refine ⟨b,off,hp,hlt,hF,fun i g hg=>⟨cs i,hkk i g hg,fun j u hu=>?_,h1 i g hg⟩⟩
  have:=hq i g hg j u hu
  rw [Nat.add_assoc] at this
  exact this
theorem Ob.two {F:Nat→Prop} {w:World} {s:Nat} {cs:List Value} {g:Gm} (h:Ob F w s cs g) (hs:s ≠ 1):∃ a b,cs=[a,b]:=by
 cases h with
 | point x y z m c full hc=>exact absurd rfl hs
 | line c p n cap xs hc h hw hb=>exact ⟨_,_,rfl⟩
 | parts s e k c p cap gs cs he hc hl hcap hb h0 hkk h1=>exact ⟨_,_,rfl⟩
 | geo s b cs g hs' hb hF hc h=>exact ⟨_,_,rfl⟩
/-- One more, forced, in a row of its own. -/
theorem RowOb.push {F:Nat→Prop} {w:World} {arr arr':Nat→Option Value} {e k t:Nat} {hs:List Gm} {g:Gm} {cl:List Value} (h:RowOb F w arr e k hs) (hl:hs.length=t) (h1:∀ o u,o<t*k→arr o=some u→arr' o=some u) (hk:cl.length=k) (h2:∀ (j:Nat) (u:Value),cl[j]?=some u→arr' (t*k+j)=some u) (ho:Ob F w e cl g):RowOb F w arr' e k (hs ++ [g]):=fun i g' hg=>by
 rcases Nat.lt_or_ge i hs.length with q|q
 ·rw [List.getElem?_append_left q] at hg
  obtain ⟨cl',a1,a2,a3⟩:=h i g' hg
  refine ⟨cl',a1,fun j u hu=>h1 _ _ ?_ (a2 j u hu),a3⟩
  have hj:=(List.getElem?_eq_some_iff.1 hu).1
  have:(i+1)*k≤t*k:=Nat.mul_le_mul_right _ (by omega)
  rw [Nat.add_mul] at this
  omega
 ·rw [List.getElem?_append_right q] at hg
  have hlt:=(List.getElem?_eq_some_iff.1 hg).1
  simp at hlt
  have hi:i=t:=by omega
  subst hi
  rw [hl,Nat.sub_self] at hg
  simp at hg
  subst hg
  exact ⟨cl,hk,h2,ho⟩
end Go.Proofs.YtpipehenfcbjbaaGreatDoor
set_option linter.unusedVariables false
namespace Go.Proofs.YtpipehenfcbjbaaGreatDoor
open Go.ChangeShapes Go.WideShapes Go.ChangeAt Go.RowKit
theorem force_parts {s:Nat} (h1:s ≠ 1) (h2:s ≠ 2) (c c':Nat) (gs:List Gm):force c' (.mk s c [] gs)=.mk s c' [] (gs.map (force c')):=by
 simp only [force,forceAll_map,forceN_nil]
theorem infoLn:(Tryz.prog.info? 111).map (fun i=>(i.zero,i.size,i.bytes))=some (some (.agg #[.int .u8 0,.slice none 0 0]),2,32):=by kernel_rfl
theorem infoPg:(Tryz.prog.info? 91).map (fun i=>(i.zero,i.size,i.bytes))=some (some (.agg #[.slice none 0 0,.int .u8 0]),2,32):=by kernel_rfl
set_option maxHeartbeats 4000000 in
set_option maxRecDepth 100000 in
theorem polygonForce_any (F:Nat→Prop) (cs:List Value) (g:Gm) (c':Nat) (hc':c'≤3) (w:World) (hF:New F w) (h:Ob F w 3 cs g):Calls Tryz.prog 168 #[.agg cs.toArray,.int .u8 c'] w (IsOb F w 3 (force c' g)):=by
 obtain ⟨p,cap,c,gs,rfl,hc,rfl,hn31,hsl⟩:=h.sl (e:=2) (k:=2) rfl
 rw [force_parts (by decide) (by decide)]
 have HSL:=Lib.hid hsl
 clear h hsl
 show Calls Tryz.prog 168 #[.agg #[.slice p gs.length cap,.int .u8 c],.int .u8 c'] w _
 generalize hn:gs.length=n at *
 have HN:=Lib.hid hn
 clear hn
 obtain ⟨i0,hi,hz0,hz1,hz2⟩:=info_parts infoLn
 go_enter Tryz.func168,Tryz.ntmps168
 go_wp2_with (at_make;refine wpList_make_full _ rfl (.tmp 9) (.tmp 9) 89 rfl (w.heap.size+1+1) 111 i0 (.agg #[.int .u8 0,.slice none 0 0]) 2 Tryz.underlying89 hi hz0 hz1 .i64 .i64 _ _ n rfl rfl rfl rfl ?b2 ?b3 ?b4 ?_;(case b2=>(rw [hz2];omega));(case b3=>(unfold maxLen;omega));(case b4=>simp);intro w1 hown hgrow;obtain ⟨arr0,hB0,hs0⟩:=hown.blk;rw [show ((w.alloc (.cells #[.slice p n cap,.int .u8 c] 91)).alloc (.cells #[.slice none 0 0,.int .u8 0] 91)).heap.size=w.heap.size+1+1 by simp] at hB0;have HW1:=Bel.of_grown0 hgrow;have B1:=((Blk.new w #[.slice p n cap,.int .u8 c] 91).alloc (.cells #[.slice none 0 0,.int .u8 0] 91)).bel HW1;have B2:=(Blk.new' (w.alloc (.cells #[.slice p n cap,.int .u8 c] 91)) #[.slice none 0 0,.int .u8 0] 91 (b:=w.heap.size+1) (by simp)).bel HW1;have HB1:Hid (Bel w w1):=Lib.hid (((Bel.alloc1 w _).alloc _).trans HW1);have HP0:=Lib.hid hB0;have HS0:=Lib.hid hs0;have HP1:=Lib.hid B1;have HP2:=Lib.hid B2;obtain ⟨r1,z1,l1⟩:=B1.facts;clear hown hgrow hB0 hs0 HW1 B1 B2)
 go_loopw [14] (fun iv wr=>∃ (t:Nat) (arr:Array Value),iv=.int .i64 t∧t≤n∧Bel w wr∧Blk wr w.heap.size #[.slice p n cap,.int .u8 c] 91∧Blk wr (w.heap.size+1) #[.slice none 0 0,.int .u8 0] 91∧Blk wr (w.heap.size+1+1) arr 111∧arr.size=n*2∧RowOb (fun b=>(F b∧b<w.heap.size)∨w.heap.size+3≤b) wr (fun o=>arr[o]?) 2 2 ((gs.take t).map (force c'))) (fun iv _=>n - (intOf iv).toNat)
 case atStart=>exact ⟨0,arr0,rfl,Nat.zero_le _,HB1.out,HP1.out,HP2.out,HP0.out,HS0.out,fun i g hg=>by simp at hg⟩
 case round =>
  obtain ⟨t,arr,rfl,ht,hbel,hb1,hb2,hb3,harr,hrow⟩:=hrel
  have HBEL:=Lib.hid hbel
  have HG1:=Lib.hid hb1
  have HG2:=Lib.hid hb2
  have HG3:=Lib.hid hb3
  have HROW:=Lib.hid hrow
  obtain ⟨s1,t1,m1⟩:=hb1.facts
  have l3:=hb3.lt
  clear r1 z1 hrow hb1 hb2 hb3
  by_cases htn:t<n
  ·obtain ⟨g,hg⟩:∃ g,gs[t]?=some g:=⟨_,List.getElem?_eq_getElem (by have:=HN.out;omega)⟩
   obtain ⟨_,_,hve,_,_,hq⟩:=HSL.out
   cases hve
   obtain ⟨b,off,rfl,hlt,-,hr⟩:=hq (by intro e;rw [e] at hg;simp at hg)
   obtain ⟨cl,hcl,hcell,hob⟩:=hr t g hg
   obtain ⟨u0,u1,rfl⟩:=hob.two (by decide)
   have D0:=cell_kept hbel (hcell 0 u0 rfl)
   have D1:=cell_kept hbel (hcell 1 u1 rfl)
   simp only [Nat.add_zero] at D0
   have E1:=D1
   rw [← Nat.add_assoc] at E1
   have hbl:b<wr.heap.size:=Nat.lt_of_lt_of_le hlt hbel.size
   have HG:=Lib.hid hg
   have HC:Hid (∀ W,Bel w W→Calls Tryz.prog 163 #[.agg #[u0,u1],.int .u8 c'] W (IsOb (fun b=>(F b∧b<w.heap.size)∨W.heap.size≤b) W 2 (force c' g))):=Lib.hid fun W hW=>lineForce_any _ [u0,u1] g c' hc' W (fun b hb=>Or.inr hb) (hob.keep hW.size (fun b _ hl=>hW.block b hl) fun b hl hb=>Or.inl ⟨hb,hl⟩)
   clear hq hr hcell hob hcl hbel hg
   go_wp2_with (go_at_call 163;(with_reducible refine (HC.out _ HBEL.out).mono ?_);rintro e w3 ⟨cs,rfl,ho,hb⟩;obtain ⟨d1,p1,n1,q1,xs1,hcs1,-⟩:=ho.ln;cases hcs1;have C1:=HG1.out.bel hb;have C2:=HG2.out.bel hb;have C3:=HG3.out.bel hb;have HB3:=Lib.hid hb;have HC1:=Lib.hid C1;have HC2:=Lib.hid C2;have HC3:=Lib.hid C3;have HO:=Lib.hid ho;obtain ⟨x0,k0⟩:∃ u,w3.cell? ⟨w.heap.size+1+1,t*2,none⟩=some u:=⟨arr[t*2],(C3.rules.1 _).trans (Array.getElem?_eq_getElem (by omega))⟩;obtain ⟨x1,k1⟩:∃ u,w3.cell? ⟨w.heap.size+1+1,t*2+1,none⟩=some u:=⟨arr[t*2+1],(C3.rules.1 _).trans (Array.getElem?_eq_getElem (by omega))⟩;have t3:=C3.rules.2;have m3:=C3.lt;clear hb C1 C2 C3 ho)
   go_roundw
   case rel =>
    have hs1:=HBEL.out.size
    have hs3:=HB3.out.size
    refine ⟨t+1,(arr.setIfInBounds (t*2) (.int .u8 d1)).setIfInBounds (t*2+1) (.slice p1 n1 q1),by go_num,by omega,?_,?_,?_,?_,by simp [harr],?_⟩
    ·have HB:=HBEL.out.trans HB3.out
     exact EL
    ·have HB:=HC1.out
     exact KL
    ·have HB:=HC2.out
     exact KL
    ·exact (HC3.out.set _ _).set _ _
    ·have e1:(gs.take (t+1)).map (force c')=(gs.take t).map (force c') ++ [force c' g]:=by
      rw [List.take_add_one,HG.out]
      simp
     rw [e1]
     refine RowOb.push (t:=t) (cl:=[.int .u8 d1,.slice p1 n1 q1]) (HROW.out.keep (by simp;omega) (fun b hb hl=>?_) fun b _ hb=>hb) (by rw [List.length_map,List.length_take];have:=HN.out;omega) (fun o u ho hu=>?_) rfl (fun j u hu=>?_) (HO.out.keep (by simp) (fun b hb hl=>?_) fun b _ hb=>?_)
     ·rw [Below.heap_setCell _ _ _ _ (by simp;omega),Below.heap_setCell _ _ _ _ (by simp;omega)]
      exact HB3.out.block b hl
     ·show (_:Array Value)[o]?=some u
      rw [Array.getElem?_setIfInBounds_ne (by omega),Array.getElem?_setIfInBounds_ne (by omega)]
      exact hu
     ·have hlt2:=(List.getElem?_eq_some_iff.1 hu).1
      simp at hlt2
      show (_:Array Value)[t*2+j]?=some u
      match j,hlt2 with
      | 0,_ =>
       simp at hu
       subst hu
       rw [Array.getElem?_setIfInBounds_ne (by omega)]
       exact Array.getElem?_setIfInBounds_self_of_lt (by omega)
      | 1,_ =>
       simp at hu
       subst hu
       exact Array.getElem?_setIfInBounds_self_of_lt (by (try simp only [Array.size_setIfInBounds]);omega)
     ·rw [Below.heap_setCell _ _ _ _ (by simp;omega),Below.heap_setCell _ _ _ _ (by simp;omega)]
     ·rcases hb with hb|hb
      ·exact Or.inl hb
      ·exact Or.inr (by omega)
   case measure=>simp [intOf];omega
  ·obtain rfl:t=n:=by omega
   have hfin:=HROW.out
   rw [List.take_of_length_le (by have:=HN.out;omega)] at hfin
   have HFIN:Hid (ObSl (fun b=>F b∧b ≠ w.heap.size+1) wr 2 2 (.slice (some ⟨w.heap.size+1+1,0,none⟩) t t) (gs.map (force c'))):=Lib.hid ⟨_,t,by rw [List.length_map,HN.out],Nat.le_of_eq (by rw [List.length_map,HN.out]),by omega,fun _=>⟨w.heap.size+1+1,0,rfl,l3,⟨hF _ (by omega),by omega⟩,(hfin.keep (Nat.le_refl _) (fun _ _ _=>rfl) fun b _ hb=>by
    rcases hb with hb|hb
    ·exact ⟨hb.1,by omega⟩
    ·exact ⟨hF _ (by omega),by omega⟩).cells fun o u ho=>by
     rw [Nat.zero_add]
     exact (HG3.out.rules.1 o).trans ho⟩⟩
   clear hfin
   obtain ⟨s2,t2,m2⟩:=HG2.out.facts
   go_wp2
   refine post_ret (results_one rfl (resIs_agg (n:=2) (cs:=#[.slice (some ⟨w.heap.size+1+1,0,none⟩) t t,.int .u8 c']) (by rfl) Tryz.underlying91 (by kernel_rfl) (T:=91) ?_ rfl)) ⟨_,rfl,ObSl.ob ?_ rfl hc' (by rw [List.length_map,HN.out];exact hn31),?_⟩
   ·have HB:=HG2.out
    exact SL
   ·exact HFIN.out.keep (by simp) (fun b hb hl=>by rw [Below.heap_setCell _ _ _ _ (fun e=>hb.2 e),Below.heap_setCell _ _ _ _ (fun e=>hb.2 e)]) fun b _ hb=>hb.1
   ·have HB:=HBEL.out
    exact EL
set_option maxHeartbeats 4000000 in
set_option maxRecDepth 100000 in
theorem multiLineForce_any (F:Nat→Prop) (cs:List Value) (g:Gm) (c':Nat) (hc':c'≤3) (w:World) (hF:New F w) (h:Ob F w 5 cs g):Calls Tryz.prog 170 #[.agg cs.toArray,.int .u8 c'] w (IsOb F w 5 (force c' g)):=by
 obtain ⟨p,cap,c,gs,rfl,hc,rfl,hn31,hsl⟩:=h.sl (e:=2) (k:=2) rfl
 rw [force_parts (by decide) (by decide)]
 have HSL:=Lib.hid hsl
 clear h hsl
 show Calls Tryz.prog 170 #[.agg #[.slice p gs.length cap,.int .u8 c],.int .u8 c'] w _
 generalize hn:gs.length=n at *
 have HN:=Lib.hid hn
 clear hn
 obtain ⟨i0,hi,hz0,hz1,hz2⟩:=info_parts infoLn
 go_enter Tryz.func170,Tryz.ntmps170
 go_wp2_with (at_make;refine wpList_make_full _ rfl (.tmp 9) (.tmp 9) 89 rfl (w.heap.size+1+1) 111 i0 (.agg #[.int .u8 0,.slice none 0 0]) 2 Tryz.underlying89 hi hz0 hz1 .i64 .i64 _ _ n rfl rfl rfl rfl ?b2 ?b3 ?b4 ?_;(case b2=>(rw [hz2];omega));(case b3=>(unfold maxLen;omega));(case b4=>simp);intro w1 hown hgrow;obtain ⟨arr0,hB0,hs0⟩:=hown.blk;rw [show ((w.alloc (.cells #[.slice p n cap,.int .u8 c] 125)).alloc (.cells #[.slice none 0 0,.int .u8 0] 125)).heap.size=w.heap.size+1+1 by simp] at hB0;have HW1:=Bel.of_grown0 hgrow;have B1:=((Blk.new w #[.slice p n cap,.int .u8 c] 125).alloc (.cells #[.slice none 0 0,.int .u8 0] 125)).bel HW1;have B2:=(Blk.new' (w.alloc (.cells #[.slice p n cap,.int .u8 c] 125)) #[.slice none 0 0,.int .u8 0] 125 (b:=w.heap.size+1) (by simp)).bel HW1;have HB1:Hid (Bel w w1):=Lib.hid (((Bel.alloc1 w _).alloc _).trans HW1);have HP0:=Lib.hid hB0;have HS0:=Lib.hid hs0;have HP1:=Lib.hid B1;have HP2:=Lib.hid B2;obtain ⟨r1,z1,l1⟩:=B1.facts;clear hown hgrow hB0 hs0 HW1 B1 B2)
 go_loopw [14] (fun iv wr=>∃ (t:Nat) (arr:Array Value),iv=.int .i64 t∧t≤n∧Bel w wr∧Blk wr w.heap.size #[.slice p n cap,.int .u8 c] 125∧Blk wr (w.heap.size+1) #[.slice none 0 0,.int .u8 0] 125∧Blk wr (w.heap.size+1+1) arr 111∧arr.size=n*2∧RowOb (fun b=>(F b∧b<w.heap.size)∨w.heap.size+3≤b) wr (fun o=>arr[o]?) 2 2 ((gs.take t).map (force c'))) (fun iv _=>n - (intOf iv).toNat)
 case atStart=>exact ⟨0,arr0,rfl,Nat.zero_le _,HB1.out,HP1.out,HP2.out,HP0.out,HS0.out,fun i g hg=>by simp at hg⟩
 case round =>
  obtain ⟨t,arr,rfl,ht,hbel,hb1,hb2,hb3,harr,hrow⟩:=hrel
  have HBEL:=Lib.hid hbel
  have HG1:=Lib.hid hb1
  have HG2:=Lib.hid hb2
  have HG3:=Lib.hid hb3
  have HROW:=Lib.hid hrow
  obtain ⟨s1,t1,m1⟩:=hb1.facts
  have l3:=hb3.lt
  clear r1 z1 hrow hb1 hb2 hb3
  by_cases htn:t<n
  ·obtain ⟨g,hg⟩:∃ g,gs[t]?=some g:=⟨_,List.getElem?_eq_getElem (by have:=HN.out;omega)⟩
   obtain ⟨_,_,hve,_,_,hq⟩:=HSL.out
   cases hve
   obtain ⟨b,off,rfl,hlt,-,hr⟩:=hq (by intro e;rw [e] at hg;simp at hg)
   obtain ⟨cl,hcl,hcell,hob⟩:=hr t g hg
   obtain ⟨u0,u1,rfl⟩:=hob.two (by decide)
   have D0:=cell_kept hbel (hcell 0 u0 rfl)
   have D1:=cell_kept hbel (hcell 1 u1 rfl)
   simp only [Nat.add_zero] at D0
   have E1:=D1
   rw [← Nat.add_assoc] at E1
   have hbl:b<wr.heap.size:=Nat.lt_of_lt_of_le hlt hbel.size
   have HG:=Lib.hid hg
   have HC:Hid (∀ W,Bel w W→Calls Tryz.prog 163 #[.agg #[u0,u1],.int .u8 c'] W (IsOb (fun b=>(F b∧b<w.heap.size)∨W.heap.size≤b) W 2 (force c' g))):=Lib.hid fun W hW=>lineForce_any _ [u0,u1] g c' hc' W (fun b hb=>Or.inr hb) (hob.keep hW.size (fun b _ hl=>hW.block b hl) fun b hl hb=>Or.inl ⟨hb,hl⟩)
   clear hq hr hcell hob hcl hbel hg
   go_wp2_with (go_at_call 163;(with_reducible refine (HC.out _ HBEL.out).mono ?_);rintro e w3 ⟨cs,rfl,ho,hb⟩;obtain ⟨d1,p1,n1,q1,xs1,hcs1,-⟩:=ho.ln;cases hcs1;have C1:=HG1.out.bel hb;have C2:=HG2.out.bel hb;have C3:=HG3.out.bel hb;have HB3:=Lib.hid hb;have HC1:=Lib.hid C1;have HC2:=Lib.hid C2;have HC3:=Lib.hid C3;have HO:=Lib.hid ho;obtain ⟨x0,k0⟩:∃ u,w3.cell? ⟨w.heap.size+1+1,t*2,none⟩=some u:=⟨arr[t*2],(C3.rules.1 _).trans (Array.getElem?_eq_getElem (by omega))⟩;obtain ⟨x1,k1⟩:∃ u,w3.cell? ⟨w.heap.size+1+1,t*2+1,none⟩=some u:=⟨arr[t*2+1],(C3.rules.1 _).trans (Array.getElem?_eq_getElem (by omega))⟩;have t3:=C3.rules.2;have m3:=C3.lt;clear hb C1 C2 C3 ho)
   go_roundw
   case rel =>
    have hs1:=HBEL.out.size
    have hs3:=HB3.out.size
    refine ⟨t+1,(arr.setIfInBounds (t*2) (.int .u8 d1)).setIfInBounds (t*2+1) (.slice p1 n1 q1),by go_num,by omega,?_,?_,?_,?_,by simp [harr],?_⟩
    ·have HB:=HBEL.out.trans HB3.out
     exact EL
    ·have HB:=HC1.out
     exact KL
    ·have HB:=HC2.out
     exact KL
    ·exact (HC3.out.set _ _).set _ _
    ·have e1:(gs.take (t+1)).map (force c')=(gs.take t).map (force c') ++ [force c' g]:=by
      rw [List.take_add_one,HG.out]
      simp
     rw [e1]
     refine RowOb.push (t:=t) (cl:=[.int .u8 d1,.slice p1 n1 q1]) (HROW.out.keep (by simp;omega) (fun b hb hl=>?_) fun b _ hb=>hb) (by rw [List.length_map,List.length_take];have:=HN.out;omega) (fun o u ho hu=>?_) rfl (fun j u hu=>?_) (HO.out.keep (by simp) (fun b hb hl=>?_) fun b _ hb=>?_)
     ·rw [Below.heap_setCell _ _ _ _ (by simp;omega),Below.heap_setCell _ _ _ _ (by simp;omega)]
      exact HB3.out.block b hl
     ·show (_:Array Value)[o]?=some u
      rw [Array.getElem?_setIfInBounds_ne (by omega),Array.getElem?_setIfInBounds_ne (by omega)]
      exact hu
     ·have hlt2:=(List.getElem?_eq_some_iff.1 hu).1
      simp at hlt2
      show (_:Array Value)[t*2+j]?=some u
      match j,hlt2 with
      | 0,_ =>
       simp at hu
       subst hu
       rw [Array.getElem?_setIfInBounds_ne (by omega)]
       exact Array.getElem?_setIfInBounds_self_of_lt (by omega)
      | 1,_ =>
       simp at hu
       subst hu
       exact Array.getElem?_setIfInBounds_self_of_lt (by (try simp only [Array.size_setIfInBounds]);omega)
     ·rw [Below.heap_setCell _ _ _ _ (by simp;omega),Below.heap_setCell _ _ _ _ (by simp;omega)]
     ·rcases hb with hb|hb
      ·exact Or.inl hb
      ·exact Or.inr (by omega)
   case measure=>simp [intOf];omega
  ·obtain rfl:t=n:=by omega
   have hfin:=HROW.out
   rw [List.take_of_length_le (by have:=HN.out;omega)] at hfin
   have HFIN:Hid (ObSl (fun b=>F b∧b ≠ w.heap.size+1) wr 2 2 (.slice (some ⟨w.heap.size+1+1,0,none⟩) t t) (gs.map (force c'))):=Lib.hid ⟨_,t,by rw [List.length_map,HN.out],Nat.le_of_eq (by rw [List.length_map,HN.out]),by omega,fun _=>⟨w.heap.size+1+1,0,rfl,l3,⟨hF _ (by omega),by omega⟩,(hfin.keep (Nat.le_refl _) (fun _ _ _=>rfl) fun b _ hb=>by
    rcases hb with hb|hb
    ·exact ⟨hb.1,by omega⟩
    ·exact ⟨hF _ (by omega),by omega⟩).cells fun o u ho=>by
     rw [Nat.zero_add]
     exact (HG3.out.rules.1 o).trans ho⟩⟩
   clear hfin
   obtain ⟨s2,t2,m2⟩:=HG2.out.facts
   go_wp2
   refine post_ret (results_one rfl (resIs_agg (n:=2) (cs:=#[.slice (some ⟨w.heap.size+1+1,0,none⟩) t t,.int .u8 c']) (by rfl) Tryz.underlying125 (by kernel_rfl) (T:=125) ?_ rfl)) ⟨_,rfl,ObSl.ob ?_ rfl hc' (by rw [List.length_map,HN.out];exact hn31),?_⟩
   ·have HB:=HG2.out
    exact SL
   ·exact HFIN.out.keep (by simp) (fun b hb hl=>by rw [Below.heap_setCell _ _ _ _ (fun e=>hb.2 e),Below.heap_setCell _ _ _ _ (fun e=>hb.2 e)]) fun b _ hb=>hb.1
   ·have HB:=HBEL.out
    exact EL
set_option maxHeartbeats 4000000 in
set_option maxRecDepth 100000 in
theorem multiPolygonForce_any (F:Nat→Prop) (cs:List Value) (g:Gm) (c':Nat) (hc':c'≤3) (w:World) (hF:New F w) (h:Ob F w 6 cs g):Calls Tryz.prog 171 #[.agg cs.toArray,.int .u8 c'] w (IsOb F w 6 (force c' g)):=by
 obtain ⟨p,cap,c,gs,rfl,hc,rfl,hn31,hsl⟩:=h.sl (e:=3) (k:=2) rfl
 rw [force_parts (by decide) (by decide)]
 have HSL:=Lib.hid hsl
 clear h hsl
 show Calls Tryz.prog 171 #[.agg #[.slice p gs.length cap,.int .u8 c],.int .u8 c'] w _
 generalize hn:gs.length=n at *
 have HN:=Lib.hid hn
 clear hn
 obtain ⟨i0,hi,hz0,hz1,hz2⟩:=info_parts infoPg
 go_enter Tryz.func171,Tryz.ntmps171
 go_wp2_with (at_make;refine wpList_make_full _ rfl (.tmp 9) (.tmp 9) 127 rfl (w.heap.size+1+1) 91 i0 (.agg #[.slice none 0 0,.int .u8 0]) 2 Tryz.underlying127 hi hz0 hz1 .i64 .i64 _ _ n rfl rfl rfl rfl ?b2 ?b3 ?b4 ?_;(case b2=>(rw [hz2];omega));(case b3=>(unfold maxLen;omega));(case b4=>simp);intro w1 hown hgrow;obtain ⟨arr0,hB0,hs0⟩:=hown.blk;rw [show ((w.alloc (.cells #[.slice p n cap,.int .u8 c] 129)).alloc (.cells #[.slice none 0 0,.int .u8 0] 129)).heap.size=w.heap.size+1+1 by simp] at hB0;have HW1:=Bel.of_grown0 hgrow;have B1:=((Blk.new w #[.slice p n cap,.int .u8 c] 129).alloc (.cells #[.slice none 0 0,.int .u8 0] 129)).bel HW1;have B2:=(Blk.new' (w.alloc (.cells #[.slice p n cap,.int .u8 c] 129)) #[.slice none 0 0,.int .u8 0] 129 (b:=w.heap.size+1) (by simp)).bel HW1;have HB1:Hid (Bel w w1):=Lib.hid (((Bel.alloc1 w _).alloc _).trans HW1);have HP0:=Lib.hid hB0;have HS0:=Lib.hid hs0;have HP1:=Lib.hid B1;have HP2:=Lib.hid B2;obtain ⟨r1,z1,l1⟩:=B1.facts;clear hown hgrow hB0 hs0 HW1 B1 B2)
 go_loopw [14] (fun iv wr=>∃ (t:Nat) (arr:Array Value),iv=.int .i64 t∧t≤n∧Bel w wr∧Blk wr w.heap.size #[.slice p n cap,.int .u8 c] 129∧Blk wr (w.heap.size+1) #[.slice none 0 0,.int .u8 0] 129∧Blk wr (w.heap.size+1+1) arr 91∧arr.size=n*2∧RowOb (fun b=>(F b∧b<w.heap.size)∨w.heap.size+3≤b) wr (fun o=>arr[o]?) 3 2 ((gs.take t).map (force c'))) (fun iv _=>n - (intOf iv).toNat)
 case atStart=>exact ⟨0,arr0,rfl,Nat.zero_le _,HB1.out,HP1.out,HP2.out,HP0.out,HS0.out,fun i g hg=>by simp at hg⟩
 case round =>
  obtain ⟨t,arr,rfl,ht,hbel,hb1,hb2,hb3,harr,hrow⟩:=hrel
  have HBEL:=Lib.hid hbel
  have HG1:=Lib.hid hb1
  have HG2:=Lib.hid hb2
  have HG3:=Lib.hid hb3
  have HROW:=Lib.hid hrow
  obtain ⟨s1,t1,m1⟩:=hb1.facts
  have l3:=hb3.lt
  clear r1 z1 hrow hb1 hb2 hb3
  by_cases htn:t<n
  ·obtain ⟨g,hg⟩:∃ g,gs[t]?=some g:=⟨_,List.getElem?_eq_getElem (by have:=HN.out;omega)⟩
   obtain ⟨_,_,hve,_,_,hq⟩:=HSL.out
   cases hve
   obtain ⟨b,off,rfl,hlt,-,hr⟩:=hq (by intro e;rw [e] at hg;simp at hg)
   obtain ⟨cl,hcl,hcell,hob⟩:=hr t g hg
   obtain ⟨u0,u1,rfl⟩:=hob.two (by decide)
   have D0:=cell_kept hbel (hcell 0 u0 rfl)
   have D1:=cell_kept hbel (hcell 1 u1 rfl)
   simp only [Nat.add_zero] at D0
   have E1:=D1
   rw [← Nat.add_assoc] at E1
   have hbl:b<wr.heap.size:=Nat.lt_of_lt_of_le hlt hbel.size
   have HG:=Lib.hid hg
   have HC:Hid (∀ W,Bel w W→Calls Tryz.prog 168 #[.agg #[u0,u1],.int .u8 c'] W (IsOb (fun b=>(F b∧b<w.heap.size)∨W.heap.size≤b) W 3 (force c' g))):=Lib.hid fun W hW=>polygonForce_any _ [u0,u1] g c' hc' W (fun b hb=>Or.inr hb) (hob.keep hW.size (fun b _ hl=>hW.block b hl) fun b hl hb=>Or.inl ⟨hb,hl⟩)
   clear hq hr hcell hob hcl hbel hg
   go_wp2_with (go_at_call 168;(with_reducible refine (HC.out _ HBEL.out).mono ?_);rintro e w3 ⟨cs,rfl,ho,hb⟩;obtain ⟨p1,q1,d1,gs1,hcs1,-⟩:=ho.sl (e:=2) (k:=2) rfl;cases hcs1;generalize gs1.length=n1 at *;have C1:=HG1.out.bel hb;have C2:=HG2.out.bel hb;have C3:=HG3.out.bel hb;have HB3:=Lib.hid hb;have HC1:=Lib.hid C1;have HC2:=Lib.hid C2;have HC3:=Lib.hid C3;have HO:=Lib.hid ho;obtain ⟨x0,k0⟩:∃ u,w3.cell? ⟨w.heap.size+1+1,t*2,none⟩=some u:=⟨arr[t*2],(C3.rules.1 _).trans (Array.getElem?_eq_getElem (by omega))⟩;obtain ⟨x1,k1⟩:∃ u,w3.cell? ⟨w.heap.size+1+1,t*2+1,none⟩=some u:=⟨arr[t*2+1],(C3.rules.1 _).trans (Array.getElem?_eq_getElem (by omega))⟩;have t3:=C3.rules.2;have m3:=C3.lt;clear hb C1 C2 C3 ho)
   go_roundw
   case rel =>
    have hs1:=HBEL.out.size
    have hs3:=HB3.out.size
    refine ⟨t+1,(arr.setIfInBounds (t*2) (.slice p1 n1 q1)).setIfInBounds (t*2+1) (.int .u8 d1),by go_num,by omega,?_,?_,?_,?_,by simp [harr],?_⟩
    ·have HB:=HBEL.out.trans HB3.out
     exact EL
    ·have HB:=HC1.out
     exact KL
    ·have HB:=HC2.out
     exact KL
    ·exact (HC3.out.set _ _).set _ _
    ·have e1:(gs.take (t+1)).map (force c')=(gs.take t).map (force c') ++ [force c' g]:=by
      rw [List.take_add_one,HG.out]
      simp
     rw [e1]
     refine RowOb.push (t:=t) (cl:=[.slice p1 n1 q1,.int .u8 d1]) (HROW.out.keep (by simp;omega) (fun b hb hl=>?_) fun b _ hb=>hb) (by rw [List.length_map,List.length_take];have:=HN.out;omega) (fun o u ho hu=>?_) rfl (fun j u hu=>?_) (HO.out.keep (by simp) (fun b hb hl=>?_) fun b _ hb=>?_)
     ·rw [Below.heap_setCell _ _ _ _ (by simp;omega),Below.heap_setCell _ _ _ _ (by simp;omega)]
      exact HB3.out.block b hl
     ·show (_:Array Value)[o]?=some u
      rw [Array.getElem?_setIfInBounds_ne (by omega),Array.getElem?_setIfInBounds_ne (by omega)]
      exact hu
     ·have hlt2:=(List.getElem?_eq_some_iff.1 hu).1
      simp at hlt2
      show (_:Array Value)[t*2+j]?=some u
      match j,hlt2 with
      | 0,_ =>
       simp at hu
       subst hu
       rw [Array.getElem?_setIfInBounds_ne (by omega)]
       exact Array.getElem?_setIfInBounds_self_of_lt (by omega)
      | 1,_ =>
       simp at hu
       subst hu
       exact Array.getElem?_setIfInBounds_self_of_lt (by (try simp only [Array.size_setIfInBounds]);omega)
     ·rw [Below.heap_setCell _ _ _ _ (by simp;omega),Below.heap_setCell _ _ _ _ (by simp;omega)]
     ·rcases hb with hb|hb
      ·exact Or.inl hb
      ·exact Or.inr (by omega)
   case measure=>simp [intOf];omega
  ·obtain rfl:t=n:=by omega
   have hfin:=HROW.out
   rw [List.take_of_length_le (by have:=HN.out;omega)] at hfin
   have HFIN:Hid (ObSl (fun b=>F b∧b ≠ w.heap.size+1) wr 3 2 (.slice (some ⟨w.heap.size+1+1,0,none⟩) t t) (gs.map (force c'))):=Lib.hid ⟨_,t,by rw [List.length_map,HN.out],Nat.le_of_eq (by rw [List.length_map,HN.out]),by omega,fun _=>⟨w.heap.size+1+1,0,rfl,l3,⟨hF _ (by omega),by omega⟩,(hfin.keep (Nat.le_refl _) (fun _ _ _=>rfl) fun b _ hb=>by
    rcases hb with hb|hb
    ·exact ⟨hb.1,by omega⟩
    ·exact ⟨hF _ (by omega),by omega⟩).cells fun o u ho=>by
     rw [Nat.zero_add]
     exact (HG3.out.rules.1 o).trans ho⟩⟩
   clear hfin
   obtain ⟨s2,t2,m2⟩:=HG2.out.facts
   go_wp2
   refine post_ret (results_one rfl (resIs_agg (n:=2) (cs:=#[.slice (some ⟨w.heap.size+1+1,0,none⟩) t t,.int .u8 c']) (by rfl) Tryz.underlying129 (by kernel_rfl) (T:=129) ?_ rfl)) ⟨_,rfl,ObSl.ob ?_ rfl hc' (by rw [List.length_map,HN.out];exact hn31),?_⟩
   ·have HB:=HG2.out
    exact SL
   ·exact HFIN.out.keep (by simp) (fun b hb hl=>by rw [Below.heap_setCell _ _ _ _ (fun e=>hb.2 e),Below.heap_setCell _ _ _ _ (fun e=>hb.2 e)]) fun b _ hb=>hb.1
   ·have HB:=HBEL.out
    exact EL
end Go.Proofs.YtpipehenfcbjbaaGreatDoor
set_option linter.unusedVariables false
namespace Go.Proofs.YtpipehenfcbjbaaGreatDoor
open Go.ChangeShapes Go.WideShapes Go.ChangeAt Go.RowKit
theorem u8_land (a b:Nat) (ha:a≤3) (hb:b≤3):bits .and .u8 (a:Int) (b:Int)=((a &&& b:Nat):Int):=by
 have h1:a=0∨a=1∨a=2∨a=3:=by omega
 have h2:b=0∨b=1∨b=2∨b=3:=by omega
 rcases h1 with rfl|rfl|rfl|rfl<;>rcases h2 with rfl|rfl|rfl|rfl<;>decide
theorem land_le (a b:Nat) (ha:a≤3):a &&& b≤3:=Nat.le_trans Nat.and_le_left ha
theorem common_le:∀ (gs:List Gm) (a:Nat),a≤3→gs.foldl (fun a g=>a &&& g.dim.toNat) a≤3
 | [],a,h=>h
 | g :: r,a,h=>common_le r _ (land_le a _ h)
theorem common_take {gs:List Gm} {t:Nat} {g:Gm} (h:gs[t]?=some g):common (gs.take (t+1))=common (gs.take t) &&& g.dim.toNat:=by
 unfold common
 rw [List.take_add_one,h]
 simp
theorem Ob.one {F:Nat→Prop} {w:World} {s:Nat} {cs:List Value} {g:Gm} (h:Ob F w s cs g):∀ u ∈ cs,u.oneCell'=true:=by
 cases h with
 | point x y z m c full hc=>intro u hu;simp at hu;rcases hu with rfl|rfl|rfl|rfl|rfl|rfl<;>rfl
 | line c p n cap xs hc h hw hb=>intro u hu;simp at hu;rcases hu with rfl|rfl<;>rfl
 | parts s e k c p cap gs cs he hc hl hcap hb h0 hkk h1=>intro u hu;simp at hu;rcases hu with rfl|rfl<;>rfl
 | geo s b cs g hs' hb hF hc h=>intro u hu;simp at hu;rcases hu with rfl|rfl<;>rfl
/-- The cells of a row, one behind another. -/
theorem RowOb.flat {F:Nat→Prop} {w:World} {arr:Nat→Option Value} {e k:Nat}:∀ {gs:List Gm},RowOb F w arr e k gs→∃ news:List Value,news.length=gs.length*k∧(∀ (j:Nat) (u:Value),news[j]?=some u→arr j=some u)∧RowOb F w (fun o=>news[o]?) e k gs∧∀ u ∈ news,u.oneCell'=true:=by
 intro gs h
 have key:∀ t,t≤gs.length→∃ news:List Value,news.length=t*k∧(∀ (j:Nat) (u:Value),news[j]?=some u→arr j=some u)∧RowOb F w (fun o=>news[o]?) e k (gs.take t)∧∀ u ∈ news,u.oneCell'=true:=by
  intro t
  induction t with
  | zero=>exact fun _=>⟨[],by simp,fun j u hu=>by simp at hu,fun i g hg=>by simp at hg,fun u hu=>by simp at hu⟩
  | succ t ih =>
   intro ht
   obtain ⟨news,h1,h2,h3,h4⟩:=ih (by omega)
   obtain ⟨g,hg⟩:∃ g,gs[t]?=some g:=⟨_,List.getElem?_eq_getElem (by omega)⟩
   obtain ⟨cl,a1,a2,a3⟩:=h t g hg
   refine ⟨news ++ cl,by rw [List.length_append,h1,a1,Nat.add_mul,Nat.one_mul],fun j u hu=>?_,?_,fun u hu=>?_⟩
   ·rcases Nat.lt_or_ge j news.length with q|q
    ·rw [List.getElem?_append_left q] at hu
     exact h2 j u hu
    ·rw [List.getElem?_append_right q] at hu
     have:=a2 _ u hu
     rw [h1] at this q
     rw [show t*k+(j - t*k)=j by omega] at this
     exact this
   ·have e1:gs.take (t+1)=gs.take t ++ [g]:=by
     rw [List.take_add_one,hg]
     rfl
    rw [e1]
    refine RowOb.push (t:=t) (cl:=cl) h3 (by rw [List.length_take];omega) (fun o u ho hu=>?_) a1 (fun j u hu=>?_) a3
    ·show (news ++ cl)[o]?=some u
     rw [List.getElem?_append_left (by omega)]
     exact hu
    ·show (news ++ cl)[t*k+j]?=some u
     rw [List.getElem?_append_right (by omega),h1,Nat.add_sub_cancel_left]
     exact hu
   ·rcases List.mem_append.1 hu with q|q
    ·exact h4 u q
    ·exact a3.one u q
 obtain ⟨news,h1,h2,h3,h4⟩:=key gs.length (Nat.le_refl _)
 rw [List.take_length] at h3
 exact ⟨news,h1,h2,h3,h4⟩
/-- One object of a row, put in another's place. -/
theorem RowOb.put {F:Nat→Prop} {w:World} {arr arr':Nat→Option Value} {e k t:Nat} {hs hs':List Gm} {g:Gm} {cl:List Value} (h:RowOb F w arr e k hs) (hh:∀ i g',hs'[i]?=some g'→(i=t∧g'=g)∨(i ≠ t∧hs[i]?=some g')) (h1:∀ o u,(o<t*k∨t*k+k≤o)→arr o=some u→arr' o=some u) (hk:cl.length=k) (h2:∀ (j:Nat) (u:Value),cl[j]?=some u→arr' (t*k+j)=some u) (ho:Ob F w e cl g):RowOb F w arr' e k hs':=fun i g' hg=>by
 rcases hh i g' hg with ⟨rfl,rfl⟩|⟨hne,hg'⟩
 ·exact ⟨cl,hk,h2,ho⟩
 ·obtain ⟨cl',a1,a2,a3⟩:=h i g' hg'
  refine ⟨cl',a1,fun j u hu=>h1 _ _ ?_ (a2 j u hu),a3⟩
  have hj:=(List.getElem?_eq_some_iff.1 hu).1
  rcases Nat.lt_or_gt_of_ne hne with q|q
  ·left
   have:(i+1)*k≤t*k:=Nat.mul_le_mul_right _ (by omega)
   rw [Nat.add_mul] at this
   omega
  ·right
   have:(t+1)*k≤i*k:=Nat.mul_le_mul_right _ (by omega)
   rw [Nat.add_mul] at this
   omega
def mixed (f:Gm→Gm) (gs:List Gm) (t:Nat):List Gm:=(gs.take t).map f ++ gs.drop t
theorem mixed_at {f:Gm→Gm} {gs:List Gm} {t:Nat} {g:Gm} (h:gs[t]?=some g):(mixed f gs t)[t]?=some g:=by
 have hlt:=(List.getElem?_eq_some_iff.1 h).1
 unfold mixed
 rw [List.getElem?_append_right (by simp;omega),List.length_map,List.length_take,Nat.min_eq_left (by omega),Nat.sub_self,List.getElem?_drop]
 simpa using h
theorem mixed_put {f:Gm→Gm} {gs:List Gm} {t:Nat} {g:Gm} (h:gs[t]?=some g):∀ i g',(mixed f gs (t+1))[i]?=some g'→(i=t∧g'=f g)∨(i ≠ t∧(mixed f gs t)[i]?=some g'):=by
 have hlt:=(List.getElem?_eq_some_iff.1 h).1
 intro i g' hg
 unfold mixed at *
 rcases Nat.lt_or_ge i (t+1) with q|q
 ·rw [List.getElem?_append_left (by simp;omega)] at hg
  by_cases e:i=t
  ·subst e
   left
   rw [List.getElem?_map,List.getElem?_take,if_pos (by omega),h] at hg
   exact ⟨rfl,(Option.some.inj hg).symm⟩
  ·right
   refine ⟨e,?_⟩
   rw [List.getElem?_append_left (by simp;omega)]
   rw [List.getElem?_map,List.getElem?_take,if_pos (by omega)] at hg
   rw [List.getElem?_map,List.getElem?_take,if_pos (by omega)]
   exact hg
 ·right
  refine ⟨by omega,?_⟩
  rw [List.getElem?_append_right (by simp;omega)] at hg
  rw [List.getElem?_append_right (by simp;omega)]
  rw [List.length_map,List.length_take,Nat.min_eq_left (by omega),List.getElem?_drop] at hg ⊢
  rw [← hg]
  congr 1
  omega
theorem polygonType_any (c:Int) (p:Option Addr) (n cap:Nat) (w:World):Calls Tryz.prog 113 #[.agg #[.slice p n cap,.int .u8 c]] w fun e w'=>e=.returned (.int .u8 c)∧Bel w w':=by
 go_enter Tryz.func113,Tryz.ntmps113
 go_wp2
 go_ret
 exact ⟨rfl,by exact EL⟩
theorem lineOb_type {F:Nat→Prop} {cs:List Value} {g:Gm} {w0:World} (h:Ob F w0 2 cs g) (w:World):Calls Tryz.prog 112 #[.agg cs.toArray] w fun e w'=>e=.returned (.int .u8 g.dim.toNat)∧Bel w w':=by
 obtain ⟨c,p,n,cap,xs,rfl,hc,rfl,_⟩:=h.ln
 exact lineType_any c p n cap w
theorem polygonOb_type {F:Nat→Prop} {cs:List Value} {g:Gm} {w0:World} (h:Ob F w0 3 cs g) (w:World):Calls Tryz.prog 113 #[.agg cs.toArray] w fun e w'=>e=.returned (.int .u8 g.dim.toNat)∧Bel w w':=by
 obtain ⟨p,cap,c,gs,rfl,hc,rfl,_⟩:=h.sl (e:=2) (k:=2) rfl
 exact polygonType_any c p _ cap w
set_option maxHeartbeats 4000000 in
set_option maxRecDepth 100000 in
theorem newPolygon_any (F:Nat→Prop) (p:Option Addr) (n cap:Nat) (gs:List Gm) (w:World) (hF:New F w) (hsl:ObSl F w 2 2 (.slice p n cap) gs) (hpos:0<n) (hn31:n≤1048576):Calls Tryz.prog 106 #[.slice p n cap] w (IsOb F w 3 (.mk 3 (common gs) [] (gs.map (force (common gs))))):=by
 have HSL:=Lib.hid hsl
 obtain ⟨_,_,hve,hl1,hl2,hq⟩:=hsl
 cases hve
 have hgn:gs ≠ []:=by intro e;rw [e] at hpos;simp at hpos
 obtain ⟨b,off,rfl,hlt,hFb,hr⟩:=hq hgn
 have HR:=Lib.hid hr
 have HFB:=Lib.hid hFb
 clear hq hr hFb hgn
 generalize hn:gs.length=n at *
 have HN:=Lib.hid hn
 clear hn
 have hn0:((n:Int) == 0)=false:=by simp;omega
 obtain ⟨i0,hi,hz0,hz1,hz2⟩:=info_parts infoLn
 go_enter Tryz.func106,Tryz.ntmps106
 go_wp2
 go_loopw [3,12] (fun cv iv wr=>∃ (t:Nat),cv=.int .u8 (common (gs.take t):Nat)∧iv=.int .i64 t∧t≤n∧Bel w wr∧Blk wr w.heap.size #[.slice none 0 0,.int .u8 0] 91) (fun _ iv _=>n - (intOf iv).toNat)
 case atStart=>exact ⟨0,rfl,rfl,Nat.zero_le _,by exact EL,by exact KL⟩
 case round =>
  obtain ⟨t,rfl,rfl,ht,hbel,hb1⟩:=hrel
  have HBEL:=Lib.hid hbel
  have HG1:=Lib.hid hb1
  clear hb1
  by_cases htn:t<n
  ·obtain ⟨g,hg⟩:∃ g,gs[t]?=some g:=⟨_,List.getElem?_eq_getElem (by have:=HN.out;omega)⟩
   obtain ⟨cl,hcl,hcell,hob⟩:=HR.out t g hg
   have HC:=Lib.hid (lineOb_type hob)
   obtain ⟨cg,hcg,hdim⟩:=hob.dim
   obtain ⟨d0,p0,n0,q0,xs0,hcs0,-⟩:=hob.ln;cases hcs0
   have D0:=cell_kept hbel (hcell 0 (.int .u8 d0) rfl)
   have D1:=cell_kept hbel (hcell 1 (.slice p0 n0 q0) rfl)
   simp only [Nat.add_zero] at D0
   have E1:=D1
   rw [← Nat.add_assoc] at E1
   have hbl:b<wr.heap.size:=Nat.lt_of_lt_of_le hlt hbel.size
   have hct:=common_take hg
   have hdn:g.dim.toNat=cg:=by rw [hdim];simp
   rw [hdn] at hct HC
   have hland:=u8_land (common (gs.take t)) cg (common_le _ 3 (Nat.le_refl _)) hcg
   rw [← hct] at hland
   clear hcl hcell hob hbel hg hdim hct hdn
   generalize common (gs.take t)=ca at *
   generalize hcb:common (gs.take (t+1))=cb at *
   have HCB:=Lib.hid hcb
   clear hcb
   go_wp2_with (go_at_call 112;(with_reducible refine (HC.out _).mono ?_);rintro e w3 ⟨rfl,hb⟩;have C1:=HG1.out.bel ((Bel.alloc1 _ _).trans hb);have HC1:=Lib.hid C1;have HB3:Hid (Bel wr w3):=Lib.hid ((Bel.alloc1 _ _).trans hb);clear hb C1)
   go_roundw
   case rel=>exact ⟨t+1,by rw [HCB.out],by go_num,by omega,HBEL.out.trans HB3.out,HC1.out⟩
   case measure=>simp [intOf];omega
  ·obtain rfl:t=n:=by omega
   have hca:common (gs.take t)=common gs:=by rw [List.take_of_length_le (by have:=HN.out;omega)]
   rw [hca]
   have hcl3:=common_le gs 3 (Nat.le_refl _)
   have hcm:common gs≤3:=hcl3
   clear hca hcl3
   generalize common gs=c' at *
   obtain ⟨w1,hw1⟩:∃ w1,w1=wr:=⟨_,rfl⟩
   subst hw1
   obtain ⟨news,hnl,hnc,hnr,hn1⟩:=((HR.out.keep (G:=F) hbel.size (fun b _ hl=>hbel.block b hl) fun _ _ h=>h).cells (arr':=fun o=>w1.cell? ⟨b,off+o,none⟩) fun o u ho=>cell_kept hbel ho).flat
   have HNL:Hid (news.length=t*2):=Lib.hid (by rw [hnl,HN.out])
   have HNC:Hid (∀ (j:Nat) (u:Value),news[j]?=some u→w1.cell? ((⟨b,off,none⟩:Addr).add j)=some u):=Lib.hid fun j u hu=>by rw [add_off];exact hnc j u hu
   have HNR:=Lib.hid hnr
   have HN1:=Lib.hid hn1
   have hbl:b<w1.heap.size:=Nat.lt_of_lt_of_le hlt hbel.size
   clear hnl hnc hnr hn1
   have HSZ:Hid (w.heap.size+1≤w1.heap.size):=Lib.hid (HG1.out.lt)
   go_wp2_with (at_builtin;refine wpList_append_row _ rfl (.const (.slice none 0 0)) (.tmp 21) 89 rfl w1.heap.size 111 i0 _ 2 32 Tryz.underlying89 hi hz0 hz1 hz2 rfl (by decide) (.slice none 0 0) 0 [] rfl (World.ownsRow_nil _ _ _ _) ⟨b,off,none⟩ t cap news rfl HNL.out HNC.out HN1.out hpos (by unfold maxLen;omega) (by omega) (Nat.le_refl _) ?_;intro v' w2 ho2 hg2 hb2;have HO2:=Lib.hid ho2;have HB2:Hid (Bel w1 w2):=Lib.hid (Bel.of_grown0 hg2);rcases ho2.2 with ⟨rfl,h0⟩|⟨g0,c0,arr0,rfl,hb0,hg0,hc0,hc1,hs0,htk⟩;(case inl=>exact absurd h0 (by omega));have HCE:=Lib.hid (ho2.cells rfl);simp only [Nat.zero_add] at hc0 hc1;clear ho2 hg2 hb2 htk)
   simp only [Nat.zero_add,List.nil_append] at *
   have HG0:Hid (Blk w2 g0 arr0 111):=Lib.hid hg0
   have HS0:=Lib.hid hs0
   have HGE:=Lib.hid hb0
   have hrow0:RowOb (fun b=>(F b∧b<w.heap.size)∨g0<b) w2 (fun o=>arr0[o]?) 2 2 (mixed (force c') gs 0):=by
    have e0:mixed (force c') gs 0=gs:=by simp [mixed]
    rw [e0]
    have h2:=(HR.out.keep (w':=w2) (G:=fun b=>(F b∧b<w.heap.size)∨g0<b) (HBEL.out.trans HB2.out).size (fun b _ hl=>(HBEL.out.trans HB2.out).block b hl) fun b hl hb=>Or.inl ⟨hb,hl⟩)
    intro i g hg
    obtain ⟨cl,a1,a2,a3⟩:=HNR.out i g hg
    obtain ⟨cl',b1,b2,b3⟩:=h2 i g hg
    have ecl:cl=cl':=by
     apply List.ext_getElem?
     intro j
     rcases Nat.lt_or_ge j 2 with q|q
     ·obtain ⟨u,hu⟩:∃ u,cl[j]?=some u:=⟨_,List.getElem?_eq_getElem (by omega)⟩
      obtain ⟨u',hu'⟩:∃ u,cl'[j]?=some u:=⟨_,List.getElem?_eq_getElem (by omega)⟩
      have q1:=HNC.out _ _ (a2 j u hu)
      rw [add_off] at q1
      have q2:=cell_kept HBEL.out (b2 j u' hu')
      rw [hu,hu']
      exact q1.symm.trans q2
     ·rw [List.getElem?_eq_none (by omega),List.getElem?_eq_none (by omega)]
    refine ⟨cl,a1,fun j u hu=>?_,ecl▸b3⟩
    have q1:=HCE.out (i*2+j) u (a2 j u hu)
    rw [add_none] at q1
    exact (HG0.out.rules.1 _).symm.trans q1
   have HROW0:=Lib.hid hrow0
   have hb20:=(HG1.out.bel HB2.out)
   have HG20:=Lib.hid hb20
   have HB20:=Lib.hid (HBEL.out.trans HB2.out)
   clear hrow0 hb20 HNC HNL HN1 HNR hg0 hs0 hb0 HCE
   go_loopw [25] (fun iv wr=>∃ (j:Nat) (arr:Array Value),iv=.int .i64 j∧j≤t∧Bel w wr∧Blk wr w.heap.size #[.slice none 0 0,.int .u8 0] 91∧Blk wr g0 arr 111∧arr.size=c0*2∧RowOb (fun b=>(F b∧b<w.heap.size)∨g0<b) wr (fun o=>arr[o]?) 2 2 (mixed (force c') gs j)) (fun iv _=>t - (intOf iv).toNat)
   case atStart=>exact ⟨0,arr0,rfl,Nat.zero_le _,HB20.out,HG20.out,HG0.out,HS0.out,HROW0.out⟩
   case round =>
    obtain ⟨j,arr,rfl,hj,hbel2,hz,hga,harr,hrow⟩:=hrel
    have HBEL2:=Lib.hid hbel2
    have HZ:=Lib.hid hz
    have HGA:=Lib.hid hga
    have HROW:=Lib.hid hrow
    have l3:=hga.lt
    have z3:=hga.rules.2
    clear hrow
    by_cases hjt:j<t
    ·obtain ⟨g,hg⟩:∃ g,gs[j]?=some g:=⟨_,List.getElem?_eq_getElem (by have:=HN.out;omega)⟩
     obtain ⟨cl,hcl,hcell,hob⟩:=HROW.out j g (mixed_at hg)
     have HC:Hid (∀ W,Bel wr W→Calls Tryz.prog 163 #[.agg cl.toArray,.int .u8 c'] W (IsOb (fun b=>(F b∧b<w.heap.size)∨g0<b) W 2 (force c' g))):=Lib.hid fun W hW=>lineForce_any _ cl g c' hcm W (fun b hb=>Or.inr (by have:=hW.size;omega)) (hob.bel hW)
     obtain ⟨d0,p0,n0,q0,xs0,hcs0,-⟩:=hob.ln;cases hcs0
     have D0:=(hga.rules.1 (j*2)).trans (hcell 0 (.int .u8 d0) rfl)
     have D1:=(hga.rules.1 (j*2+1)).trans (hcell 1 (.slice p0 n0 q0) rfl)
     have HG:=Lib.hid hg
     clear hcl hcell hob hbel2 hg hz hga
     go_wp2_with (go_at_call 163;(with_reducible refine (HC.out _ (Bel.refl _)).mono ?_);rintro e w3 ⟨cs,rfl,ho,hb⟩;obtain ⟨d1,p1,n1,q1,xs1,hcs1,-⟩:=ho.ln;cases hcs1;have C1:=HZ.out.bel hb;have C3:=HGA.out.bel hb;have HB3:=Lib.hid hb;have HC1:=Lib.hid C1;have HC3:=Lib.hid C3;have HO:=Lib.hid ho;have k0:=cell_kept hb D0;have k1:=cell_kept hb D1;have t3:=C3.rules.2;have m3:=C3.lt;clear hb C1 C3 ho)
     go_roundw
     case rel =>
      have hs1:=HBEL2.out.size
      have hs3:=HB3.out.size
      have hge:=HGE.out
      have hsz:=HSZ.out
      refine ⟨j+1,(arr.setIfInBounds (j*2) (.int .u8 d1)).setIfInBounds (j*2+1) (.slice p1 n1 q1),by go_num,by omega,?_,?_,?_,by simp [harr],?_⟩
      ·have HB:=HBEL2.out.trans HB3.out
       exact EL
      ·have HB:=HC1.out
       exact KL
      ·exact (HC3.out.set _ _).set _ _
      ·refine RowOb.put (t:=j) (cl:=[.int .u8 d1,.slice p1 n1 q1]) (HROW.out.keep (by simp;omega) (fun b hb hl=>?_) fun b _ hb=>hb) (mixed_put HG.out) (fun o u ho hu=>?_) rfl (fun i u hu=>?_) (HO.out.keep (by simp) (fun b hb hl=>?_) fun b _ hb=>hb)
       ·rw [Below.heap_setCell _ _ _ _ (by simp;omega),Below.heap_setCell _ _ _ _ (by simp;omega)]
        exact HB3.out.block b hl
       ·show (_:Array Value)[o]?=some u
        rw [Array.getElem?_setIfInBounds_ne (by omega),Array.getElem?_setIfInBounds_ne (by omega)]
        exact hu
       ·have hlt2:=(List.getElem?_eq_some_iff.1 hu).1
        simp at hlt2
        show (_:Array Value)[j*2+i]?=some u
        match i,hlt2 with
        | 0,_ =>
         simp at hu
         subst hu
         rw [Array.getElem?_setIfInBounds_ne (by omega)]
         exact Array.getElem?_setIfInBounds_self_of_lt (by omega)
        | 1,_ =>
         simp at hu
         subst hu
         exact Array.getElem?_setIfInBounds_self_of_lt (by (try simp only [Array.size_setIfInBounds]);omega)
       ·rw [Below.heap_setCell _ _ _ _ (by simp;omega),Below.heap_setCell _ _ _ _ (by simp;omega)]
     case measure=>simp [intOf];omega
    ·obtain rfl:j=t:=by omega
     have hfin:=HROW.out
     have em:mixed (force c') gs j=gs.map (force c'):=by
      unfold mixed
      rw [List.take_of_length_le (by have:=HN.out;omega),List.drop_of_length_le (by have:=HN.out;omega),List.append_nil]
     rw [em] at hfin
     have hge:=HGE.out
     have hsz:=HSZ.out
     have HFIN:Hid (ObSl (fun b=>F b∧b ≠ w.heap.size) wr 2 2 (.slice (some ⟨g0,0,none⟩) j c0) (gs.map (force c'))):=Lib.hid ⟨_,c0,by rw [List.length_map,HN.out],by rw [List.length_map,HN.out];exact hc0,by unfold maxLen at hc1;omega,fun _=>⟨g0,0,rfl,l3,⟨hF _ (by omega),by omega⟩,(hfin.keep (Nat.le_refl _) (fun _ _ _=>rfl) fun b _ hb=>by
      rcases hb with hb|hb
      ·exact ⟨hb.1,by omega⟩
      ·exact ⟨hF _ (by omega),by omega⟩).cells fun o u ho=>by
       rw [Nat.zero_add]
       exact (HGA.out.rules.1 o).trans ho⟩⟩
     clear hfin em
     obtain ⟨s2,t2,m2⟩:=HZ.out.facts
     go_wp2
     refine post_ret (results_one rfl (resIs_agg (n:=2) (cs:=#[.slice (some ⟨g0,0,none⟩) j c0,.int .u8 c']) (by rfl) Tryz.underlying91 (by kernel_rfl) (T:=91) ?_ rfl)) ⟨_,rfl,ObSl.ob ?_ rfl hcm (by rw [List.length_map,HN.out];exact hn31),?_⟩
     ·have HB:=HZ.out
      exact SL
     ·exact HFIN.out.keep (by simp) (fun b hb hl=>by rw [Below.heap_setCell _ _ _ _ (fun e=>hb.2 e),Below.heap_setCell _ _ _ _ (fun e=>hb.2 e)]) fun b _ hb=>hb.1
     ·have HB:=HBEL2.out
      exact EL
set_option maxHeartbeats 4000000 in
set_option maxRecDepth 100000 in
theorem newMultiLine_any (F:Nat→Prop) (p:Option Addr) (n cap:Nat) (gs:List Gm) (w:World) (hF:New F w) (hsl:ObSl F w 2 2 (.slice p n cap) gs) (hpos:0<n) (hn31:n≤1048576):Calls Tryz.prog 108 #[.slice p n cap] w (IsOb F w 5 (.mk 5 (common gs) [] (gs.map (force (common gs))))):=by
 have HSL:=Lib.hid hsl
 obtain ⟨_,_,hve,hl1,hl2,hq⟩:=hsl
 cases hve
 have hgn:gs ≠ []:=by intro e;rw [e] at hpos;simp at hpos
 obtain ⟨b,off,rfl,hlt,hFb,hr⟩:=hq hgn
 have HR:=Lib.hid hr
 have HFB:=Lib.hid hFb
 clear hq hr hFb hgn
 generalize hn:gs.length=n at *
 have HN:=Lib.hid hn
 clear hn
 have hn0:((n:Int) == 0)=false:=by simp;omega
 obtain ⟨i0,hi,hz0,hz1,hz2⟩:=info_parts infoLn
 go_enter Tryz.func108,Tryz.ntmps108
 go_wp2
 go_loopw [3,13] (fun cv iv wr=>∃ (t:Nat),cv=.int .u8 (common (gs.take t):Nat)∧iv=.int .i64 t∧t≤n∧Bel w wr∧Blk wr w.heap.size #[.slice none 0 0,.int .u8 0] 125) (fun _ iv _=>n - (intOf iv).toNat)
 case atStart=>exact ⟨0,rfl,rfl,Nat.zero_le _,by exact EL,by exact KL⟩
 case round =>
  obtain ⟨t,rfl,rfl,ht,hbel,hb1⟩:=hrel
  have HBEL:=Lib.hid hbel
  have HG1:=Lib.hid hb1
  clear hb1
  by_cases htn:t<n
  ·obtain ⟨g,hg⟩:∃ g,gs[t]?=some g:=⟨_,List.getElem?_eq_getElem (by have:=HN.out;omega)⟩
   obtain ⟨cl,hcl,hcell,hob⟩:=HR.out t g hg
   have HC:=Lib.hid (lineOb_type hob)
   obtain ⟨cg,hcg,hdim⟩:=hob.dim
   obtain ⟨d0,p0,n0,q0,xs0,hcs0,-⟩:=hob.ln;cases hcs0
   have D0:=cell_kept hbel (hcell 0 (.int .u8 d0) rfl)
   have D1:=cell_kept hbel (hcell 1 (.slice p0 n0 q0) rfl)
   simp only [Nat.add_zero] at D0
   have E1:=D1
   rw [← Nat.add_assoc] at E1
   have hbl:b<wr.heap.size:=Nat.lt_of_lt_of_le hlt hbel.size
   have hct:=common_take hg
   have hdn:g.dim.toNat=cg:=by rw [hdim];simp
   rw [hdn] at hct HC
   have hland:=u8_land (common (gs.take t)) cg (common_le _ 3 (Nat.le_refl _)) hcg
   rw [← hct] at hland
   clear hcl hcell hob hbel hg hdim hct hdn
   generalize common (gs.take t)=ca at *
   generalize hcb:common (gs.take (t+1))=cb at *
   have HCB:=Lib.hid hcb
   clear hcb
   go_wp2_with (go_at_call 112;(with_reducible refine (HC.out _).mono ?_);rintro e w3 ⟨rfl,hb⟩;have C1:=HG1.out.bel ((Bel.alloc1 _ _).trans hb);have HC1:=Lib.hid C1;have HB3:Hid (Bel wr w3):=Lib.hid ((Bel.alloc1 _ _).trans hb);clear hb C1)
   go_roundw
   case rel=>exact ⟨t+1,by rw [HCB.out],by go_num,by omega,HBEL.out.trans HB3.out,HC1.out⟩
   case measure=>simp [intOf];omega
  ·obtain rfl:t=n:=by omega
   have hca:common (gs.take t)=common gs:=by rw [List.take_of_length_le (by have:=HN.out;omega)]
   rw [hca]
   have hcl3:=common_le gs 3 (Nat.le_refl _)
   have hcm:common gs≤3:=hcl3
   clear hca hcl3
   generalize common gs=c' at *
   obtain ⟨w1,hw1⟩:∃ w1,w1=wr:=⟨_,rfl⟩
   subst hw1
   obtain ⟨news,hnl,hnc,hnr,hn1⟩:=((HR.out.keep (G:=F) hbel.size (fun b _ hl=>hbel.block b hl) fun _ _ h=>h).cells (arr':=fun o=>w1.cell? ⟨b,off+o,none⟩) fun o u ho=>cell_kept hbel ho).flat
   have HNL:Hid (news.length=t*2):=Lib.hid (by rw [hnl,HN.out])
   have HNC:Hid (∀ (j:Nat) (u:Value),news[j]?=some u→w1.cell? ((⟨b,off,none⟩:Addr).add j)=some u):=Lib.hid fun j u hu=>by rw [add_off];exact hnc j u hu
   have HNR:=Lib.hid hnr
   have HN1:=Lib.hid hn1
   have hbl:b<w1.heap.size:=Nat.lt_of_lt_of_le hlt hbel.size
   clear hnl hnc hnr hn1
   have HSZ:Hid (w.heap.size+1≤w1.heap.size):=Lib.hid (HG1.out.lt)
   go_wp2_with (at_builtin;refine wpList_append_row _ rfl (.const (.slice none 0 0)) (.tmp 22) 89 rfl w1.heap.size 111 i0 _ 2 32 Tryz.underlying89 hi hz0 hz1 hz2 rfl (by decide) (.slice none 0 0) 0 [] rfl (World.ownsRow_nil _ _ _ _) ⟨b,off,none⟩ t cap news rfl HNL.out HNC.out HN1.out hpos (by unfold maxLen;omega) (by omega) (Nat.le_refl _) ?_;intro v' w2 ho2 hg2 hb2;have HO2:=Lib.hid ho2;have HB2:Hid (Bel w1 w2):=Lib.hid (Bel.of_grown0 hg2);rcases ho2.2 with ⟨rfl,h0⟩|⟨g0,c0,arr0,rfl,hb0,hg0,hc0,hc1,hs0,htk⟩;(case inl=>exact absurd h0 (by omega));have HCE:=Lib.hid (ho2.cells rfl);simp only [Nat.zero_add] at hc0 hc1;clear ho2 hg2 hb2 htk)
   simp only [Nat.zero_add,List.nil_append] at *
   have HG0:Hid (Blk w2 g0 arr0 111):=Lib.hid hg0
   have HS0:=Lib.hid hs0
   have HGE:=Lib.hid hb0
   have hrow0:RowOb (fun b=>(F b∧b<w.heap.size)∨g0<b) w2 (fun o=>arr0[o]?) 2 2 (mixed (force c') gs 0):=by
    have e0:mixed (force c') gs 0=gs:=by simp [mixed]
    rw [e0]
    have h2:=(HR.out.keep (w':=w2) (G:=fun b=>(F b∧b<w.heap.size)∨g0<b) (HBEL.out.trans HB2.out).size (fun b _ hl=>(HBEL.out.trans HB2.out).block b hl) fun b hl hb=>Or.inl ⟨hb,hl⟩)
    intro i g hg
    obtain ⟨cl,a1,a2,a3⟩:=HNR.out i g hg
    obtain ⟨cl',b1,b2,b3⟩:=h2 i g hg
    have ecl:cl=cl':=by
     apply List.ext_getElem?
     intro j
     rcases Nat.lt_or_ge j 2 with q|q
     ·obtain ⟨u,hu⟩:∃ u,cl[j]?=some u:=⟨_,List.getElem?_eq_getElem (by omega)⟩
      obtain ⟨u',hu'⟩:∃ u,cl'[j]?=some u:=⟨_,List.getElem?_eq_getElem (by omega)⟩
      have q1:=HNC.out _ _ (a2 j u hu)
      rw [add_off] at q1
      have q2:=cell_kept HBEL.out (b2 j u' hu')
      rw [hu,hu']
      exact q1.symm.trans q2
     ·rw [List.getElem?_eq_none (by omega),List.getElem?_eq_none (by omega)]
    refine ⟨cl,a1,fun j u hu=>?_,ecl▸b3⟩
    have q1:=HCE.out (i*2+j) u (a2 j u hu)
    rw [add_none] at q1
    exact (HG0.out.rules.1 _).symm.trans q1
   have HROW0:=Lib.hid hrow0
   have hb20:=(HG1.out.bel HB2.out)
   have HG20:=Lib.hid hb20
   have HB20:=Lib.hid (HBEL.out.trans HB2.out)
   clear hrow0 hb20 HNC HNL HN1 HNR hg0 hs0 hb0 HCE
   go_loopw [26] (fun iv wr=>∃ (j:Nat) (arr:Array Value),iv=.int .i64 j∧j≤t∧Bel w wr∧Blk wr w.heap.size #[.slice none 0 0,.int .u8 0] 125∧Blk wr g0 arr 111∧arr.size=c0*2∧RowOb (fun b=>(F b∧b<w.heap.size)∨g0<b) wr (fun o=>arr[o]?) 2 2 (mixed (force c') gs j)) (fun iv _=>t - (intOf iv).toNat)
   case atStart=>exact ⟨0,arr0,rfl,Nat.zero_le _,HB20.out,HG20.out,HG0.out,HS0.out,HROW0.out⟩
   case round =>
    obtain ⟨j,arr,rfl,hj,hbel2,hz,hga,harr,hrow⟩:=hrel
    have HBEL2:=Lib.hid hbel2
    have HZ:=Lib.hid hz
    have HGA:=Lib.hid hga
    have HROW:=Lib.hid hrow
    have l3:=hga.lt
    have z3:=hga.rules.2
    clear hrow
    by_cases hjt:j<t
    ·obtain ⟨g,hg⟩:∃ g,gs[j]?=some g:=⟨_,List.getElem?_eq_getElem (by have:=HN.out;omega)⟩
     obtain ⟨cl,hcl,hcell,hob⟩:=HROW.out j g (mixed_at hg)
     have HC:Hid (∀ W,Bel wr W→Calls Tryz.prog 163 #[.agg cl.toArray,.int .u8 c'] W (IsOb (fun b=>(F b∧b<w.heap.size)∨g0<b) W 2 (force c' g))):=Lib.hid fun W hW=>lineForce_any _ cl g c' hcm W (fun b hb=>Or.inr (by have:=hW.size;omega)) (hob.bel hW)
     obtain ⟨d0,p0,n0,q0,xs0,hcs0,-⟩:=hob.ln;cases hcs0
     have D0:=(hga.rules.1 (j*2)).trans (hcell 0 (.int .u8 d0) rfl)
     have D1:=(hga.rules.1 (j*2+1)).trans (hcell 1 (.slice p0 n0 q0) rfl)
     have HG:=Lib.hid hg
     clear hcl hcell hob hbel2 hg hz hga
     go_wp2_with (go_at_call 163;(with_reducible refine (HC.out _ (Bel.refl _)).mono ?_);rintro e w3 ⟨cs,rfl,ho,hb⟩;obtain ⟨d1,p1,n1,q1,xs1,hcs1,-⟩:=ho.ln;cases hcs1;have C1:=HZ.out.bel hb;have C3:=HGA.out.bel hb;have HB3:=Lib.hid hb;have HC1:=Lib.hid C1;have HC3:=Lib.hid C3;have HO:=Lib.hid ho;have k0:=cell_kept hb D0;have k1:=cell_kept hb D1;have t3:=C3.rules.2;have m3:=C3.lt;clear hb C1 C3 ho)
     go_roundw
     case rel =>
      have hs1:=HBEL2.out.size
      have hs3:=HB3.out.size
      have hge:=HGE.out
      have hsz:=HSZ.out
      refine ⟨j+1,(arr.setIfInBounds (j*2) (.int .u8 d1)).setIfInBounds (j*2+1) (.slice p1 n1 q1),by go_num,by omega,?_,?_,?_,by simp [harr],?_⟩
      ·have HB:=HBEL2.out.trans HB3.out
       exact EL
      ·have HB:=HC1.out
       exact KL
      ·exact (HC3.out.set _ _).set _ _
      ·refine RowOb.put (t:=j) (cl:=[.int .u8 d1,.slice p1 n1 q1]) (HROW.out.keep (by simp;omega) (fun b hb hl=>?_) fun b _ hb=>hb) (mixed_put HG.out) (fun o u ho hu=>?_) rfl (fun i u hu=>?_) (HO.out.keep (by simp) (fun b hb hl=>?_) fun b _ hb=>hb)
       ·rw [Below.heap_setCell _ _ _ _ (by simp;omega),Below.heap_setCell _ _ _ _ (by simp;omega)]
        exact HB3.out.block b hl
       ·show (_:Array Value)[o]?=some u
        rw [Array.getElem?_setIfInBounds_ne (by omega),Array.getElem?_setIfInBounds_ne (by omega)]
        exact hu
       ·have hlt2:=(List.getElem?_eq_some_iff.1 hu).1
        simp at hlt2
        show (_:Array Value)[j*2+i]?=some u
        match i,hlt2 with
        | 0,_ =>
         simp at hu
         subst hu
         rw [Array.getElem?_setIfInBounds_ne (by omega)]
         exact Array.getElem?_setIfInBounds_self_of_lt (by omega)
        | 1,_ =>
         simp at hu
         subst hu
         exact Array.getElem?_setIfInBounds_self_of_lt (by (try simp only [Array.size_setIfInBounds]);omega)
       ·rw [Below.heap_setCell _ _ _ _ (by simp;omega),Below.heap_setCell _ _ _ _ (by simp;omega)]
     case measure=>simp [intOf];omega
    ·obtain rfl:j=t:=by omega
     have hfin:=HROW.out
     have em:mixed (force c') gs j=gs.map (force c'):=by
      unfold mixed
      rw [List.take_of_length_le (by have:=HN.out;omega),List.drop_of_length_le (by have:=HN.out;omega),List.append_nil]
     rw [em] at hfin
     have hge:=HGE.out
     have hsz:=HSZ.out
     have HFIN:Hid (ObSl (fun b=>F b∧b ≠ w.heap.size) wr 2 2 (.slice (some ⟨g0,0,none⟩) j c0) (gs.map (force c'))):=Lib.hid ⟨_,c0,by rw [List.length_map,HN.out],by rw [List.length_map,HN.out];exact hc0,by unfold maxLen at hc1;omega,fun _=>⟨g0,0,rfl,l3,⟨hF _ (by omega),by omega⟩,(hfin.keep (Nat.le_refl _) (fun _ _ _=>rfl) fun b _ hb=>by
      rcases hb with hb|hb
      ·exact ⟨hb.1,by omega⟩
      ·exact ⟨hF _ (by omega),by omega⟩).cells fun o u ho=>by
       rw [Nat.zero_add]
       exact (HGA.out.rules.1 o).trans ho⟩⟩
     clear hfin em
     obtain ⟨s2,t2,m2⟩:=HZ.out.facts
     go_wp2
     refine post_ret (results_one rfl (resIs_agg (n:=2) (cs:=#[.slice (some ⟨g0,0,none⟩) j c0,.int .u8 c']) (by rfl) Tryz.underlying125 (by kernel_rfl) (T:=125) ?_ rfl)) ⟨_,rfl,ObSl.ob ?_ rfl hcm (by rw [List.length_map,HN.out];exact hn31),?_⟩
     ·have HB:=HZ.out
      exact SL
     ·exact HFIN.out.keep (by simp) (fun b hb hl=>by rw [Below.heap_setCell _ _ _ _ (fun e=>hb.2 e),Below.heap_setCell _ _ _ _ (fun e=>hb.2 e)]) fun b _ hb=>hb.1
     ·have HB:=HBEL2.out
      exact EL
set_option maxHeartbeats 4000000 in
set_option maxRecDepth 100000 in
theorem newMultiPolygon_any (F:Nat→Prop) (p:Option Addr) (n cap:Nat) (gs:List Gm) (w:World) (hF:New F w) (hsl:ObSl F w 3 2 (.slice p n cap) gs) (hpos:0<n) (hn31:n≤1048576):Calls Tryz.prog 109 #[.slice p n cap] w (IsOb F w 6 (.mk 6 (common gs) [] (gs.map (force (common gs))))):=by
 have HSL:=Lib.hid hsl
 obtain ⟨_,_,hve,hl1,hl2,hq⟩:=hsl
 cases hve
 have hgn:gs ≠ []:=by intro e;rw [e] at hpos;simp at hpos
 obtain ⟨b,off,rfl,hlt,hFb,hr⟩:=hq hgn
 have HR:=Lib.hid hr
 have HFB:=Lib.hid hFb
 clear hq hr hFb hgn
 generalize hn:gs.length=n at *
 have HN:=Lib.hid hn
 clear hn
 have hn0:((n:Int) == 0)=false:=by simp;omega
 obtain ⟨i0,hi,hz0,hz1,hz2⟩:=info_parts infoPg
 go_enter Tryz.func109,Tryz.ntmps109
 go_wp2
 go_loopw [3,12] (fun cv iv wr=>∃ (t:Nat),cv=.int .u8 (common (gs.take t):Nat)∧iv=.int .i64 t∧t≤n∧Bel w wr∧Blk wr w.heap.size #[.slice none 0 0,.int .u8 0] 129) (fun _ iv _=>n - (intOf iv).toNat)
 case atStart=>exact ⟨0,rfl,rfl,Nat.zero_le _,by exact EL,by exact KL⟩
 case round =>
  obtain ⟨t,rfl,rfl,ht,hbel,hb1⟩:=hrel
  have HBEL:=Lib.hid hbel
  have HG1:=Lib.hid hb1
  clear hb1
  by_cases htn:t<n
  ·obtain ⟨g,hg⟩:∃ g,gs[t]?=some g:=⟨_,List.getElem?_eq_getElem (by have:=HN.out;omega)⟩
   obtain ⟨cl,hcl,hcell,hob⟩:=HR.out t g hg
   have HC:=Lib.hid (polygonOb_type hob)
   obtain ⟨cg,hcg,hdim⟩:=hob.dim
   obtain ⟨p0,q0,d0,gs0,hcs0,-⟩:=hob.sl (e:=2) (k:=2) rfl;cases hcs0;generalize gs0.length=n0 at *
   have D0:=cell_kept hbel (hcell 0 (.slice p0 n0 q0) rfl)
   have D1:=cell_kept hbel (hcell 1 (.int .u8 d0) rfl)
   simp only [Nat.add_zero] at D0
   have E1:=D1
   rw [← Nat.add_assoc] at E1
   have hbl:b<wr.heap.size:=Nat.lt_of_lt_of_le hlt hbel.size
   have hct:=common_take hg
   have hdn:g.dim.toNat=cg:=by rw [hdim];simp
   rw [hdn] at hct HC
   have hland:=u8_land (common (gs.take t)) cg (common_le _ 3 (Nat.le_refl _)) hcg
   rw [← hct] at hland
   clear hcl hcell hob hbel hg hdim hct hdn
   generalize common (gs.take t)=ca at *
   generalize hcb:common (gs.take (t+1))=cb at *
   have HCB:=Lib.hid hcb
   clear hcb
   go_wp2_with (go_at_call 113;(with_reducible refine (HC.out _).mono ?_);rintro e w3 ⟨rfl,hb⟩;have C1:=HG1.out.bel ((Bel.alloc1 _ _).trans hb);have HC1:=Lib.hid C1;have HB3:Hid (Bel wr w3):=Lib.hid ((Bel.alloc1 _ _).trans hb);clear hb C1)
   go_roundw
   case rel=>exact ⟨t+1,by rw [HCB.out],by go_num,by omega,HBEL.out.trans HB3.out,HC1.out⟩
   case measure=>simp [intOf];omega
  ·obtain rfl:t=n:=by omega
   have hca:common (gs.take t)=common gs:=by rw [List.take_of_length_le (by have:=HN.out;omega)]
   rw [hca]
   have hcl3:=common_le gs 3 (Nat.le_refl _)
   have hcm:common gs≤3:=hcl3
   clear hca hcl3
   generalize common gs=c' at *
   obtain ⟨w1,hw1⟩:∃ w1,w1=wr:=⟨_,rfl⟩
   subst hw1
   obtain ⟨news,hnl,hnc,hnr,hn1⟩:=((HR.out.keep (G:=F) hbel.size (fun b _ hl=>hbel.block b hl) fun _ _ h=>h).cells (arr':=fun o=>w1.cell? ⟨b,off+o,none⟩) fun o u ho=>cell_kept hbel ho).flat
   have HNL:Hid (news.length=t*2):=Lib.hid (by rw [hnl,HN.out])
   have HNC:Hid (∀ (j:Nat) (u:Value),news[j]?=some u→w1.cell? ((⟨b,off,none⟩:Addr).add j)=some u):=Lib.hid fun j u hu=>by rw [add_off];exact hnc j u hu
   have HNR:=Lib.hid hnr
   have HN1:=Lib.hid hn1
   have hbl:b<w1.heap.size:=Nat.lt_of_lt_of_le hlt hbel.size
   clear hnl hnc hnr hn1
   have HSZ:Hid (w.heap.size+1≤w1.heap.size):=Lib.hid (HG1.out.lt)
   go_wp2_with (at_builtin;refine wpList_append_row _ rfl (.const (.slice none 0 0)) (.tmp 21) 127 rfl w1.heap.size 91 i0 _ 2 32 Tryz.underlying127 hi hz0 hz1 hz2 rfl (by decide) (.slice none 0 0) 0 [] rfl (World.ownsRow_nil _ _ _ _) ⟨b,off,none⟩ t cap news rfl HNL.out HNC.out HN1.out hpos (by unfold maxLen;omega) (by omega) (Nat.le_refl _) ?_;intro v' w2 ho2 hg2 hb2;have HO2:=Lib.hid ho2;have HB2:Hid (Bel w1 w2):=Lib.hid (Bel.of_grown0 hg2);rcases ho2.2 with ⟨rfl,h0⟩|⟨g0,c0,arr0,rfl,hb0,hg0,hc0,hc1,hs0,htk⟩;(case inl=>exact absurd h0 (by omega));have HCE:=Lib.hid (ho2.cells rfl);simp only [Nat.zero_add] at hc0 hc1;clear ho2 hg2 hb2 htk)
   simp only [Nat.zero_add,List.nil_append] at *
   have HG0:Hid (Blk w2 g0 arr0 91):=Lib.hid hg0
   have HS0:=Lib.hid hs0
   have HGE:=Lib.hid hb0
   have hrow0:RowOb (fun b=>(F b∧b<w.heap.size)∨g0<b) w2 (fun o=>arr0[o]?) 3 2 (mixed (force c') gs 0):=by
    have e0:mixed (force c') gs 0=gs:=by simp [mixed]
    rw [e0]
    have h2:=(HR.out.keep (w':=w2) (G:=fun b=>(F b∧b<w.heap.size)∨g0<b) (HBEL.out.trans HB2.out).size (fun b _ hl=>(HBEL.out.trans HB2.out).block b hl) fun b hl hb=>Or.inl ⟨hb,hl⟩)
    intro i g hg
    obtain ⟨cl,a1,a2,a3⟩:=HNR.out i g hg
    obtain ⟨cl',b1,b2,b3⟩:=h2 i g hg
    have ecl:cl=cl':=by
     apply List.ext_getElem?
     intro j
     rcases Nat.lt_or_ge j 2 with q|q
     ·obtain ⟨u,hu⟩:∃ u,cl[j]?=some u:=⟨_,List.getElem?_eq_getElem (by omega)⟩
      obtain ⟨u',hu'⟩:∃ u,cl'[j]?=some u:=⟨_,List.getElem?_eq_getElem (by omega)⟩
      have q1:=HNC.out _ _ (a2 j u hu)
      rw [add_off] at q1
      have q2:=cell_kept HBEL.out (b2 j u' hu')
      rw [hu,hu']
      exact q1.symm.trans q2
     ·rw [List.getElem?_eq_none (by omega),List.getElem?_eq_none (by omega)]
    refine ⟨cl,a1,fun j u hu=>?_,ecl▸b3⟩
    have q1:=HCE.out (i*2+j) u (a2 j u hu)
    rw [add_none] at q1
    exact (HG0.out.rules.1 _).symm.trans q1
   have HROW0:=Lib.hid hrow0
   have hb20:=(HG1.out.bel HB2.out)
   have HG20:=Lib.hid hb20
   have HB20:=Lib.hid (HBEL.out.trans HB2.out)
   clear hrow0 hb20 HNC HNL HN1 HNR hg0 hs0 hb0 HCE
   go_loopw [25] (fun iv wr=>∃ (j:Nat) (arr:Array Value),iv=.int .i64 j∧j≤t∧Bel w wr∧Blk wr w.heap.size #[.slice none 0 0,.int .u8 0] 129∧Blk wr g0 arr 91∧arr.size=c0*2∧RowOb (fun b=>(F b∧b<w.heap.size)∨g0<b) wr (fun o=>arr[o]?) 3 2 (mixed (force c') gs j)) (fun iv _=>t - (intOf iv).toNat)
   case atStart=>exact ⟨0,arr0,rfl,Nat.zero_le _,HB20.out,HG20.out,HG0.out,HS0.out,HROW0.out⟩
   case round =>
    obtain ⟨j,arr,rfl,hj,hbel2,hz,hga,harr,hrow⟩:=hrel
    have HBEL2:=Lib.hid hbel2
    have HZ:=Lib.hid hz
    have HGA:=Lib.hid hga
    have HROW:=Lib.hid hrow
    have l3:=hga.lt
    have z3:=hga.rules.2
    clear hrow
    by_cases hjt:j<t
    ·obtain ⟨g,hg⟩:∃ g,gs[j]?=some g:=⟨_,List.getElem?_eq_getElem (by have:=HN.out;omega)⟩
     obtain ⟨cl,hcl,hcell,hob⟩:=HROW.out j g (mixed_at hg)
     have HC:Hid (∀ W,Bel wr W→Calls Tryz.prog 168 #[.agg cl.toArray,.int .u8 c'] W (IsOb (fun b=>(F b∧b<w.heap.size)∨g0<b) W 3 (force c' g))):=Lib.hid fun W hW=>polygonForce_any _ cl g c' hcm W (fun b hb=>Or.inr (by have:=hW.size;omega)) (hob.bel hW)
     obtain ⟨p0,q0,d0,gs0,hcs0,-⟩:=hob.sl (e:=2) (k:=2) rfl;cases hcs0;generalize gs0.length=n0 at *
     have D0:=(hga.rules.1 (j*2)).trans (hcell 0 (.slice p0 n0 q0) rfl)
     have D1:=(hga.rules.1 (j*2+1)).trans (hcell 1 (.int .u8 d0) rfl)
     have HG:=Lib.hid hg
     clear hcl hcell hob hbel2 hg hz hga
     go_wp2_with (go_at_call 168;(with_reducible refine (HC.out _ (Bel.refl _)).mono ?_);rintro e w3 ⟨cs,rfl,ho,hb⟩;obtain ⟨p1,q1,d1,gs1,hcs1,-⟩:=ho.sl (e:=2) (k:=2) rfl;cases hcs1;generalize gs1.length=n1 at *;have C1:=HZ.out.bel hb;have C3:=HGA.out.bel hb;have HB3:=Lib.hid hb;have HC1:=Lib.hid C1;have HC3:=Lib.hid C3;have HO:=Lib.hid ho;have k0:=cell_kept hb D0;have k1:=cell_kept hb D1;have t3:=C3.rules.2;have m3:=C3.lt;clear hb C1 C3 ho)
     go_roundw
     case rel =>
      have hs1:=HBEL2.out.size
      have hs3:=HB3.out.size
      have hge:=HGE.out
      have hsz:=HSZ.out
      refine ⟨j+1,(arr.setIfInBounds (j*2) (.slice p1 n1 q1)).setIfInBounds (j*2+1) (.int .u8 d1),by go_num,by omega,?_,?_,?_,by simp [harr],?_⟩
      ·have HB:=HBEL2.out.trans HB3.out
       exact EL
      ·have HB:=HC1.out
       exact KL
      ·exact (HC3.out.set _ _).set _ _
      ·refine RowOb.put (t:=j) (cl:=[.slice p1 n1 q1,.int .u8 d1]) (HROW.out.keep (by simp;omega) (fun b hb hl=>?_) fun b _ hb=>hb) (mixed_put HG.out) (fun o u ho hu=>?_) rfl (fun i u hu=>?_) (HO.out.keep (by simp) (fun b hb hl=>?_) fun b _ hb=>hb)
       ·rw [Below.heap_setCell _ _ _ _ (by simp;omega),Below.heap_setCell _ _ _ _ (by simp;omega)]
        exact HB3.out.block b hl
       ·show (_:Array Value)[o]?=some u
        rw [Array.getElem?_setIfInBounds_ne (by omega),Array.getElem?_setIfInBounds_ne (by omega)]
        exact hu
       ·have hlt2:=(List.getElem?_eq_some_iff.1 hu).1
        simp at hlt2
        show (_:Array Value)[j*2+i]?=some u
        match i,hlt2 with
        | 0,_ =>
         simp at hu
         subst hu
         rw [Array.getElem?_setIfInBounds_ne (by omega)]
         exact Array.getElem?_setIfInBounds_self_of_lt (by omega)
        | 1,_ =>
         simp at hu
         subst hu
         exact Array.getElem?_setIfInBounds_self_of_lt (by (try simp only [Array.size_setIfInBounds]);omega)
       ·rw [Below.heap_setCell _ _ _ _ (by simp;omega),Below.heap_setCell _ _ _ _ (by simp;omega)]
     case measure=>simp [intOf];omega
    ·obtain rfl:j=t:=by omega
     have hfin:=HROW.out
     have em:mixed (force c') gs j=gs.map (force c'):=by
      unfold mixed
      rw [List.take_of_length_le (by have:=HN.out;omega),List.drop_of_length_le (by have:=HN.out;omega),List.append_nil]
     rw [em] at hfin
     have hge:=HGE.out
     have hsz:=HSZ.out
     have HFIN:Hid (ObSl (fun b=>F b∧b ≠ w.heap.size) wr 3 2 (.slice (some ⟨g0,0,none⟩) j c0) (gs.map (force c'))):=Lib.hid ⟨_,c0,by rw [List.length_map,HN.out],by rw [List.length_map,HN.out];exact hc0,by unfold maxLen at hc1;omega,fun _=>⟨g0,0,rfl,l3,⟨hF _ (by omega),by omega⟩,(hfin.keep (Nat.le_refl _) (fun _ _ _=>rfl) fun b _ hb=>by
      rcases hb with hb|hb
      ·exact ⟨hb.1,by omega⟩
      ·exact ⟨hF _ (by omega),by omega⟩).cells fun o u ho=>by
       rw [Nat.zero_add]
       exact (HGA.out.rules.1 o).trans ho⟩⟩
     clear hfin em
     obtain ⟨s2,t2,m2⟩:=HZ.out.facts
     go_wp2
     refine post_ret (results_one rfl (resIs_agg (n:=2) (cs:=#[.slice (some ⟨g0,0,none⟩) j c0,.int .u8 c']) (by rfl) Tryz.underlying129 (by kernel_rfl) (T:=129) ?_ rfl)) ⟨_,rfl,ObSl.ob ?_ rfl hcm (by rw [List.length_map,HN.out];exact hn31),?_⟩
     ·have HB:=HZ.out
      exact SL
     ·exact HFIN.out.keep (by simp) (fun b hb hl=>by rw [Below.heap_setCell _ _ _ _ (fun e=>hb.2 e),Below.heap_setCell _ _ _ _ (fun e=>hb.2 e)]) fun b _ hb=>hb.1
     ·have HB:=HBEL2.out
      exact EL
end Go.Proofs.YtpipehenfcbjbaaGreatDoor
set_option linter.unusedVariables false
namespace Go.Proofs.YtpipehenfcbjbaaGreatDoor
open Go.ChangeShapes Go.WideShapes Go.ChangeAt Go.RowKit
theorem infoPt:(Tryz.prog.info? 107).map (fun i=>(i.zero,i.size,i.bytes))=some (some (.agg #[.float .f64 0,.float .f64 0,.float .f64 0,.float .f64 0,.int .u8 0,.bool false]),6,48):=by kernel_rfl
def IsObs (F:Nat→Prop) (w:World) (e k n:Nat) (gs:List Gm) (x:Ending) (w':World):Prop:=∃ p cap,x=.returned (.slice p n cap)∧ObSl F w' e k (.slice p n cap) gs∧Bel w w'
set_option maxHeartbeats 4000000 in
set_option maxRecDepth 100000 in
theorem pointsForce_any (F:Nat→Prop) (p:Option Addr) (n cap:Nat) (gs:List Gm) (c':Nat) (hc':c'≤3) (w:World) (hF:New F w) (hsl:ObSl F w 1 6 (.slice p n cap) gs) (hn31:n≤1048576):Calls Tryz.prog 179 #[.slice p n cap,.int .u8 c'] w (IsObs F w 1 6 n (gs.map (force c'))):=by
 have HSL:=Lib.hid hsl
 have hn:gs.length=n:=by
  obtain ⟨_,_,hv,_⟩:=hsl
  cases hv
  rfl
 have HN:=Lib.hid hn
 clear hsl hn
 obtain ⟨i0,hi,hz0,hz1,hz2⟩:=info_parts infoPt
 go_enter Tryz.func179,Tryz.ntmps179
 go_wp2_with (at_make;refine wpList_make_full _ rfl (.tmp 9) (.tmp 9) 119 rfl w.heap.size 107 i0 (.agg #[.float .f64 0,.float .f64 0,.float .f64 0,.float .f64 0,.int .u8 0,.bool false]) 6 Tryz.underlying119 hi hz0 hz1 .i64 .i64 _ _ n rfl rfl rfl rfl ?b2 ?b3 ?b4 ?_;(case b2=>(rw [hz2];omega));(case b3=>(unfold maxLen;omega));(case b4=>simp);intro w1 hown hgrow;obtain ⟨arr0,hB0,hs0⟩:=hown.blk;have HW1:=Lib.hid (Bel.of_grown0 hgrow);have HP0:=Lib.hid hB0;have HS0:=Lib.hid hs0;clear hown hgrow hB0 hs0)
 go_loopw [13] (fun iv wr=>∃ (t:Nat) (arr:Array Value),iv=.int .i64 t∧t≤n∧Bel w wr∧Blk wr w.heap.size arr 107∧arr.size=n*6∧RowOb (fun _=>False) wr (fun o=>arr[o]?) 1 6 ((gs.take t).map (force c'))) (fun iv _=>n - (intOf iv).toNat)
 case atStart=>exact ⟨0,arr0,rfl,Nat.zero_le _,HW1.out,HP0.out,HS0.out,fun i g hg=>by simp at hg⟩
 case round =>
  obtain ⟨t,arr,rfl,ht,hbel,hb3,harr,hrow⟩:=hrel
  have HBEL:=Lib.hid hbel
  have HG3:=Lib.hid hb3
  have HROW:=Lib.hid hrow
  have l3:=hb3.lt
  clear hrow hb3
  by_cases htn:t<n
  ·obtain ⟨g,hg⟩:∃ g,gs[t]?=some g:=⟨_,List.getElem?_eq_getElem (by have:=HN.out;omega)⟩
   obtain ⟨_,_,hve,_,_,hq⟩:=HSL.out
   cases hve
   obtain ⟨b,off,rfl,hlt,-,hr⟩:=hq (by intro e;rw [e] at hg;simp at hg)
   obtain ⟨cl,hcl,hcell,hob⟩:=hr t g hg
   obtain ⟨x0,y0,a0,m0,d0,f0,rfl,hd0,hge⟩:=hob.pt
   have D0:=cell_kept hbel (hcell 0 (.float .f64 x0) rfl)
   have D1:=cell_kept hbel (hcell 1 (.float .f64 y0) rfl)
   have D2:=cell_kept hbel (hcell 2 (.float .f64 a0) rfl)
   have D3:=cell_kept hbel (hcell 3 (.float .f64 m0) rfl)
   have D4:=cell_kept hbel (hcell 4 (.int .u8 d0) rfl)
   have D5:=cell_kept hbel (hcell 5 (.bool f0) rfl)
   simp only [Nat.add_zero] at D0
   have E1:=D1
   rw [← Nat.add_assoc] at E1
   have E2:=D2
   rw [← Nat.add_assoc] at E2
   have E3:=D3
   rw [← Nat.add_assoc] at E3
   have E4:=D4
   rw [← Nat.add_assoc] at E4
   have E5:=D5
   rw [← Nat.add_assoc] at E5
   have hbl:b<wr.heap.size:=Nat.lt_of_lt_of_le hlt hbel.size
   have HG:=Lib.hid hg
   have HC:Hid (∀ W,Calls Tryz.prog 203 #[.agg #[.float .f64 x0,.float .f64 y0,.float .f64 a0,.float .f64 m0,.int .u8 d0,.bool f0],.int .u8 c'] W (IsOb (fun _=>False) W 1 (force c' g))):=Lib.hid fun W=>pointForce_any [.float .f64 x0,.float .f64 y0,.float .f64 a0,.float .f64 m0,.int .u8 d0,.bool f0] g c' hc' W (by rw [hge];exact .point x0 y0 a0 m0 d0 f0 hd0)
   clear hq hr hcell hob hcl hbel hg hge
   go_wp2_with (go_at_call 203;(with_reducible refine (HC.out _).mono ?_);rintro e w3 ⟨cs,rfl,ho,hb⟩;have HO:=Lib.hid ho;obtain ⟨x1,y1,a1,m1,d1,f1,hcs,-⟩:=ho.pt;cases hcs;have C3:=HG3.out.bel ((Bel.alloc1 _ _).trans hb);have HB3:Hid (Bel wr w3):=Lib.hid ((Bel.alloc1 _ _).trans hb);have HC3:=Lib.hid C3;obtain ⟨e0,k0⟩:∃ u,w3.cell? ⟨w.heap.size,t*6,none⟩=some u:=⟨arr[t*6],(C3.rules.1 _).trans (Array.getElem?_eq_getElem (by omega))⟩;obtain ⟨e1,k1⟩:∃ u,w3.cell? ⟨w.heap.size,t*6+1,none⟩=some u:=⟨arr[t*6+1],(C3.rules.1 _).trans (Array.getElem?_eq_getElem (by omega))⟩;obtain ⟨e2,k2⟩:∃ u,w3.cell? ⟨w.heap.size,t*6+2,none⟩=some u:=⟨arr[t*6+2],(C3.rules.1 _).trans (Array.getElem?_eq_getElem (by omega))⟩;obtain ⟨e3,k3⟩:∃ u,w3.cell? ⟨w.heap.size,t*6+3,none⟩=some u:=⟨arr[t*6+3],(C3.rules.1 _).trans (Array.getElem?_eq_getElem (by omega))⟩;obtain ⟨e4,k4⟩:∃ u,w3.cell? ⟨w.heap.size,t*6+4,none⟩=some u:=⟨arr[t*6+4],(C3.rules.1 _).trans (Array.getElem?_eq_getElem (by omega))⟩;obtain ⟨e5,k5⟩:∃ u,w3.cell? ⟨w.heap.size,t*6+5,none⟩=some u:=⟨arr[t*6+5],(C3.rules.1 _).trans (Array.getElem?_eq_getElem (by omega))⟩;have t3:=C3.rules.2;have m3:=C3.lt;clear hb C3 ho)
   go_roundw
   case rel =>
    have hs1:=HBEL.out.size
    have hs3:=HB3.out.size
    refine ⟨t+1,((((((arr.setIfInBounds (t*6) (.float .f64 x1)).setIfInBounds (t*6+1) (.float .f64 y1)).setIfInBounds (t*6+2) (.float .f64 a1)).setIfInBounds (t*6+3) (.float .f64 m1)).setIfInBounds (t*6+4) (.int .u8 d1)).setIfInBounds (t*6+5) (.bool f1)),by go_num,by omega,?_,?_,by simp [harr],?_⟩
    ·have HB:=HBEL.out.trans HB3.out
     exact EL
    ·exact ((((((HC3.out.set _ _).set _ _).set _ _).set _ _).set _ _).set _ _)
    ·have e1:(gs.take (t+1)).map (force c')=(gs.take t).map (force c') ++ [force c' g]:=by
      rw [List.take_add_one,HG.out]
      simp
     rw [e1]
     refine RowOb.push (t:=t) (cl:=[.float .f64 x1,.float .f64 y1,.float .f64 a1,.float .f64 m1,.int .u8 d1,.bool f1]) (HROW.out.keep (by simp;omega) (fun b hb hl=>hb.elim) fun b _ hb=>hb) (by rw [List.length_map,List.length_take];have:=HN.out;omega) (fun o u ho hu=>?_) rfl (fun j u hu=>?_) (HO.out.keep (by simp) (fun b hb hl=>hb.elim) fun b _ hb=>hb)
     ·show (_:Array Value)[o]?=some u
      rw [Array.getElem?_setIfInBounds_ne (by omega),Array.getElem?_setIfInBounds_ne (by omega),Array.getElem?_setIfInBounds_ne (by omega),Array.getElem?_setIfInBounds_ne (by omega),Array.getElem?_setIfInBounds_ne (by omega),Array.getElem?_setIfInBounds_ne (by omega)]
      exact hu
     ·have hlt2:=(List.getElem?_eq_some_iff.1 hu).1
      simp at hlt2
      show (_:Array Value)[t*6+j]?=some u
      match j,hlt2 with
      | 0,_ =>
       simp at hu
       subst hu
       rw [Array.getElem?_setIfInBounds_ne (by omega),Array.getElem?_setIfInBounds_ne (by omega),Array.getElem?_setIfInBounds_ne (by omega),Array.getElem?_setIfInBounds_ne (by omega),Array.getElem?_setIfInBounds_ne (by omega)]
       exact Array.getElem?_setIfInBounds_self_of_lt (by (try simp only [Array.size_setIfInBounds]);omega)
      | 1,_ =>
       simp at hu
       subst hu
       rw [Array.getElem?_setIfInBounds_ne (by omega),Array.getElem?_setIfInBounds_ne (by omega),Array.getElem?_setIfInBounds_ne (by omega),Array.getElem?_setIfInBounds_ne (by omega)]
       exact Array.getElem?_setIfInBounds_self_of_lt (by (try simp only [Array.size_setIfInBounds]);omega)
      | 2,_ =>
       simp at hu
       subst hu
       rw [Array.getElem?_setIfInBounds_ne (by omega),Array.getElem?_setIfInBounds_ne (by omega),Array.getElem?_setIfInBounds_ne (by omega)]
       exact Array.getElem?_setIfInBounds_self_of_lt (by (try simp only [Array.size_setIfInBounds]);omega)
      | 3,_ =>
       simp at hu
       subst hu
       rw [Array.getElem?_setIfInBounds_ne (by omega),Array.getElem?_setIfInBounds_ne (by omega)]
       exact Array.getElem?_setIfInBounds_self_of_lt (by (try simp only [Array.size_setIfInBounds]);omega)
      | 4,_ =>
       simp at hu
       subst hu
       rw [Array.getElem?_setIfInBounds_ne (by omega)]
       exact Array.getElem?_setIfInBounds_self_of_lt (by (try simp only [Array.size_setIfInBounds]);omega)
      | 5,_ =>
       simp at hu
       subst hu
       exact Array.getElem?_setIfInBounds_self_of_lt (by (try simp only [Array.size_setIfInBounds]);omega)
   case measure=>simp [intOf];omega
  ·obtain rfl:t=n:=by omega
   have hfin:=HROW.out
   rw [List.take_of_length_le (by have:=HN.out;omega)] at hfin
   have HFIN:Hid (ObSl F wr 1 6 (.slice (some ⟨w.heap.size,0,none⟩) t t) (gs.map (force c'))):=Lib.hid ⟨_,t,by rw [List.length_map,HN.out],Nat.le_of_eq (by rw [List.length_map,HN.out]),by omega,fun _=>⟨w.heap.size,0,rfl,l3,hF _ (Nat.le_refl _),(hfin.keep (Nat.le_refl _) (fun _ _ _=>rfl) fun b _ hb=>hb.elim).cells fun o u ho=>by
     rw [Nat.zero_add]
     exact (HG3.out.rules.1 o).trans ho⟩⟩
   clear hfin
   go_wp2
   go_ret
   exact ⟨_,_,rfl,HFIN.out,HBEL.out⟩
set_option maxRecDepth 100000 in
theorem multiPointForce_any (F:Nat→Prop) (cs:List Value) (g:Gm) (c':Nat) (hc':c'≤3) (w:World) (hF:New F w) (h:Ob F w 4 cs g):Calls Tryz.prog 169 #[.agg cs.toArray,.int .u8 c'] w (IsOb F w 4 (force c' g)):=by
 obtain ⟨p,cap,c,gs,rfl,hc,rfl,hn31,hsl⟩:=h.sl (e:=1) (k:=6) rfl
 rw [force_parts (by decide) (by decide)]
 have HC:Hid (∀ W,Bel w W→Calls Tryz.prog 179 #[.slice p gs.length cap,.int .u8 c'] W (IsObs (fun b=>(F b∧b<w.heap.size)∨W.heap.size≤b) W 1 6 gs.length (gs.map (force c')))):=Lib.hid fun W hW=>pointsForce_any _ p _ cap gs c' hc' W (fun b hb=>Or.inr hb) (hsl.keep hW.size (fun b _ hl=>hW.block b hl) fun b hl hb=>Or.inl ⟨hb,hl⟩) hn31
 clear h hsl
 show Calls Tryz.prog 169 #[.agg #[.slice p gs.length cap,.int .u8 c],.int .u8 c'] w _
 generalize hn:gs.length=n at *
 have HN:=Lib.hid hn
 clear hn
 go_enter Tryz.func169,Tryz.ntmps169
 go_wp2_with (go_at_call 179;(with_reducible refine (HC.out _ ?hb).mono ?_);(case hb=>exact EL);rintro e w1 ⟨p1,c1,rfl,ho,hb1⟩;have HO:=Lib.hid ho;have B2:=(Blk.new' (w.alloc (.cells #[.slice p n cap,.int .u8 c] 121)) #[.slice none 0 0,.int .u8 0] 121 (b:=w.heap.size+1) (by simp)).bel hb1;have HB1:Hid (Bel w w1):=Lib.hid (((Bel.alloc1 w _).alloc _).trans hb1);obtain ⟨r2,z2,l2⟩:=B2.facts;have HP2:=Lib.hid B2;clear ho hb1 B2)
 refine post_ret (results_one rfl (resIs_agg (n:=2) (cs:=#[.slice p1 n c1,.int .u8 c']) (by rfl) Tryz.underlying121 (by kernel_rfl) (T:=121) ?_ rfl)) ⟨_,rfl,ObSl.ob ?_ rfl hc' (by rw [List.length_map,HN.out];exact hn31),?_⟩
 ·have HB:=HP2.out
  exact SL
 ·refine HO.out.keep (by simp) (fun b hb hl=>?_) (fun b _ hb=>?_)
  ·rw [Below.heap_setCell _ _ _ _ (by simp;simp at hb;omega),Below.heap_setCell _ _ _ _ (by simp;simp at hb;omega)]
  ·rcases hb with hb|hb
   ·exact hb.1
   ·exact hF b (by simp at hb;omega)
 ·have HB:=HB1.out
  exact EL
theorem pointOb_type {F:Nat→Prop} {cs:List Value} {g:Gm} {w0:World} (h:Ob F w0 1 cs g) (w:World):Calls Tryz.prog 111 #[.agg cs.toArray] w fun e w'=>e=.returned (.int .u8 g.dim.toNat)∧Bel w w':=by
 obtain ⟨x,y,z,m,c,full,rfl,hc,rfl⟩:=h.pt
 exact pointType_any x y z m c full w
set_option maxHeartbeats 4000000 in
set_option maxRecDepth 100000 in
theorem newMultiPoint_any (F:Nat→Prop) (p:Option Addr) (n cap:Nat) (gs:List Gm) (w:World) (hF:New F w) (hsl:ObSl F w 1 6 (.slice p n cap) gs) (hpos:0<n) (hn31:n≤1048576):Calls Tryz.prog 107 #[.slice p n cap] w (IsOb F w 4 (.mk 4 (common gs) [] (gs.map (force (common gs))))):=by
 have HSL:=Lib.hid hsl
 obtain ⟨_,_,hve,hl1,hl2,hq⟩:=hsl
 cases hve
 have hgn:gs ≠ []:=by intro e;rw [e] at hpos;simp at hpos
 obtain ⟨b,off,rfl,hlt,hFb,hr⟩:=hq hgn
 have HR:=Lib.hid hr
 clear hq hr hFb hgn
 generalize hn:gs.length=n at *
 have HN:=Lib.hid hn
 clear hn
 have hn0:((n:Int) == 0)=false:=by simp;omega
 go_enter Tryz.func107,Tryz.ntmps107
 go_wp2
 go_loopw [3,13] (fun cv iv wr=>∃ (t:Nat),cv=.int .u8 (common (gs.take t):Nat)∧iv=.int .i64 t∧t≤n∧Bel w wr∧Blk wr w.heap.size #[.slice none 0 0,.int .u8 0] 121) (fun _ iv _=>n - (intOf iv).toNat)
 case atStart=>exact ⟨0,rfl,rfl,Nat.zero_le _,by exact EL,by exact KL⟩
 case round =>
  obtain ⟨t,rfl,rfl,ht,hbel,hb1⟩:=hrel
  have HBEL:=Lib.hid hbel
  have HG1:=Lib.hid hb1
  clear hb1
  by_cases htn:t<n
  ·obtain ⟨g,hg⟩:∃ g,gs[t]?=some g:=⟨_,List.getElem?_eq_getElem (by have:=HN.out;omega)⟩
   obtain ⟨cl,hcl,hcell,hob⟩:=HR.out t g hg
   have HC:=Lib.hid (pointOb_type hob)
   obtain ⟨cg,hcg,hdim⟩:=hob.dim
   obtain ⟨x0,y0,a0,m0,d0,f0,rfl,hd0,hge⟩:=hob.pt
   have D0:=cell_kept hbel (hcell 0 (.float .f64 x0) rfl)
   have D1:=cell_kept hbel (hcell 1 (.float .f64 y0) rfl)
   have D2:=cell_kept hbel (hcell 2 (.float .f64 a0) rfl)
   have D3:=cell_kept hbel (hcell 3 (.float .f64 m0) rfl)
   have D4:=cell_kept hbel (hcell 4 (.int .u8 d0) rfl)
   have D5:=cell_kept hbel (hcell 5 (.bool f0) rfl)
   simp only [Nat.add_zero] at D0
   have E1:=D1
   rw [← Nat.add_assoc] at E1
   have E2:=D2
   rw [← Nat.add_assoc] at E2
   have E3:=D3
   rw [← Nat.add_assoc] at E3
   have E4:=D4
   rw [← Nat.add_assoc] at E4
   have E5:=D5
   rw [← Nat.add_assoc] at E5
   have hbl:b<wr.heap.size:=Nat.lt_of_lt_of_le hlt hbel.size
   have hct:=common_take hg
   have hdn:g.dim.toNat=cg:=by rw [hdim];simp
   rw [hdn] at hct HC
   have hland:=u8_land (common (gs.take t)) cg (common_le _ 3 (Nat.le_refl _)) hcg
   rw [← hct] at hland
   clear hcl hcell hob hbel hg hdim hct hdn hge
   generalize common (gs.take t)=ca at *
   generalize hcb:common (gs.take (t+1))=cb at *
   have HCB:=Lib.hid hcb
   clear hcb
   go_wp2_with (go_at_call 111;(with_reducible refine (HC.out _).mono ?_);rintro e w3 ⟨rfl,hb⟩;have C1:=HG1.out.bel ((Bel.alloc1 _ _).trans hb);have HC1:=Lib.hid C1;have HB3:Hid (Bel wr w3):=Lib.hid ((Bel.alloc1 _ _).trans hb);clear hb C1)
   go_roundw
   case rel=>exact ⟨t+1,by rw [HCB.out],by go_num,by omega,HBEL.out.trans HB3.out,HC1.out⟩
   case measure=>simp [intOf];omega
  ·obtain rfl:t=n:=by omega
   have hca:common (gs.take t)=common gs:=by rw [List.take_of_length_le (by have:=HN.out;omega)]
   rw [hca]
   have hcl3:=common_le gs 3 (Nat.le_refl _)
   have hcm:common gs≤3:=hcl3
   clear hca hcl3
   generalize common gs=c' at *
   have HC:Hid (Calls Tryz.prog 179 #[.slice (some ⟨b,off,none⟩) t cap,.int .u8 c'] wr (IsObs (fun b=>(F b∧b<w.heap.size)∨wr.heap.size≤b) wr 1 6 t (gs.map (force c')))):=Lib.hid (pointsForce_any _ _ _ cap gs c' hcm wr (fun b hb=>Or.inr hb) (HSL.out.keep hbel.size (fun b _ hl=>hbel.block b hl) fun b hl hb=>Or.inl ⟨hb,hl⟩) hn31)
   have hw1:=HG1.out.lt
   clear hbel
   go_wp2_with (go_at_call 179;(with_reducible refine HC.out.mono ?_);rintro e w1 ⟨p1,c1,rfl,ho,hb1⟩;have HO:=Lib.hid ho;have B2:=HG1.out.bel hb1;have HB1:Hid (Bel w w1):=Lib.hid (HBEL.out.trans hb1);obtain ⟨r2,z2,l2⟩:=B2.facts;have HP2:=Lib.hid B2;clear ho hb1 B2)
   refine post_ret (results_one rfl (resIs_agg (n:=2) (cs:=#[.slice p1 t c1,.int .u8 c']) (by rfl) Tryz.underlying121 (by kernel_rfl) (T:=121) ?_ rfl)) ⟨_,rfl,ObSl.ob ?_ rfl hcm (by rw [List.length_map,HN.out];exact hn31),?_⟩
   ·have HB:=HP2.out
    exact SL
   ·refine HO.out.keep (by simp) (fun b hb hl=>?_) (fun b _ hb=>?_)
    ·rw [Below.heap_setCell _ _ _ _ (by simp;omega),Below.heap_setCell _ _ _ _ (by simp;omega)]
    ·rcases hb with hb|hb
     ·exact hb.1
     ·exact hF b (by omega)
   ·have HB:=HB1.out
    exact EL
end Go.Proofs.YtpipehenfcbjbaaGreatDoor
set_option linter.unusedVariables false
namespace Go.Proofs.YtpipehenfcbjbaaGreatDoor
open Go.ChangeShapes Go.WideShapes Go.ChangeAt Go.RowKit
theorem Ob.gi {F:Nat→Prop} {w:World} {cs:List Value} {g:Gm} (h:Ob F w 7 cs g):∃ (s b:Nat) (cl:List Value),cs=[.int .i64 s,.iface (ptrT s) (.pointer (some ⟨b,0,none⟩))]∧s≤6∧b<w.heap.size∧F b∧(∀ (j:Nat) (u:Value),cl[j]?=some u→w.cell? ⟨b,j,none⟩=some u)∧Ob F w s cl g:=by
 cases h with
 | parts s e k c p cap gs cs he hc hl hcap hb h0 hkk h1=>cases he
 | geo s b cs g hs' hb hF hc h=>exact ⟨s,b,cs,rfl,hs',hb,hF,hc,h⟩
theorem check_any (s:Int) (v:Value) (w:World) (T:TypeId) (a:Addr):Calls Tryz.prog 160 #[.agg #[.int .i64 s,.iface T (.pointer (some a))],.int .i64 s] w fun e w'=>e=.returned (.tuple #[])∧Bel w w':=by
 have hs:(s != s)=false:=by simp
 go_enter Tryz.func160,Tryz.ntmps160
 go_wp2
 go_end0
 exact ⟨rfl,by exact EL⟩
set_option maxRecDepth 100000 in
theorem asGeo_0 (F:Nat→Prop) (cs:List Value) (g:Gm) (w:World) (hF:New F w) (h:Ob F w 0 cs g):Calls Tryz.prog 95 #[.agg cs.toArray] w (IsOb F w 7 g):=by
 have H:=Lib.hid h
 obtain ⟨p,cap,c,gs,hcs,-⟩:=h.sl (e:=7) (k:=2) rfl
 subst hcs
 clear h
 generalize gs.length=n at *
 show Calls Tryz.prog 95 #[.agg #[.slice p n cap,.int .u8 c]] w _
 go_enter Tryz.func95,Tryz.ntmps95
 go_wp2
 refine post_ret (results_one rfl (resIs_agg (n:=2) (cs:=#[.int .i64 0,.iface 170 (.pointer (some ⟨w.heap.size,0,none⟩))]) (by rfl) Tryz.underlying64 (by kernel_rfl) (T:=64) ?_ rfl)) ⟨_,rfl,Ob.geo 0 w.heap.size [.slice p n cap,.int .u8 c] g (by decide) ?_ (hF _ (Nat.le_refl _)) (fun j u hu=>?_) ?_,?_⟩
 ·exact SL
 ·simp;omega
 ·have hB:Blk (w.alloc (.cells #[.slice p n cap,.int .u8 c] 86)) w.heap.size #[.slice p n cap,.int .u8 c] 86:=Blk.new _ _ _
  rw [(hB.alloc _).rules.1 j]
  simpa using hu
 ·exact H.out.bel (show Bel w _ by exact EL)
 ·exact EL
set_option maxRecDepth 100000 in
theorem mustAs_0 (p:Option Addr) (n cap c:Nat) (b:Nat) (w:World) (h0:w.cell? ⟨b,0,none⟩=some (.slice p n cap)) (h1:w.cell? ⟨b,1,none⟩=some (.int .u8 c)):Calls Tryz.prog 83 #[.agg #[.int .i64 0,.iface 170 (.pointer (some ⟨b,0,none⟩))]] w fun e w'=>e=.returned (.agg #[.slice p n cap,.int .u8 c])∧Bel w w':=by
 have hb:=World.block_lt_of_cell? w _ h0
 simp only at hb
 have hta:∀ w,(Instr.typeAssert (Value.iface 170 (.pointer (some ⟨b,0,none⟩))) 20 170 false).run Tryz.prog w=.ok (.pointer (some ⟨b,0,none⟩)) w:=fun _=>by kernel_rfl
 go_enter Tryz.func83,Tryz.ntmps83
 go_wp2_with (go_at_call 160;refine (check_any _ (.bool false) _ _ _).mono ?_;rintro e w1 ⟨rfl,hb1⟩;have HB1:Hid (Bel w w1):=Lib.hid (((Bel.alloc1 w _).alloc _).trans hb1);have B1:=((Blk.new w #[.int .i64 0,.iface 170 (.pointer (some ⟨b,0,none⟩))] 64).alloc _).bel hb1;obtain ⟨r1,z1,l1⟩:=B1.facts;have B2:=(Blk.new' (w.alloc _) _ 86 (b:=w.heap.size+1) (by simp)).bel hb1;obtain ⟨r2,z2,l2⟩:=B2.facts;have HP2:=Lib.hid B2;have D0:=cell_kept HB1.out h0;have D1:=cell_kept HB1.out h1;have hbl:b<w1.heap.size:=Nat.lt_of_lt_of_le hb HB1.out.size;clear hb1 B1 B2)
 refine post_ret (results_one rfl (resIs_agg (n:=2) (cs:=#[.slice p n cap,.int .u8 c]) (by rfl) Tryz.underlying86 (by kernel_rfl) (T:=86) ?_ rfl)) ⟨rfl,?_⟩
 ·have HB:=HP2.out
  exact SL
 ·have HB:=HB1.out
  exact EL
set_option maxRecDepth 100000 in
theorem asGeo_1 (F:Nat→Prop) (cs:List Value) (g:Gm) (w:World) (hF:New F w) (h:Ob F w 1 cs g):Calls Tryz.prog 71 #[.agg cs.toArray] w (IsOb F w 7 g):=by
 have H:=Lib.hid h
 obtain ⟨x,y,z,m,c,full,hcs,-⟩:=h.pt
 subst hcs
 clear h
 show Calls Tryz.prog 71 #[.agg #[.float .f64 x,.float .f64 y,.float .f64 z,.float .f64 m,.int .u8 c,.bool full]] w _
 go_enter Tryz.func71,Tryz.ntmps71
 go_wp2
 refine post_ret (results_one rfl (resIs_agg (n:=2) (cs:=#[.int .i64 1,.iface 164 (.pointer (some ⟨w.heap.size,0,none⟩))]) (by rfl) Tryz.underlying64 (by kernel_rfl) (T:=64) ?_ rfl)) ⟨_,rfl,Ob.geo 1 w.heap.size [.float .f64 x,.float .f64 y,.float .f64 z,.float .f64 m,.int .u8 c,.bool full] g (by decide) ?_ (hF _ (Nat.le_refl _)) (fun j u hu=>?_) ?_,?_⟩
 ·exact SL
 ·simp;omega
 ·have hB:Blk (w.alloc (.cells #[.float .f64 x,.float .f64 y,.float .f64 z,.float .f64 m,.int .u8 c,.bool full] 107)) w.heap.size #[.float .f64 x,.float .f64 y,.float .f64 z,.float .f64 m,.int .u8 c,.bool full] 107:=Blk.new _ _ _
  rw [(hB.alloc _).rules.1 j]
  simpa using hu
 ·exact H.out.bel (show Bel w _ by exact EL)
 ·exact EL
set_option maxRecDepth 100000 in
theorem mustAs_1 (x y z m c:Nat) (full:Bool) (b:Nat) (w:World) (h0:w.cell? ⟨b,0,none⟩=some (.float .f64 x)) (h1:w.cell? ⟨b,1,none⟩=some (.float .f64 y)) (h2:w.cell? ⟨b,2,none⟩=some (.float .f64 z)) (h3:w.cell? ⟨b,3,none⟩=some (.float .f64 m)) (h4:w.cell? ⟨b,4,none⟩=some (.int .u8 c)) (h5:w.cell? ⟨b,5,none⟩=some (.bool full)):Calls Tryz.prog 97 #[.agg #[.int .i64 1,.iface 164 (.pointer (some ⟨b,0,none⟩))]] w fun e w'=>e=.returned (.agg #[.float .f64 x,.float .f64 y,.float .f64 z,.float .f64 m,.int .u8 c,.bool full])∧Bel w w':=by
 have hb:=World.block_lt_of_cell? w _ h0
 simp only at hb
 have hta:∀ w,(Instr.typeAssert (Value.iface 164 (.pointer (some ⟨b,0,none⟩))) 20 164 false).run Tryz.prog w=.ok (.pointer (some ⟨b,0,none⟩)) w:=fun _=>by kernel_rfl
 go_enter Tryz.func97,Tryz.ntmps97
 go_wp2_with (go_at_call 160;refine (check_any _ (.bool false) _ _ _).mono ?_;rintro e w1 ⟨rfl,hb1⟩;have HB1:Hid (Bel w w1):=Lib.hid (((Bel.alloc1 w _).alloc _).trans hb1);have B1:=((Blk.new w #[.int .i64 1,.iface 164 (.pointer (some ⟨b,0,none⟩))] 64).alloc _).bel hb1;obtain ⟨r1,z1,l1⟩:=B1.facts;have B2:=(Blk.new' (w.alloc _) _ 107 (b:=w.heap.size+1) (by simp)).bel hb1;obtain ⟨r2,z2,l2⟩:=B2.facts;have HP2:=Lib.hid B2;have D0:=cell_kept HB1.out h0;have D1:=cell_kept HB1.out h1;have D2:=cell_kept HB1.out h2;have D3:=cell_kept HB1.out h3;have D4:=cell_kept HB1.out h4;have D5:=cell_kept HB1.out h5;have hbl:b<w1.heap.size:=Nat.lt_of_lt_of_le hb HB1.out.size;clear hb1 B1 B2)
 refine post_ret (results_one rfl (resIs_agg (n:=6) (cs:=#[.float .f64 x,.float .f64 y,.float .f64 z,.float .f64 m,.int .u8 c,.bool full]) (by rfl) Tryz.underlying107 (by kernel_rfl) (T:=107) ?_ rfl)) ⟨rfl,?_⟩
 ·have HB:=HP2.out
  exact SL
 ·have HB:=HB1.out
  exact EL
set_option maxRecDepth 100000 in
theorem asGeo_2 (F:Nat→Prop) (cs:List Value) (g:Gm) (w:World) (hF:New F w) (h:Ob F w 2 cs g):Calls Tryz.prog 74 #[.agg cs.toArray] w (IsOb F w 7 g):=by
 have H:=Lib.hid h
 obtain ⟨c,p,n,cap,xs,hcs,-⟩:=h.ln
 subst hcs
 clear h
 show Calls Tryz.prog 74 #[.agg #[.int .u8 c,.slice p n cap]] w _
 go_enter Tryz.func74,Tryz.ntmps74
 go_wp2
 refine post_ret (results_one rfl (resIs_agg (n:=2) (cs:=#[.int .i64 2,.iface 162 (.pointer (some ⟨w.heap.size,0,none⟩))]) (by rfl) Tryz.underlying64 (by kernel_rfl) (T:=64) ?_ rfl)) ⟨_,rfl,Ob.geo 2 w.heap.size [.int .u8 c,.slice p n cap] g (by decide) ?_ (hF _ (Nat.le_refl _)) (fun j u hu=>?_) ?_,?_⟩
 ·exact SL
 ·simp;omega
 ·have hB:Blk (w.alloc (.cells #[.int .u8 c,.slice p n cap] 111)) w.heap.size #[.int .u8 c,.slice p n cap] 111:=Blk.new _ _ _
  rw [(hB.alloc _).rules.1 j]
  simpa using hu
 ·exact H.out.bel (show Bel w _ by exact EL)
 ·exact EL
set_option maxRecDepth 100000 in
theorem mustAs_2 (c:Nat) (p:Option Addr) (n cap:Nat) (b:Nat) (w:World) (h0:w.cell? ⟨b,0,none⟩=some (.int .u8 c)) (h1:w.cell? ⟨b,1,none⟩=some (.slice p n cap)):Calls Tryz.prog 67 #[.agg #[.int .i64 2,.iface 162 (.pointer (some ⟨b,0,none⟩))]] w fun e w'=>e=.returned (.agg #[.int .u8 c,.slice p n cap])∧Bel w w':=by
 have hb:=World.block_lt_of_cell? w _ h0
 simp only at hb
 have hta:∀ w,(Instr.typeAssert (Value.iface 162 (.pointer (some ⟨b,0,none⟩))) 20 162 false).run Tryz.prog w=.ok (.pointer (some ⟨b,0,none⟩)) w:=fun _=>by kernel_rfl
 go_enter Tryz.func67,Tryz.ntmps67
 go_wp2_with (go_at_call 160;refine (check_any _ (.bool false) _ _ _).mono ?_;rintro e w1 ⟨rfl,hb1⟩;have HB1:Hid (Bel w w1):=Lib.hid (((Bel.alloc1 w _).alloc _).trans hb1);have B1:=((Blk.new w #[.int .i64 2,.iface 162 (.pointer (some ⟨b,0,none⟩))] 64).alloc _).bel hb1;obtain ⟨r1,z1,l1⟩:=B1.facts;have B2:=(Blk.new' (w.alloc _) _ 111 (b:=w.heap.size+1) (by simp)).bel hb1;obtain ⟨r2,z2,l2⟩:=B2.facts;have HP2:=Lib.hid B2;have D0:=cell_kept HB1.out h0;have D1:=cell_kept HB1.out h1;have hbl:b<w1.heap.size:=Nat.lt_of_lt_of_le hb HB1.out.size;clear hb1 B1 B2)
 refine post_ret (results_one rfl (resIs_agg (n:=2) (cs:=#[.int .u8 c,.slice p n cap]) (by rfl) Tryz.underlying111 (by kernel_rfl) (T:=111) ?_ rfl)) ⟨rfl,?_⟩
 ·have HB:=HP2.out
  exact SL
 ·have HB:=HB1.out
  exact EL
set_option maxRecDepth 100000 in
theorem asGeo_3 (F:Nat→Prop) (cs:List Value) (g:Gm) (w:World) (hF:New F w) (h:Ob F w 3 cs g):Calls Tryz.prog 82 #[.agg cs.toArray] w (IsOb F w 7 g):=by
 have H:=Lib.hid h
 obtain ⟨p,cap,c,gs,hcs,-⟩:=h.sl (e:=2) (k:=2) rfl
 subst hcs
 clear h
 generalize gs.length=n at *
 show Calls Tryz.prog 82 #[.agg #[.slice p n cap,.int .u8 c]] w _
 go_enter Tryz.func82,Tryz.ntmps82
 go_wp2
 refine post_ret (results_one rfl (resIs_agg (n:=2) (cs:=#[.int .i64 3,.iface 165 (.pointer (some ⟨w.heap.size,0,none⟩))]) (by rfl) Tryz.underlying64 (by kernel_rfl) (T:=64) ?_ rfl)) ⟨_,rfl,Ob.geo 3 w.heap.size [.slice p n cap,.int .u8 c] g (by decide) ?_ (hF _ (Nat.le_refl _)) (fun j u hu=>?_) ?_,?_⟩
 ·exact SL
 ·simp;omega
 ·have hB:Blk (w.alloc (.cells #[.slice p n cap,.int .u8 c] 91)) w.heap.size #[.slice p n cap,.int .u8 c] 91:=Blk.new _ _ _
  rw [(hB.alloc _).rules.1 j]
  simpa using hu
 ·exact H.out.bel (show Bel w _ by exact EL)
 ·exact EL
set_option maxRecDepth 100000 in
theorem mustAs_3 (p:Option Addr) (n cap c:Nat) (b:Nat) (w:World) (h0:w.cell? ⟨b,0,none⟩=some (.slice p n cap)) (h1:w.cell? ⟨b,1,none⟩=some (.int .u8 c)):Calls Tryz.prog 72 #[.agg #[.int .i64 3,.iface 165 (.pointer (some ⟨b,0,none⟩))]] w fun e w'=>e=.returned (.agg #[.slice p n cap,.int .u8 c])∧Bel w w':=by
 have hb:=World.block_lt_of_cell? w _ h0
 simp only at hb
 have hta:∀ w,(Instr.typeAssert (Value.iface 165 (.pointer (some ⟨b,0,none⟩))) 20 165 false).run Tryz.prog w=.ok (.pointer (some ⟨b,0,none⟩)) w:=fun _=>by kernel_rfl
 go_enter Tryz.func72,Tryz.ntmps72
 go_wp2_with (go_at_call 160;refine (check_any _ (.bool false) _ _ _).mono ?_;rintro e w1 ⟨rfl,hb1⟩;have HB1:Hid (Bel w w1):=Lib.hid (((Bel.alloc1 w _).alloc _).trans hb1);have B1:=((Blk.new w #[.int .i64 3,.iface 165 (.pointer (some ⟨b,0,none⟩))] 64).alloc _).bel hb1;obtain ⟨r1,z1,l1⟩:=B1.facts;have B2:=(Blk.new' (w.alloc _) _ 91 (b:=w.heap.size+1) (by simp)).bel hb1;obtain ⟨r2,z2,l2⟩:=B2.facts;have HP2:=Lib.hid B2;have D0:=cell_kept HB1.out h0;have D1:=cell_kept HB1.out h1;have hbl:b<w1.heap.size:=Nat.lt_of_lt_of_le hb HB1.out.size;clear hb1 B1 B2)
 refine post_ret (results_one rfl (resIs_agg (n:=2) (cs:=#[.slice p n cap,.int .u8 c]) (by rfl) Tryz.underlying91 (by kernel_rfl) (T:=91) ?_ rfl)) ⟨rfl,?_⟩
 ·have HB:=HP2.out
  exact SL
 ·have HB:=HB1.out
  exact EL
set_option maxRecDepth 100000 in
theorem asGeo_4 (F:Nat→Prop) (cs:List Value) (g:Gm) (w:World) (hF:New F w) (h:Ob F w 4 cs g):Calls Tryz.prog 89 #[.agg cs.toArray] w (IsOb F w 7 g):=by
 have H:=Lib.hid h
 obtain ⟨p,cap,c,gs,hcs,-⟩:=h.sl (e:=1) (k:=6) rfl
 subst hcs
 clear h
 generalize gs.length=n at *
 show Calls Tryz.prog 89 #[.agg #[.slice p n cap,.int .u8 c]] w _
 go_enter Tryz.func89,Tryz.ntmps89
 go_wp2
 refine post_ret (results_one rfl (resIs_agg (n:=2) (cs:=#[.int .i64 4,.iface 167 (.pointer (some ⟨w.heap.size,0,none⟩))]) (by rfl) Tryz.underlying64 (by kernel_rfl) (T:=64) ?_ rfl)) ⟨_,rfl,Ob.geo 4 w.heap.size [.slice p n cap,.int .u8 c] g (by decide) ?_ (hF _ (Nat.le_refl _)) (fun j u hu=>?_) ?_,?_⟩
 ·exact SL
 ·simp;omega
 ·have hB:Blk (w.alloc (.cells #[.slice p n cap,.int .u8 c] 121)) w.heap.size #[.slice p n cap,.int .u8 c] 121:=Blk.new _ _ _
  rw [(hB.alloc _).rules.1 j]
  simpa using hu
 ·exact H.out.bel (show Bel w _ by exact EL)
 ·exact EL
set_option maxRecDepth 100000 in
theorem mustAs_4 (p:Option Addr) (n cap c:Nat) (b:Nat) (w:World) (h0:w.cell? ⟨b,0,none⟩=some (.slice p n cap)) (h1:w.cell? ⟨b,1,none⟩=some (.int .u8 c)):Calls Tryz.prog 76 #[.agg #[.int .i64 4,.iface 167 (.pointer (some ⟨b,0,none⟩))]] w fun e w'=>e=.returned (.agg #[.slice p n cap,.int .u8 c])∧Bel w w':=by
 have hb:=World.block_lt_of_cell? w _ h0
 simp only at hb
 have hta:∀ w,(Instr.typeAssert (Value.iface 167 (.pointer (some ⟨b,0,none⟩))) 20 167 false).run Tryz.prog w=.ok (.pointer (some ⟨b,0,none⟩)) w:=fun _=>by kernel_rfl
 go_enter Tryz.func76,Tryz.ntmps76
 go_wp2_with (go_at_call 160;refine (check_any _ (.bool false) _ _ _).mono ?_;rintro e w1 ⟨rfl,hb1⟩;have HB1:Hid (Bel w w1):=Lib.hid (((Bel.alloc1 w _).alloc _).trans hb1);have B1:=((Blk.new w #[.int .i64 4,.iface 167 (.pointer (some ⟨b,0,none⟩))] 64).alloc _).bel hb1;obtain ⟨r1,z1,l1⟩:=B1.facts;have B2:=(Blk.new' (w.alloc _) _ 121 (b:=w.heap.size+1) (by simp)).bel hb1;obtain ⟨r2,z2,l2⟩:=B2.facts;have HP2:=Lib.hid B2;have D0:=cell_kept HB1.out h0;have D1:=cell_kept HB1.out h1;have hbl:b<w1.heap.size:=Nat.lt_of_lt_of_le hb HB1.out.size;clear hb1 B1 B2)
 refine post_ret (results_one rfl (resIs_agg (n:=2) (cs:=#[.slice p n cap,.int .u8 c]) (by rfl) Tryz.underlying121 (by kernel_rfl) (T:=121) ?_ rfl)) ⟨rfl,?_⟩
 ·have HB:=HP2.out
  exact SL
 ·have HB:=HB1.out
  exact EL
set_option maxRecDepth 100000 in
theorem asGeo_5 (F:Nat→Prop) (cs:List Value) (g:Gm) (w:World) (hF:New F w) (h:Ob F w 5 cs g):Calls Tryz.prog 91 #[.agg cs.toArray] w (IsOb F w 7 g):=by
 have H:=Lib.hid h
 obtain ⟨p,cap,c,gs,hcs,-⟩:=h.sl (e:=2) (k:=2) rfl
 subst hcs
 clear h
 generalize gs.length=n at *
 show Calls Tryz.prog 91 #[.agg #[.slice p n cap,.int .u8 c]] w _
 go_enter Tryz.func91,Tryz.ntmps91
 go_wp2
 refine post_ret (results_one rfl (resIs_agg (n:=2) (cs:=#[.int .i64 5,.iface 168 (.pointer (some ⟨w.heap.size,0,none⟩))]) (by rfl) Tryz.underlying64 (by kernel_rfl) (T:=64) ?_ rfl)) ⟨_,rfl,Ob.geo 5 w.heap.size [.slice p n cap,.int .u8 c] g (by decide) ?_ (hF _ (Nat.le_refl _)) (fun j u hu=>?_) ?_,?_⟩
 ·exact SL
 ·simp;omega
 ·have hB:Blk (w.alloc (.cells #[.slice p n cap,.int .u8 c] 125)) w.heap.size #[.slice p n cap,.int .u8 c] 125:=Blk.new _ _ _
  rw [(hB.alloc _).rules.1 j]
  simpa using hu
 ·exact H.out.bel (show Bel w _ by exact EL)
 ·exact EL
set_option maxRecDepth 100000 in
theorem mustAs_5 (p:Option Addr) (n cap c:Nat) (b:Nat) (w:World) (h0:w.cell? ⟨b,0,none⟩=some (.slice p n cap)) (h1:w.cell? ⟨b,1,none⟩=some (.int .u8 c)):Calls Tryz.prog 78 #[.agg #[.int .i64 5,.iface 168 (.pointer (some ⟨b,0,none⟩))]] w fun e w'=>e=.returned (.agg #[.slice p n cap,.int .u8 c])∧Bel w w':=by
 have hb:=World.block_lt_of_cell? w _ h0
 simp only at hb
 have hta:∀ w,(Instr.typeAssert (Value.iface 168 (.pointer (some ⟨b,0,none⟩))) 20 168 false).run Tryz.prog w=.ok (.pointer (some ⟨b,0,none⟩)) w:=fun _=>by kernel_rfl
 go_enter Tryz.func78,Tryz.ntmps78
 go_wp2_with (go_at_call 160;refine (check_any _ (.bool false) _ _ _).mono ?_;rintro e w1 ⟨rfl,hb1⟩;have HB1:Hid (Bel w w1):=Lib.hid (((Bel.alloc1 w _).alloc _).trans hb1);have B1:=((Blk.new w #[.int .i64 5,.iface 168 (.pointer (some ⟨b,0,none⟩))] 64).alloc _).bel hb1;obtain ⟨r1,z1,l1⟩:=B1.facts;have B2:=(Blk.new' (w.alloc _) _ 125 (b:=w.heap.size+1) (by simp)).bel hb1;obtain ⟨r2,z2,l2⟩:=B2.facts;have HP2:=Lib.hid B2;have D0:=cell_kept HB1.out h0;have D1:=cell_kept HB1.out h1;have hbl:b<w1.heap.size:=Nat.lt_of_lt_of_le hb HB1.out.size;clear hb1 B1 B2)
 refine post_ret (results_one rfl (resIs_agg (n:=2) (cs:=#[.slice p n cap,.int .u8 c]) (by rfl) Tryz.underlying125 (by kernel_rfl) (T:=125) ?_ rfl)) ⟨rfl,?_⟩
 ·have HB:=HP2.out
  exact SL
 ·have HB:=HB1.out
  exact EL
set_option maxRecDepth 100000 in
theorem asGeo_6 (F:Nat→Prop) (cs:List Value) (g:Gm) (w:World) (hF:New F w) (h:Ob F w 6 cs g):Calls Tryz.prog 93 #[.agg cs.toArray] w (IsOb F w 7 g):=by
 have H:=Lib.hid h
 obtain ⟨p,cap,c,gs,hcs,-⟩:=h.sl (e:=3) (k:=2) rfl
 subst hcs
 clear h
 generalize gs.length=n at *
 show Calls Tryz.prog 93 #[.agg #[.slice p n cap,.int .u8 c]] w _
 go_enter Tryz.func93,Tryz.ntmps93
 go_wp2
 refine post_ret (results_one rfl (resIs_agg (n:=2) (cs:=#[.int .i64 6,.iface 169 (.pointer (some ⟨w.heap.size,0,none⟩))]) (by rfl) Tryz.underlying64 (by kernel_rfl) (T:=64) ?_ rfl)) ⟨_,rfl,Ob.geo 6 w.heap.size [.slice p n cap,.int .u8 c] g (by decide) ?_ (hF _ (Nat.le_refl _)) (fun j u hu=>?_) ?_,?_⟩
 ·exact SL
 ·simp;omega
 ·have hB:Blk (w.alloc (.cells #[.slice p n cap,.int .u8 c] 129)) w.heap.size #[.slice p n cap,.int .u8 c] 129:=Blk.new _ _ _
  rw [(hB.alloc _).rules.1 j]
  simpa using hu
 ·exact H.out.bel (show Bel w _ by exact EL)
 ·exact EL
set_option maxRecDepth 100000 in
theorem mustAs_6 (p:Option Addr) (n cap c:Nat) (b:Nat) (w:World) (h0:w.cell? ⟨b,0,none⟩=some (.slice p n cap)) (h1:w.cell? ⟨b,1,none⟩=some (.int .u8 c)):Calls Tryz.prog 80 #[.agg #[.int .i64 6,.iface 169 (.pointer (some ⟨b,0,none⟩))]] w fun e w'=>e=.returned (.agg #[.slice p n cap,.int .u8 c])∧Bel w w':=by
 have hb:=World.block_lt_of_cell? w _ h0
 simp only at hb
 have hta:∀ w,(Instr.typeAssert (Value.iface 169 (.pointer (some ⟨b,0,none⟩))) 20 169 false).run Tryz.prog w=.ok (.pointer (some ⟨b,0,none⟩)) w:=fun _=>by kernel_rfl
 go_enter Tryz.func80,Tryz.ntmps80
 go_wp2_with (go_at_call 160;refine (check_any _ (.bool false) _ _ _).mono ?_;rintro e w1 ⟨rfl,hb1⟩;have HB1:Hid (Bel w w1):=Lib.hid (((Bel.alloc1 w _).alloc _).trans hb1);have B1:=((Blk.new w #[.int .i64 6,.iface 169 (.pointer (some ⟨b,0,none⟩))] 64).alloc _).bel hb1;obtain ⟨r1,z1,l1⟩:=B1.facts;have B2:=(Blk.new' (w.alloc _) _ 129 (b:=w.heap.size+1) (by simp)).bel hb1;obtain ⟨r2,z2,l2⟩:=B2.facts;have HP2:=Lib.hid B2;have D0:=cell_kept HB1.out h0;have D1:=cell_kept HB1.out h1;have hbl:b<w1.heap.size:=Nat.lt_of_lt_of_le hb HB1.out.size;clear hb1 B1 B2)
 refine post_ret (results_one rfl (resIs_agg (n:=2) (cs:=#[.slice p n cap,.int .u8 c]) (by rfl) Tryz.underlying129 (by kernel_rfl) (T:=129) ?_ rfl)) ⟨rfl,?_⟩
 ·have HB:=HP2.out
  exact SL
 ·have HB:=HB1.out
  exact EL
end Go.Proofs.YtpipehenfcbjbaaGreatDoor
