/-
 impl.newOf: a geometry of a kind made of parts. No panic;what stood in memory has not turned.
-/
import Derived.Test.YtpipehenfcbjbaaGreatDoorPyg
import Derived.Test.YtpipehenfcbjbaaGreatDoorPag
import Derived.Test.YtpipehenfcbjbaaGreatDoorPai
import Derived.Test.YtpipehenfcbjbaaGreatDoorPyh
set_option linter.unusedVariables false
set_option linter.unusedSimpArgs false
namespace Go.Proofs.YtpipehenfcbjbaaGreatDoor
open Go.ChangeShapes Go.WideShapes Go.ChangeAt Go.RowKit
theorem wpList_append_run {P:Program} (w:World) {ops:Array Oper} {rest:List Oper} {o:Oper} {a:Act} {Q:Exit→Act→World→Prop} (hgd:o.guard=none) (s x:Operand) (t:TypeId)
  (ho:o.op=.call { callee:=.builtin .append,args:=#[s,x],argTypes:=#[t,t] }) (v u:Value) (hs:a.eval s=v) (hx:a.eval x=u) {v':Value} {w':World}
  (hr:(Builtin.append_ #[t,t] o.type #[v,u]).run P w=.ok v' w') (h:wpList P ops Q rest (a.put o.dst v') w'):wpList P ops Q (o :: rest) a w:=by
 refine wpList_plain hgd fun K hK=>?_
 unfold Oper.wp execOp
 simp only [ho,resolve,invoke,builtin,Sem.run_bind,Sem.run_pure,Result.andThen_ok,List.map_toArray,List.map_cons,List.map_nil,hs,hx,hr]
 exact hK _ _ h
theorem Rows3.off {A B:Nat} {w:World} {v:Nat→Value} {n:Nat→Nat} {xs:Nat→List Value} {L:List Gm} (h:Rows3 A B w v n xs L) (hA:A<B) (hw:A<w.heap.size) {b:Nat} (hb:b<A∨w.heap.size≤b):Off A v b:=⟨by omega,fun j hj e=>by
 have:=(h.own j hj).lt b e
 omega⟩
theorem Rows3.obs {A B:Nat} {w:World} {v:Nat→Value} {n:Nat→Nat} {xs:Nat→List Value} {L:List Gm} (h:Rows3 A B w v n xs L) (hA:A<B) {i:Nat} (hi:i<3):ObSl (fun b=>b ≠ A) w (i+1) (kOf i) (v i) (newAll ((i:Int)+1) L) :=
 own_obs (h.own i hi) (fun t g hg=>by
  obtain ⟨cl,h1,h2,h3⟩:=h.row i hi t g hg
  exact ⟨cl,h1,h2,h3.mono fun b _ hb=>hb.1⟩) (h.len i hi) fun b hb=>by
  have:=((h.own i hi).lt b hb).1
  omega
/-- What a kind's New makes of parts. -/
def joinG (s:Nat) (gs:List Gm):Gm:=if gs=[] then .mk s 0 [] [] else .mk s (common gs) [] (gs.map (force (common gs)))
set_option maxHeartbeats 4000000 in
set_option maxRecDepth 100000 in
theorem newNone_3 (p:Option Addr) (cap:Nat) (w:World):Calls Tryz.prog 106 #[.slice p 0 cap] w fun e w'=>e=.returned (.agg #[.slice none 0 0,.int .u8 0])∧Bel w w':=by
 obtain ⟨i0,hi,hz0,hz1,hz2⟩:=info_parts infoLn
 have hap:∀ W:World,(Builtin.append_ #[89,89] 89 #[.slice none 0 0,.slice p 0 cap]).run Tryz.prog W=.ok (.slice none 0 0) W:=fun W=>run_append_zero W 0 89 89 111 i0 2 Tryz.underlying89 hi (.slice none 0 0) 0 [] (World.ownsRow_nil _ _ _ _) p cap
 go_enter Tryz.func106,Tryz.ntmps106
 go_wp2_with (at_builtin;refine wpList_append_run _ rfl (.const (.slice none 0 0)) (.tmp 21) 89 rfl (.slice none 0 0) (.slice p 0 cap) rfl rfl (hap _) ?_)
 go_loopw [25] (fun iv wr=>iv=.int .i64 0∧Bel w wr∧Blk wr w.heap.size #[.slice none 0 0,.int .u8 0] 91) (fun _ _=>0)
 case atStart=>exact ⟨rfl,by exact EL,by exact KL⟩
 obtain ⟨rfl,hbel2,hb2⟩:=hrel
 have HBEL2:=Lib.hid hbel2
 obtain ⟨r2,y2,l2⟩:=hb2.facts
 have HG2:=Lib.hid hb2
 clear hbel2 hb2
 go_wp2
 refine post_ret (results_one rfl (resIs_agg (n:=2) (cs:=#[.slice none 0 0,.int .u8 0]) (by rfl) Tryz.underlying91 (by kernel_rfl) (T:=91) ?_ rfl)) ⟨rfl,?_⟩
 ·(have HB:=HG2.out;exact SL)
 ·(have HB:=HBEL2.out;exact EL)
theorem newJoin_3 (F:Nat→Prop) (p:Option Addr) (n cap:Nat) (gs:List Gm) (w:World) (hF:New F w) (hsl:ObSl F w 2 2 (.slice p n cap) gs) (hn:gs.length=n) (hn31:n≤1048576):Calls Tryz.prog 106 #[.slice p n cap] w (IsOb F w 3 (joinG 3 gs)):=by
 unfold joinG
 by_cases h0:gs=[]
 ·subst h0
  have hn0:n=0:=by simpa using hn.symm
  subst hn0
  rw [if_pos rfl]
  refine (newNone_3 p cap w).mono ?_
  rintro e w' ⟨rfl,hb⟩
  exact ⟨[.slice none 0 0,.int .u8 0],rfl,Ob.parts 3 2 2 0 none 0 [] (fun _=>[]) rfl (by omega) (by simp) (by simp) (by simp) (fun h=>absurd rfl h) (fun i g hg=>by simp at hg) (fun i g hg=>by simp at hg),hb⟩
 ·rw [if_neg h0]
  exact newPolygon_any F p n cap gs w hF hsl (by
   rcases Nat.eq_zero_or_pos n with e|e
   ·rw [e] at hn
    exact absurd (List.length_eq_zero_iff.1 hn) h0
   ·exact e) hn31
set_option maxHeartbeats 4000000 in
set_option maxRecDepth 100000 in
theorem newNone_4 (p:Option Addr) (cap:Nat) (w:World):Calls Tryz.prog 107 #[.slice p 0 cap] w fun e w'=>e=.returned (.agg #[.slice none 0 0,.int .u8 0])∧Bel w w':=by
 go_enter Tryz.func107,Tryz.ntmps107
 go_wp2
 refine post_ret (results_one rfl (resIs_agg (n:=2) (cs:=#[.slice none 0 0,.int .u8 0]) (by rfl) Tryz.underlying121 (by kernel_rfl) (T:=121) ?_ rfl)) ⟨rfl,?_⟩
 ·(exact SL)
 ·(exact EL)
theorem newJoin_4 (F:Nat→Prop) (p:Option Addr) (n cap:Nat) (gs:List Gm) (w:World) (hF:New F w) (hsl:ObSl F w 1 6 (.slice p n cap) gs) (hn:gs.length=n) (hn31:n≤1048576):Calls Tryz.prog 107 #[.slice p n cap] w (IsOb F w 4 (joinG 4 gs)):=by
 unfold joinG
 by_cases h0:gs=[]
 ·subst h0
  have hn0:n=0:=by simpa using hn.symm
  subst hn0
  rw [if_pos rfl]
  refine (newNone_4 p cap w).mono ?_
  rintro e w' ⟨rfl,hb⟩
  exact ⟨[.slice none 0 0,.int .u8 0],rfl,Ob.parts 4 1 6 0 none 0 [] (fun _=>[]) rfl (by omega) (by simp) (by simp) (by simp) (fun h=>absurd rfl h) (fun i g hg=>by simp at hg) (fun i g hg=>by simp at hg),hb⟩
 ·rw [if_neg h0]
  exact newMultiPoint_any F p n cap gs w hF hsl (by
   rcases Nat.eq_zero_or_pos n with e|e
   ·rw [e] at hn
    exact absurd (List.length_eq_zero_iff.1 hn) h0
   ·exact e) hn31
set_option maxHeartbeats 4000000 in
set_option maxRecDepth 100000 in
theorem newNone_5 (p:Option Addr) (cap:Nat) (w:World):Calls Tryz.prog 108 #[.slice p 0 cap] w fun e w'=>e=.returned (.agg #[.slice none 0 0,.int .u8 0])∧Bel w w':=by
 go_enter Tryz.func108,Tryz.ntmps108
 go_wp2
 refine post_ret (results_one rfl (resIs_agg (n:=2) (cs:=#[.slice none 0 0,.int .u8 0]) (by rfl) Tryz.underlying125 (by kernel_rfl) (T:=125) ?_ rfl)) ⟨rfl,?_⟩
 ·(exact SL)
 ·(exact EL)
theorem newJoin_5 (F:Nat→Prop) (p:Option Addr) (n cap:Nat) (gs:List Gm) (w:World) (hF:New F w) (hsl:ObSl F w 2 2 (.slice p n cap) gs) (hn:gs.length=n) (hn31:n≤1048576):Calls Tryz.prog 108 #[.slice p n cap] w (IsOb F w 5 (joinG 5 gs)):=by
 unfold joinG
 by_cases h0:gs=[]
 ·subst h0
  have hn0:n=0:=by simpa using hn.symm
  subst hn0
  rw [if_pos rfl]
  refine (newNone_5 p cap w).mono ?_
  rintro e w' ⟨rfl,hb⟩
  exact ⟨[.slice none 0 0,.int .u8 0],rfl,Ob.parts 5 2 2 0 none 0 [] (fun _=>[]) rfl (by omega) (by simp) (by simp) (by simp) (fun h=>absurd rfl h) (fun i g hg=>by simp at hg) (fun i g hg=>by simp at hg),hb⟩
 ·rw [if_neg h0]
  exact newMultiLine_any F p n cap gs w hF hsl (by
   rcases Nat.eq_zero_or_pos n with e|e
   ·rw [e] at hn
    exact absurd (List.length_eq_zero_iff.1 hn) h0
   ·exact e) hn31
set_option maxHeartbeats 4000000 in
set_option maxRecDepth 100000 in
theorem newNone_6 (p:Option Addr) (cap:Nat) (w:World):Calls Tryz.prog 109 #[.slice p 0 cap] w fun e w'=>e=.returned (.agg #[.slice none 0 0,.int .u8 0])∧Bel w w':=by
 obtain ⟨i0,hi,hz0,hz1,hz2⟩:=info_parts infoPg
 have hap:∀ W:World,(Builtin.append_ #[127,127] 127 #[.slice none 0 0,.slice p 0 cap]).run Tryz.prog W=.ok (.slice none 0 0) W:=fun W=>run_append_zero W 0 127 127 91 i0 2 Tryz.underlying127 hi (.slice none 0 0) 0 [] (World.ownsRow_nil _ _ _ _) p cap
 go_enter Tryz.func109,Tryz.ntmps109
 go_wp2_with (at_builtin;refine wpList_append_run _ rfl (.const (.slice none 0 0)) (.tmp 21) 127 rfl (.slice none 0 0) (.slice p 0 cap) rfl rfl (hap _) ?_)
 go_loopw [25] (fun iv wr=>iv=.int .i64 0∧Bel w wr∧Blk wr w.heap.size #[.slice none 0 0,.int .u8 0] 129) (fun _ _=>0)
 case atStart=>exact ⟨rfl,by exact EL,by exact KL⟩
 obtain ⟨rfl,hbel2,hb2⟩:=hrel
 have HBEL2:=Lib.hid hbel2
 obtain ⟨r2,y2,l2⟩:=hb2.facts
 have HG2:=Lib.hid hb2
 clear hbel2 hb2
 go_wp2
 refine post_ret (results_one rfl (resIs_agg (n:=2) (cs:=#[.slice none 0 0,.int .u8 0]) (by rfl) Tryz.underlying129 (by kernel_rfl) (T:=129) ?_ rfl)) ⟨rfl,?_⟩
 ·(have HB:=HG2.out;exact SL)
 ·(have HB:=HBEL2.out;exact EL)
theorem newJoin_6 (F:Nat→Prop) (p:Option Addr) (n cap:Nat) (gs:List Gm) (w:World) (hF:New F w) (hsl:ObSl F w 3 2 (.slice p n cap) gs) (hn:gs.length=n) (hn31:n≤1048576):Calls Tryz.prog 109 #[.slice p n cap] w (IsOb F w 6 (joinG 6 gs)):=by
 unfold joinG
 by_cases h0:gs=[]
 ·subst h0
  have hn0:n=0:=by simpa using hn.symm
  subst hn0
  rw [if_pos rfl]
  refine (newNone_6 p cap w).mono ?_
  rintro e w' ⟨rfl,hb⟩
  exact ⟨[.slice none 0 0,.int .u8 0],rfl,Ob.parts 6 3 2 0 none 0 [] (fun _=>[]) rfl (by omega) (by simp) (by simp) (by simp) (fun h=>absurd rfl h) (fun i g hg=>by simp at hg) (fun i g hg=>by simp at hg),hb⟩
 ·rw [if_neg h0]
  exact newMultiPolygon_any F p n cap gs w hF hsl (by
   rcases Nat.eq_zero_or_pos n with e|e
   ·rw [e] at hn
    exact absurd (List.length_eq_zero_iff.1 hn) h0
   ·exact e) hn31
set_option maxHeartbeats 4000000 in
set_option maxRecDepth 100000 in
theorem newNone_0 (p:Option Addr) (cap:Nat) (w:World):Calls Tryz.prog 104 #[.slice p 0 cap] w fun e w'=>e=.returned (.agg #[.slice none 0 0,.int .u8 0])∧Bel w w':=by
 go_enter Tryz.func104,Tryz.ntmps104
 go_wp2
 refine post_ret (results_one rfl (resIs_agg (n:=2) (cs:=#[.slice none 0 0,.int .u8 0]) (by rfl) Tryz.underlying86 (by kernel_rfl) (T:=86) ?_ rfl)) ⟨rfl,?_⟩
 ·(exact SL)
 ·(exact EL)
theorem newJoin_0 (F:Nat→Prop) (p:Option Addr) (n cap:Nat) (gs:List Gm) (w:World) (hF:New F w) (hsl:ObSl F w 7 2 (.slice p n cap) gs) (hn:gs.length=n) (hn31:n≤1048576):Calls Tryz.prog 104 #[.slice p n cap] w (IsOb F w 0 (joinG 0 gs)):=by
 unfold joinG
 by_cases h0:gs=[]
 ·subst h0
  have hn0:n=0:=by simpa using hn.symm
  subst hn0
  rw [if_pos rfl]
  refine (newNone_0 p cap w).mono ?_
  rintro e w' ⟨rfl,hb⟩
  exact ⟨[.slice none 0 0,.int .u8 0],rfl,Ob.parts 0 7 2 0 none 0 [] (fun _=>[]) rfl (by omega) (by simp) (by simp) (by simp) (fun h=>absurd rfl h) (fun i g hg=>by simp at hg) (fun i g hg=>by simp at hg),hb⟩
 ·rw [if_neg h0]
  exact newColl_any F p n cap gs w hF hsl (by
   rcases Nat.eq_zero_or_pos n with e|e
   ·rw [e] at hn
    exact absurd (List.length_eq_zero_iff.1 hn) h0
   ·exact e) hn31
set_option maxHeartbeats 16000000 in
set_option maxRecDepth 100000 in
theorem newOf_4 (ks:List Gm) (hsz:∀ k ∈ ks,k.size≤1048576) (hn31:ks.length≤1048576) (F:Nat→Prop) (pk:Option Addr) (ck:Nat) (w:World) (hK:GmSl F w (.slice pk ks.length ck) ks):Calls Tryz.prog 41 #[.int .i64 4,.slice pk ks.length ck] w (IsPart (joinG 4 (newAll 1 ks)) w):=by
 have HK:=Lib.hid hK
 have HSZ:=Lib.hid hsz
 have HNW:Hid (∀ W:World,w.heap.size<W.heap.size→New (fun b=>b ≠ w.heap.size) W):=Lib.hid fun W hW b hb=>by omega
 have HAG:Hid (∀ (cs:List Value) (W:World),Ob (fun b=>b ≠ w.heap.size) W 4 cs (joinG 4 (newAll 1 ks))→w.heap.size+1≤W.heap.size→Calls Tryz.prog 89 #[.agg cs.toArray] W (IsOb (fun b=>b ≠ w.heap.size) W 7 (joinG 4 (newAll 1 ks)))):=Lib.hid fun cs W h hs=>asGeo_4 _ cs _ W (fun b hb=>by omega) h
 clear hK hsz
 generalize hn:ks.length=n at *
 have HN:=Lib.hid hn
 clear hn
 obtain ⟨ip,hip,hip0,hip1,hip2⟩:=info_parts infoPt
 obtain ⟨il,hil,hil0,hil1,hil2⟩:=info_parts infoLn
 obtain ⟨ig,hig,hig0,hig1,hig2⟩:=info_parts infoPg
 go_enter Tryz.func41,Tryz.ntmps41
 go_wp2
 go_loopw [6,7,8,13] (fun a b c iv wr=>∃ (t n1 n2 n3:Nat) (p1:Option Addr) (c1:Nat) (p2:Option Addr) (c2:Nat) (p3:Option Addr) (c3:Nat) (xs1 xs2 xs3:List Value),a=.slice p1 n1 c1∧b=.slice p2 n2 c2∧c=.slice p3 n3 c3∧iv=.int .i64 t∧t≤n∧n1≤t∧n2≤t∧n3≤t∧Bel w wr∧w.heap.size<wr.heap.size∧Blk wr w.heap.size #[.int .i64 0,.nilIface] 64∧Rows3 w.heap.size (w.heap.size+1) wr (f3 (.slice p1 n1 c1) (.slice p2 n2 c2) (.slice p3 n3 c3)) (f3 n1 n2 n3) (f3 xs1 xs2 xs3) (ks.take t)) (fun _ _ _ iv _=>n - (intOf iv).toNat)
 case atStart=>exact ⟨0,0,0,0,none,0,none,0,none,0,[],[],[],rfl,rfl,rfl,rfl,Nat.zero_le _,Nat.le_refl _,Nat.le_refl _,Nat.le_refl _,by exact EL,by simp,by exact KL,Rows3.nil _ _ _⟩
 case round =>
  obtain ⟨t,n1,n2,n3,p1,c1,p2,c2,p3,c3,xs1,xs2,xs3,rfl,rfl,rfl,rfl,ht,hn1,hn2,hn3,hbel,hgrow,hb1,hrows⟩:=hrel
  have HBEL:=Lib.hid hbel
  have HGROW:=Lib.hid hgrow
  have HG1:=Lib.hid hb1
  have HROWS:=Lib.hid hrows
  have HOFF:Hid (∀ b,(b<w.heap.size∨wr.heap.size≤b)→Off w.heap.size (f3 (.slice p1 n1 c1) (.slice p2 n2 c2) (.slice p3 n3 c3)) b):=Lib.hid fun b hb=>hrows.off (by omega) hgrow hb
  obtain ⟨r1,y1,l1⟩:=hb1.facts
  clear hb1 hrows
  by_cases htn:t<n
  ·obtain ⟨kd,hkd⟩:∃ kd,ks[t]?=some kd:=⟨_,List.getElem?_eq_getElem (by have:=HN.out;omega)⟩
   have hmem:kd ∈ ks:=List.mem_iff_getElem?.2 ⟨t,hkd⟩
   obtain ⟨b,off,pn',nn',cn',pk',nk',ck',rfl,hlt,-,d0,d1,d2,d3,hf,hg'⟩:=(HK.out.mono (G:=fun b=>b<w.heap.size) fun b hl _=>hl).at hkd
   have HOF2:Hid (∀ b,b<w.heap.size→Off w.heap.size (f3 (.slice p1 n1 c1) (.slice p2 n2 c2) (.slice p3 n3 c3)) b):=Lib.hid fun b hb=>HOFF.out b (Or.inl hb)
   have D0:=cell_kept hbel d0
   have D1:=cell_kept hbel d1
   have D2:=cell_kept hbel d2
   have D3:=cell_kept hbel d3
   have hbl:b<wr.heap.size:=Nat.lt_of_lt_of_le hlt hbel.size
   by_cases hkq:kd.kind=1
   ·have HC:Hid (∀ W,Bel wr W→Calls Tryz.prog 85 #[.agg #[.int .i64 1,.int .i64 kd.dim,.slice pn' nn' cn',.slice pk' nk' ck']] W (IsOb (Off w.heap.size (f3 (.slice p1 n1 c1) (.slice p2 n2 c2) (.slice p3 n3 c3))) W 1 (newOf kd))):=Lib.hid fun W hW=>pointOb_any _ kd hkq (HSZ.out kd hmem) pn' nn' cn' pk' nk' ck' W (fun b hb=>HOFF.out b (Or.inr (Nat.le_trans hW.size hb))) ((hf.bel HBEL.out).keep hW.size (fun b _ hl=>hW.block b hl) fun b hl hb=>HOF2.out b hb) ((hg'.bel HBEL.out).keep hW.size (fun b _ hl=>hW.block b hl) fun b hl hb=>HOF2.out b hb)
    have HKI:Hid (((0:Nat):Int)+1=(newOf kd).kind):=Lib.hid (by rw [newOf_kind,hkq];decide)
    have HTK:Hid (ks.take (t+1)=ks.take t ++ [kd]):=Lib.hid (by rw [List.take_add_one,hkd];rfl)
    have HOW:Hid (wr.ownsRow (w.heap.size+1) 107 6 (.slice p1 n1 c1) n1 xs1):=Lib.hid (HROWS.out.own 0 (by decide))
    rw [hkq] at D0
    clear d0 d1 d2 d3 hf hg' hkd hmem hkq
    generalize kd.dim=kdim at *
    go_wp2_with (first
     | (go_at_call 85;(with_reducible refine (HC.out _ ?hb).mono ?_);(case hb=>exact EL);rintro e w3 ⟨cs,rfl,ho,hb3⟩;have HO:=Lib.hid ho;obtain ⟨x0,x1,x2,x3,x4,x5,hcs,-⟩:=ho.pt;subst hcs;have HB3:Hid (Bel wr w3):=Lib.hid ((show Bel wr _ by exact EL).trans hb3);have HC1:=Lib.hid (HG1.out.bel HB3.out);clear hb3 ho)
     | (at_builtin;refine wpList_append_row _ rfl (.tmp 21) (.tmp 24) 119 rfl (w.heap.size+1) 107 ip _ 6 48 Tryz.underlying119 hip hip0 hip1 hip2 rfl (by decide) (.slice p1 n1 c1) n1 xs1 rfl (own_kept HOW.out (show Bel wr _ by (have HB:=HB3.out;exact EL))) ⟨w3.heap.size,0,none⟩ 1 1 [.float .f64 x0,.float .f64 x1,.float .f64 x2,.float .f64 x3,.int .u8 x4,.bool x5] rfl rfl (blk_arr (cs:=#[.float .f64 x0,.float .f64 x1,.float .f64 x2,.float .f64 x3,.int .u8 x4,.bool x5]) (t:=107) (by exact KL)) (by simp [Value.oneCell']) (by decide) (by unfold maxLen;omega) (by omega) (by have:=HGROW.out;have:=HB3.out.size;simp;omega) ?_;intro v' w6 ho6 hg6 hb6;obtain ⟨p6,c6,rfl⟩:=ho6.isSlice;have HO6:=Lib.hid ho6;have HG6:=Lib.hid hg6;have HB6:=Lib.hid hb6;have E1:=grownBy_blk hg6 (show Blk _ w.heap.size #[.int .i64 0,.nilIface] 64 by (have HB:=HC1.out;exact KL)) (HOW.out.ne_of_lt (by omega));have HE1:=Lib.hid E1;clear ho6 hg6 hb6 E1))
    go_roundw
    case rel =>
     have hs3:=HB3.out.size
     have hs6:=HG6.out.size
     have hgr:=HGROW.out
     simp at hs6
     refine ⟨t+1,n1+1,n2,n3,p6,c6,p2,c2,p3,c3,(xs1 ++ [.float .f64 x0,.float .f64 x1,.float .f64 x2,.float .f64 x3,.int .u8 x4,.bool x5]),xs2,xs3,rfl,rfl,rfl,by go_num,by omega,by omega,by omega,by omega,?_,by omega,HE1.out,?_⟩
     ·exact (show Bel w _ from HBEL.out.trans (show Bel wr _ by (have HB:=HB3.out;exact EL))).of_row HG6.out (fun g hg=>by have:=(HOW.out.lt g hg).1;omega)
     ·rw [HTK.out]
      refine Rows3.push HROWS.out (by omega) (i:=0) (by decide) HKI.out HB3.out (cl:=[.float .f64 x0,.float .f64 x1,.float .f64 x2,.float .f64 x3,.int .u8 x4,.bool x5]) rfl HO.out HO6.out HG6.out HB6.out ⟨rfl,rfl,rfl⟩ (fun j hj hne=>?_)
      have h3:j=0∨j=1∨j=2:=by omega
      rcases h3 with rfl|rfl|rfl
      ·exact absurd rfl hne
      ·exact ⟨rfl,rfl,rfl⟩
      ·exact ⟨rfl,rfl,rfl⟩
    case measure=>simp [intOf];omega
   by_cases hkq2:kd.kind=2
   ·have HC:Hid (∀ W,Bel wr W→Calls Tryz.prog 86 #[.agg #[.int .i64 2,.int .i64 kd.dim,.slice pn' nn' cn',.slice pk' nk' ck']] W (IsOb (Off w.heap.size (f3 (.slice p1 n1 c1) (.slice p2 n2 c2) (.slice p3 n3 c3))) W 2 (newOf kd))):=Lib.hid fun W hW=>lineOb_any _ kd hkq2 (HSZ.out kd hmem) pn' nn' cn' pk' nk' ck' W (fun b hb=>HOFF.out b (Or.inr (Nat.le_trans hW.size hb))) ((hf.bel HBEL.out).keep hW.size (fun b _ hl=>hW.block b hl) fun b hl hb=>HOF2.out b hb) ((hg'.bel HBEL.out).keep hW.size (fun b _ hl=>hW.block b hl) fun b hl hb=>HOF2.out b hb)
    have HKI:Hid (((1:Nat):Int)+1=(newOf kd).kind):=Lib.hid (by rw [newOf_kind,hkq2];decide)
    have HTK:Hid (ks.take (t+1)=ks.take t ++ [kd]):=Lib.hid (by rw [List.take_add_one,hkd];rfl)
    have HOW:Hid (wr.ownsRow (w.heap.size+1) 111 2 (.slice p2 n2 c2) n2 xs2):=Lib.hid (HROWS.out.own 1 (by decide))
    rw [hkq2] at D0
    clear d0 d1 d2 d3 hf hg' hkd hmem hkq2
    generalize kd.dim=kdim at *
    go_wp2_with (first
     | (go_at_call 86;(with_reducible refine (HC.out _ ?hb).mono ?_);(case hb=>exact EL);rintro e w3 ⟨cs,rfl,ho,hb3⟩;have HO:=Lib.hid ho;obtain ⟨x0,x1,x2,x3,x4,hcs,-⟩:=ho.ln;subst hcs;have HB3:Hid (Bel wr w3):=Lib.hid ((show Bel wr _ by exact EL).trans hb3);have HC1:=Lib.hid (HG1.out.bel HB3.out);clear hb3 ho)
     | (at_builtin;refine wpList_append_row _ rfl (.tmp 28) (.tmp 31) 89 rfl (w.heap.size+1) 111 il _ 2 32 Tryz.underlying89 hil hil0 hil1 hil2 rfl (by decide) (.slice p2 n2 c2) n2 xs2 rfl (own_kept HOW.out (show Bel wr _ by (have HB:=HB3.out;exact EL))) ⟨w3.heap.size,0,none⟩ 1 1 [.int .u8 x0,.slice x1 x2 x3] rfl rfl (blk_arr (cs:=#[.int .u8 x0,.slice x1 x2 x3]) (t:=111) (by exact KL)) (by simp [Value.oneCell']) (by decide) (by unfold maxLen;omega) (by omega) (by have:=HGROW.out;have:=HB3.out.size;simp;omega) ?_;intro v' w6 ho6 hg6 hb6;obtain ⟨p6,c6,rfl⟩:=ho6.isSlice;have HO6:=Lib.hid ho6;have HG6:=Lib.hid hg6;have HB6:=Lib.hid hb6;have E1:=grownBy_blk hg6 (show Blk _ w.heap.size #[.int .i64 0,.nilIface] 64 by (have HB:=HC1.out;exact KL)) (HOW.out.ne_of_lt (by omega));have HE1:=Lib.hid E1;clear ho6 hg6 hb6 E1))
    go_roundw
    case rel =>
     have hs3:=HB3.out.size
     have hs6:=HG6.out.size
     have hgr:=HGROW.out
     simp at hs6
     refine ⟨t+1,n1,n2+1,n3,p1,c1,p6,c6,p3,c3,xs1,(xs2 ++ [.int .u8 x0,.slice x1 x2 x3]),xs3,rfl,rfl,rfl,by go_num,by omega,by omega,by omega,by omega,?_,by omega,HE1.out,?_⟩
     ·exact (show Bel w _ from HBEL.out.trans (show Bel wr _ by (have HB:=HB3.out;exact EL))).of_row HG6.out (fun g hg=>by have:=(HOW.out.lt g hg).1;omega)
     ·rw [HTK.out]
      refine Rows3.push HROWS.out (by omega) (i:=1) (by decide) HKI.out HB3.out (cl:=[.int .u8 x0,.slice x1 x2 x3]) rfl HO.out HO6.out HG6.out HB6.out ⟨rfl,rfl,rfl⟩ (fun j hj hne=>?_)
      have h3:j=0∨j=1∨j=2:=by omega
      rcases h3 with rfl|rfl|rfl
      ·exact ⟨rfl,rfl,rfl⟩
      ·exact absurd rfl hne
      ·exact ⟨rfl,rfl,rfl⟩
    case measure=>simp [intOf];omega
   by_cases hkq3:kd.kind=3
   ·have HC:Hid (∀ W,Bel wr W→Calls Tryz.prog 87 #[.agg #[.int .i64 3,.int .i64 kd.dim,.slice pn' nn' cn',.slice pk' nk' ck']] W (IsOb (Off w.heap.size (f3 (.slice p1 n1 c1) (.slice p2 n2 c2) (.slice p3 n3 c3))) W 3 (newOf kd))):=Lib.hid fun W hW=>polygonOb_any _ kd hkq3 (HSZ.out kd hmem) pn' nn' cn' pk' nk' ck' W (fun b hb=>HOFF.out b (Or.inr (Nat.le_trans hW.size hb))) ((hf.bel HBEL.out).keep hW.size (fun b _ hl=>hW.block b hl) fun b hl hb=>HOF2.out b hb) ((hg'.bel HBEL.out).keep hW.size (fun b _ hl=>hW.block b hl) fun b hl hb=>HOF2.out b hb)
    have HKI:Hid (((2:Nat):Int)+1=(newOf kd).kind):=Lib.hid (by rw [newOf_kind,hkq3];decide)
    have HTK:Hid (ks.take (t+1)=ks.take t ++ [kd]):=Lib.hid (by rw [List.take_add_one,hkd];rfl)
    have HOW:Hid (wr.ownsRow (w.heap.size+1) 91 2 (.slice p3 n3 c3) n3 xs3):=Lib.hid (HROWS.out.own 2 (by decide))
    rw [hkq3] at D0
    clear d0 d1 d2 d3 hf hg' hkd hmem hkq3
    generalize kd.dim=kdim at *
    go_wp2_with (first
     | (go_at_call 87;(with_reducible refine (HC.out _ ?hb).mono ?_);(case hb=>exact EL);rintro e w3 ⟨cs,rfl,ho,hb3⟩;have HO:=Lib.hid ho;obtain ⟨x0,x1,x2,x3,hcs,-⟩:=ho.sl (e:=2) (k:=2) rfl;subst hcs;have HB3:Hid (Bel wr w3):=Lib.hid ((show Bel wr _ by exact EL).trans hb3);have HC1:=Lib.hid (HG1.out.bel HB3.out);clear hb3 ho)
     | (at_builtin;refine wpList_append_row _ rfl (.tmp 35) (.tmp 38) 127 rfl (w.heap.size+1) 91 ig _ 2 32 Tryz.underlying127 hig hig0 hig1 hig2 rfl (by decide) (.slice p3 n3 c3) n3 xs3 rfl (own_kept HOW.out (show Bel wr _ by (have HB:=HB3.out;exact EL))) ⟨w3.heap.size,0,none⟩ 1 1 [.slice x0 x3.length x1,.int .u8 x2] rfl rfl (blk_arr (cs:=#[.slice x0 x3.length x1,.int .u8 x2]) (t:=91) (by exact KL)) (by simp [Value.oneCell']) (by decide) (by unfold maxLen;omega) (by omega) (by have:=HGROW.out;have:=HB3.out.size;simp;omega) ?_;intro v' w6 ho6 hg6 hb6;obtain ⟨p6,c6,rfl⟩:=ho6.isSlice;have HO6:=Lib.hid ho6;have HG6:=Lib.hid hg6;have HB6:=Lib.hid hb6;have E1:=grownBy_blk hg6 (show Blk _ w.heap.size #[.int .i64 0,.nilIface] 64 by (have HB:=HC1.out;exact KL)) (HOW.out.ne_of_lt (by omega));have HE1:=Lib.hid E1;clear ho6 hg6 hb6 E1))
    go_roundw
    case rel =>
     have hs3:=HB3.out.size
     have hs6:=HG6.out.size
     have hgr:=HGROW.out
     simp at hs6
     refine ⟨t+1,n1,n2,n3+1,p1,c1,p2,c2,p6,c6,xs1,xs2,(xs3 ++ [.slice x0 x3.length x1,.int .u8 x2]),rfl,rfl,rfl,by go_num,by omega,by omega,by omega,by omega,?_,by omega,HE1.out,?_⟩
     ·exact (show Bel w _ from HBEL.out.trans (show Bel wr _ by (have HB:=HB3.out;exact EL))).of_row HG6.out (fun g hg=>by have:=(HOW.out.lt g hg).1;omega)
     ·rw [HTK.out]
      refine Rows3.push HROWS.out (by omega) (i:=2) (by decide) HKI.out HB3.out (cl:=[.slice x0 x3.length x1,.int .u8 x2]) rfl HO.out HO6.out HG6.out HB6.out ⟨rfl,rfl,rfl⟩ (fun j hj hne=>?_)
      have h3:j=0∨j=1∨j=2:=by omega
      rcases h3 with rfl|rfl|rfl
      ·exact ⟨rfl,rfl,rfl⟩
      ·exact ⟨rfl,rfl,rfl⟩
      ·exact absurd rfl hne
    case measure=>simp [intOf];omega
   have HKI:Hid (∀ i:Nat,i<3→(i:Int)+1 ≠ (newOf kd).kind):=Lib.hid fun i hi=>by
    rw [newOf_kind]
    unfold kindOf
    split<;>omega
   have HTK:Hid (ks.take (t+1)=ks.take t ++ [kd]):=Lib.hid (by rw [List.take_add_one,hkd];rfl)
   have e1:(kd.kind == 1)=false:=by simp [hkq]
   have e2:(kd.kind == 2)=false:=by simp [hkq2]
   have e3:(kd.kind == 3)=false:=by simp [hkq3]
   clear d0 d1 d2 d3 hf hg' hkd hmem
   generalize kd.dim=kdim at *
   generalize hkk:kd.kind=kkind at *
   clear hkk hkq hkq2 hkq3
   go_wp2
   go_roundw
   case rel=>exact ⟨t+1,n1,n2,n3,p1,c1,p2,c2,p3,c3,xs1,xs2,xs3,rfl,rfl,rfl,by go_num,by omega,by omega,by omega,by omega,by (have HB:=HBEL.out;exact EL),by have:=HGROW.out;simp;omega,by (have HB:=HG1.out;exact KL),by rw [HTK.out];exact HROWS.out.skip (by exact EL) HKI.out⟩
   case measure=>simp [intOf];omega
  ·obtain rfl:t=n:=by omega
   have htk:ks.take t=ks:=List.take_of_length_le (by have:=HN.out;omega)
   clear hbel
   have HRO:Hid (ObSl (fun b=>b ≠ w.heap.size) wr 1 6 (.slice p1 n1 c1) (newAll 1 ks)):=Lib.hid (by
    have:=HROWS.out.obs (by omega) (i:=0) (by decide)
    rw [htk] at this
    exact this)
   have HLN:Hid ((newAll 1 ks).length=n1):=Lib.hid (by
    have:=HROWS.out.len 0 (by decide)
    rw [htk] at this
    exact this)
   clear htk
   go_wp2_with (first
    | (go_at_call 89;(with_reducible refine (HAG.out _ _ HO2.out HS2.out).mono ?_);rintro e w4 ⟨cl4,rfl,hob4,hb4⟩;obtain ⟨a4,v4,z4,hc4,-⟩:=hob4.gi;subst hc4;have HOB4:=Lib.hid hob4;have HB4:Hid (Bel w w4):=Lib.hid (HB2.out.trans hb4);have C4:=HR2.out.bel hb4;have HR4:=Lib.hid C4;obtain ⟨q3,q4,q5⟩:=C4.facts;clear hob4 hb4 C4)
    | (go_at_call 107;(with_reducible refine (newJoin_4 _ _ _ _ _ _ (HNW.out _ HGROW.out) HRO.out HLN.out (by omega)).mono ?_);rintro e w2 ⟨cs2,rfl,ho2,hb2⟩;obtain ⟨y1,y2,y3,y4,hcs2,-⟩:=ho2.sl (e:=1) (k:=6) rfl;subst hcs2;have HO2:=Lib.hid ho2;have HB2:Hid (Bel w w2):=Lib.hid (HBEL.out.trans hb2);have HS2:Hid (w.heap.size+1≤w2.heap.size):=Lib.hid (by have:=HGROW.out;have:=hb2.size;omega);have HR2:=Lib.hid (HG1.out.bel hb2);clear ho2 hb2))
   refine post_ret (results_two rfl (resIs_agg (n:=2) (cs:=#[.int .i64 a4,.iface (ptrT a4) (.pointer (some ⟨v4,0,none⟩))]) (by rfl) Tryz.underlying64 (by kernel_rfl) (T:=64) ?_ rfl) (resIs_tmp (by rfl))) ⟨[.int .i64 a4,.iface (ptrT a4) (.pointer (some ⟨v4,0,none⟩))],rfl,?_,?_⟩
   ·have HB:=HR4.out
    exact SL
   ·exact ((HOB4.out.set (b:=w.heap.size) (by simp) 0 _).set (b:=w.heap.size) (by simp) 1 _).mono fun _ _ _=>trivial
   ·have HB:=HB4.out
    exact EL
set_option maxHeartbeats 16000000 in
set_option maxRecDepth 100000 in
theorem newOf_3 (ks:List Gm) (hsz:∀ k ∈ ks,k.size≤1048576) (hn31:ks.length≤1048576) (F:Nat→Prop) (pk:Option Addr) (ck:Nat) (w:World) (hK:GmSl F w (.slice pk ks.length ck) ks):Calls Tryz.prog 41 #[.int .i64 3,.slice pk ks.length ck] w (IsPart (joinG 3 (newAll 2 ks)) w):=by
 have HK:=Lib.hid hK
 have HSZ:=Lib.hid hsz
 have HNW:Hid (∀ W:World,w.heap.size<W.heap.size→New (fun b=>b ≠ w.heap.size) W):=Lib.hid fun W hW b hb=>by omega
 have HAG:Hid (∀ (cs:List Value) (W:World),Ob (fun b=>b ≠ w.heap.size) W 3 cs (joinG 3 (newAll 2 ks))→w.heap.size+1≤W.heap.size→Calls Tryz.prog 82 #[.agg cs.toArray] W (IsOb (fun b=>b ≠ w.heap.size) W 7 (joinG 3 (newAll 2 ks)))):=Lib.hid fun cs W h hs=>asGeo_3 _ cs _ W (fun b hb=>by omega) h
 clear hK hsz
 generalize hn:ks.length=n at *
 have HN:=Lib.hid hn
 clear hn
 obtain ⟨ip,hip,hip0,hip1,hip2⟩:=info_parts infoPt
 obtain ⟨il,hil,hil0,hil1,hil2⟩:=info_parts infoLn
 obtain ⟨ig,hig,hig0,hig1,hig2⟩:=info_parts infoPg
 go_enter Tryz.func41,Tryz.ntmps41
 go_wp2
 go_loopw [6,7,8,13] (fun a b c iv wr=>∃ (t n1 n2 n3:Nat) (p1:Option Addr) (c1:Nat) (p2:Option Addr) (c2:Nat) (p3:Option Addr) (c3:Nat) (xs1 xs2 xs3:List Value),a=.slice p1 n1 c1∧b=.slice p2 n2 c2∧c=.slice p3 n3 c3∧iv=.int .i64 t∧t≤n∧n1≤t∧n2≤t∧n3≤t∧Bel w wr∧w.heap.size<wr.heap.size∧Blk wr w.heap.size #[.int .i64 0,.nilIface] 64∧Rows3 w.heap.size (w.heap.size+1) wr (f3 (.slice p1 n1 c1) (.slice p2 n2 c2) (.slice p3 n3 c3)) (f3 n1 n2 n3) (f3 xs1 xs2 xs3) (ks.take t)) (fun _ _ _ iv _=>n - (intOf iv).toNat)
 case atStart=>exact ⟨0,0,0,0,none,0,none,0,none,0,[],[],[],rfl,rfl,rfl,rfl,Nat.zero_le _,Nat.le_refl _,Nat.le_refl _,Nat.le_refl _,by exact EL,by simp,by exact KL,Rows3.nil _ _ _⟩
 case round =>
  obtain ⟨t,n1,n2,n3,p1,c1,p2,c2,p3,c3,xs1,xs2,xs3,rfl,rfl,rfl,rfl,ht,hn1,hn2,hn3,hbel,hgrow,hb1,hrows⟩:=hrel
  have HBEL:=Lib.hid hbel
  have HGROW:=Lib.hid hgrow
  have HG1:=Lib.hid hb1
  have HROWS:=Lib.hid hrows
  have HOFF:Hid (∀ b,(b<w.heap.size∨wr.heap.size≤b)→Off w.heap.size (f3 (.slice p1 n1 c1) (.slice p2 n2 c2) (.slice p3 n3 c3)) b):=Lib.hid fun b hb=>hrows.off (by omega) hgrow hb
  obtain ⟨r1,y1,l1⟩:=hb1.facts
  clear hb1 hrows
  by_cases htn:t<n
  ·obtain ⟨kd,hkd⟩:∃ kd,ks[t]?=some kd:=⟨_,List.getElem?_eq_getElem (by have:=HN.out;omega)⟩
   have hmem:kd ∈ ks:=List.mem_iff_getElem?.2 ⟨t,hkd⟩
   obtain ⟨b,off,pn',nn',cn',pk',nk',ck',rfl,hlt,-,d0,d1,d2,d3,hf,hg'⟩:=(HK.out.mono (G:=fun b=>b<w.heap.size) fun b hl _=>hl).at hkd
   have HOF2:Hid (∀ b,b<w.heap.size→Off w.heap.size (f3 (.slice p1 n1 c1) (.slice p2 n2 c2) (.slice p3 n3 c3)) b):=Lib.hid fun b hb=>HOFF.out b (Or.inl hb)
   have D0:=cell_kept hbel d0
   have D1:=cell_kept hbel d1
   have D2:=cell_kept hbel d2
   have D3:=cell_kept hbel d3
   have hbl:b<wr.heap.size:=Nat.lt_of_lt_of_le hlt hbel.size
   by_cases hkq:kd.kind=1
   ·have HC:Hid (∀ W,Bel wr W→Calls Tryz.prog 85 #[.agg #[.int .i64 1,.int .i64 kd.dim,.slice pn' nn' cn',.slice pk' nk' ck']] W (IsOb (Off w.heap.size (f3 (.slice p1 n1 c1) (.slice p2 n2 c2) (.slice p3 n3 c3))) W 1 (newOf kd))):=Lib.hid fun W hW=>pointOb_any _ kd hkq (HSZ.out kd hmem) pn' nn' cn' pk' nk' ck' W (fun b hb=>HOFF.out b (Or.inr (Nat.le_trans hW.size hb))) ((hf.bel HBEL.out).keep hW.size (fun b _ hl=>hW.block b hl) fun b hl hb=>HOF2.out b hb) ((hg'.bel HBEL.out).keep hW.size (fun b _ hl=>hW.block b hl) fun b hl hb=>HOF2.out b hb)
    have HKI:Hid (((0:Nat):Int)+1=(newOf kd).kind):=Lib.hid (by rw [newOf_kind,hkq];decide)
    have HTK:Hid (ks.take (t+1)=ks.take t ++ [kd]):=Lib.hid (by rw [List.take_add_one,hkd];rfl)
    have HOW:Hid (wr.ownsRow (w.heap.size+1) 107 6 (.slice p1 n1 c1) n1 xs1):=Lib.hid (HROWS.out.own 0 (by decide))
    rw [hkq] at D0
    clear d0 d1 d2 d3 hf hg' hkd hmem hkq
    generalize kd.dim=kdim at *
    go_wp2_with (first
     | (go_at_call 85;(with_reducible refine (HC.out _ ?hb).mono ?_);(case hb=>exact EL);rintro e w3 ⟨cs,rfl,ho,hb3⟩;have HO:=Lib.hid ho;obtain ⟨x0,x1,x2,x3,x4,x5,hcs,-⟩:=ho.pt;subst hcs;have HB3:Hid (Bel wr w3):=Lib.hid ((show Bel wr _ by exact EL).trans hb3);have HC1:=Lib.hid (HG1.out.bel HB3.out);clear hb3 ho)
     | (at_builtin;refine wpList_append_row _ rfl (.tmp 21) (.tmp 24) 119 rfl (w.heap.size+1) 107 ip _ 6 48 Tryz.underlying119 hip hip0 hip1 hip2 rfl (by decide) (.slice p1 n1 c1) n1 xs1 rfl (own_kept HOW.out (show Bel wr _ by (have HB:=HB3.out;exact EL))) ⟨w3.heap.size,0,none⟩ 1 1 [.float .f64 x0,.float .f64 x1,.float .f64 x2,.float .f64 x3,.int .u8 x4,.bool x5] rfl rfl (blk_arr (cs:=#[.float .f64 x0,.float .f64 x1,.float .f64 x2,.float .f64 x3,.int .u8 x4,.bool x5]) (t:=107) (by exact KL)) (by simp [Value.oneCell']) (by decide) (by unfold maxLen;omega) (by omega) (by have:=HGROW.out;have:=HB3.out.size;simp;omega) ?_;intro v' w6 ho6 hg6 hb6;obtain ⟨p6,c6,rfl⟩:=ho6.isSlice;have HO6:=Lib.hid ho6;have HG6:=Lib.hid hg6;have HB6:=Lib.hid hb6;have E1:=grownBy_blk hg6 (show Blk _ w.heap.size #[.int .i64 0,.nilIface] 64 by (have HB:=HC1.out;exact KL)) (HOW.out.ne_of_lt (by omega));have HE1:=Lib.hid E1;clear ho6 hg6 hb6 E1))
    go_roundw
    case rel =>
     have hs3:=HB3.out.size
     have hs6:=HG6.out.size
     have hgr:=HGROW.out
     simp at hs6
     refine ⟨t+1,n1+1,n2,n3,p6,c6,p2,c2,p3,c3,(xs1 ++ [.float .f64 x0,.float .f64 x1,.float .f64 x2,.float .f64 x3,.int .u8 x4,.bool x5]),xs2,xs3,rfl,rfl,rfl,by go_num,by omega,by omega,by omega,by omega,?_,by omega,HE1.out,?_⟩
     ·exact (show Bel w _ from HBEL.out.trans (show Bel wr _ by (have HB:=HB3.out;exact EL))).of_row HG6.out (fun g hg=>by have:=(HOW.out.lt g hg).1;omega)
     ·rw [HTK.out]
      refine Rows3.push HROWS.out (by omega) (i:=0) (by decide) HKI.out HB3.out (cl:=[.float .f64 x0,.float .f64 x1,.float .f64 x2,.float .f64 x3,.int .u8 x4,.bool x5]) rfl HO.out HO6.out HG6.out HB6.out ⟨rfl,rfl,rfl⟩ (fun j hj hne=>?_)
      have h3:j=0∨j=1∨j=2:=by omega
      rcases h3 with rfl|rfl|rfl
      ·exact absurd rfl hne
      ·exact ⟨rfl,rfl,rfl⟩
      ·exact ⟨rfl,rfl,rfl⟩
    case measure=>simp [intOf];omega
   by_cases hkq2:kd.kind=2
   ·have HC:Hid (∀ W,Bel wr W→Calls Tryz.prog 86 #[.agg #[.int .i64 2,.int .i64 kd.dim,.slice pn' nn' cn',.slice pk' nk' ck']] W (IsOb (Off w.heap.size (f3 (.slice p1 n1 c1) (.slice p2 n2 c2) (.slice p3 n3 c3))) W 2 (newOf kd))):=Lib.hid fun W hW=>lineOb_any _ kd hkq2 (HSZ.out kd hmem) pn' nn' cn' pk' nk' ck' W (fun b hb=>HOFF.out b (Or.inr (Nat.le_trans hW.size hb))) ((hf.bel HBEL.out).keep hW.size (fun b _ hl=>hW.block b hl) fun b hl hb=>HOF2.out b hb) ((hg'.bel HBEL.out).keep hW.size (fun b _ hl=>hW.block b hl) fun b hl hb=>HOF2.out b hb)
    have HKI:Hid (((1:Nat):Int)+1=(newOf kd).kind):=Lib.hid (by rw [newOf_kind,hkq2];decide)
    have HTK:Hid (ks.take (t+1)=ks.take t ++ [kd]):=Lib.hid (by rw [List.take_add_one,hkd];rfl)
    have HOW:Hid (wr.ownsRow (w.heap.size+1) 111 2 (.slice p2 n2 c2) n2 xs2):=Lib.hid (HROWS.out.own 1 (by decide))
    rw [hkq2] at D0
    clear d0 d1 d2 d3 hf hg' hkd hmem hkq2
    generalize kd.dim=kdim at *
    go_wp2_with (first
     | (go_at_call 86;(with_reducible refine (HC.out _ ?hb).mono ?_);(case hb=>exact EL);rintro e w3 ⟨cs,rfl,ho,hb3⟩;have HO:=Lib.hid ho;obtain ⟨x0,x1,x2,x3,x4,hcs,-⟩:=ho.ln;subst hcs;have HB3:Hid (Bel wr w3):=Lib.hid ((show Bel wr _ by exact EL).trans hb3);have HC1:=Lib.hid (HG1.out.bel HB3.out);clear hb3 ho)
     | (at_builtin;refine wpList_append_row _ rfl (.tmp 28) (.tmp 31) 89 rfl (w.heap.size+1) 111 il _ 2 32 Tryz.underlying89 hil hil0 hil1 hil2 rfl (by decide) (.slice p2 n2 c2) n2 xs2 rfl (own_kept HOW.out (show Bel wr _ by (have HB:=HB3.out;exact EL))) ⟨w3.heap.size,0,none⟩ 1 1 [.int .u8 x0,.slice x1 x2 x3] rfl rfl (blk_arr (cs:=#[.int .u8 x0,.slice x1 x2 x3]) (t:=111) (by exact KL)) (by simp [Value.oneCell']) (by decide) (by unfold maxLen;omega) (by omega) (by have:=HGROW.out;have:=HB3.out.size;simp;omega) ?_;intro v' w6 ho6 hg6 hb6;obtain ⟨p6,c6,rfl⟩:=ho6.isSlice;have HO6:=Lib.hid ho6;have HG6:=Lib.hid hg6;have HB6:=Lib.hid hb6;have E1:=grownBy_blk hg6 (show Blk _ w.heap.size #[.int .i64 0,.nilIface] 64 by (have HB:=HC1.out;exact KL)) (HOW.out.ne_of_lt (by omega));have HE1:=Lib.hid E1;clear ho6 hg6 hb6 E1))
    go_roundw
    case rel =>
     have hs3:=HB3.out.size
     have hs6:=HG6.out.size
     have hgr:=HGROW.out
     simp at hs6
     refine ⟨t+1,n1,n2+1,n3,p1,c1,p6,c6,p3,c3,xs1,(xs2 ++ [.int .u8 x0,.slice x1 x2 x3]),xs3,rfl,rfl,rfl,by go_num,by omega,by omega,by omega,by omega,?_,by omega,HE1.out,?_⟩
     ·exact (show Bel w _ from HBEL.out.trans (show Bel wr _ by (have HB:=HB3.out;exact EL))).of_row HG6.out (fun g hg=>by have:=(HOW.out.lt g hg).1;omega)
     ·rw [HTK.out]
      refine Rows3.push HROWS.out (by omega) (i:=1) (by decide) HKI.out HB3.out (cl:=[.int .u8 x0,.slice x1 x2 x3]) rfl HO.out HO6.out HG6.out HB6.out ⟨rfl,rfl,rfl⟩ (fun j hj hne=>?_)
      have h3:j=0∨j=1∨j=2:=by omega
      rcases h3 with rfl|rfl|rfl
      ·exact ⟨rfl,rfl,rfl⟩
      ·exact absurd rfl hne
      ·exact ⟨rfl,rfl,rfl⟩
    case measure=>simp [intOf];omega
   by_cases hkq3:kd.kind=3
   ·have HC:Hid (∀ W,Bel wr W→Calls Tryz.prog 87 #[.agg #[.int .i64 3,.int .i64 kd.dim,.slice pn' nn' cn',.slice pk' nk' ck']] W (IsOb (Off w.heap.size (f3 (.slice p1 n1 c1) (.slice p2 n2 c2) (.slice p3 n3 c3))) W 3 (newOf kd))):=Lib.hid fun W hW=>polygonOb_any _ kd hkq3 (HSZ.out kd hmem) pn' nn' cn' pk' nk' ck' W (fun b hb=>HOFF.out b (Or.inr (Nat.le_trans hW.size hb))) ((hf.bel HBEL.out).keep hW.size (fun b _ hl=>hW.block b hl) fun b hl hb=>HOF2.out b hb) ((hg'.bel HBEL.out).keep hW.size (fun b _ hl=>hW.block b hl) fun b hl hb=>HOF2.out b hb)
    have HKI:Hid (((2:Nat):Int)+1=(newOf kd).kind):=Lib.hid (by rw [newOf_kind,hkq3];decide)
    have HTK:Hid (ks.take (t+1)=ks.take t ++ [kd]):=Lib.hid (by rw [List.take_add_one,hkd];rfl)
    have HOW:Hid (wr.ownsRow (w.heap.size+1) 91 2 (.slice p3 n3 c3) n3 xs3):=Lib.hid (HROWS.out.own 2 (by decide))
    rw [hkq3] at D0
    clear d0 d1 d2 d3 hf hg' hkd hmem hkq3
    generalize kd.dim=kdim at *
    go_wp2_with (first
     | (go_at_call 87;(with_reducible refine (HC.out _ ?hb).mono ?_);(case hb=>exact EL);rintro e w3 ⟨cs,rfl,ho,hb3⟩;have HO:=Lib.hid ho;obtain ⟨x0,x1,x2,x3,hcs,-⟩:=ho.sl (e:=2) (k:=2) rfl;subst hcs;have HB3:Hid (Bel wr w3):=Lib.hid ((show Bel wr _ by exact EL).trans hb3);have HC1:=Lib.hid (HG1.out.bel HB3.out);clear hb3 ho)
     | (at_builtin;refine wpList_append_row _ rfl (.tmp 35) (.tmp 38) 127 rfl (w.heap.size+1) 91 ig _ 2 32 Tryz.underlying127 hig hig0 hig1 hig2 rfl (by decide) (.slice p3 n3 c3) n3 xs3 rfl (own_kept HOW.out (show Bel wr _ by (have HB:=HB3.out;exact EL))) ⟨w3.heap.size,0,none⟩ 1 1 [.slice x0 x3.length x1,.int .u8 x2] rfl rfl (blk_arr (cs:=#[.slice x0 x3.length x1,.int .u8 x2]) (t:=91) (by exact KL)) (by simp [Value.oneCell']) (by decide) (by unfold maxLen;omega) (by omega) (by have:=HGROW.out;have:=HB3.out.size;simp;omega) ?_;intro v' w6 ho6 hg6 hb6;obtain ⟨p6,c6,rfl⟩:=ho6.isSlice;have HO6:=Lib.hid ho6;have HG6:=Lib.hid hg6;have HB6:=Lib.hid hb6;have E1:=grownBy_blk hg6 (show Blk _ w.heap.size #[.int .i64 0,.nilIface] 64 by (have HB:=HC1.out;exact KL)) (HOW.out.ne_of_lt (by omega));have HE1:=Lib.hid E1;clear ho6 hg6 hb6 E1))
    go_roundw
    case rel =>
     have hs3:=HB3.out.size
     have hs6:=HG6.out.size
     have hgr:=HGROW.out
     simp at hs6
     refine ⟨t+1,n1,n2,n3+1,p1,c1,p2,c2,p6,c6,xs1,xs2,(xs3 ++ [.slice x0 x3.length x1,.int .u8 x2]),rfl,rfl,rfl,by go_num,by omega,by omega,by omega,by omega,?_,by omega,HE1.out,?_⟩
     ·exact (show Bel w _ from HBEL.out.trans (show Bel wr _ by (have HB:=HB3.out;exact EL))).of_row HG6.out (fun g hg=>by have:=(HOW.out.lt g hg).1;omega)
     ·rw [HTK.out]
      refine Rows3.push HROWS.out (by omega) (i:=2) (by decide) HKI.out HB3.out (cl:=[.slice x0 x3.length x1,.int .u8 x2]) rfl HO.out HO6.out HG6.out HB6.out ⟨rfl,rfl,rfl⟩ (fun j hj hne=>?_)
      have h3:j=0∨j=1∨j=2:=by omega
      rcases h3 with rfl|rfl|rfl
      ·exact ⟨rfl,rfl,rfl⟩
      ·exact ⟨rfl,rfl,rfl⟩
      ·exact absurd rfl hne
    case measure=>simp [intOf];omega
   have HKI:Hid (∀ i:Nat,i<3→(i:Int)+1 ≠ (newOf kd).kind):=Lib.hid fun i hi=>by
    rw [newOf_kind]
    unfold kindOf
    split<;>omega
   have HTK:Hid (ks.take (t+1)=ks.take t ++ [kd]):=Lib.hid (by rw [List.take_add_one,hkd];rfl)
   have e1:(kd.kind == 1)=false:=by simp [hkq]
   have e2:(kd.kind == 2)=false:=by simp [hkq2]
   have e3:(kd.kind == 3)=false:=by simp [hkq3]
   clear d0 d1 d2 d3 hf hg' hkd hmem
   generalize kd.dim=kdim at *
   generalize hkk:kd.kind=kkind at *
   clear hkk hkq hkq2 hkq3
   go_wp2
   go_roundw
   case rel=>exact ⟨t+1,n1,n2,n3,p1,c1,p2,c2,p3,c3,xs1,xs2,xs3,rfl,rfl,rfl,by go_num,by omega,by omega,by omega,by omega,by (have HB:=HBEL.out;exact EL),by have:=HGROW.out;simp;omega,by (have HB:=HG1.out;exact KL),by rw [HTK.out];exact HROWS.out.skip (by exact EL) HKI.out⟩
   case measure=>simp [intOf];omega
  ·obtain rfl:t=n:=by omega
   have htk:ks.take t=ks:=List.take_of_length_le (by have:=HN.out;omega)
   clear hbel
   have HRO:Hid (ObSl (fun b=>b ≠ w.heap.size) wr 2 2 (.slice p2 n2 c2) (newAll 2 ks)):=Lib.hid (by
    have:=HROWS.out.obs (by omega) (i:=1) (by decide)
    rw [htk] at this
    exact this)
   have HLN:Hid ((newAll 2 ks).length=n2):=Lib.hid (by
    have:=HROWS.out.len 1 (by decide)
    rw [htk] at this
    exact this)
   clear htk
   go_wp2_with (first
    | (go_at_call 82;(with_reducible refine (HAG.out _ _ HO2.out HS2.out).mono ?_);rintro e w4 ⟨cl4,rfl,hob4,hb4⟩;obtain ⟨a4,v4,z4,hc4,-⟩:=hob4.gi;subst hc4;have HOB4:=Lib.hid hob4;have HB4:Hid (Bel w w4):=Lib.hid (HB2.out.trans hb4);have C4:=HR2.out.bel hb4;have HR4:=Lib.hid C4;obtain ⟨q3,q4,q5⟩:=C4.facts;clear hob4 hb4 C4)
    | (go_at_call 106;(with_reducible refine (newJoin_3 _ _ _ _ _ _ (HNW.out _ HGROW.out) HRO.out HLN.out (by omega)).mono ?_);rintro e w2 ⟨cs2,rfl,ho2,hb2⟩;obtain ⟨y1,y2,y3,y4,hcs2,-⟩:=ho2.sl (e:=2) (k:=2) rfl;subst hcs2;have HO2:=Lib.hid ho2;have HB2:Hid (Bel w w2):=Lib.hid (HBEL.out.trans hb2);have HS2:Hid (w.heap.size+1≤w2.heap.size):=Lib.hid (by have:=HGROW.out;have:=hb2.size;omega);have HR2:=Lib.hid (HG1.out.bel hb2);clear ho2 hb2))
   refine post_ret (results_two rfl (resIs_agg (n:=2) (cs:=#[.int .i64 a4,.iface (ptrT a4) (.pointer (some ⟨v4,0,none⟩))]) (by rfl) Tryz.underlying64 (by kernel_rfl) (T:=64) ?_ rfl) (resIs_tmp (by rfl))) ⟨[.int .i64 a4,.iface (ptrT a4) (.pointer (some ⟨v4,0,none⟩))],rfl,?_,?_⟩
   ·have HB:=HR4.out
    exact SL
   ·exact ((HOB4.out.set (b:=w.heap.size) (by simp) 0 _).set (b:=w.heap.size) (by simp) 1 _).mono fun _ _ _=>trivial
   ·have HB:=HB4.out
    exact EL
set_option maxHeartbeats 16000000 in
set_option maxRecDepth 100000 in
theorem newOf_5 (ks:List Gm) (hsz:∀ k ∈ ks,k.size≤1048576) (hn31:ks.length≤1048576) (F:Nat→Prop) (pk:Option Addr) (ck:Nat) (w:World) (hK:GmSl F w (.slice pk ks.length ck) ks):Calls Tryz.prog 41 #[.int .i64 5,.slice pk ks.length ck] w (IsPart (joinG 5 (newAll 2 ks)) w):=by
 have HK:=Lib.hid hK
 have HSZ:=Lib.hid hsz
 have HNW:Hid (∀ W:World,w.heap.size<W.heap.size→New (fun b=>b ≠ w.heap.size) W):=Lib.hid fun W hW b hb=>by omega
 have HAG:Hid (∀ (cs:List Value) (W:World),Ob (fun b=>b ≠ w.heap.size) W 5 cs (joinG 5 (newAll 2 ks))→w.heap.size+1≤W.heap.size→Calls Tryz.prog 91 #[.agg cs.toArray] W (IsOb (fun b=>b ≠ w.heap.size) W 7 (joinG 5 (newAll 2 ks)))):=Lib.hid fun cs W h hs=>asGeo_5 _ cs _ W (fun b hb=>by omega) h
 clear hK hsz
 generalize hn:ks.length=n at *
 have HN:=Lib.hid hn
 clear hn
 obtain ⟨ip,hip,hip0,hip1,hip2⟩:=info_parts infoPt
 obtain ⟨il,hil,hil0,hil1,hil2⟩:=info_parts infoLn
 obtain ⟨ig,hig,hig0,hig1,hig2⟩:=info_parts infoPg
 go_enter Tryz.func41,Tryz.ntmps41
 go_wp2
 go_loopw [6,7,8,13] (fun a b c iv wr=>∃ (t n1 n2 n3:Nat) (p1:Option Addr) (c1:Nat) (p2:Option Addr) (c2:Nat) (p3:Option Addr) (c3:Nat) (xs1 xs2 xs3:List Value),a=.slice p1 n1 c1∧b=.slice p2 n2 c2∧c=.slice p3 n3 c3∧iv=.int .i64 t∧t≤n∧n1≤t∧n2≤t∧n3≤t∧Bel w wr∧w.heap.size<wr.heap.size∧Blk wr w.heap.size #[.int .i64 0,.nilIface] 64∧Rows3 w.heap.size (w.heap.size+1) wr (f3 (.slice p1 n1 c1) (.slice p2 n2 c2) (.slice p3 n3 c3)) (f3 n1 n2 n3) (f3 xs1 xs2 xs3) (ks.take t)) (fun _ _ _ iv _=>n - (intOf iv).toNat)
 case atStart=>exact ⟨0,0,0,0,none,0,none,0,none,0,[],[],[],rfl,rfl,rfl,rfl,Nat.zero_le _,Nat.le_refl _,Nat.le_refl _,Nat.le_refl _,by exact EL,by simp,by exact KL,Rows3.nil _ _ _⟩
 case round =>
  obtain ⟨t,n1,n2,n3,p1,c1,p2,c2,p3,c3,xs1,xs2,xs3,rfl,rfl,rfl,rfl,ht,hn1,hn2,hn3,hbel,hgrow,hb1,hrows⟩:=hrel
  have HBEL:=Lib.hid hbel
  have HGROW:=Lib.hid hgrow
  have HG1:=Lib.hid hb1
  have HROWS:=Lib.hid hrows
  have HOFF:Hid (∀ b,(b<w.heap.size∨wr.heap.size≤b)→Off w.heap.size (f3 (.slice p1 n1 c1) (.slice p2 n2 c2) (.slice p3 n3 c3)) b):=Lib.hid fun b hb=>hrows.off (by omega) hgrow hb
  obtain ⟨r1,y1,l1⟩:=hb1.facts
  clear hb1 hrows
  by_cases htn:t<n
  ·obtain ⟨kd,hkd⟩:∃ kd,ks[t]?=some kd:=⟨_,List.getElem?_eq_getElem (by have:=HN.out;omega)⟩
   have hmem:kd ∈ ks:=List.mem_iff_getElem?.2 ⟨t,hkd⟩
   obtain ⟨b,off,pn',nn',cn',pk',nk',ck',rfl,hlt,-,d0,d1,d2,d3,hf,hg'⟩:=(HK.out.mono (G:=fun b=>b<w.heap.size) fun b hl _=>hl).at hkd
   have HOF2:Hid (∀ b,b<w.heap.size→Off w.heap.size (f3 (.slice p1 n1 c1) (.slice p2 n2 c2) (.slice p3 n3 c3)) b):=Lib.hid fun b hb=>HOFF.out b (Or.inl hb)
   have D0:=cell_kept hbel d0
   have D1:=cell_kept hbel d1
   have D2:=cell_kept hbel d2
   have D3:=cell_kept hbel d3
   have hbl:b<wr.heap.size:=Nat.lt_of_lt_of_le hlt hbel.size
   by_cases hkq:kd.kind=1
   ·have HC:Hid (∀ W,Bel wr W→Calls Tryz.prog 85 #[.agg #[.int .i64 1,.int .i64 kd.dim,.slice pn' nn' cn',.slice pk' nk' ck']] W (IsOb (Off w.heap.size (f3 (.slice p1 n1 c1) (.slice p2 n2 c2) (.slice p3 n3 c3))) W 1 (newOf kd))):=Lib.hid fun W hW=>pointOb_any _ kd hkq (HSZ.out kd hmem) pn' nn' cn' pk' nk' ck' W (fun b hb=>HOFF.out b (Or.inr (Nat.le_trans hW.size hb))) ((hf.bel HBEL.out).keep hW.size (fun b _ hl=>hW.block b hl) fun b hl hb=>HOF2.out b hb) ((hg'.bel HBEL.out).keep hW.size (fun b _ hl=>hW.block b hl) fun b hl hb=>HOF2.out b hb)
    have HKI:Hid (((0:Nat):Int)+1=(newOf kd).kind):=Lib.hid (by rw [newOf_kind,hkq];decide)
    have HTK:Hid (ks.take (t+1)=ks.take t ++ [kd]):=Lib.hid (by rw [List.take_add_one,hkd];rfl)
    have HOW:Hid (wr.ownsRow (w.heap.size+1) 107 6 (.slice p1 n1 c1) n1 xs1):=Lib.hid (HROWS.out.own 0 (by decide))
    rw [hkq] at D0
    clear d0 d1 d2 d3 hf hg' hkd hmem hkq
    generalize kd.dim=kdim at *
    go_wp2_with (first
     | (go_at_call 85;(with_reducible refine (HC.out _ ?hb).mono ?_);(case hb=>exact EL);rintro e w3 ⟨cs,rfl,ho,hb3⟩;have HO:=Lib.hid ho;obtain ⟨x0,x1,x2,x3,x4,x5,hcs,-⟩:=ho.pt;subst hcs;have HB3:Hid (Bel wr w3):=Lib.hid ((show Bel wr _ by exact EL).trans hb3);have HC1:=Lib.hid (HG1.out.bel HB3.out);clear hb3 ho)
     | (at_builtin;refine wpList_append_row _ rfl (.tmp 21) (.tmp 24) 119 rfl (w.heap.size+1) 107 ip _ 6 48 Tryz.underlying119 hip hip0 hip1 hip2 rfl (by decide) (.slice p1 n1 c1) n1 xs1 rfl (own_kept HOW.out (show Bel wr _ by (have HB:=HB3.out;exact EL))) ⟨w3.heap.size,0,none⟩ 1 1 [.float .f64 x0,.float .f64 x1,.float .f64 x2,.float .f64 x3,.int .u8 x4,.bool x5] rfl rfl (blk_arr (cs:=#[.float .f64 x0,.float .f64 x1,.float .f64 x2,.float .f64 x3,.int .u8 x4,.bool x5]) (t:=107) (by exact KL)) (by simp [Value.oneCell']) (by decide) (by unfold maxLen;omega) (by omega) (by have:=HGROW.out;have:=HB3.out.size;simp;omega) ?_;intro v' w6 ho6 hg6 hb6;obtain ⟨p6,c6,rfl⟩:=ho6.isSlice;have HO6:=Lib.hid ho6;have HG6:=Lib.hid hg6;have HB6:=Lib.hid hb6;have E1:=grownBy_blk hg6 (show Blk _ w.heap.size #[.int .i64 0,.nilIface] 64 by (have HB:=HC1.out;exact KL)) (HOW.out.ne_of_lt (by omega));have HE1:=Lib.hid E1;clear ho6 hg6 hb6 E1))
    go_roundw
    case rel =>
     have hs3:=HB3.out.size
     have hs6:=HG6.out.size
     have hgr:=HGROW.out
     simp at hs6
     refine ⟨t+1,n1+1,n2,n3,p6,c6,p2,c2,p3,c3,(xs1 ++ [.float .f64 x0,.float .f64 x1,.float .f64 x2,.float .f64 x3,.int .u8 x4,.bool x5]),xs2,xs3,rfl,rfl,rfl,by go_num,by omega,by omega,by omega,by omega,?_,by omega,HE1.out,?_⟩
     ·exact (show Bel w _ from HBEL.out.trans (show Bel wr _ by (have HB:=HB3.out;exact EL))).of_row HG6.out (fun g hg=>by have:=(HOW.out.lt g hg).1;omega)
     ·rw [HTK.out]
      refine Rows3.push HROWS.out (by omega) (i:=0) (by decide) HKI.out HB3.out (cl:=[.float .f64 x0,.float .f64 x1,.float .f64 x2,.float .f64 x3,.int .u8 x4,.bool x5]) rfl HO.out HO6.out HG6.out HB6.out ⟨rfl,rfl,rfl⟩ (fun j hj hne=>?_)
      have h3:j=0∨j=1∨j=2:=by omega
      rcases h3 with rfl|rfl|rfl
      ·exact absurd rfl hne
      ·exact ⟨rfl,rfl,rfl⟩
      ·exact ⟨rfl,rfl,rfl⟩
    case measure=>simp [intOf];omega
   by_cases hkq2:kd.kind=2
   ·have HC:Hid (∀ W,Bel wr W→Calls Tryz.prog 86 #[.agg #[.int .i64 2,.int .i64 kd.dim,.slice pn' nn' cn',.slice pk' nk' ck']] W (IsOb (Off w.heap.size (f3 (.slice p1 n1 c1) (.slice p2 n2 c2) (.slice p3 n3 c3))) W 2 (newOf kd))):=Lib.hid fun W hW=>lineOb_any _ kd hkq2 (HSZ.out kd hmem) pn' nn' cn' pk' nk' ck' W (fun b hb=>HOFF.out b (Or.inr (Nat.le_trans hW.size hb))) ((hf.bel HBEL.out).keep hW.size (fun b _ hl=>hW.block b hl) fun b hl hb=>HOF2.out b hb) ((hg'.bel HBEL.out).keep hW.size (fun b _ hl=>hW.block b hl) fun b hl hb=>HOF2.out b hb)
    have HKI:Hid (((1:Nat):Int)+1=(newOf kd).kind):=Lib.hid (by rw [newOf_kind,hkq2];decide)
    have HTK:Hid (ks.take (t+1)=ks.take t ++ [kd]):=Lib.hid (by rw [List.take_add_one,hkd];rfl)
    have HOW:Hid (wr.ownsRow (w.heap.size+1) 111 2 (.slice p2 n2 c2) n2 xs2):=Lib.hid (HROWS.out.own 1 (by decide))
    rw [hkq2] at D0
    clear d0 d1 d2 d3 hf hg' hkd hmem hkq2
    generalize kd.dim=kdim at *
    go_wp2_with (first
     | (go_at_call 86;(with_reducible refine (HC.out _ ?hb).mono ?_);(case hb=>exact EL);rintro e w3 ⟨cs,rfl,ho,hb3⟩;have HO:=Lib.hid ho;obtain ⟨x0,x1,x2,x3,x4,hcs,-⟩:=ho.ln;subst hcs;have HB3:Hid (Bel wr w3):=Lib.hid ((show Bel wr _ by exact EL).trans hb3);have HC1:=Lib.hid (HG1.out.bel HB3.out);clear hb3 ho)
     | (at_builtin;refine wpList_append_row _ rfl (.tmp 28) (.tmp 31) 89 rfl (w.heap.size+1) 111 il _ 2 32 Tryz.underlying89 hil hil0 hil1 hil2 rfl (by decide) (.slice p2 n2 c2) n2 xs2 rfl (own_kept HOW.out (show Bel wr _ by (have HB:=HB3.out;exact EL))) ⟨w3.heap.size,0,none⟩ 1 1 [.int .u8 x0,.slice x1 x2 x3] rfl rfl (blk_arr (cs:=#[.int .u8 x0,.slice x1 x2 x3]) (t:=111) (by exact KL)) (by simp [Value.oneCell']) (by decide) (by unfold maxLen;omega) (by omega) (by have:=HGROW.out;have:=HB3.out.size;simp;omega) ?_;intro v' w6 ho6 hg6 hb6;obtain ⟨p6,c6,rfl⟩:=ho6.isSlice;have HO6:=Lib.hid ho6;have HG6:=Lib.hid hg6;have HB6:=Lib.hid hb6;have E1:=grownBy_blk hg6 (show Blk _ w.heap.size #[.int .i64 0,.nilIface] 64 by (have HB:=HC1.out;exact KL)) (HOW.out.ne_of_lt (by omega));have HE1:=Lib.hid E1;clear ho6 hg6 hb6 E1))
    go_roundw
    case rel =>
     have hs3:=HB3.out.size
     have hs6:=HG6.out.size
     have hgr:=HGROW.out
     simp at hs6
     refine ⟨t+1,n1,n2+1,n3,p1,c1,p6,c6,p3,c3,xs1,(xs2 ++ [.int .u8 x0,.slice x1 x2 x3]),xs3,rfl,rfl,rfl,by go_num,by omega,by omega,by omega,by omega,?_,by omega,HE1.out,?_⟩
     ·exact (show Bel w _ from HBEL.out.trans (show Bel wr _ by (have HB:=HB3.out;exact EL))).of_row HG6.out (fun g hg=>by have:=(HOW.out.lt g hg).1;omega)
     ·rw [HTK.out]
      refine Rows3.push HROWS.out (by omega) (i:=1) (by decide) HKI.out HB3.out (cl:=[.int .u8 x0,.slice x1 x2 x3]) rfl HO.out HO6.out HG6.out HB6.out ⟨rfl,rfl,rfl⟩ (fun j hj hne=>?_)
      have h3:j=0∨j=1∨j=2:=by omega
      rcases h3 with rfl|rfl|rfl
      ·exact ⟨rfl,rfl,rfl⟩
      ·exact absurd rfl hne
      ·exact ⟨rfl,rfl,rfl⟩
    case measure=>simp [intOf];omega
   by_cases hkq3:kd.kind=3
   ·have HC:Hid (∀ W,Bel wr W→Calls Tryz.prog 87 #[.agg #[.int .i64 3,.int .i64 kd.dim,.slice pn' nn' cn',.slice pk' nk' ck']] W (IsOb (Off w.heap.size (f3 (.slice p1 n1 c1) (.slice p2 n2 c2) (.slice p3 n3 c3))) W 3 (newOf kd))):=Lib.hid fun W hW=>polygonOb_any _ kd hkq3 (HSZ.out kd hmem) pn' nn' cn' pk' nk' ck' W (fun b hb=>HOFF.out b (Or.inr (Nat.le_trans hW.size hb))) ((hf.bel HBEL.out).keep hW.size (fun b _ hl=>hW.block b hl) fun b hl hb=>HOF2.out b hb) ((hg'.bel HBEL.out).keep hW.size (fun b _ hl=>hW.block b hl) fun b hl hb=>HOF2.out b hb)
    have HKI:Hid (((2:Nat):Int)+1=(newOf kd).kind):=Lib.hid (by rw [newOf_kind,hkq3];decide)
    have HTK:Hid (ks.take (t+1)=ks.take t ++ [kd]):=Lib.hid (by rw [List.take_add_one,hkd];rfl)
    have HOW:Hid (wr.ownsRow (w.heap.size+1) 91 2 (.slice p3 n3 c3) n3 xs3):=Lib.hid (HROWS.out.own 2 (by decide))
    rw [hkq3] at D0
    clear d0 d1 d2 d3 hf hg' hkd hmem hkq3
    generalize kd.dim=kdim at *
    go_wp2_with (first
     | (go_at_call 87;(with_reducible refine (HC.out _ ?hb).mono ?_);(case hb=>exact EL);rintro e w3 ⟨cs,rfl,ho,hb3⟩;have HO:=Lib.hid ho;obtain ⟨x0,x1,x2,x3,hcs,-⟩:=ho.sl (e:=2) (k:=2) rfl;subst hcs;have HB3:Hid (Bel wr w3):=Lib.hid ((show Bel wr _ by exact EL).trans hb3);have HC1:=Lib.hid (HG1.out.bel HB3.out);clear hb3 ho)
     | (at_builtin;refine wpList_append_row _ rfl (.tmp 35) (.tmp 38) 127 rfl (w.heap.size+1) 91 ig _ 2 32 Tryz.underlying127 hig hig0 hig1 hig2 rfl (by decide) (.slice p3 n3 c3) n3 xs3 rfl (own_kept HOW.out (show Bel wr _ by (have HB:=HB3.out;exact EL))) ⟨w3.heap.size,0,none⟩ 1 1 [.slice x0 x3.length x1,.int .u8 x2] rfl rfl (blk_arr (cs:=#[.slice x0 x3.length x1,.int .u8 x2]) (t:=91) (by exact KL)) (by simp [Value.oneCell']) (by decide) (by unfold maxLen;omega) (by omega) (by have:=HGROW.out;have:=HB3.out.size;simp;omega) ?_;intro v' w6 ho6 hg6 hb6;obtain ⟨p6,c6,rfl⟩:=ho6.isSlice;have HO6:=Lib.hid ho6;have HG6:=Lib.hid hg6;have HB6:=Lib.hid hb6;have E1:=grownBy_blk hg6 (show Blk _ w.heap.size #[.int .i64 0,.nilIface] 64 by (have HB:=HC1.out;exact KL)) (HOW.out.ne_of_lt (by omega));have HE1:=Lib.hid E1;clear ho6 hg6 hb6 E1))
    go_roundw
    case rel =>
     have hs3:=HB3.out.size
     have hs6:=HG6.out.size
     have hgr:=HGROW.out
     simp at hs6
     refine ⟨t+1,n1,n2,n3+1,p1,c1,p2,c2,p6,c6,xs1,xs2,(xs3 ++ [.slice x0 x3.length x1,.int .u8 x2]),rfl,rfl,rfl,by go_num,by omega,by omega,by omega,by omega,?_,by omega,HE1.out,?_⟩
     ·exact (show Bel w _ from HBEL.out.trans (show Bel wr _ by (have HB:=HB3.out;exact EL))).of_row HG6.out (fun g hg=>by have:=(HOW.out.lt g hg).1;omega)
     ·rw [HTK.out]
      refine Rows3.push HROWS.out (by omega) (i:=2) (by decide) HKI.out HB3.out (cl:=[.slice x0 x3.length x1,.int .u8 x2]) rfl HO.out HO6.out HG6.out HB6.out ⟨rfl,rfl,rfl⟩ (fun j hj hne=>?_)
      have h3:j=0∨j=1∨j=2:=by omega
      rcases h3 with rfl|rfl|rfl
      ·exact ⟨rfl,rfl,rfl⟩
      ·exact ⟨rfl,rfl,rfl⟩
      ·exact absurd rfl hne
    case measure=>simp [intOf];omega
   have HKI:Hid (∀ i:Nat,i<3→(i:Int)+1 ≠ (newOf kd).kind):=Lib.hid fun i hi=>by
    rw [newOf_kind]
    unfold kindOf
    split<;>omega
   have HTK:Hid (ks.take (t+1)=ks.take t ++ [kd]):=Lib.hid (by rw [List.take_add_one,hkd];rfl)
   have e1:(kd.kind == 1)=false:=by simp [hkq]
   have e2:(kd.kind == 2)=false:=by simp [hkq2]
   have e3:(kd.kind == 3)=false:=by simp [hkq3]
   clear d0 d1 d2 d3 hf hg' hkd hmem
   generalize kd.dim=kdim at *
   generalize hkk:kd.kind=kkind at *
   clear hkk hkq hkq2 hkq3
   go_wp2
   go_roundw
   case rel=>exact ⟨t+1,n1,n2,n3,p1,c1,p2,c2,p3,c3,xs1,xs2,xs3,rfl,rfl,rfl,by go_num,by omega,by omega,by omega,by omega,by (have HB:=HBEL.out;exact EL),by have:=HGROW.out;simp;omega,by (have HB:=HG1.out;exact KL),by rw [HTK.out];exact HROWS.out.skip (by exact EL) HKI.out⟩
   case measure=>simp [intOf];omega
  ·obtain rfl:t=n:=by omega
   have htk:ks.take t=ks:=List.take_of_length_le (by have:=HN.out;omega)
   clear hbel
   have HRO:Hid (ObSl (fun b=>b ≠ w.heap.size) wr 2 2 (.slice p2 n2 c2) (newAll 2 ks)):=Lib.hid (by
    have:=HROWS.out.obs (by omega) (i:=1) (by decide)
    rw [htk] at this
    exact this)
   have HLN:Hid ((newAll 2 ks).length=n2):=Lib.hid (by
    have:=HROWS.out.len 1 (by decide)
    rw [htk] at this
    exact this)
   clear htk
   go_wp2_with (first
    | (go_at_call 91;(with_reducible refine (HAG.out _ _ HO2.out HS2.out).mono ?_);rintro e w4 ⟨cl4,rfl,hob4,hb4⟩;obtain ⟨a4,v4,z4,hc4,-⟩:=hob4.gi;subst hc4;have HOB4:=Lib.hid hob4;have HB4:Hid (Bel w w4):=Lib.hid (HB2.out.trans hb4);have C4:=HR2.out.bel hb4;have HR4:=Lib.hid C4;obtain ⟨q3,q4,q5⟩:=C4.facts;clear hob4 hb4 C4)
    | (go_at_call 108;(with_reducible refine (newJoin_5 _ _ _ _ _ _ (HNW.out _ HGROW.out) HRO.out HLN.out (by omega)).mono ?_);rintro e w2 ⟨cs2,rfl,ho2,hb2⟩;obtain ⟨y1,y2,y3,y4,hcs2,-⟩:=ho2.sl (e:=2) (k:=2) rfl;subst hcs2;have HO2:=Lib.hid ho2;have HB2:Hid (Bel w w2):=Lib.hid (HBEL.out.trans hb2);have HS2:Hid (w.heap.size+1≤w2.heap.size):=Lib.hid (by have:=HGROW.out;have:=hb2.size;omega);have HR2:=Lib.hid (HG1.out.bel hb2);clear ho2 hb2))
   refine post_ret (results_two rfl (resIs_agg (n:=2) (cs:=#[.int .i64 a4,.iface (ptrT a4) (.pointer (some ⟨v4,0,none⟩))]) (by rfl) Tryz.underlying64 (by kernel_rfl) (T:=64) ?_ rfl) (resIs_tmp (by rfl))) ⟨[.int .i64 a4,.iface (ptrT a4) (.pointer (some ⟨v4,0,none⟩))],rfl,?_,?_⟩
   ·have HB:=HR4.out
    exact SL
   ·exact ((HOB4.out.set (b:=w.heap.size) (by simp) 0 _).set (b:=w.heap.size) (by simp) 1 _).mono fun _ _ _=>trivial
   ·have HB:=HB4.out
    exact EL
set_option maxHeartbeats 16000000 in
set_option maxRecDepth 100000 in
theorem newOf_6 (ks:List Gm) (hsz:∀ k ∈ ks,k.size≤1048576) (hn31:ks.length≤1048576) (F:Nat→Prop) (pk:Option Addr) (ck:Nat) (w:World) (hK:GmSl F w (.slice pk ks.length ck) ks):Calls Tryz.prog 41 #[.int .i64 6,.slice pk ks.length ck] w (IsPart (joinG 6 (newAll 3 ks)) w):=by
 have HK:=Lib.hid hK
 have HSZ:=Lib.hid hsz
 have HNW:Hid (∀ W:World,w.heap.size<W.heap.size→New (fun b=>b ≠ w.heap.size) W):=Lib.hid fun W hW b hb=>by omega
 have HAG:Hid (∀ (cs:List Value) (W:World),Ob (fun b=>b ≠ w.heap.size) W 6 cs (joinG 6 (newAll 3 ks))→w.heap.size+1≤W.heap.size→Calls Tryz.prog 93 #[.agg cs.toArray] W (IsOb (fun b=>b ≠ w.heap.size) W 7 (joinG 6 (newAll 3 ks)))):=Lib.hid fun cs W h hs=>asGeo_6 _ cs _ W (fun b hb=>by omega) h
 clear hK hsz
 generalize hn:ks.length=n at *
 have HN:=Lib.hid hn
 clear hn
 obtain ⟨ip,hip,hip0,hip1,hip2⟩:=info_parts infoPt
 obtain ⟨il,hil,hil0,hil1,hil2⟩:=info_parts infoLn
 obtain ⟨ig,hig,hig0,hig1,hig2⟩:=info_parts infoPg
 go_enter Tryz.func41,Tryz.ntmps41
 go_wp2
 go_loopw [6,7,8,13] (fun a b c iv wr=>∃ (t n1 n2 n3:Nat) (p1:Option Addr) (c1:Nat) (p2:Option Addr) (c2:Nat) (p3:Option Addr) (c3:Nat) (xs1 xs2 xs3:List Value),a=.slice p1 n1 c1∧b=.slice p2 n2 c2∧c=.slice p3 n3 c3∧iv=.int .i64 t∧t≤n∧n1≤t∧n2≤t∧n3≤t∧Bel w wr∧w.heap.size<wr.heap.size∧Blk wr w.heap.size #[.int .i64 0,.nilIface] 64∧Rows3 w.heap.size (w.heap.size+1) wr (f3 (.slice p1 n1 c1) (.slice p2 n2 c2) (.slice p3 n3 c3)) (f3 n1 n2 n3) (f3 xs1 xs2 xs3) (ks.take t)) (fun _ _ _ iv _=>n - (intOf iv).toNat)
 case atStart=>exact ⟨0,0,0,0,none,0,none,0,none,0,[],[],[],rfl,rfl,rfl,rfl,Nat.zero_le _,Nat.le_refl _,Nat.le_refl _,Nat.le_refl _,by exact EL,by simp,by exact KL,Rows3.nil _ _ _⟩
 case round =>
  obtain ⟨t,n1,n2,n3,p1,c1,p2,c2,p3,c3,xs1,xs2,xs3,rfl,rfl,rfl,rfl,ht,hn1,hn2,hn3,hbel,hgrow,hb1,hrows⟩:=hrel
  have HBEL:=Lib.hid hbel
  have HGROW:=Lib.hid hgrow
  have HG1:=Lib.hid hb1
  have HROWS:=Lib.hid hrows
  have HOFF:Hid (∀ b,(b<w.heap.size∨wr.heap.size≤b)→Off w.heap.size (f3 (.slice p1 n1 c1) (.slice p2 n2 c2) (.slice p3 n3 c3)) b):=Lib.hid fun b hb=>hrows.off (by omega) hgrow hb
  obtain ⟨r1,y1,l1⟩:=hb1.facts
  clear hb1 hrows
  by_cases htn:t<n
  ·obtain ⟨kd,hkd⟩:∃ kd,ks[t]?=some kd:=⟨_,List.getElem?_eq_getElem (by have:=HN.out;omega)⟩
   have hmem:kd ∈ ks:=List.mem_iff_getElem?.2 ⟨t,hkd⟩
   obtain ⟨b,off,pn',nn',cn',pk',nk',ck',rfl,hlt,-,d0,d1,d2,d3,hf,hg'⟩:=(HK.out.mono (G:=fun b=>b<w.heap.size) fun b hl _=>hl).at hkd
   have HOF2:Hid (∀ b,b<w.heap.size→Off w.heap.size (f3 (.slice p1 n1 c1) (.slice p2 n2 c2) (.slice p3 n3 c3)) b):=Lib.hid fun b hb=>HOFF.out b (Or.inl hb)
   have D0:=cell_kept hbel d0
   have D1:=cell_kept hbel d1
   have D2:=cell_kept hbel d2
   have D3:=cell_kept hbel d3
   have hbl:b<wr.heap.size:=Nat.lt_of_lt_of_le hlt hbel.size
   by_cases hkq:kd.kind=1
   ·have HC:Hid (∀ W,Bel wr W→Calls Tryz.prog 85 #[.agg #[.int .i64 1,.int .i64 kd.dim,.slice pn' nn' cn',.slice pk' nk' ck']] W (IsOb (Off w.heap.size (f3 (.slice p1 n1 c1) (.slice p2 n2 c2) (.slice p3 n3 c3))) W 1 (newOf kd))):=Lib.hid fun W hW=>pointOb_any _ kd hkq (HSZ.out kd hmem) pn' nn' cn' pk' nk' ck' W (fun b hb=>HOFF.out b (Or.inr (Nat.le_trans hW.size hb))) ((hf.bel HBEL.out).keep hW.size (fun b _ hl=>hW.block b hl) fun b hl hb=>HOF2.out b hb) ((hg'.bel HBEL.out).keep hW.size (fun b _ hl=>hW.block b hl) fun b hl hb=>HOF2.out b hb)
    have HKI:Hid (((0:Nat):Int)+1=(newOf kd).kind):=Lib.hid (by rw [newOf_kind,hkq];decide)
    have HTK:Hid (ks.take (t+1)=ks.take t ++ [kd]):=Lib.hid (by rw [List.take_add_one,hkd];rfl)
    have HOW:Hid (wr.ownsRow (w.heap.size+1) 107 6 (.slice p1 n1 c1) n1 xs1):=Lib.hid (HROWS.out.own 0 (by decide))
    rw [hkq] at D0
    clear d0 d1 d2 d3 hf hg' hkd hmem hkq
    generalize kd.dim=kdim at *
    go_wp2_with (first
     | (go_at_call 85;(with_reducible refine (HC.out _ ?hb).mono ?_);(case hb=>exact EL);rintro e w3 ⟨cs,rfl,ho,hb3⟩;have HO:=Lib.hid ho;obtain ⟨x0,x1,x2,x3,x4,x5,hcs,-⟩:=ho.pt;subst hcs;have HB3:Hid (Bel wr w3):=Lib.hid ((show Bel wr _ by exact EL).trans hb3);have HC1:=Lib.hid (HG1.out.bel HB3.out);clear hb3 ho)
     | (at_builtin;refine wpList_append_row _ rfl (.tmp 21) (.tmp 24) 119 rfl (w.heap.size+1) 107 ip _ 6 48 Tryz.underlying119 hip hip0 hip1 hip2 rfl (by decide) (.slice p1 n1 c1) n1 xs1 rfl (own_kept HOW.out (show Bel wr _ by (have HB:=HB3.out;exact EL))) ⟨w3.heap.size,0,none⟩ 1 1 [.float .f64 x0,.float .f64 x1,.float .f64 x2,.float .f64 x3,.int .u8 x4,.bool x5] rfl rfl (blk_arr (cs:=#[.float .f64 x0,.float .f64 x1,.float .f64 x2,.float .f64 x3,.int .u8 x4,.bool x5]) (t:=107) (by exact KL)) (by simp [Value.oneCell']) (by decide) (by unfold maxLen;omega) (by omega) (by have:=HGROW.out;have:=HB3.out.size;simp;omega) ?_;intro v' w6 ho6 hg6 hb6;obtain ⟨p6,c6,rfl⟩:=ho6.isSlice;have HO6:=Lib.hid ho6;have HG6:=Lib.hid hg6;have HB6:=Lib.hid hb6;have E1:=grownBy_blk hg6 (show Blk _ w.heap.size #[.int .i64 0,.nilIface] 64 by (have HB:=HC1.out;exact KL)) (HOW.out.ne_of_lt (by omega));have HE1:=Lib.hid E1;clear ho6 hg6 hb6 E1))
    go_roundw
    case rel =>
     have hs3:=HB3.out.size
     have hs6:=HG6.out.size
     have hgr:=HGROW.out
     simp at hs6
     refine ⟨t+1,n1+1,n2,n3,p6,c6,p2,c2,p3,c3,(xs1 ++ [.float .f64 x0,.float .f64 x1,.float .f64 x2,.float .f64 x3,.int .u8 x4,.bool x5]),xs2,xs3,rfl,rfl,rfl,by go_num,by omega,by omega,by omega,by omega,?_,by omega,HE1.out,?_⟩
     ·exact (show Bel w _ from HBEL.out.trans (show Bel wr _ by (have HB:=HB3.out;exact EL))).of_row HG6.out (fun g hg=>by have:=(HOW.out.lt g hg).1;omega)
     ·rw [HTK.out]
      refine Rows3.push HROWS.out (by omega) (i:=0) (by decide) HKI.out HB3.out (cl:=[.float .f64 x0,.float .f64 x1,.float .f64 x2,.float .f64 x3,.int .u8 x4,.bool x5]) rfl HO.out HO6.out HG6.out HB6.out ⟨rfl,rfl,rfl⟩ (fun j hj hne=>?_)
      have h3:j=0∨j=1∨j=2:=by omega
      rcases h3 with rfl|rfl|rfl
      ·exact absurd rfl hne
      ·exact ⟨rfl,rfl,rfl⟩
      ·exact ⟨rfl,rfl,rfl⟩
    case measure=>simp [intOf];omega
   by_cases hkq2:kd.kind=2
   ·have HC:Hid (∀ W,Bel wr W→Calls Tryz.prog 86 #[.agg #[.int .i64 2,.int .i64 kd.dim,.slice pn' nn' cn',.slice pk' nk' ck']] W (IsOb (Off w.heap.size (f3 (.slice p1 n1 c1) (.slice p2 n2 c2) (.slice p3 n3 c3))) W 2 (newOf kd))):=Lib.hid fun W hW=>lineOb_any _ kd hkq2 (HSZ.out kd hmem) pn' nn' cn' pk' nk' ck' W (fun b hb=>HOFF.out b (Or.inr (Nat.le_trans hW.size hb))) ((hf.bel HBEL.out).keep hW.size (fun b _ hl=>hW.block b hl) fun b hl hb=>HOF2.out b hb) ((hg'.bel HBEL.out).keep hW.size (fun b _ hl=>hW.block b hl) fun b hl hb=>HOF2.out b hb)
    have HKI:Hid (((1:Nat):Int)+1=(newOf kd).kind):=Lib.hid (by rw [newOf_kind,hkq2];decide)
    have HTK:Hid (ks.take (t+1)=ks.take t ++ [kd]):=Lib.hid (by rw [List.take_add_one,hkd];rfl)
    have HOW:Hid (wr.ownsRow (w.heap.size+1) 111 2 (.slice p2 n2 c2) n2 xs2):=Lib.hid (HROWS.out.own 1 (by decide))
    rw [hkq2] at D0
    clear d0 d1 d2 d3 hf hg' hkd hmem hkq2
    generalize kd.dim=kdim at *
    go_wp2_with (first
     | (go_at_call 86;(with_reducible refine (HC.out _ ?hb).mono ?_);(case hb=>exact EL);rintro e w3 ⟨cs,rfl,ho,hb3⟩;have HO:=Lib.hid ho;obtain ⟨x0,x1,x2,x3,x4,hcs,-⟩:=ho.ln;subst hcs;have HB3:Hid (Bel wr w3):=Lib.hid ((show Bel wr _ by exact EL).trans hb3);have HC1:=Lib.hid (HG1.out.bel HB3.out);clear hb3 ho)
     | (at_builtin;refine wpList_append_row _ rfl (.tmp 28) (.tmp 31) 89 rfl (w.heap.size+1) 111 il _ 2 32 Tryz.underlying89 hil hil0 hil1 hil2 rfl (by decide) (.slice p2 n2 c2) n2 xs2 rfl (own_kept HOW.out (show Bel wr _ by (have HB:=HB3.out;exact EL))) ⟨w3.heap.size,0,none⟩ 1 1 [.int .u8 x0,.slice x1 x2 x3] rfl rfl (blk_arr (cs:=#[.int .u8 x0,.slice x1 x2 x3]) (t:=111) (by exact KL)) (by simp [Value.oneCell']) (by decide) (by unfold maxLen;omega) (by omega) (by have:=HGROW.out;have:=HB3.out.size;simp;omega) ?_;intro v' w6 ho6 hg6 hb6;obtain ⟨p6,c6,rfl⟩:=ho6.isSlice;have HO6:=Lib.hid ho6;have HG6:=Lib.hid hg6;have HB6:=Lib.hid hb6;have E1:=grownBy_blk hg6 (show Blk _ w.heap.size #[.int .i64 0,.nilIface] 64 by (have HB:=HC1.out;exact KL)) (HOW.out.ne_of_lt (by omega));have HE1:=Lib.hid E1;clear ho6 hg6 hb6 E1))
    go_roundw
    case rel =>
     have hs3:=HB3.out.size
     have hs6:=HG6.out.size
     have hgr:=HGROW.out
     simp at hs6
     refine ⟨t+1,n1,n2+1,n3,p1,c1,p6,c6,p3,c3,xs1,(xs2 ++ [.int .u8 x0,.slice x1 x2 x3]),xs3,rfl,rfl,rfl,by go_num,by omega,by omega,by omega,by omega,?_,by omega,HE1.out,?_⟩
     ·exact (show Bel w _ from HBEL.out.trans (show Bel wr _ by (have HB:=HB3.out;exact EL))).of_row HG6.out (fun g hg=>by have:=(HOW.out.lt g hg).1;omega)
     ·rw [HTK.out]
      refine Rows3.push HROWS.out (by omega) (i:=1) (by decide) HKI.out HB3.out (cl:=[.int .u8 x0,.slice x1 x2 x3]) rfl HO.out HO6.out HG6.out HB6.out ⟨rfl,rfl,rfl⟩ (fun j hj hne=>?_)
      have h3:j=0∨j=1∨j=2:=by omega
      rcases h3 with rfl|rfl|rfl
      ·exact ⟨rfl,rfl,rfl⟩
      ·exact absurd rfl hne
      ·exact ⟨rfl,rfl,rfl⟩
    case measure=>simp [intOf];omega
   by_cases hkq3:kd.kind=3
   ·have HC:Hid (∀ W,Bel wr W→Calls Tryz.prog 87 #[.agg #[.int .i64 3,.int .i64 kd.dim,.slice pn' nn' cn',.slice pk' nk' ck']] W (IsOb (Off w.heap.size (f3 (.slice p1 n1 c1) (.slice p2 n2 c2) (.slice p3 n3 c3))) W 3 (newOf kd))):=Lib.hid fun W hW=>polygonOb_any _ kd hkq3 (HSZ.out kd hmem) pn' nn' cn' pk' nk' ck' W (fun b hb=>HOFF.out b (Or.inr (Nat.le_trans hW.size hb))) ((hf.bel HBEL.out).keep hW.size (fun b _ hl=>hW.block b hl) fun b hl hb=>HOF2.out b hb) ((hg'.bel HBEL.out).keep hW.size (fun b _ hl=>hW.block b hl) fun b hl hb=>HOF2.out b hb)
    have HKI:Hid (((2:Nat):Int)+1=(newOf kd).kind):=Lib.hid (by rw [newOf_kind,hkq3];decide)
    have HTK:Hid (ks.take (t+1)=ks.take t ++ [kd]):=Lib.hid (by rw [List.take_add_one,hkd];rfl)
    have HOW:Hid (wr.ownsRow (w.heap.size+1) 91 2 (.slice p3 n3 c3) n3 xs3):=Lib.hid (HROWS.out.own 2 (by decide))
    rw [hkq3] at D0
    clear d0 d1 d2 d3 hf hg' hkd hmem hkq3
    generalize kd.dim=kdim at *
    go_wp2_with (first
     | (go_at_call 87;(with_reducible refine (HC.out _ ?hb).mono ?_);(case hb=>exact EL);rintro e w3 ⟨cs,rfl,ho,hb3⟩;have HO:=Lib.hid ho;obtain ⟨x0,x1,x2,x3,hcs,-⟩:=ho.sl (e:=2) (k:=2) rfl;subst hcs;have HB3:Hid (Bel wr w3):=Lib.hid ((show Bel wr _ by exact EL).trans hb3);have HC1:=Lib.hid (HG1.out.bel HB3.out);clear hb3 ho)
     | (at_builtin;refine wpList_append_row _ rfl (.tmp 35) (.tmp 38) 127 rfl (w.heap.size+1) 91 ig _ 2 32 Tryz.underlying127 hig hig0 hig1 hig2 rfl (by decide) (.slice p3 n3 c3) n3 xs3 rfl (own_kept HOW.out (show Bel wr _ by (have HB:=HB3.out;exact EL))) ⟨w3.heap.size,0,none⟩ 1 1 [.slice x0 x3.length x1,.int .u8 x2] rfl rfl (blk_arr (cs:=#[.slice x0 x3.length x1,.int .u8 x2]) (t:=91) (by exact KL)) (by simp [Value.oneCell']) (by decide) (by unfold maxLen;omega) (by omega) (by have:=HGROW.out;have:=HB3.out.size;simp;omega) ?_;intro v' w6 ho6 hg6 hb6;obtain ⟨p6,c6,rfl⟩:=ho6.isSlice;have HO6:=Lib.hid ho6;have HG6:=Lib.hid hg6;have HB6:=Lib.hid hb6;have E1:=grownBy_blk hg6 (show Blk _ w.heap.size #[.int .i64 0,.nilIface] 64 by (have HB:=HC1.out;exact KL)) (HOW.out.ne_of_lt (by omega));have HE1:=Lib.hid E1;clear ho6 hg6 hb6 E1))
    go_roundw
    case rel =>
     have hs3:=HB3.out.size
     have hs6:=HG6.out.size
     have hgr:=HGROW.out
     simp at hs6
     refine ⟨t+1,n1,n2,n3+1,p1,c1,p2,c2,p6,c6,xs1,xs2,(xs3 ++ [.slice x0 x3.length x1,.int .u8 x2]),rfl,rfl,rfl,by go_num,by omega,by omega,by omega,by omega,?_,by omega,HE1.out,?_⟩
     ·exact (show Bel w _ from HBEL.out.trans (show Bel wr _ by (have HB:=HB3.out;exact EL))).of_row HG6.out (fun g hg=>by have:=(HOW.out.lt g hg).1;omega)
     ·rw [HTK.out]
      refine Rows3.push HROWS.out (by omega) (i:=2) (by decide) HKI.out HB3.out (cl:=[.slice x0 x3.length x1,.int .u8 x2]) rfl HO.out HO6.out HG6.out HB6.out ⟨rfl,rfl,rfl⟩ (fun j hj hne=>?_)
      have h3:j=0∨j=1∨j=2:=by omega
      rcases h3 with rfl|rfl|rfl
      ·exact ⟨rfl,rfl,rfl⟩
      ·exact ⟨rfl,rfl,rfl⟩
      ·exact absurd rfl hne
    case measure=>simp [intOf];omega
   have HKI:Hid (∀ i:Nat,i<3→(i:Int)+1 ≠ (newOf kd).kind):=Lib.hid fun i hi=>by
    rw [newOf_kind]
    unfold kindOf
    split<;>omega
   have HTK:Hid (ks.take (t+1)=ks.take t ++ [kd]):=Lib.hid (by rw [List.take_add_one,hkd];rfl)
   have e1:(kd.kind == 1)=false:=by simp [hkq]
   have e2:(kd.kind == 2)=false:=by simp [hkq2]
   have e3:(kd.kind == 3)=false:=by simp [hkq3]
   clear d0 d1 d2 d3 hf hg' hkd hmem
   generalize kd.dim=kdim at *
   generalize hkk:kd.kind=kkind at *
   clear hkk hkq hkq2 hkq3
   go_wp2
   go_roundw
   case rel=>exact ⟨t+1,n1,n2,n3,p1,c1,p2,c2,p3,c3,xs1,xs2,xs3,rfl,rfl,rfl,by go_num,by omega,by omega,by omega,by omega,by (have HB:=HBEL.out;exact EL),by have:=HGROW.out;simp;omega,by (have HB:=HG1.out;exact KL),by rw [HTK.out];exact HROWS.out.skip (by exact EL) HKI.out⟩
   case measure=>simp [intOf];omega
  ·obtain rfl:t=n:=by omega
   have htk:ks.take t=ks:=List.take_of_length_le (by have:=HN.out;omega)
   clear hbel
   have HRO:Hid (ObSl (fun b=>b ≠ w.heap.size) wr 3 2 (.slice p3 n3 c3) (newAll 3 ks)):=Lib.hid (by
    have:=HROWS.out.obs (by omega) (i:=2) (by decide)
    rw [htk] at this
    exact this)
   have HLN:Hid ((newAll 3 ks).length=n3):=Lib.hid (by
    have:=HROWS.out.len 2 (by decide)
    rw [htk] at this
    exact this)
   clear htk
   go_wp2_with (first
    | (go_at_call 93;(with_reducible refine (HAG.out _ _ HO2.out HS2.out).mono ?_);rintro e w4 ⟨cl4,rfl,hob4,hb4⟩;obtain ⟨a4,v4,z4,hc4,-⟩:=hob4.gi;subst hc4;have HOB4:=Lib.hid hob4;have HB4:Hid (Bel w w4):=Lib.hid (HB2.out.trans hb4);have C4:=HR2.out.bel hb4;have HR4:=Lib.hid C4;obtain ⟨q3,q4,q5⟩:=C4.facts;clear hob4 hb4 C4)
    | (go_at_call 109;(with_reducible refine (newJoin_6 _ _ _ _ _ _ (HNW.out _ HGROW.out) HRO.out HLN.out (by omega)).mono ?_);rintro e w2 ⟨cs2,rfl,ho2,hb2⟩;obtain ⟨y1,y2,y3,y4,hcs2,-⟩:=ho2.sl (e:=3) (k:=2) rfl;subst hcs2;have HO2:=Lib.hid ho2;have HB2:Hid (Bel w w2):=Lib.hid (HBEL.out.trans hb2);have HS2:Hid (w.heap.size+1≤w2.heap.size):=Lib.hid (by have:=HGROW.out;have:=hb2.size;omega);have HR2:=Lib.hid (HG1.out.bel hb2);clear ho2 hb2))
   refine post_ret (results_two rfl (resIs_agg (n:=2) (cs:=#[.int .i64 a4,.iface (ptrT a4) (.pointer (some ⟨v4,0,none⟩))]) (by rfl) Tryz.underlying64 (by kernel_rfl) (T:=64) ?_ rfl) (resIs_tmp (by rfl))) ⟨[.int .i64 a4,.iface (ptrT a4) (.pointer (some ⟨v4,0,none⟩))],rfl,?_,?_⟩
   ·have HB:=HR4.out
    exact SL
   ·exact ((HOB4.out.set (b:=w.heap.size) (by simp) 0 _).set (b:=w.heap.size) (by simp) 1 _).mono fun _ _ _=>trivial
   ·have HB:=HB4.out
    exact EL
set_option maxHeartbeats 16000000 in
set_option maxRecDepth 100000 in
theorem newOf_0 (ks:List Gm) (hsz:∀ k ∈ ks,k.size≤1048576) (hn31:ks.length≤1048576) (F:Nat→Prop) (pk:Option Addr) (ck:Nat) (w:World) (hK:GmSl F w (.slice pk ks.length ck) ks):Calls Tryz.prog 41 #[.int .i64 0,.slice pk ks.length ck] w (IsPart (joinG 0 (ks.map newOf)) w):=by
 have HK:=Lib.hid hK
 have HSZ:=Lib.hid hsz
 have HNW:Hid (∀ W:World,w.heap.size<W.heap.size→New (fun b=>b ≠ w.heap.size) W):=Lib.hid fun W hW b hb=>by omega
 have HAG:Hid (∀ (cs:List Value) (W:World),Ob (fun b=>b ≠ w.heap.size) W 0 cs (joinG 0 (ks.map newOf))→w.heap.size+1≤W.heap.size→Calls Tryz.prog 95 #[.agg cs.toArray] W (IsOb (fun b=>b ≠ w.heap.size) W 7 (joinG 0 (ks.map newOf)))):=Lib.hid fun cs W h hs=>asGeo_0 _ cs _ W (fun b hb=>by omega) h
 have HGS:Hid (∀ W,Bel w W→w.heap.size<W.heap.size→Calls Tryz.prog 105 #[.slice pk ks.length ck] W (IsObs (fun b=>b ≠ w.heap.size) W 7 2 ks.length (ks.map newOf))):=Lib.hid fun W hW hs=>geometries_any _ ks pk ks.length ck W (fun b hb=>by omega) ((hK.mono (G:=fun b=>b ≠ w.heap.size) fun b hl _=>by omega).bel hW) hn31 fun k hk=>geometry_any k (hsz k hk)
 have HLN:Hid ((ks.map newOf).length=ks.length):=Lib.hid (List.length_map _)
 clear hK hsz
 generalize hn:ks.length=n at *
 have HN:=Lib.hid hn
 clear hn
 obtain ⟨ip,hip,hip0,hip1,hip2⟩:=info_parts infoPt
 obtain ⟨il,hil,hil0,hil1,hil2⟩:=info_parts infoLn
 obtain ⟨ig,hig,hig0,hig1,hig2⟩:=info_parts infoPg
 go_enter Tryz.func41,Tryz.ntmps41
 go_wp2
 go_loopw [6,7,8,13] (fun a b c iv wr=>∃ (t n1 n2 n3:Nat) (p1:Option Addr) (c1:Nat) (p2:Option Addr) (c2:Nat) (p3:Option Addr) (c3:Nat) (xs1 xs2 xs3:List Value),a=.slice p1 n1 c1∧b=.slice p2 n2 c2∧c=.slice p3 n3 c3∧iv=.int .i64 t∧t≤n∧n1≤t∧n2≤t∧n3≤t∧Bel w wr∧w.heap.size<wr.heap.size∧Blk wr w.heap.size #[.int .i64 0,.nilIface] 64∧Rows3 w.heap.size (w.heap.size+1) wr (f3 (.slice p1 n1 c1) (.slice p2 n2 c2) (.slice p3 n3 c3)) (f3 n1 n2 n3) (f3 xs1 xs2 xs3) (ks.take t)) (fun _ _ _ iv _=>n - (intOf iv).toNat)
 case atStart=>exact ⟨0,0,0,0,none,0,none,0,none,0,[],[],[],rfl,rfl,rfl,rfl,Nat.zero_le _,Nat.le_refl _,Nat.le_refl _,Nat.le_refl _,by exact EL,by simp,by exact KL,Rows3.nil _ _ _⟩
 case round =>
  obtain ⟨t,n1,n2,n3,p1,c1,p2,c2,p3,c3,xs1,xs2,xs3,rfl,rfl,rfl,rfl,ht,hn1,hn2,hn3,hbel,hgrow,hb1,hrows⟩:=hrel
  have HBEL:=Lib.hid hbel
  have HGROW:=Lib.hid hgrow
  have HG1:=Lib.hid hb1
  have HROWS:=Lib.hid hrows
  have HOFF:Hid (∀ b,(b<w.heap.size∨wr.heap.size≤b)→Off w.heap.size (f3 (.slice p1 n1 c1) (.slice p2 n2 c2) (.slice p3 n3 c3)) b):=Lib.hid fun b hb=>hrows.off (by omega) hgrow hb
  obtain ⟨r1,y1,l1⟩:=hb1.facts
  clear hb1 hrows
  by_cases htn:t<n
  ·obtain ⟨kd,hkd⟩:∃ kd,ks[t]?=some kd:=⟨_,List.getElem?_eq_getElem (by have:=HN.out;omega)⟩
   have hmem:kd ∈ ks:=List.mem_iff_getElem?.2 ⟨t,hkd⟩
   obtain ⟨b,off,pn',nn',cn',pk',nk',ck',rfl,hlt,-,d0,d1,d2,d3,hf,hg'⟩:=(HK.out.mono (G:=fun b=>b<w.heap.size) fun b hl _=>hl).at hkd
   have HOF2:Hid (∀ b,b<w.heap.size→Off w.heap.size (f3 (.slice p1 n1 c1) (.slice p2 n2 c2) (.slice p3 n3 c3)) b):=Lib.hid fun b hb=>HOFF.out b (Or.inl hb)
   have D0:=cell_kept hbel d0
   have D1:=cell_kept hbel d1
   have D2:=cell_kept hbel d2
   have D3:=cell_kept hbel d3
   have hbl:b<wr.heap.size:=Nat.lt_of_lt_of_le hlt hbel.size
   by_cases hkq:kd.kind=1
   ·have HC:Hid (∀ W,Bel wr W→Calls Tryz.prog 85 #[.agg #[.int .i64 1,.int .i64 kd.dim,.slice pn' nn' cn',.slice pk' nk' ck']] W (IsOb (Off w.heap.size (f3 (.slice p1 n1 c1) (.slice p2 n2 c2) (.slice p3 n3 c3))) W 1 (newOf kd))):=Lib.hid fun W hW=>pointOb_any _ kd hkq (HSZ.out kd hmem) pn' nn' cn' pk' nk' ck' W (fun b hb=>HOFF.out b (Or.inr (Nat.le_trans hW.size hb))) ((hf.bel HBEL.out).keep hW.size (fun b _ hl=>hW.block b hl) fun b hl hb=>HOF2.out b hb) ((hg'.bel HBEL.out).keep hW.size (fun b _ hl=>hW.block b hl) fun b hl hb=>HOF2.out b hb)
    have HKI:Hid (((0:Nat):Int)+1=(newOf kd).kind):=Lib.hid (by rw [newOf_kind,hkq];decide)
    have HTK:Hid (ks.take (t+1)=ks.take t ++ [kd]):=Lib.hid (by rw [List.take_add_one,hkd];rfl)
    have HOW:Hid (wr.ownsRow (w.heap.size+1) 107 6 (.slice p1 n1 c1) n1 xs1):=Lib.hid (HROWS.out.own 0 (by decide))
    rw [hkq] at D0
    clear d0 d1 d2 d3 hf hg' hkd hmem hkq
    generalize kd.dim=kdim at *
    go_wp2_with (first
     | (go_at_call 85;(with_reducible refine (HC.out _ ?hb).mono ?_);(case hb=>exact EL);rintro e w3 ⟨cs,rfl,ho,hb3⟩;have HO:=Lib.hid ho;obtain ⟨x0,x1,x2,x3,x4,x5,hcs,-⟩:=ho.pt;subst hcs;have HB3:Hid (Bel wr w3):=Lib.hid ((show Bel wr _ by exact EL).trans hb3);have HC1:=Lib.hid (HG1.out.bel HB3.out);clear hb3 ho)
     | (at_builtin;refine wpList_append_row _ rfl (.tmp 21) (.tmp 24) 119 rfl (w.heap.size+1) 107 ip _ 6 48 Tryz.underlying119 hip hip0 hip1 hip2 rfl (by decide) (.slice p1 n1 c1) n1 xs1 rfl (own_kept HOW.out (show Bel wr _ by (have HB:=HB3.out;exact EL))) ⟨w3.heap.size,0,none⟩ 1 1 [.float .f64 x0,.float .f64 x1,.float .f64 x2,.float .f64 x3,.int .u8 x4,.bool x5] rfl rfl (blk_arr (cs:=#[.float .f64 x0,.float .f64 x1,.float .f64 x2,.float .f64 x3,.int .u8 x4,.bool x5]) (t:=107) (by exact KL)) (by simp [Value.oneCell']) (by decide) (by unfold maxLen;omega) (by omega) (by have:=HGROW.out;have:=HB3.out.size;simp;omega) ?_;intro v' w6 ho6 hg6 hb6;obtain ⟨p6,c6,rfl⟩:=ho6.isSlice;have HO6:=Lib.hid ho6;have HG6:=Lib.hid hg6;have HB6:=Lib.hid hb6;have E1:=grownBy_blk hg6 (show Blk _ w.heap.size #[.int .i64 0,.nilIface] 64 by (have HB:=HC1.out;exact KL)) (HOW.out.ne_of_lt (by omega));have HE1:=Lib.hid E1;clear ho6 hg6 hb6 E1))
    go_roundw
    case rel =>
     have hs3:=HB3.out.size
     have hs6:=HG6.out.size
     have hgr:=HGROW.out
     simp at hs6
     refine ⟨t+1,n1+1,n2,n3,p6,c6,p2,c2,p3,c3,(xs1 ++ [.float .f64 x0,.float .f64 x1,.float .f64 x2,.float .f64 x3,.int .u8 x4,.bool x5]),xs2,xs3,rfl,rfl,rfl,by go_num,by omega,by omega,by omega,by omega,?_,by omega,HE1.out,?_⟩
     ·exact (show Bel w _ from HBEL.out.trans (show Bel wr _ by (have HB:=HB3.out;exact EL))).of_row HG6.out (fun g hg=>by have:=(HOW.out.lt g hg).1;omega)
     ·rw [HTK.out]
      refine Rows3.push HROWS.out (by omega) (i:=0) (by decide) HKI.out HB3.out (cl:=[.float .f64 x0,.float .f64 x1,.float .f64 x2,.float .f64 x3,.int .u8 x4,.bool x5]) rfl HO.out HO6.out HG6.out HB6.out ⟨rfl,rfl,rfl⟩ (fun j hj hne=>?_)
      have h3:j=0∨j=1∨j=2:=by omega
      rcases h3 with rfl|rfl|rfl
      ·exact absurd rfl hne
      ·exact ⟨rfl,rfl,rfl⟩
      ·exact ⟨rfl,rfl,rfl⟩
    case measure=>simp [intOf];omega
   by_cases hkq2:kd.kind=2
   ·have HC:Hid (∀ W,Bel wr W→Calls Tryz.prog 86 #[.agg #[.int .i64 2,.int .i64 kd.dim,.slice pn' nn' cn',.slice pk' nk' ck']] W (IsOb (Off w.heap.size (f3 (.slice p1 n1 c1) (.slice p2 n2 c2) (.slice p3 n3 c3))) W 2 (newOf kd))):=Lib.hid fun W hW=>lineOb_any _ kd hkq2 (HSZ.out kd hmem) pn' nn' cn' pk' nk' ck' W (fun b hb=>HOFF.out b (Or.inr (Nat.le_trans hW.size hb))) ((hf.bel HBEL.out).keep hW.size (fun b _ hl=>hW.block b hl) fun b hl hb=>HOF2.out b hb) ((hg'.bel HBEL.out).keep hW.size (fun b _ hl=>hW.block b hl) fun b hl hb=>HOF2.out b hb)
    have HKI:Hid (((1:Nat):Int)+1=(newOf kd).kind):=Lib.hid (by rw [newOf_kind,hkq2];decide)
    have HTK:Hid (ks.take (t+1)=ks.take t ++ [kd]):=Lib.hid (by rw [List.take_add_one,hkd];rfl)
    have HOW:Hid (wr.ownsRow (w.heap.size+1) 111 2 (.slice p2 n2 c2) n2 xs2):=Lib.hid (HROWS.out.own 1 (by decide))
    rw [hkq2] at D0
    clear d0 d1 d2 d3 hf hg' hkd hmem hkq2
    generalize kd.dim=kdim at *
    go_wp2_with (first
     | (go_at_call 86;(with_reducible refine (HC.out _ ?hb).mono ?_);(case hb=>exact EL);rintro e w3 ⟨cs,rfl,ho,hb3⟩;have HO:=Lib.hid ho;obtain ⟨x0,x1,x2,x3,x4,hcs,-⟩:=ho.ln;subst hcs;have HB3:Hid (Bel wr w3):=Lib.hid ((show Bel wr _ by exact EL).trans hb3);have HC1:=Lib.hid (HG1.out.bel HB3.out);clear hb3 ho)
     | (at_builtin;refine wpList_append_row _ rfl (.tmp 28) (.tmp 31) 89 rfl (w.heap.size+1) 111 il _ 2 32 Tryz.underlying89 hil hil0 hil1 hil2 rfl (by decide) (.slice p2 n2 c2) n2 xs2 rfl (own_kept HOW.out (show Bel wr _ by (have HB:=HB3.out;exact EL))) ⟨w3.heap.size,0,none⟩ 1 1 [.int .u8 x0,.slice x1 x2 x3] rfl rfl (blk_arr (cs:=#[.int .u8 x0,.slice x1 x2 x3]) (t:=111) (by exact KL)) (by simp [Value.oneCell']) (by decide) (by unfold maxLen;omega) (by omega) (by have:=HGROW.out;have:=HB3.out.size;simp;omega) ?_;intro v' w6 ho6 hg6 hb6;obtain ⟨p6,c6,rfl⟩:=ho6.isSlice;have HO6:=Lib.hid ho6;have HG6:=Lib.hid hg6;have HB6:=Lib.hid hb6;have E1:=grownBy_blk hg6 (show Blk _ w.heap.size #[.int .i64 0,.nilIface] 64 by (have HB:=HC1.out;exact KL)) (HOW.out.ne_of_lt (by omega));have HE1:=Lib.hid E1;clear ho6 hg6 hb6 E1))
    go_roundw
    case rel =>
     have hs3:=HB3.out.size
     have hs6:=HG6.out.size
     have hgr:=HGROW.out
     simp at hs6
     refine ⟨t+1,n1,n2+1,n3,p1,c1,p6,c6,p3,c3,xs1,(xs2 ++ [.int .u8 x0,.slice x1 x2 x3]),xs3,rfl,rfl,rfl,by go_num,by omega,by omega,by omega,by omega,?_,by omega,HE1.out,?_⟩
     ·exact (show Bel w _ from HBEL.out.trans (show Bel wr _ by (have HB:=HB3.out;exact EL))).of_row HG6.out (fun g hg=>by have:=(HOW.out.lt g hg).1;omega)
     ·rw [HTK.out]
      refine Rows3.push HROWS.out (by omega) (i:=1) (by decide) HKI.out HB3.out (cl:=[.int .u8 x0,.slice x1 x2 x3]) rfl HO.out HO6.out HG6.out HB6.out ⟨rfl,rfl,rfl⟩ (fun j hj hne=>?_)
      have h3:j=0∨j=1∨j=2:=by omega
      rcases h3 with rfl|rfl|rfl
      ·exact ⟨rfl,rfl,rfl⟩
      ·exact absurd rfl hne
      ·exact ⟨rfl,rfl,rfl⟩
    case measure=>simp [intOf];omega
   by_cases hkq3:kd.kind=3
   ·have HC:Hid (∀ W,Bel wr W→Calls Tryz.prog 87 #[.agg #[.int .i64 3,.int .i64 kd.dim,.slice pn' nn' cn',.slice pk' nk' ck']] W (IsOb (Off w.heap.size (f3 (.slice p1 n1 c1) (.slice p2 n2 c2) (.slice p3 n3 c3))) W 3 (newOf kd))):=Lib.hid fun W hW=>polygonOb_any _ kd hkq3 (HSZ.out kd hmem) pn' nn' cn' pk' nk' ck' W (fun b hb=>HOFF.out b (Or.inr (Nat.le_trans hW.size hb))) ((hf.bel HBEL.out).keep hW.size (fun b _ hl=>hW.block b hl) fun b hl hb=>HOF2.out b hb) ((hg'.bel HBEL.out).keep hW.size (fun b _ hl=>hW.block b hl) fun b hl hb=>HOF2.out b hb)
    have HKI:Hid (((2:Nat):Int)+1=(newOf kd).kind):=Lib.hid (by rw [newOf_kind,hkq3];decide)
    have HTK:Hid (ks.take (t+1)=ks.take t ++ [kd]):=Lib.hid (by rw [List.take_add_one,hkd];rfl)
    have HOW:Hid (wr.ownsRow (w.heap.size+1) 91 2 (.slice p3 n3 c3) n3 xs3):=Lib.hid (HROWS.out.own 2 (by decide))
    rw [hkq3] at D0
    clear d0 d1 d2 d3 hf hg' hkd hmem hkq3
    generalize kd.dim=kdim at *
    go_wp2_with (first
     | (go_at_call 87;(with_reducible refine (HC.out _ ?hb).mono ?_);(case hb=>exact EL);rintro e w3 ⟨cs,rfl,ho,hb3⟩;have HO:=Lib.hid ho;obtain ⟨x0,x1,x2,x3,hcs,-⟩:=ho.sl (e:=2) (k:=2) rfl;subst hcs;have HB3:Hid (Bel wr w3):=Lib.hid ((show Bel wr _ by exact EL).trans hb3);have HC1:=Lib.hid (HG1.out.bel HB3.out);clear hb3 ho)
     | (at_builtin;refine wpList_append_row _ rfl (.tmp 35) (.tmp 38) 127 rfl (w.heap.size+1) 91 ig _ 2 32 Tryz.underlying127 hig hig0 hig1 hig2 rfl (by decide) (.slice p3 n3 c3) n3 xs3 rfl (own_kept HOW.out (show Bel wr _ by (have HB:=HB3.out;exact EL))) ⟨w3.heap.size,0,none⟩ 1 1 [.slice x0 x3.length x1,.int .u8 x2] rfl rfl (blk_arr (cs:=#[.slice x0 x3.length x1,.int .u8 x2]) (t:=91) (by exact KL)) (by simp [Value.oneCell']) (by decide) (by unfold maxLen;omega) (by omega) (by have:=HGROW.out;have:=HB3.out.size;simp;omega) ?_;intro v' w6 ho6 hg6 hb6;obtain ⟨p6,c6,rfl⟩:=ho6.isSlice;have HO6:=Lib.hid ho6;have HG6:=Lib.hid hg6;have HB6:=Lib.hid hb6;have E1:=grownBy_blk hg6 (show Blk _ w.heap.size #[.int .i64 0,.nilIface] 64 by (have HB:=HC1.out;exact KL)) (HOW.out.ne_of_lt (by omega));have HE1:=Lib.hid E1;clear ho6 hg6 hb6 E1))
    go_roundw
    case rel =>
     have hs3:=HB3.out.size
     have hs6:=HG6.out.size
     have hgr:=HGROW.out
     simp at hs6
     refine ⟨t+1,n1,n2,n3+1,p1,c1,p2,c2,p6,c6,xs1,xs2,(xs3 ++ [.slice x0 x3.length x1,.int .u8 x2]),rfl,rfl,rfl,by go_num,by omega,by omega,by omega,by omega,?_,by omega,HE1.out,?_⟩
     ·exact (show Bel w _ from HBEL.out.trans (show Bel wr _ by (have HB:=HB3.out;exact EL))).of_row HG6.out (fun g hg=>by have:=(HOW.out.lt g hg).1;omega)
     ·rw [HTK.out]
      refine Rows3.push HROWS.out (by omega) (i:=2) (by decide) HKI.out HB3.out (cl:=[.slice x0 x3.length x1,.int .u8 x2]) rfl HO.out HO6.out HG6.out HB6.out ⟨rfl,rfl,rfl⟩ (fun j hj hne=>?_)
      have h3:j=0∨j=1∨j=2:=by omega
      rcases h3 with rfl|rfl|rfl
      ·exact ⟨rfl,rfl,rfl⟩
      ·exact ⟨rfl,rfl,rfl⟩
      ·exact absurd rfl hne
    case measure=>simp [intOf];omega
   have HKI:Hid (∀ i:Nat,i<3→(i:Int)+1 ≠ (newOf kd).kind):=Lib.hid fun i hi=>by
    rw [newOf_kind]
    unfold kindOf
    split<;>omega
   have HTK:Hid (ks.take (t+1)=ks.take t ++ [kd]):=Lib.hid (by rw [List.take_add_one,hkd];rfl)
   have e1:(kd.kind == 1)=false:=by simp [hkq]
   have e2:(kd.kind == 2)=false:=by simp [hkq2]
   have e3:(kd.kind == 3)=false:=by simp [hkq3]
   clear d0 d1 d2 d3 hf hg' hkd hmem
   generalize kd.dim=kdim at *
   generalize hkk:kd.kind=kkind at *
   clear hkk hkq hkq2 hkq3
   go_wp2
   go_roundw
   case rel=>exact ⟨t+1,n1,n2,n3,p1,c1,p2,c2,p3,c3,xs1,xs2,xs3,rfl,rfl,rfl,by go_num,by omega,by omega,by omega,by omega,by (have HB:=HBEL.out;exact EL),by have:=HGROW.out;simp;omega,by (have HB:=HG1.out;exact KL),by rw [HTK.out];exact HROWS.out.skip (by exact EL) HKI.out⟩
   case measure=>simp [intOf];omega
  ·obtain rfl:t=n:=by omega
   have htk:ks.take t=ks:=List.take_of_length_le (by have:=HN.out;omega)
   clear hbel
   clear htk
   go_wp2_with (first
    | (go_at_call 95;(with_reducible refine (HAG.out _ _ HO2.out HS2.out).mono ?_);rintro e w4 ⟨cl4,rfl,hob4,hb4⟩;obtain ⟨a4,v4,z4,hc4,-⟩:=hob4.gi;subst hc4;have HOB4:=Lib.hid hob4;have HB4:Hid (Bel w w4):=Lib.hid (HB2.out.trans hb4);have C4:=HR2.out.bel hb4;have HR4:=Lib.hid C4;obtain ⟨q3,q4,q5⟩:=C4.facts;clear hob4 hb4 C4)
    | (go_at_call 104;(with_reducible refine (newJoin_0 _ _ _ _ _ _ (HNW.out _ HS5.out) HRO.out HLN.out (by omega)).mono ?_);rintro e w2 ⟨cs2,rfl,ho2,hb2⟩;obtain ⟨y1,y2,y3,y4,hcs2,-⟩:=ho2.sl (e:=7) (k:=2) rfl;subst hcs2;have HO2:=Lib.hid ho2;have HB2:Hid (Bel w w2):=Lib.hid (HB5.out.trans hb2);have HS2:Hid (w.heap.size+1≤w2.heap.size):=Lib.hid (by have:=HS5.out;have:=hb2.size;omega);have HR2:=Lib.hid (HR5.out.bel hb2);clear ho2 hb2)
    | (go_at_call 105;(with_reducible refine (HGS.out _ HBEL.out HGROW.out).mono ?_);rintro e w5 ⟨q1,q2,rfl,hsl,hb5⟩;have HRO:=Lib.hid hsl;have HB5:Hid (Bel w w5):=Lib.hid (HBEL.out.trans hb5);have HS5:Hid (w.heap.size<w5.heap.size):=Lib.hid (by have:=HGROW.out;have:=hb5.size;omega);have HR5:=Lib.hid (HG1.out.bel hb5);clear hsl hb5))
   refine post_ret (results_two rfl (resIs_agg (n:=2) (cs:=#[.int .i64 a4,.iface (ptrT a4) (.pointer (some ⟨v4,0,none⟩))]) (by rfl) Tryz.underlying64 (by kernel_rfl) (T:=64) ?_ rfl) (resIs_tmp (by rfl))) ⟨[.int .i64 a4,.iface (ptrT a4) (.pointer (some ⟨v4,0,none⟩))],rfl,?_,?_⟩
   ·have HB:=HR4.out
    exact SL
   ·exact ((HOB4.out.set (b:=w.heap.size) (by simp) 0 _).set (b:=w.heap.size) (by simp) 1 _).mono fun _ _ _=>trivial
   ·have HB:=HB4.out
    exact EL
end Go.Proofs.YtpipehenfcbjbaaGreatDoor
