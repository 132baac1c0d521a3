/-
 What multi polygons and points say of themselves in words. Condition: the table of powers of ten lies as its initialiser lays it.
-/
import Derived.Test.YtpipehenfcbjbaaGreatDoorPap
set_option linter.unusedVariables false
set_option linter.unusedSimpArgs false
namespace Go.Proofs.YtpipehenfcbjbaaGreatDoor
open Go.ChangeShapes Go.WideShapes Go.ChangeAt Go.RowKit
/-- How many parts of parts. -/
def ringsN:List Gm→Nat
 | []=>0
 | g :: r=>g.kids.length+ringsN r
theorem ringsN_take {gs:List Gm} {t:Nat} {g:Gm} (h:gs[t]?=some g):ringsN (gs.take (t+1))=ringsN (gs.take t)+g.kids.length:=by
 have key:∀ (l:List Gm) (a:Gm),ringsN (l ++ [a])=ringsN l+a.kids.length:=fun l a=>by
  induction l with
  | nil=>simp [ringsN]
  | cons x r ih=>simp only [List.cons_append,ringsN,ih,Nat.add_assoc]
 rw [List.take_add_one,h]
 exact key _ _
theorem ringsN_size:∀ l:List Gm,ringsN l≤Gm.sizes l
 | []=>by simp [ringsN]
 | g :: r=>by
  have h1:=ringsN_size r
  have h2:=Gm.len_sizes g.kids
  have h3:=g.size_eq
  rw [ringsN,Gm.sizes]
  omega
theorem ringsN_take_le:∀ (l:List Gm) (t:Nat),ringsN (l.take t)≤ringsN l
 | [],t=>by simp
 | a :: r,0=>by simp [ringsN]
 | a :: r,t+1=>by
  have:=ringsN_take_le r t
  rw [List.take_succ_cons,ringsN,ringsN]
  omega
set_option maxHeartbeats 8000000 in
set_option maxRecDepth 100000 in
theorem sum_6 {F:Nat→Prop} {cs:List Value} {g:Gm} (w:World) (h:Ob F w 6 cs g) (ht:Tab w) {c0:Nat} (hu:Uni c0 g) (hsz:g.size≤1048576):Calls Tryz.prog 152 #[.agg cs.toArray] w fun e w'=>e=.returned (.string (joinB [kName 6,⟨#[91]⟩,cName g.dim.toNat,⟨#[93,32,119,105,116,104,32]⟩,digits ((g.kids.length:Nat):Int),⟨#[32,112,111,108,121,103,111,110]⟩,sufS (g.kids.length),⟨#[32,99,111,110,115,105,115,116,105,110,103,32,111,102,32]⟩,digits ((ringsN g.kids:Nat):Int),⟨#[32,116,111,116,97,108,32,114,105,110,103]⟩,sufS (ringsN g.kids),⟨#[32,97,110,100,32]⟩,digits (((allOf g).length / wd g.dim.toNat:Nat):Int),⟨#[32,116,111,116,97,108,32,112,111,105,110,116,115]⟩]))∧Bel w w':=by
 obtain ⟨p,cap,c,gs,rfl,hc,hge,hn31,hsl⟩:=h.sl (e:=3) (k:=2) rfl
 have hdm:g.dim.toNat=c:=by rw [hge];simp [Gm.dim]
 have hkl:g.kids=gs:=by rw [hge];rfl
 have hcc:c0=c:=by
  have:=hu.dim'
  rw [this] at hdm
  simpa using hdm
 subst hcc
 have hlen:(allOf g).length≤1048576:=Nat.le_trans (allOf_len g) hsz
 have hmb:(allOf g).length / wd c0≤1048576:=Nat.le_trans (Nat.div_le_self _ _) hlen
 have HK:Hid (∀ W,Calls Tryz.prog 117 #[.int .i64 6] W fun e w'=>e=.returned (.string (kName 6))∧W=w'):=Lib.hid (kindStr_any 6 (by decide))
 have HC:=Lib.hid (ctStr_any c0 hc)
 have HT:=Lib.hid (type_6 p gs.length cap c0)
 have HCT:=Lib.hid (rawType_6 c0 p gs.length cap)
 have HTAB:=Lib.hid ht
 have HI:Hid (∀ (n:Nat) (W:World),n≤4294967296→Bel w W→Calls Tryz.prog 190 #[.int .i64 (n:Int)] W fun e w'=>e=.returned (.string (digits (n:Int)))∧Bel W w'):=Lib.hid fun n W hn hW=>itoa_any _ (Int.natCast_nonneg _) (by omega) W (ht.bel hW)
 have s1:=kName_size 6
 have s2:=cName_size c0
 have HDU:Hid (∀ W,Bel w W→Calls Tryz.prog 198 #[.agg #[.slice p gs.length cap,.int .u8 c0]] W (IsDump c0 (allOf g) W)):=Lib.hid fun W hW=>multiPolyDump_any W (h.bel hW) c0 hu hsz
 have HLD:Hid (∀ (p:Option Addr) (m cap:Nat) (W:World),m=(allOf g).length→Calls Tryz.prog 126 #[.agg #[.int .u8 c0,.slice p m cap]] W fun e w'=>e=.returned (.int .i64 ((allOf g).length / wd c0:Nat))∧Bel W w'):=Lib.hid fun p m cap W hm=>by
  subst hm
  exact length_any p _ cap c0 hc (by omega) W
 have hrnb:ringsN gs≤1048576:=by
  have h1:=ringsN_size gs
  have h2:=g.size_eq
  rw [hkl] at h2
  omega
 have HSL:=Lib.hid hsl
 have HNR:=Lib.hid (num_6 p gs.length cap c0)
 rw [hdm,hkl]
 show Calls Tryz.prog 152 #[.agg #[.slice p gs.length cap,.int .u8 c0]] w _
 generalize hnq:gs.length=q at *
 have HN:=Lib.hid hnq
 clear hnq
 generalize hrn:ringsN gs=rn at *
 have HRN:=Lib.hid hrn
 clear hrn
 generalize (allOf g).length / wd c0=m at *
 clear h hsl hge hkl hdm ht hu hsz hlen
 have HIq:Hid (∀ W,Bel w W→Calls Tryz.prog 190 #[.int .i64 ((q:Nat):Int)] W fun e w'=>e=.returned (.string (digits ((q:Nat):Int)))∧Bel W w'):=Lib.hid fun W hW=>HI.out _ W (by omega) hW
 have szq:=digits_size q (by omega)
 generalize digits ((q:Nat):Int)=dgq at *
 have HIrn:Hid (∀ W,Bel w W→Calls Tryz.prog 190 #[.int .i64 ((rn:Nat):Int)] W fun e w'=>e=.returned (.string (digits ((rn:Nat):Int)))∧Bel W w'):=Lib.hid fun W hW=>HI.out _ W (by omega) hW
 have szrn:=digits_size rn (by omega)
 generalize digits ((rn:Nat):Int)=dgrn at *
 have HIm:Hid (∀ W,Bel w W→Calls Tryz.prog 190 #[.int .i64 ((m:Nat):Int)] W fun e w'=>e=.returned (.string (digits ((m:Nat):Int)))∧Bel W w'):=Lib.hid fun W hW=>HI.out _ W (by omega) hW
 have szm:=digits_size m (by omega)
 generalize digits ((m:Nat):Int)=dgm at *
 generalize kName 6=kn at *
 generalize cName c0=cn at *
 obtain ⟨nbq,hnbq⟩:∃ nb,(((q:Nat):Int) != 1)=nb:=⟨_,rfl⟩
 have HSUFq:Hid (sufS q=if nbq then ⟨#[115]⟩ else ⟨#[]⟩):=Lib.hid (by
  rw [← hnbq]
  unfold sufS
  by_cases h1:q=1
  ·rw [if_pos h1]
   simp [h1]
  ·rw [if_neg h1]
   have:(((q:Nat):Int) != 1)=true:=by simp;omega
   rw [this]
   rfl)
 obtain ⟨nbrn,hnbrn⟩:∃ nb,(((rn:Nat):Int) != 1)=nb:=⟨_,rfl⟩
 have HSUFrn:Hid (sufS rn=if nbrn then ⟨#[115]⟩ else ⟨#[]⟩):=Lib.hid (by
  rw [← hnbrn]
  unfold sufS
  by_cases h1:rn=1
  ·rw [if_pos h1]
   simp [h1]
  ·rw [if_neg h1]
   have:(((rn:Nat):Int) != 1)=true:=by simp;omega
   rw [this]
   rfl)
 cases nbq
 ·skip
  cases nbrn
  ·skip
   have hS0:(9223372036854775807<kn.size+1)=False:=eq_false (by omega)
   have hS1:(9223372036854775807<kn.size+1+cn.size)=False:=eq_false (by omega)
   have hS2:(9223372036854775807<kn.size+1+cn.size+7)=False:=eq_false (by omega)
   have hS3:(9223372036854775807<kn.size+1+cn.size+7+dgq.size)=False:=eq_false (by omega)
   have hS4:(9223372036854775807<kn.size+1+cn.size+7+dgq.size+8)=False:=eq_false (by omega)
   have hS5:(9223372036854775807<kn.size+1+cn.size+7+dgq.size+8+15)=False:=eq_false (by omega)
   have hS6:(9223372036854775807<kn.size+1+cn.size+7+dgq.size+8+15+dgrn.size)=False:=eq_false (by omega)
   have hS7:(9223372036854775807<kn.size+1+cn.size+7+dgq.size+8+15+dgrn.size+11)=False:=eq_false (by omega)
   have hS8:(9223372036854775807<kn.size+1+cn.size+7+dgq.size+8+15+dgrn.size+11+5)=False:=eq_false (by omega)
   have hS9:(9223372036854775807<kn.size+1+cn.size+7+dgq.size+8+15+dgrn.size+11+5+dgm.size)=False:=eq_false (by omega)
   have hS10:(9223372036854775807<kn.size+1+cn.size+7+dgq.size+8+15+dgrn.size+11+5+dgm.size+13)=False:=eq_false (by omega)
   clear s1 s2 szq szrn szm
   go_enter Tryz.func152,Tryz.ntmps152
   go_wp2_with (first
    | (go_at_call 130;have HZ:=HB2;(with_reducible refine (HNR.out _).mono ?_);rintro e w3 ⟨rfl,hb3⟩;have hbw3:Bel w w3:=(show Bel w _ by (have HB:=HB2.out;exact EL)).trans hb3;have C3:Blk w3 w.heap.size #[.slice p q cap,.int .u8 c0] 129:=Blk.bel (by (have HB:=HC2.out;exact KL)) hb3;have HB3:=Lib.hid hbw3;have HC3:=Lib.hid C3;obtain ⟨r3,y3,u3⟩:=C3.facts;clear hbw3 C3 hb3)
    | (go_at_call 126;have HZ:=HB1;(with_reducible refine (HLD.out _ _ _ _ ?hm).mono ?_);(case hm=>exact HM2.out.symm);rintro e w2 ⟨rfl,hb2⟩;have hbw2:Bel w w2:=(show Bel w _ by (have HB:=HB1.out;exact EL)).trans hb2;have C2:Blk w2 w.heap.size #[.slice p q cap,.int .u8 c0] 129:=Blk.bel (by (have HB:=HC1.out;exact KL)) hb2;have HB2:=Lib.hid hbw2;have HC2:=Lib.hid C2;obtain ⟨r2,y2,u2⟩:=C2.facts;clear hbw2 C2 hb2)
    | (go_at_call 198;(with_reducible refine (HDU.out _ ?hb0).mono ?_);(case hb0=>exact EL);rintro e w1 ⟨p2,m2,q2,rfl,hf2,hb1⟩;have hbw1:Bel w w1:=(show Bel w _ by exact EL).trans hb1;have C1:Blk w1 w.heap.size #[.slice p q cap,.int .u8 c0] 129:=Blk.bel (by exact KL) hb1;have HB1:=Lib.hid hbw1;have HC1:=Lib.hid C1;obtain ⟨r1,y1,u1⟩:=C1.facts;have HM2:=Lib.hid hf2.len.1;clear hf2;clear hbw1 C1 hb1))
   go_loopw [6,20] (fun dv iv wr=>∃ t:Nat,dv=.int .i64 (ringsN (gs.take t):Nat)∧iv=.int .i64 t∧t≤q∧Bel w wr∧Blk wr w.heap.size #[.slice p q cap,.int .u8 c0] 129) (fun _ iv _=>q - (intOf iv).toNat)
   case atStart=>exact ⟨0,by simp [ringsN],rfl,Nat.zero_le _,HB3.out,HC3.out⟩
   case round =>
    obtain ⟨t,rfl,rfl,ht,hbel,hb0⟩:=hrel
    have HBEL:=Lib.hid hbel
    have HG0:=Lib.hid hb0
    obtain ⟨r0,y0,u0⟩:=hb0.facts
    have hrb:ringsN (gs.take t)≤1048576:=Nat.le_trans (ringsN_take_le gs t) (by rw [HRN.out];exact hrnb)
    by_cases htn:t<q
    ·obtain ⟨g,hg⟩:∃ g,gs[t]?=some g:=⟨_,List.getElem?_eq_getElem (by have:=HN.out;omega)⟩
     obtain ⟨_,_,hve,_,_,hq⟩:=HSL.out
     cases hve
     obtain ⟨b,off,rfl,hlt,-,hr⟩:=hq (by intro e;rw [e] at hg;simp at hg)
     obtain ⟨cl,hcl,hcell,hob⟩:=hr t g hg
     have HCN:Hid (∀ W,Bel w W→Calls Tryz.prog 127 #[.agg cl.toArray] W fun e w'=>e=.returned (.int .i64 g.kids.length)∧Bel W w'):=Lib.hid fun W hW=>numRings_any (hob.bel hW) W
     have hkb:g.kids.length≤1048576:=by
      have h1:=ringsN_take hg
      have h2:=ringsN_take_le gs (t+1)
      have h3:=HRN.out
      omega
     obtain ⟨p0,n0,q0,d0,hcs0⟩:=hob.ofSl (c:=0) (e:=2) (k:=2) rfl
     cases hcs0
     have D0:=cell_kept hbel (hcell 0 (.slice p0 n0 q0) rfl)
     have D1:=cell_kept hbel (hcell 1 (.int .u8 d0) rfl)
     simp only [Nat.add_zero] at D0
     have E1:=D1
     rw [← Nat.add_assoc] at E1
     have hbl:b<wr.heap.size:=Nat.lt_of_lt_of_le hlt hbel.size
     have HTK:=Lib.hid (ringsN_take hg)
     clear hq hr hcell hob hcl hbel hg hb0
     generalize g.kids.length=kl at *
     generalize ringsN (gs.take t)=dt at *
     go_wp2_with (go_at_call 127;(with_reducible refine (HCN.out _ ?hb).mono ?_);(case hb=>(have HB:=HBEL.out;exact EL));rintro e w5 ⟨rfl,hb5⟩;have hb6:Bel wr w5:=(show Bel wr _ by exact EL).trans hb5;have HB5:=Lib.hid hb6;have HG5:=Lib.hid (HG0.out.bel hb6);clear hb5 hb6)
     go_roundw
     case rel=>exact ⟨t+1,by (rw [HTK.out];go_num),by go_num,by omega,HBEL.out.trans HB5.out,HG5.out⟩
     case measure=>simp [intOf];omega
    ·obtain rfl:q=t:=by omega
     have hx:gs.take q=gs:=List.take_of_length_le (by have:=HN.out;omega)
     have hxr:ringsN (gs.take q)=rn:=by rw [hx];exact HRN.out
     generalize ringsN (gs.take q)=z at *
     subst hxr
     have hBB:=HBEL.out
     have hCC:=HG0.out
     clear hx hbel hb0 hrb
     go_wp2
     go_region_held3 (fun w'=>(∀ o,w'.cell? ⟨w.heap.size,o,none⟩=(#[Value.slice p q cap,.int .u8 c0]:Array Value)[o]?)∧Blk w' (w.heap.size) #[Value.slice p q cap,.int .u8 c0] 129∧Bel w w')
      (exact K1L)
      (first
       | (go_at_call 190;(with_reducible refine (HIq.out _ ?hbq).mono ?_);(case hbq=>exact EL);rintro e w60 ⟨rfl,hb60⟩)
       | (go_at_call 190;(with_reducible refine (HIrn.out _ ?hbrn).mono ?_);(case hbrn=>exact EL);rintro e w61 ⟨rfl,hb61⟩)
       | (go_at_call 190;(with_reducible refine (HIm.out _ ?hbm).mono ?_);(case hbm=>exact EL);rintro e w62 ⟨rfl,hb62⟩)
       | (go_at_call 189;(with_reducible refine (HC.out _).mono ?_);rintro e w53 ⟨rfl,hb53⟩)
       | (go_at_call 116;(with_reducible refine (HCT.out _).mono ?_);rintro e w52 ⟨rfl,hb52⟩)
       | (go_at_call 117;(with_reducible refine (HK.out _).mono ?_);rintro e w' ⟨rfl,rfl⟩)
       | (go_at_call 199;(with_reducible refine (HT.out _).mono ?_);rintro e w51 ⟨rfl,hb51⟩))
     go_wp2
     go_ret
     refine ⟨?_,by exact EL⟩
     rw [HSUFq.out]
     rw [HSUFrn.out]
     first|rfl|simp [joinB]
  ·skip
   have hS0:(9223372036854775807<kn.size+1)=False:=eq_false (by omega)
   have hS1:(9223372036854775807<kn.size+1+cn.size)=False:=eq_false (by omega)
   have hS2:(9223372036854775807<kn.size+1+cn.size+7)=False:=eq_false (by omega)
   have hS3:(9223372036854775807<kn.size+1+cn.size+7+dgq.size)=False:=eq_false (by omega)
   have hS4:(9223372036854775807<kn.size+1+cn.size+7+dgq.size+8)=False:=eq_false (by omega)
   have hS5:(9223372036854775807<kn.size+1+cn.size+7+dgq.size+8+15)=False:=eq_false (by omega)
   have hS6:(9223372036854775807<kn.size+1+cn.size+7+dgq.size+8+15+dgrn.size)=False:=eq_false (by omega)
   have hS7:(9223372036854775807<kn.size+1+cn.size+7+dgq.size+8+15+dgrn.size+11)=False:=eq_false (by omega)
   have hS8:(9223372036854775807<kn.size+1+cn.size+7+dgq.size+8+15+dgrn.size+11+1)=False:=eq_false (by omega)
   have hS9:(9223372036854775807<kn.size+1+cn.size+7+dgq.size+8+15+dgrn.size+11+1+5)=False:=eq_false (by omega)
   have hS10:(9223372036854775807<kn.size+1+cn.size+7+dgq.size+8+15+dgrn.size+11+1+5+dgm.size)=False:=eq_false (by omega)
   have hS11:(9223372036854775807<kn.size+1+cn.size+7+dgq.size+8+15+dgrn.size+11+1+5+dgm.size+13)=False:=eq_false (by omega)
   clear s1 s2 szq szrn szm
   go_enter Tryz.func152,Tryz.ntmps152
   go_wp2_with (first
    | (go_at_call 130;have HZ:=HB2;(with_reducible refine (HNR.out _).mono ?_);rintro e w3 ⟨rfl,hb3⟩;have hbw3:Bel w w3:=(show Bel w _ by (have HB:=HB2.out;exact EL)).trans hb3;have C3:Blk w3 w.heap.size #[.slice p q cap,.int .u8 c0] 129:=Blk.bel (by (have HB:=HC2.out;exact KL)) hb3;have HB3:=Lib.hid hbw3;have HC3:=Lib.hid C3;obtain ⟨r3,y3,u3⟩:=C3.facts;clear hbw3 C3 hb3)
    | (go_at_call 126;have HZ:=HB1;(with_reducible refine (HLD.out _ _ _ _ ?hm).mono ?_);(case hm=>exact HM2.out.symm);rintro e w2 ⟨rfl,hb2⟩;have hbw2:Bel w w2:=(show Bel w _ by (have HB:=HB1.out;exact EL)).trans hb2;have C2:Blk w2 w.heap.size #[.slice p q cap,.int .u8 c0] 129:=Blk.bel (by (have HB:=HC1.out;exact KL)) hb2;have HB2:=Lib.hid hbw2;have HC2:=Lib.hid C2;obtain ⟨r2,y2,u2⟩:=C2.facts;clear hbw2 C2 hb2)
    | (go_at_call 198;(with_reducible refine (HDU.out _ ?hb0).mono ?_);(case hb0=>exact EL);rintro e w1 ⟨p2,m2,q2,rfl,hf2,hb1⟩;have hbw1:Bel w w1:=(show Bel w _ by exact EL).trans hb1;have C1:Blk w1 w.heap.size #[.slice p q cap,.int .u8 c0] 129:=Blk.bel (by exact KL) hb1;have HB1:=Lib.hid hbw1;have HC1:=Lib.hid C1;obtain ⟨r1,y1,u1⟩:=C1.facts;have HM2:=Lib.hid hf2.len.1;clear hf2;clear hbw1 C1 hb1))
   go_loopw [6,20] (fun dv iv wr=>∃ t:Nat,dv=.int .i64 (ringsN (gs.take t):Nat)∧iv=.int .i64 t∧t≤q∧Bel w wr∧Blk wr w.heap.size #[.slice p q cap,.int .u8 c0] 129) (fun _ iv _=>q - (intOf iv).toNat)
   case atStart=>exact ⟨0,by simp [ringsN],rfl,Nat.zero_le _,HB3.out,HC3.out⟩
   case round =>
    obtain ⟨t,rfl,rfl,ht,hbel,hb0⟩:=hrel
    have HBEL:=Lib.hid hbel
    have HG0:=Lib.hid hb0
    obtain ⟨r0,y0,u0⟩:=hb0.facts
    have hrb:ringsN (gs.take t)≤1048576:=Nat.le_trans (ringsN_take_le gs t) (by rw [HRN.out];exact hrnb)
    by_cases htn:t<q
    ·obtain ⟨g,hg⟩:∃ g,gs[t]?=some g:=⟨_,List.getElem?_eq_getElem (by have:=HN.out;omega)⟩
     obtain ⟨_,_,hve,_,_,hq⟩:=HSL.out
     cases hve
     obtain ⟨b,off,rfl,hlt,-,hr⟩:=hq (by intro e;rw [e] at hg;simp at hg)
     obtain ⟨cl,hcl,hcell,hob⟩:=hr t g hg
     have HCN:Hid (∀ W,Bel w W→Calls Tryz.prog 127 #[.agg cl.toArray] W fun e w'=>e=.returned (.int .i64 g.kids.length)∧Bel W w'):=Lib.hid fun W hW=>numRings_any (hob.bel hW) W
     have hkb:g.kids.length≤1048576:=by
      have h1:=ringsN_take hg
      have h2:=ringsN_take_le gs (t+1)
      have h3:=HRN.out
      omega
     obtain ⟨p0,n0,q0,d0,hcs0⟩:=hob.ofSl (c:=0) (e:=2) (k:=2) rfl
     cases hcs0
     have D0:=cell_kept hbel (hcell 0 (.slice p0 n0 q0) rfl)
     have D1:=cell_kept hbel (hcell 1 (.int .u8 d0) rfl)
     simp only [Nat.add_zero] at D0
     have E1:=D1
     rw [← Nat.add_assoc] at E1
     have hbl:b<wr.heap.size:=Nat.lt_of_lt_of_le hlt hbel.size
     have HTK:=Lib.hid (ringsN_take hg)
     clear hq hr hcell hob hcl hbel hg hb0
     generalize g.kids.length=kl at *
     generalize ringsN (gs.take t)=dt at *
     go_wp2_with (go_at_call 127;(with_reducible refine (HCN.out _ ?hb).mono ?_);(case hb=>(have HB:=HBEL.out;exact EL));rintro e w5 ⟨rfl,hb5⟩;have hb6:Bel wr w5:=(show Bel wr _ by exact EL).trans hb5;have HB5:=Lib.hid hb6;have HG5:=Lib.hid (HG0.out.bel hb6);clear hb5 hb6)
     go_roundw
     case rel=>exact ⟨t+1,by (rw [HTK.out];go_num),by go_num,by omega,HBEL.out.trans HB5.out,HG5.out⟩
     case measure=>simp [intOf];omega
    ·obtain rfl:q=t:=by omega
     have hx:gs.take q=gs:=List.take_of_length_le (by have:=HN.out;omega)
     have hxr:ringsN (gs.take q)=rn:=by rw [hx];exact HRN.out
     generalize ringsN (gs.take q)=z at *
     subst hxr
     have hBB:=HBEL.out
     have hCC:=HG0.out
     clear hx hbel hb0 hrb
     go_wp2
     go_region_held3 (fun w'=>(∀ o,w'.cell? ⟨w.heap.size,o,none⟩=(#[Value.slice p q cap,.int .u8 c0]:Array Value)[o]?)∧Blk w' (w.heap.size) #[Value.slice p q cap,.int .u8 c0] 129∧Bel w w')
      (exact K1L)
      (first
       | (go_at_call 190;(with_reducible refine (HIq.out _ ?hbq).mono ?_);(case hbq=>exact EL);rintro e w60 ⟨rfl,hb60⟩)
       | (go_at_call 190;(with_reducible refine (HIrn.out _ ?hbrn).mono ?_);(case hbrn=>exact EL);rintro e w61 ⟨rfl,hb61⟩)
       | (go_at_call 190;(with_reducible refine (HIm.out _ ?hbm).mono ?_);(case hbm=>exact EL);rintro e w62 ⟨rfl,hb62⟩)
       | (go_at_call 189;(with_reducible refine (HC.out _).mono ?_);rintro e w53 ⟨rfl,hb53⟩)
       | (go_at_call 116;(with_reducible refine (HCT.out _).mono ?_);rintro e w52 ⟨rfl,hb52⟩)
       | (go_at_call 117;(with_reducible refine (HK.out _).mono ?_);rintro e w' ⟨rfl,rfl⟩)
       | (go_at_call 199;(with_reducible refine (HT.out _).mono ?_);rintro e w51 ⟨rfl,hb51⟩))
     go_wp2
     go_ret
     refine ⟨?_,by exact EL⟩
     rw [HSUFq.out]
     rw [HSUFrn.out]
     first|rfl|simp [joinB]
 ·skip
  cases nbrn
  ·skip
   have hS0:(9223372036854775807<kn.size+1)=False:=eq_false (by omega)
   have hS1:(9223372036854775807<kn.size+1+cn.size)=False:=eq_false (by omega)
   have hS2:(9223372036854775807<kn.size+1+cn.size+7)=False:=eq_false (by omega)
   have hS3:(9223372036854775807<kn.size+1+cn.size+7+dgq.size)=False:=eq_false (by omega)
   have hS4:(9223372036854775807<kn.size+1+cn.size+7+dgq.size+8)=False:=eq_false (by omega)
   have hS5:(9223372036854775807<kn.size+1+cn.size+7+dgq.size+8+1)=False:=eq_false (by omega)
   have hS6:(9223372036854775807<kn.size+1+cn.size+7+dgq.size+8+1+15)=False:=eq_false (by omega)
   have hS7:(9223372036854775807<kn.size+1+cn.size+7+dgq.size+8+1+15+dgrn.size)=False:=eq_false (by omega)
   have hS8:(9223372036854775807<kn.size+1+cn.size+7+dgq.size+8+1+15+dgrn.size+11)=False:=eq_false (by omega)
   have hS9:(9223372036854775807<kn.size+1+cn.size+7+dgq.size+8+1+15+dgrn.size+11+5)=False:=eq_false (by omega)
   have hS10:(9223372036854775807<kn.size+1+cn.size+7+dgq.size+8+1+15+dgrn.size+11+5+dgm.size)=False:=eq_false (by omega)
   have hS11:(9223372036854775807<kn.size+1+cn.size+7+dgq.size+8+1+15+dgrn.size+11+5+dgm.size+13)=False:=eq_false (by omega)
   clear s1 s2 szq szrn szm
   go_enter Tryz.func152,Tryz.ntmps152
   go_wp2_with (first
    | (go_at_call 130;have HZ:=HB2;(with_reducible refine (HNR.out _).mono ?_);rintro e w3 ⟨rfl,hb3⟩;have hbw3:Bel w w3:=(show Bel w _ by (have HB:=HB2.out;exact EL)).trans hb3;have C3:Blk w3 w.heap.size #[.slice p q cap,.int .u8 c0] 129:=Blk.bel (by (have HB:=HC2.out;exact KL)) hb3;have HB3:=Lib.hid hbw3;have HC3:=Lib.hid C3;obtain ⟨r3,y3,u3⟩:=C3.facts;clear hbw3 C3 hb3)
    | (go_at_call 126;have HZ:=HB1;(with_reducible refine (HLD.out _ _ _ _ ?hm).mono ?_);(case hm=>exact HM2.out.symm);rintro e w2 ⟨rfl,hb2⟩;have hbw2:Bel w w2:=(show Bel w _ by (have HB:=HB1.out;exact EL)).trans hb2;have C2:Blk w2 w.heap.size #[.slice p q cap,.int .u8 c0] 129:=Blk.bel (by (have HB:=HC1.out;exact KL)) hb2;have HB2:=Lib.hid hbw2;have HC2:=Lib.hid C2;obtain ⟨r2,y2,u2⟩:=C2.facts;clear hbw2 C2 hb2)
    | (go_at_call 198;(with_reducible refine (HDU.out _ ?hb0).mono ?_);(case hb0=>exact EL);rintro e w1 ⟨p2,m2,q2,rfl,hf2,hb1⟩;have hbw1:Bel w w1:=(show Bel w _ by exact EL).trans hb1;have C1:Blk w1 w.heap.size #[.slice p q cap,.int .u8 c0] 129:=Blk.bel (by exact KL) hb1;have HB1:=Lib.hid hbw1;have HC1:=Lib.hid C1;obtain ⟨r1,y1,u1⟩:=C1.facts;have HM2:=Lib.hid hf2.len.1;clear hf2;clear hbw1 C1 hb1))
   go_loopw [6,20] (fun dv iv wr=>∃ t:Nat,dv=.int .i64 (ringsN (gs.take t):Nat)∧iv=.int .i64 t∧t≤q∧Bel w wr∧Blk wr w.heap.size #[.slice p q cap,.int .u8 c0] 129) (fun _ iv _=>q - (intOf iv).toNat)
   case atStart=>exact ⟨0,by simp [ringsN],rfl,Nat.zero_le _,HB3.out,HC3.out⟩
   case round =>
    obtain ⟨t,rfl,rfl,ht,hbel,hb0⟩:=hrel
    have HBEL:=Lib.hid hbel
    have HG0:=Lib.hid hb0
    obtain ⟨r0,y0,u0⟩:=hb0.facts
    have hrb:ringsN (gs.take t)≤1048576:=Nat.le_trans (ringsN_take_le gs t) (by rw [HRN.out];exact hrnb)
    by_cases htn:t<q
    ·obtain ⟨g,hg⟩:∃ g,gs[t]?=some g:=⟨_,List.getElem?_eq_getElem (by have:=HN.out;omega)⟩
     obtain ⟨_,_,hve,_,_,hq⟩:=HSL.out
     cases hve
     obtain ⟨b,off,rfl,hlt,-,hr⟩:=hq (by intro e;rw [e] at hg;simp at hg)
     obtain ⟨cl,hcl,hcell,hob⟩:=hr t g hg
     have HCN:Hid (∀ W,Bel w W→Calls Tryz.prog 127 #[.agg cl.toArray] W fun e w'=>e=.returned (.int .i64 g.kids.length)∧Bel W w'):=Lib.hid fun W hW=>numRings_any (hob.bel hW) W
     have hkb:g.kids.length≤1048576:=by
      have h1:=ringsN_take hg
      have h2:=ringsN_take_le gs (t+1)
      have h3:=HRN.out
      omega
     obtain ⟨p0,n0,q0,d0,hcs0⟩:=hob.ofSl (c:=0) (e:=2) (k:=2) rfl
     cases hcs0
     have D0:=cell_kept hbel (hcell 0 (.slice p0 n0 q0) rfl)
     have D1:=cell_kept hbel (hcell 1 (.int .u8 d0) rfl)
     simp only [Nat.add_zero] at D0
     have E1:=D1
     rw [← Nat.add_assoc] at E1
     have hbl:b<wr.heap.size:=Nat.lt_of_lt_of_le hlt hbel.size
     have HTK:=Lib.hid (ringsN_take hg)
     clear hq hr hcell hob hcl hbel hg hb0
     generalize g.kids.length=kl at *
     generalize ringsN (gs.take t)=dt at *
     go_wp2_with (go_at_call 127;(with_reducible refine (HCN.out _ ?hb).mono ?_);(case hb=>(have HB:=HBEL.out;exact EL));rintro e w5 ⟨rfl,hb5⟩;have hb6:Bel wr w5:=(show Bel wr _ by exact EL).trans hb5;have HB5:=Lib.hid hb6;have HG5:=Lib.hid (HG0.out.bel hb6);clear hb5 hb6)
     go_roundw
     case rel=>exact ⟨t+1,by (rw [HTK.out];go_num),by go_num,by omega,HBEL.out.trans HB5.out,HG5.out⟩
     case measure=>simp [intOf];omega
    ·obtain rfl:q=t:=by omega
     have hx:gs.take q=gs:=List.take_of_length_le (by have:=HN.out;omega)
     have hxr:ringsN (gs.take q)=rn:=by rw [hx];exact HRN.out
     generalize ringsN (gs.take q)=z at *
     subst hxr
     have hBB:=HBEL.out
     have hCC:=HG0.out
     clear hx hbel hb0 hrb
     go_wp2
     go_region_held3 (fun w'=>(∀ o,w'.cell? ⟨w.heap.size,o,none⟩=(#[Value.slice p q cap,.int .u8 c0]:Array Value)[o]?)∧Blk w' (w.heap.size) #[Value.slice p q cap,.int .u8 c0] 129∧Bel w w')
      (exact K1L)
      (first
       | (go_at_call 190;(with_reducible refine (HIq.out _ ?hbq).mono ?_);(case hbq=>exact EL);rintro e w60 ⟨rfl,hb60⟩)
       | (go_at_call 190;(with_reducible refine (HIrn.out _ ?hbrn).mono ?_);(case hbrn=>exact EL);rintro e w61 ⟨rfl,hb61⟩)
       | (go_at_call 190;(with_reducible refine (HIm.out _ ?hbm).mono ?_);(case hbm=>exact EL);rintro e w62 ⟨rfl,hb62⟩)
       | (go_at_call 189;(with_reducible refine (HC.out _).mono ?_);rintro e w53 ⟨rfl,hb53⟩)
       | (go_at_call 116;(with_reducible refine (HCT.out _).mono ?_);rintro e w52 ⟨rfl,hb52⟩)
       | (go_at_call 117;(with_reducible refine (HK.out _).mono ?_);rintro e w' ⟨rfl,rfl⟩)
       | (go_at_call 199;(with_reducible refine (HT.out _).mono ?_);rintro e w51 ⟨rfl,hb51⟩))
     go_wp2
     go_ret
     refine ⟨?_,by exact EL⟩
     rw [HSUFq.out]
     rw [HSUFrn.out]
     first|rfl|simp [joinB]
  ·skip
   have hS0:(9223372036854775807<kn.size+1)=False:=eq_false (by omega)
   have hS1:(9223372036854775807<kn.size+1+cn.size)=False:=eq_false (by omega)
   have hS2:(9223372036854775807<kn.size+1+cn.size+7)=False:=eq_false (by omega)
   have hS3:(9223372036854775807<kn.size+1+cn.size+7+dgq.size)=False:=eq_false (by omega)
   have hS4:(9223372036854775807<kn.size+1+cn.size+7+dgq.size+8)=False:=eq_false (by omega)
   have hS5:(9223372036854775807<kn.size+1+cn.size+7+dgq.size+8+1)=False:=eq_false (by omega)
   have hS6:(9223372036854775807<kn.size+1+cn.size+7+dgq.size+8+1+15)=False:=eq_false (by omega)
   have hS7:(9223372036854775807<kn.size+1+cn.size+7+dgq.size+8+1+15+dgrn.size)=False:=eq_false (by omega)
   have hS8:(9223372036854775807<kn.size+1+cn.size+7+dgq.size+8+1+15+dgrn.size+11)=False:=eq_false (by omega)
   have hS9:(9223372036854775807<kn.size+1+cn.size+7+dgq.size+8+1+15+dgrn.size+11+1)=False:=eq_false (by omega)
   have hS10:(9223372036854775807<kn.size+1+cn.size+7+dgq.size+8+1+15+dgrn.size+11+1+5)=False:=eq_false (by omega)
   have hS11:(9223372036854775807<kn.size+1+cn.size+7+dgq.size+8+1+15+dgrn.size+11+1+5+dgm.size)=False:=eq_false (by omega)
   have hS12:(9223372036854775807<kn.size+1+cn.size+7+dgq.size+8+1+15+dgrn.size+11+1+5+dgm.size+13)=False:=eq_false (by omega)
   clear s1 s2 szq szrn szm
   go_enter Tryz.func152,Tryz.ntmps152
   go_wp2_with (first
    | (go_at_call 130;have HZ:=HB2;(with_reducible refine (HNR.out _).mono ?_);rintro e w3 ⟨rfl,hb3⟩;have hbw3:Bel w w3:=(show Bel w _ by (have HB:=HB2.out;exact EL)).trans hb3;have C3:Blk w3 w.heap.size #[.slice p q cap,.int .u8 c0] 129:=Blk.bel (by (have HB:=HC2.out;exact KL)) hb3;have HB3:=Lib.hid hbw3;have HC3:=Lib.hid C3;obtain ⟨r3,y3,u3⟩:=C3.facts;clear hbw3 C3 hb3)
    | (go_at_call 126;have HZ:=HB1;(with_reducible refine (HLD.out _ _ _ _ ?hm).mono ?_);(case hm=>exact HM2.out.symm);rintro e w2 ⟨rfl,hb2⟩;have hbw2:Bel w w2:=(show Bel w _ by (have HB:=HB1.out;exact EL)).trans hb2;have C2:Blk w2 w.heap.size #[.slice p q cap,.int .u8 c0] 129:=Blk.bel (by (have HB:=HC1.out;exact KL)) hb2;have HB2:=Lib.hid hbw2;have HC2:=Lib.hid C2;obtain ⟨r2,y2,u2⟩:=C2.facts;clear hbw2 C2 hb2)
    | (go_at_call 198;(with_reducible refine (HDU.out _ ?hb0).mono ?_);(case hb0=>exact EL);rintro e w1 ⟨p2,m2,q2,rfl,hf2,hb1⟩;have hbw1:Bel w w1:=(show Bel w _ by exact EL).trans hb1;have C1:Blk w1 w.heap.size #[.slice p q cap,.int .u8 c0] 129:=Blk.bel (by exact KL) hb1;have HB1:=Lib.hid hbw1;have HC1:=Lib.hid C1;obtain ⟨r1,y1,u1⟩:=C1.facts;have HM2:=Lib.hid hf2.len.1;clear hf2;clear hbw1 C1 hb1))
   go_loopw [6,20] (fun dv iv wr=>∃ t:Nat,dv=.int .i64 (ringsN (gs.take t):Nat)∧iv=.int .i64 t∧t≤q∧Bel w wr∧Blk wr w.heap.size #[.slice p q cap,.int .u8 c0] 129) (fun _ iv _=>q - (intOf iv).toNat)
   case atStart=>exact ⟨0,by simp [ringsN],rfl,Nat.zero_le _,HB3.out,HC3.out⟩
   case round =>
    obtain ⟨t,rfl,rfl,ht,hbel,hb0⟩:=hrel
    have HBEL:=Lib.hid hbel
    have HG0:=Lib.hid hb0
    obtain ⟨r0,y0,u0⟩:=hb0.facts
    have hrb:ringsN (gs.take t)≤1048576:=Nat.le_trans (ringsN_take_le gs t) (by rw [HRN.out];exact hrnb)
    by_cases htn:t<q
    ·obtain ⟨g,hg⟩:∃ g,gs[t]?=some g:=⟨_,List.getElem?_eq_getElem (by have:=HN.out;omega)⟩
     obtain ⟨_,_,hve,_,_,hq⟩:=HSL.out
     cases hve
     obtain ⟨b,off,rfl,hlt,-,hr⟩:=hq (by intro e;rw [e] at hg;simp at hg)
     obtain ⟨cl,hcl,hcell,hob⟩:=hr t g hg
     have HCN:Hid (∀ W,Bel w W→Calls Tryz.prog 127 #[.agg cl.toArray] W fun e w'=>e=.returned (.int .i64 g.kids.length)∧Bel W w'):=Lib.hid fun W hW=>numRings_any (hob.bel hW) W
     have hkb:g.kids.length≤1048576:=by
      have h1:=ringsN_take hg
      have h2:=ringsN_take_le gs (t+1)
      have h3:=HRN.out
      omega
     obtain ⟨p0,n0,q0,d0,hcs0⟩:=hob.ofSl (c:=0) (e:=2) (k:=2) rfl
     cases hcs0
     have D0:=cell_kept hbel (hcell 0 (.slice p0 n0 q0) rfl)
     have D1:=cell_kept hbel (hcell 1 (.int .u8 d0) rfl)
     simp only [Nat.add_zero] at D0
     have E1:=D1
     rw [← Nat.add_assoc] at E1
     have hbl:b<wr.heap.size:=Nat.lt_of_lt_of_le hlt hbel.size
     have HTK:=Lib.hid (ringsN_take hg)
     clear hq hr hcell hob hcl hbel hg hb0
     generalize g.kids.length=kl at *
     generalize ringsN (gs.take t)=dt at *
     go_wp2_with (go_at_call 127;(with_reducible refine (HCN.out _ ?hb).mono ?_);(case hb=>(have HB:=HBEL.out;exact EL));rintro e w5 ⟨rfl,hb5⟩;have hb6:Bel wr w5:=(show Bel wr _ by exact EL).trans hb5;have HB5:=Lib.hid hb6;have HG5:=Lib.hid (HG0.out.bel hb6);clear hb5 hb6)
     go_roundw
     case rel=>exact ⟨t+1,by (rw [HTK.out];go_num),by go_num,by omega,HBEL.out.trans HB5.out,HG5.out⟩
     case measure=>simp [intOf];omega
    ·obtain rfl:q=t:=by omega
     have hx:gs.take q=gs:=List.take_of_length_le (by have:=HN.out;omega)
     have hxr:ringsN (gs.take q)=rn:=by rw [hx];exact HRN.out
     generalize ringsN (gs.take q)=z at *
     subst hxr
     have hBB:=HBEL.out
     have hCC:=HG0.out
     clear hx hbel hb0 hrb
     go_wp2
     go_region_held3 (fun w'=>(∀ o,w'.cell? ⟨w.heap.size,o,none⟩=(#[Value.slice p q cap,.int .u8 c0]:Array Value)[o]?)∧Blk w' (w.heap.size) #[Value.slice p q cap,.int .u8 c0] 129∧Bel w w')
      (exact K1L)
      (first
       | (go_at_call 190;(with_reducible refine (HIq.out _ ?hbq).mono ?_);(case hbq=>exact EL);rintro e w60 ⟨rfl,hb60⟩)
       | (go_at_call 190;(with_reducible refine (HIrn.out _ ?hbrn).mono ?_);(case hbrn=>exact EL);rintro e w61 ⟨rfl,hb61⟩)
       | (go_at_call 190;(with_reducible refine (HIm.out _ ?hbm).mono ?_);(case hbm=>exact EL);rintro e w62 ⟨rfl,hb62⟩)
       | (go_at_call 189;(with_reducible refine (HC.out _).mono ?_);rintro e w53 ⟨rfl,hb53⟩)
       | (go_at_call 116;(with_reducible refine (HCT.out _).mono ?_);rintro e w52 ⟨rfl,hb52⟩)
       | (go_at_call 117;(with_reducible refine (HK.out _).mono ?_);rintro e w' ⟨rfl,rfl⟩)
       | (go_at_call 199;(with_reducible refine (HT.out _).mono ?_);rintro e w51 ⟨rfl,hb51⟩))
     go_wp2
     go_ret
     refine ⟨?_,by exact EL⟩
     rw [HSUFq.out]
     rw [HSUFrn.out]
     first|rfl|simp [joinB]
end Go.Proofs.YtpipehenfcbjbaaGreatDoor
