/-
 What polygons,multi line strings,collections say of themselves in words. Condition: the table of powers of ten lies as its initialiser lays it.
-/
import Derived.Test.YtpipehenfcbjbaaGreatDoorPao
set_option linter.unusedVariables false
set_option linter.unusedSimpArgs false
namespace Go.Proofs.YtpipehenfcbjbaaGreatDoor
open Go.ChangeShapes Go.WideShapes Go.ChangeAt Go.RowKit
set_option maxHeartbeats 8000000 in
set_option maxRecDepth 100000 in
theorem sum_3 {F:Nat→Prop} {cs:List Value} {g:Gm} (w:World) (h:Ob F w 3 cs g) (ht:Tab w) {c0:Nat} (hu:Uni c0 g) (hsz:g.size≤1048576):Calls Tryz.prog 149 #[.agg cs.toArray] w fun e w'=>e=.returned (.string (joinB [kName 3,⟨#[91]⟩,cName g.dim.toNat,⟨#[93,32,119,105,116,104,32]⟩,digits ((g.kids.length:Nat):Int),⟨#[32,114,105,110,103]⟩,sufS (g.kids.length),⟨#[32,99,111,110,115,105,115,116,105,110,103,32,111,102,32]⟩,digits (((allOf g).length / wd g.dim.toNat:Nat):Int),⟨#[32,116,111,116,97,108,32,112,111,105,110,116,115]⟩]))∧Bel w w':=by
 obtain ⟨p,cap,c,gs,rfl,hc,hge,hn31,hsl⟩:=h.sl (e:=2) (k:=2) rfl
 have hdm:g.dim.toNat=c:=by rw [hge];simp [Gm.dim]
 have hkl:g.kids=gs:=by rw [hge];rfl
 have hcc:c0=c:=by
  have:=hu.dim'
  rw [this] at hdm
  simpa using hdm
 subst hcc
 have hlen:(allOf g).length≤1048576:=Nat.le_trans (allOf_len g) hsz
 have hmb:(allOf g).length / wd c0≤1048576:=Nat.le_trans (Nat.div_le_self _ _) hlen
 have HK:Hid (∀ W,Calls Tryz.prog 117 #[.int .i64 3] W fun e w'=>e=.returned (.string (kName 3))∧W=w'):=Lib.hid (kindStr_any 3 (by decide))
 have HC:=Lib.hid (ctStr_any c0 hc)
 have HT:=Lib.hid (type_3 p gs.length cap c0)
 have HCT:=Lib.hid (polygonType_any c0 p gs.length cap)
 have HTAB:=Lib.hid ht
 have HI:Hid (∀ (n:Nat) (W:World),n≤4294967296→Bel w W→Calls Tryz.prog 190 #[.int .i64 (n:Int)] W fun e w'=>e=.returned (.string (digits (n:Int)))∧Bel W w'):=Lib.hid fun n W hn hW=>itoa_any _ (Int.natCast_nonneg _) (by omega) W (ht.bel hW)
 have s1:=kName_size 3
 have s2:=cName_size c0
 have HDU:Hid (∀ W,Bel w W→Calls Tryz.prog 193 #[.agg #[.slice p gs.length cap,.int .u8 c0]] W (IsDump c0 (allOf g) W)):=Lib.hid fun W hW=>polyDump_any W (h.bel hW) c0 hu hsz
 have HLD:Hid (∀ (p:Option Addr) (m cap:Nat) (W:World),m=(allOf g).length→Calls Tryz.prog 126 #[.agg #[.int .u8 c0,.slice p m cap]] W fun e w'=>e=.returned (.int .i64 ((allOf g).length / wd c0:Nat))∧Bel W w'):=Lib.hid fun p m cap W hm=>by
  subst hm
  exact length_any p _ cap c0 hc (by omega) W
 have HNR:Hid (∀ W,Bel w W→Calls Tryz.prog 127 #[.agg #[.slice p gs.length cap,.int .u8 c0]] W fun e w'=>e=.returned (.int .i64 gs.length)∧Bel W w'):=Lib.hid fun W hW=>by
  have:=numRings_any (h.bel hW) W
  rw [hkl] at this
  exact this
 rw [hdm,hkl]
 show Calls Tryz.prog 149 #[.agg #[.slice p gs.length cap,.int .u8 c0]] w _
 generalize gs.length=q at *
 generalize (allOf g).length / wd c0=m at *
 clear h hsl hge hkl hdm ht hu hsz hlen
 have HIq:Hid (∀ W,Bel w W→Calls Tryz.prog 190 #[.int .i64 ((q:Nat):Int)] W fun e w'=>e=.returned (.string (digits ((q:Nat):Int)))∧Bel W w'):=Lib.hid fun W hW=>HI.out _ W (by omega) hW
 have szq:=digits_size q (by omega)
 generalize digits ((q:Nat):Int)=dgq at *
 have HIm:Hid (∀ W,Bel w W→Calls Tryz.prog 190 #[.int .i64 ((m:Nat):Int)] W fun e w'=>e=.returned (.string (digits ((m:Nat):Int)))∧Bel W w'):=Lib.hid fun W hW=>HI.out _ W (by omega) hW
 have szm:=digits_size m (by omega)
 generalize digits ((m:Nat):Int)=dgm at *
 generalize kName 3=kn at *
 generalize cName c0=cn at *
 obtain ⟨nbq,hnbq⟩:∃ nb,(((q:Nat):Int) != 1)=nb:=⟨_,rfl⟩
 have HSUFq:Hid (sufS q=if nbq then ⟨#[115]⟩ else ⟨#[]⟩):=Lib.hid (by
  rw [← hnbq]
  unfold sufS
  by_cases h1:q=1
  ·rw [if_pos h1]
   simp [h1]
  ·rw [if_neg h1]
   have:(((q:Nat):Int) != 1)=true:=by simp;omega
   rw [this]
   rfl)
 cases nbq
 ·skip
  have hS0:(9223372036854775807<kn.size+1)=False:=eq_false (by omega)
  have hS1:(9223372036854775807<kn.size+1+cn.size)=False:=eq_false (by omega)
  have hS2:(9223372036854775807<kn.size+1+cn.size+7)=False:=eq_false (by omega)
  have hS3:(9223372036854775807<kn.size+1+cn.size+7+dgq.size)=False:=eq_false (by omega)
  have hS4:(9223372036854775807<kn.size+1+cn.size+7+dgq.size+5)=False:=eq_false (by omega)
  have hS5:(9223372036854775807<kn.size+1+cn.size+7+dgq.size+5+15)=False:=eq_false (by omega)
  have hS6:(9223372036854775807<kn.size+1+cn.size+7+dgq.size+5+15+dgm.size)=False:=eq_false (by omega)
  have hS7:(9223372036854775807<kn.size+1+cn.size+7+dgq.size+5+15+dgm.size+13)=False:=eq_false (by omega)
  clear s1 s2 szq szm
  go_enter Tryz.func149,Tryz.ntmps149
  go_wp2_with (first
   | (go_at_call 127;have HZ:=HB2;(with_reducible refine (HNR.out _ ?hb3).mono ?_);(case hb3=>exact HZ.out);rintro e w3 ⟨rfl,hb3⟩;have hbw3:Bel w w3:=(show Bel w _ by (have HB:=HB2.out;exact EL)).trans hb3;have C3:Blk w3 w.heap.size #[.slice p q cap,.int .u8 c0] 91:=Blk.bel (by (have HB:=HC2.out;exact KL)) hb3;have HB3:=Lib.hid hbw3;have HC3:=Lib.hid C3;obtain ⟨r3,y3,u3⟩:=C3.facts;clear hbw3 C3 hb3)
   | (go_at_call 126;have HZ:=HB1;(with_reducible refine (HLD.out _ _ _ _ ?hm).mono ?_);(case hm=>exact HM2.out.symm);rintro e w2 ⟨rfl,hb2⟩;have hbw2:Bel w w2:=(show Bel w _ by (have HB:=HB1.out;exact EL)).trans hb2;have C2:Blk w2 w.heap.size #[.slice p q cap,.int .u8 c0] 91:=Blk.bel (by (have HB:=HC1.out;exact KL)) hb2;have HB2:=Lib.hid hbw2;have HC2:=Lib.hid C2;obtain ⟨r2,y2,u2⟩:=C2.facts;clear hbw2 C2 hb2)
   | (go_at_call 193;(with_reducible refine (HDU.out _ ?hb0).mono ?_);(case hb0=>exact EL);rintro e w1 ⟨p2,m2,q2,rfl,hf2,hb1⟩;have hbw1:Bel w w1:=(show Bel w _ by exact EL).trans hb1;have C1:Blk w1 w.heap.size #[.slice p q cap,.int .u8 c0] 91:=Blk.bel (by exact KL) hb1;have HB1:=Lib.hid hbw1;have HC1:=Lib.hid C1;obtain ⟨r1,y1,u1⟩:=C1.facts;have HM2:=Lib.hid hf2.len.1;clear hf2;clear hbw1 C1 hb1))
  have hBB:=HB3.out
  have hCC:=HC3.out
  go_region_held3 (fun w'=>(∀ o,w'.cell? ⟨w.heap.size,o,none⟩=(#[Value.slice p q cap,.int .u8 c0]:Array Value)[o]?)∧Blk w' (w.heap.size) #[Value.slice p q cap,.int .u8 c0] 91∧Bel w w')
   (exact K1L)
   (first
    | (go_at_call 190;(with_reducible refine (HIq.out _ ?hbq).mono ?_);(case hbq=>exact EL);rintro e w60 ⟨rfl,hb60⟩)
    | (go_at_call 190;(with_reducible refine (HIm.out _ ?hbm).mono ?_);(case hbm=>exact EL);rintro e w61 ⟨rfl,hb61⟩)
    | (go_at_call 189;(with_reducible refine (HC.out _).mono ?_);rintro e w53 ⟨rfl,hb53⟩)
    | (go_at_call 113;(with_reducible refine (HCT.out _).mono ?_);rintro e w52 ⟨rfl,hb52⟩)
    | (go_at_call 117;(with_reducible refine (HK.out _).mono ?_);rintro e w' ⟨rfl,rfl⟩)
    | (go_at_call 194;(with_reducible refine (HT.out _).mono ?_);rintro e w51 ⟨rfl,hb51⟩))
  go_wp2
  go_ret
  refine ⟨?_,by exact EL⟩
  rw [HSUFq.out]
  first|rfl|simp [joinB]
 ·skip
  have hS0:(9223372036854775807<kn.size+1)=False:=eq_false (by omega)
  have hS1:(9223372036854775807<kn.size+1+cn.size)=False:=eq_false (by omega)
  have hS2:(9223372036854775807<kn.size+1+cn.size+7)=False:=eq_false (by omega)
  have hS3:(9223372036854775807<kn.size+1+cn.size+7+dgq.size)=False:=eq_false (by omega)
  have hS4:(9223372036854775807<kn.size+1+cn.size+7+dgq.size+5)=False:=eq_false (by omega)
  have hS5:(9223372036854775807<kn.size+1+cn.size+7+dgq.size+5+1)=False:=eq_false (by omega)
  have hS6:(9223372036854775807<kn.size+1+cn.size+7+dgq.size+5+1+15)=False:=eq_false (by omega)
  have hS7:(9223372036854775807<kn.size+1+cn.size+7+dgq.size+5+1+15+dgm.size)=False:=eq_false (by omega)
  have hS8:(9223372036854775807<kn.size+1+cn.size+7+dgq.size+5+1+15+dgm.size+13)=False:=eq_false (by omega)
  clear s1 s2 szq szm
  go_enter Tryz.func149,Tryz.ntmps149
  go_wp2_with (first
   | (go_at_call 127;have HZ:=HB2;(with_reducible refine (HNR.out _ ?hb3).mono ?_);(case hb3=>exact HZ.out);rintro e w3 ⟨rfl,hb3⟩;have hbw3:Bel w w3:=(show Bel w _ by (have HB:=HB2.out;exact EL)).trans hb3;have C3:Blk w3 w.heap.size #[.slice p q cap,.int .u8 c0] 91:=Blk.bel (by (have HB:=HC2.out;exact KL)) hb3;have HB3:=Lib.hid hbw3;have HC3:=Lib.hid C3;obtain ⟨r3,y3,u3⟩:=C3.facts;clear hbw3 C3 hb3)
   | (go_at_call 126;have HZ:=HB1;(with_reducible refine (HLD.out _ _ _ _ ?hm).mono ?_);(case hm=>exact HM2.out.symm);rintro e w2 ⟨rfl,hb2⟩;have hbw2:Bel w w2:=(show Bel w _ by (have HB:=HB1.out;exact EL)).trans hb2;have C2:Blk w2 w.heap.size #[.slice p q cap,.int .u8 c0] 91:=Blk.bel (by (have HB:=HC1.out;exact KL)) hb2;have HB2:=Lib.hid hbw2;have HC2:=Lib.hid C2;obtain ⟨r2,y2,u2⟩:=C2.facts;clear hbw2 C2 hb2)
   | (go_at_call 193;(with_reducible refine (HDU.out _ ?hb0).mono ?_);(case hb0=>exact EL);rintro e w1 ⟨p2,m2,q2,rfl,hf2,hb1⟩;have hbw1:Bel w w1:=(show Bel w _ by exact EL).trans hb1;have C1:Blk w1 w.heap.size #[.slice p q cap,.int .u8 c0] 91:=Blk.bel (by exact KL) hb1;have HB1:=Lib.hid hbw1;have HC1:=Lib.hid C1;obtain ⟨r1,y1,u1⟩:=C1.facts;have HM2:=Lib.hid hf2.len.1;clear hf2;clear hbw1 C1 hb1))
  have hBB:=HB3.out
  have hCC:=HC3.out
  go_region_held3 (fun w'=>(∀ o,w'.cell? ⟨w.heap.size,o,none⟩=(#[Value.slice p q cap,.int .u8 c0]:Array Value)[o]?)∧Blk w' (w.heap.size) #[Value.slice p q cap,.int .u8 c0] 91∧Bel w w')
   (exact K1L)
   (first
    | (go_at_call 190;(with_reducible refine (HIq.out _ ?hbq).mono ?_);(case hbq=>exact EL);rintro e w60 ⟨rfl,hb60⟩)
    | (go_at_call 190;(with_reducible refine (HIm.out _ ?hbm).mono ?_);(case hbm=>exact EL);rintro e w61 ⟨rfl,hb61⟩)
    | (go_at_call 189;(with_reducible refine (HC.out _).mono ?_);rintro e w53 ⟨rfl,hb53⟩)
    | (go_at_call 113;(with_reducible refine (HCT.out _).mono ?_);rintro e w52 ⟨rfl,hb52⟩)
    | (go_at_call 117;(with_reducible refine (HK.out _).mono ?_);rintro e w' ⟨rfl,rfl⟩)
    | (go_at_call 194;(with_reducible refine (HT.out _).mono ?_);rintro e w51 ⟨rfl,hb51⟩))
  go_wp2
  go_ret
  refine ⟨?_,by exact EL⟩
  rw [HSUFq.out]
  first|rfl|simp [joinB]
set_option maxHeartbeats 8000000 in
set_option maxRecDepth 100000 in
theorem sum_5 {F:Nat→Prop} {cs:List Value} {g:Gm} (w:World) (h:Ob F w 5 cs g) (ht:Tab w) {c0:Nat} (hu:Uni c0 g) (hsz:g.size≤1048576):Calls Tryz.prog 151 #[.agg cs.toArray] w fun e w'=>e=.returned (.string (joinB [kName 5,⟨#[91]⟩,cName g.dim.toNat,⟨#[93,32,119,105,116,104,32]⟩,digits ((g.kids.length:Nat):Int),⟨#[32,108,105,110,101,115,116,114,105,110,103]⟩,sufS (g.kids.length),⟨#[32,99,111,110,115,105,115,116,105,110,103,32,111,102,32]⟩,digits (((allOf g).length / wd g.dim.toNat:Nat):Int),⟨#[32,116,111,116,97,108,32,112,111,105,110,116,115]⟩]))∧Bel w w':=by
 obtain ⟨p,cap,c,gs,rfl,hc,hge,hn31,hsl⟩:=h.sl (e:=2) (k:=2) rfl
 have hdm:g.dim.toNat=c:=by rw [hge];simp [Gm.dim]
 have hkl:g.kids=gs:=by rw [hge];rfl
 have hcc:c0=c:=by
  have:=hu.dim'
  rw [this] at hdm
  simpa using hdm
 subst hcc
 have hlen:(allOf g).length≤1048576:=Nat.le_trans (allOf_len g) hsz
 have hmb:(allOf g).length / wd c0≤1048576:=Nat.le_trans (Nat.div_le_self _ _) hlen
 have HK:Hid (∀ W,Calls Tryz.prog 117 #[.int .i64 5] W fun e w'=>e=.returned (.string (kName 5))∧W=w'):=Lib.hid (kindStr_any 5 (by decide))
 have HC:=Lib.hid (ctStr_any c0 hc)
 have HT:=Lib.hid (type_5 p gs.length cap c0)
 have HCT:=Lib.hid (rawType_5 c0 p gs.length cap)
 have HTAB:=Lib.hid ht
 have HI:Hid (∀ (n:Nat) (W:World),n≤4294967296→Bel w W→Calls Tryz.prog 190 #[.int .i64 (n:Int)] W fun e w'=>e=.returned (.string (digits (n:Int)))∧Bel W w'):=Lib.hid fun n W hn hW=>itoa_any _ (Int.natCast_nonneg _) (by omega) W (ht.bel hW)
 have s1:=kName_size 5
 have s2:=cName_size c0
 have HDU:Hid (∀ W,Bel w W→Calls Tryz.prog 196 #[.agg #[.slice p gs.length cap,.int .u8 c0]] W (IsDump c0 (allOf g) W)):=Lib.hid fun W hW=>multiLineDump_any W (h.bel hW) c0 hu hsz
 have HLD:Hid (∀ (p:Option Addr) (m cap:Nat) (W:World),m=(allOf g).length→Calls Tryz.prog 126 #[.agg #[.int .u8 c0,.slice p m cap]] W fun e w'=>e=.returned (.int .i64 ((allOf g).length / wd c0:Nat))∧Bel W w'):=Lib.hid fun p m cap W hm=>by
  subst hm
  exact length_any p _ cap c0 hc (by omega) W
 have HNR:=Lib.hid (num_5 p gs.length cap c0)
 rw [hdm,hkl]
 show Calls Tryz.prog 151 #[.agg #[.slice p gs.length cap,.int .u8 c0]] w _
 generalize gs.length=q at *
 generalize (allOf g).length / wd c0=m at *
 clear h hsl hge hkl hdm ht hu hsz hlen
 have HIq:Hid (∀ W,Bel w W→Calls Tryz.prog 190 #[.int .i64 ((q:Nat):Int)] W fun e w'=>e=.returned (.string (digits ((q:Nat):Int)))∧Bel W w'):=Lib.hid fun W hW=>HI.out _ W (by omega) hW
 have szq:=digits_size q (by omega)
 generalize digits ((q:Nat):Int)=dgq at *
 have HIm:Hid (∀ W,Bel w W→Calls Tryz.prog 190 #[.int .i64 ((m:Nat):Int)] W fun e w'=>e=.returned (.string (digits ((m:Nat):Int)))∧Bel W w'):=Lib.hid fun W hW=>HI.out _ W (by omega) hW
 have szm:=digits_size m (by omega)
 generalize digits ((m:Nat):Int)=dgm at *
 generalize kName 5=kn at *
 generalize cName c0=cn at *
 obtain ⟨nbq,hnbq⟩:∃ nb,(((q:Nat):Int) != 1)=nb:=⟨_,rfl⟩
 have HSUFq:Hid (sufS q=if nbq then ⟨#[115]⟩ else ⟨#[]⟩):=Lib.hid (by
  rw [← hnbq]
  unfold sufS
  by_cases h1:q=1
  ·rw [if_pos h1]
   simp [h1]
  ·rw [if_neg h1]
   have:(((q:Nat):Int) != 1)=true:=by simp;omega
   rw [this]
   rfl)
 cases nbq
 ·skip
  have hS0:(9223372036854775807<kn.size+1)=False:=eq_false (by omega)
  have hS1:(9223372036854775807<kn.size+1+cn.size)=False:=eq_false (by omega)
  have hS2:(9223372036854775807<kn.size+1+cn.size+7)=False:=eq_false (by omega)
  have hS3:(9223372036854775807<kn.size+1+cn.size+7+dgq.size)=False:=eq_false (by omega)
  have hS4:(9223372036854775807<kn.size+1+cn.size+7+dgq.size+11)=False:=eq_false (by omega)
  have hS5:(9223372036854775807<kn.size+1+cn.size+7+dgq.size+11+15)=False:=eq_false (by omega)
  have hS6:(9223372036854775807<kn.size+1+cn.size+7+dgq.size+11+15+dgm.size)=False:=eq_false (by omega)
  have hS7:(9223372036854775807<kn.size+1+cn.size+7+dgq.size+11+15+dgm.size+13)=False:=eq_false (by omega)
  clear s1 s2 szq szm
  go_enter Tryz.func151,Tryz.ntmps151
  go_wp2_with (first
   | (go_at_call 129;have HZ:=HB2;(with_reducible refine (HNR.out _).mono ?_);rintro e w3 ⟨rfl,hb3⟩;have hbw3:Bel w w3:=(show Bel w _ by (have HB:=HB2.out;exact EL)).trans hb3;have C3:Blk w3 w.heap.size #[.slice p q cap,.int .u8 c0] 125:=Blk.bel (by (have HB:=HC2.out;exact KL)) hb3;have HB3:=Lib.hid hbw3;have HC3:=Lib.hid C3;obtain ⟨r3,y3,u3⟩:=C3.facts;clear hbw3 C3 hb3)
   | (go_at_call 126;have HZ:=HB1;(with_reducible refine (HLD.out _ _ _ _ ?hm).mono ?_);(case hm=>exact HM2.out.symm);rintro e w2 ⟨rfl,hb2⟩;have hbw2:Bel w w2:=(show Bel w _ by (have HB:=HB1.out;exact EL)).trans hb2;have C2:Blk w2 w.heap.size #[.slice p q cap,.int .u8 c0] 125:=Blk.bel (by (have HB:=HC1.out;exact KL)) hb2;have HB2:=Lib.hid hbw2;have HC2:=Lib.hid C2;obtain ⟨r2,y2,u2⟩:=C2.facts;clear hbw2 C2 hb2)
   | (go_at_call 196;(with_reducible refine (HDU.out _ ?hb0).mono ?_);(case hb0=>exact EL);rintro e w1 ⟨p2,m2,q2,rfl,hf2,hb1⟩;have hbw1:Bel w w1:=(show Bel w _ by exact EL).trans hb1;have C1:Blk w1 w.heap.size #[.slice p q cap,.int .u8 c0] 125:=Blk.bel (by exact KL) hb1;have HB1:=Lib.hid hbw1;have HC1:=Lib.hid C1;obtain ⟨r1,y1,u1⟩:=C1.facts;have HM2:=Lib.hid hf2.len.1;clear hf2;clear hbw1 C1 hb1))
  have hBB:=HB3.out
  have hCC:=HC3.out
  go_region_held3 (fun w'=>(∀ o,w'.cell? ⟨w.heap.size,o,none⟩=(#[Value.slice p q cap,.int .u8 c0]:Array Value)[o]?)∧Blk w' (w.heap.size) #[Value.slice p q cap,.int .u8 c0] 125∧Bel w w')
   (exact K1L)
   (first
    | (go_at_call 190;(with_reducible refine (HIq.out _ ?hbq).mono ?_);(case hbq=>exact EL);rintro e w60 ⟨rfl,hb60⟩)
    | (go_at_call 190;(with_reducible refine (HIm.out _ ?hbm).mono ?_);(case hbm=>exact EL);rintro e w61 ⟨rfl,hb61⟩)
    | (go_at_call 189;(with_reducible refine (HC.out _).mono ?_);rintro e w53 ⟨rfl,hb53⟩)
    | (go_at_call 115;(with_reducible refine (HCT.out _).mono ?_);rintro e w52 ⟨rfl,hb52⟩)
    | (go_at_call 117;(with_reducible refine (HK.out _).mono ?_);rintro e w' ⟨rfl,rfl⟩)
    | (go_at_call 197;(with_reducible refine (HT.out _).mono ?_);rintro e w51 ⟨rfl,hb51⟩))
  go_wp2
  go_ret
  refine ⟨?_,by exact EL⟩
  rw [HSUFq.out]
  first|rfl|simp [joinB]
 ·skip
  have hS0:(9223372036854775807<kn.size+1)=False:=eq_false (by omega)
  have hS1:(9223372036854775807<kn.size+1+cn.size)=False:=eq_false (by omega)
  have hS2:(9223372036854775807<kn.size+1+cn.size+7)=False:=eq_false (by omega)
  have hS3:(9223372036854775807<kn.size+1+cn.size+7+dgq.size)=False:=eq_false (by omega)
  have hS4:(9223372036854775807<kn.size+1+cn.size+7+dgq.size+11)=False:=eq_false (by omega)
  have hS5:(9223372036854775807<kn.size+1+cn.size+7+dgq.size+11+1)=False:=eq_false (by omega)
  have hS6:(9223372036854775807<kn.size+1+cn.size+7+dgq.size+11+1+15)=False:=eq_false (by omega)
  have hS7:(9223372036854775807<kn.size+1+cn.size+7+dgq.size+11+1+15+dgm.size)=False:=eq_false (by omega)
  have hS8:(9223372036854775807<kn.size+1+cn.size+7+dgq.size+11+1+15+dgm.size+13)=False:=eq_false (by omega)
  clear s1 s2 szq szm
  go_enter Tryz.func151,Tryz.ntmps151
  go_wp2_with (first
   | (go_at_call 129;have HZ:=HB2;(with_reducible refine (HNR.out _).mono ?_);rintro e w3 ⟨rfl,hb3⟩;have hbw3:Bel w w3:=(show Bel w _ by (have HB:=HB2.out;exact EL)).trans hb3;have C3:Blk w3 w.heap.size #[.slice p q cap,.int .u8 c0] 125:=Blk.bel (by (have HB:=HC2.out;exact KL)) hb3;have HB3:=Lib.hid hbw3;have HC3:=Lib.hid C3;obtain ⟨r3,y3,u3⟩:=C3.facts;clear hbw3 C3 hb3)
   | (go_at_call 126;have HZ:=HB1;(with_reducible refine (HLD.out _ _ _ _ ?hm).mono ?_);(case hm=>exact HM2.out.symm);rintro e w2 ⟨rfl,hb2⟩;have hbw2:Bel w w2:=(show Bel w _ by (have HB:=HB1.out;exact EL)).trans hb2;have C2:Blk w2 w.heap.size #[.slice p q cap,.int .u8 c0] 125:=Blk.bel (by (have HB:=HC1.out;exact KL)) hb2;have HB2:=Lib.hid hbw2;have HC2:=Lib.hid C2;obtain ⟨r2,y2,u2⟩:=C2.facts;clear hbw2 C2 hb2)
   | (go_at_call 196;(with_reducible refine (HDU.out _ ?hb0).mono ?_);(case hb0=>exact EL);rintro e w1 ⟨p2,m2,q2,rfl,hf2,hb1⟩;have hbw1:Bel w w1:=(show Bel w _ by exact EL).trans hb1;have C1:Blk w1 w.heap.size #[.slice p q cap,.int .u8 c0] 125:=Blk.bel (by exact KL) hb1;have HB1:=Lib.hid hbw1;have HC1:=Lib.hid C1;obtain ⟨r1,y1,u1⟩:=C1.facts;have HM2:=Lib.hid hf2.len.1;clear hf2;clear hbw1 C1 hb1))
  have hBB:=HB3.out
  have hCC:=HC3.out
  go_region_held3 (fun w'=>(∀ o,w'.cell? ⟨w.heap.size,o,none⟩=(#[Value.slice p q cap,.int .u8 c0]:Array Value)[o]?)∧Blk w' (w.heap.size) #[Value.slice p q cap,.int .u8 c0] 125∧Bel w w')
   (exact K1L)
   (first
    | (go_at_call 190;(with_reducible refine (HIq.out _ ?hbq).mono ?_);(case hbq=>exact EL);rintro e w60 ⟨rfl,hb60⟩)
    | (go_at_call 190;(with_reducible refine (HIm.out _ ?hbm).mono ?_);(case hbm=>exact EL);rintro e w61 ⟨rfl,hb61⟩)
    | (go_at_call 189;(with_reducible refine (HC.out _).mono ?_);rintro e w53 ⟨rfl,hb53⟩)
    | (go_at_call 115;(with_reducible refine (HCT.out _).mono ?_);rintro e w52 ⟨rfl,hb52⟩)
    | (go_at_call 117;(with_reducible refine (HK.out _).mono ?_);rintro e w' ⟨rfl,rfl⟩)
    | (go_at_call 197;(with_reducible refine (HT.out _).mono ?_);rintro e w51 ⟨rfl,hb51⟩))
  go_wp2
  go_ret
  refine ⟨?_,by exact EL⟩
  rw [HSUFq.out]
  first|rfl|simp [joinB]
set_option maxHeartbeats 8000000 in
set_option maxRecDepth 100000 in
theorem sum_0 {F:Nat→Prop} {cs:List Value} {g:Gm} (w:World) (h:Ob F w 0 cs g) (ht:Tab w) {c0:Nat} (hu:Uni c0 g) (hsz:g.size≤1048576):Calls Tryz.prog 146 #[.agg cs.toArray] w fun e w'=>e=.returned (.string (joinB [kName 0,⟨#[91]⟩,cName g.dim.toNat,⟨#[93,32,119,105,116,104,32]⟩,digits ((totG g:Nat):Int),⟨#[32,99,104,105,108,100,32,103,101,111,109,101,116,114]⟩,sufY (totG g),⟨#[32,99,111,110,115,105,115,116,105,110,103,32,111,102,32]⟩,digits (((allOf g).length / wd g.dim.toNat:Nat):Int),⟨#[32,116,111,116,97,108,32,112,111,105,110,116]⟩,sufS ((allOf g).length / wd g.dim.toNat)]))∧Bel w w':=by
 obtain ⟨p,cap,c,gs,rfl,hc,hge,hn31,hsl⟩:=h.sl (e:=7) (k:=2) rfl
 have hdm:g.dim.toNat=c:=by rw [hge];simp [Gm.dim]
 have hkl:g.kids=gs:=by rw [hge];rfl
 have hcc:c0=c:=by
  have:=hu.dim'
  rw [this] at hdm
  simpa using hdm
 subst hcc
 have hlen:(allOf g).length≤1048576:=Nat.le_trans (allOf_len g) hsz
 have hmb:(allOf g).length / wd c0≤1048576:=Nat.le_trans (Nat.div_le_self _ _) hlen
 have HK:Hid (∀ W,Calls Tryz.prog 117 #[.int .i64 0] W fun e w'=>e=.returned (.string (kName 0))∧W=w'):=Lib.hid (kindStr_any 0 (by decide))
 have HC:=Lib.hid (ctStr_any c0 hc)
 have HT:=Lib.hid (type_0 p gs.length cap c0)
 have HCT:=Lib.hid (rawType_0 c0 p gs.length cap)
 have HTAB:=Lib.hid ht
 have HI:Hid (∀ (n:Nat) (W:World),n≤4294967296→Bel w W→Calls Tryz.prog 190 #[.int .i64 (n:Int)] W fun e w'=>e=.returned (.string (digits (n:Int)))∧Bel W w'):=Lib.hid fun n W hn hW=>itoa_any _ (Int.natCast_nonneg _) (by omega) W (ht.bel hW)
 have s1:=kName_size 0
 have s2:=cName_size c0
 have HDU:Hid (∀ W,Bel w W→Calls Tryz.prog 187 #[.agg #[.slice p gs.length cap,.int .u8 c0]] W (IsDump c0 (allOf g) W)):=Lib.hid fun W hW=>collDump_any W (h.bel hW) c0 hu hsz fun k _=>geoDump_any k
 have HLD:Hid (∀ (p:Option Addr) (m cap:Nat) (W:World),m=(allOf g).length→Calls Tryz.prog 126 #[.agg #[.int .u8 c0,.slice p m cap]] W fun e w'=>e=.returned (.int .i64 ((allOf g).length / wd c0:Nat))∧Bel W w'):=Lib.hid fun p m cap W hm=>by
  subst hm
  exact length_any p _ cap c0 hc (by omega) W
 have htb:totG g≤1048576:=by have:=totG_size g;omega
 have HNR:Hid (∀ W,Bel w W→Calls Tryz.prog 56 #[.agg #[.slice p gs.length cap,.int .u8 c0]] W fun e w'=>e=.returned (.int .i64 (totG g))∧Bel W w'):=Lib.hid fun W hW=>totC_any g F _ W (h.bel hW) hsz
 rw [hdm]
 show Calls Tryz.prog 146 #[.agg #[.slice p gs.length cap,.int .u8 c0]] w _
 generalize gs.length=qq at *
 generalize totG g=q at *
 generalize (allOf g).length / wd c0=m at *
 clear h hsl hge hkl hdm ht hu hsz hlen
 have HIq:Hid (∀ W,Bel w W→Calls Tryz.prog 190 #[.int .i64 ((q:Nat):Int)] W fun e w'=>e=.returned (.string (digits ((q:Nat):Int)))∧Bel W w'):=Lib.hid fun W hW=>HI.out _ W (by omega) hW
 have szq:=digits_size q (by omega)
 generalize digits ((q:Nat):Int)=dgq at *
 have HIm:Hid (∀ W,Bel w W→Calls Tryz.prog 190 #[.int .i64 ((m:Nat):Int)] W fun e w'=>e=.returned (.string (digits ((m:Nat):Int)))∧Bel W w'):=Lib.hid fun W hW=>HI.out _ W (by omega) hW
 have szm:=digits_size m (by omega)
 generalize digits ((m:Nat):Int)=dgm at *
 generalize kName 0=kn at *
 generalize cName c0=cn at *
 obtain ⟨nbq,hnbq⟩:∃ nb,(((q:Nat):Int) != 1)=nb:=⟨_,rfl⟩
 have HSUFq:Hid (sufY q=if nbq then ⟨#[105,101,115]⟩ else ⟨#[121]⟩):=Lib.hid (by
  rw [← hnbq]
  unfold sufY
  by_cases h1:q=1
  ·rw [if_pos h1]
   simp [h1]
  ·rw [if_neg h1]
   have:(((q:Nat):Int) != 1)=true:=by simp;omega
   rw [this]
   rfl)
 obtain ⟨nbm,hnbm⟩:∃ nb,(((m:Nat):Int) != 1)=nb:=⟨_,rfl⟩
 have HSUFm:Hid (sufS m=if nbm then ⟨#[115]⟩ else ⟨#[]⟩):=Lib.hid (by
  rw [← hnbm]
  unfold sufS
  by_cases h1:m=1
  ·rw [if_pos h1]
   simp [h1]
  ·rw [if_neg h1]
   have:(((m:Nat):Int) != 1)=true:=by simp;omega
   rw [this]
   rfl)
 cases nbq
 ·skip
  cases nbm
  ·skip
   have hS0:(9223372036854775807<kn.size+1)=False:=eq_false (by omega)
   have hS1:(9223372036854775807<kn.size+1+cn.size)=False:=eq_false (by omega)
   have hS2:(9223372036854775807<kn.size+1+cn.size+7)=False:=eq_false (by omega)
   have hS3:(9223372036854775807<kn.size+1+cn.size+7+dgq.size)=False:=eq_false (by omega)
   have hS4:(9223372036854775807<kn.size+1+cn.size+7+dgq.size+14)=False:=eq_false (by omega)
   have hS5:(9223372036854775807<kn.size+1+cn.size+7+dgq.size+14+1)=False:=eq_false (by omega)
   have hS6:(9223372036854775807<kn.size+1+cn.size+7+dgq.size+14+1+15)=False:=eq_false (by omega)
   have hS7:(9223372036854775807<kn.size+1+cn.size+7+dgq.size+14+1+15+dgm.size)=False:=eq_false (by omega)
   have hS8:(9223372036854775807<kn.size+1+cn.size+7+dgq.size+14+1+15+dgm.size+12)=False:=eq_false (by omega)
   clear s1 s2 szq szm
   go_enter Tryz.func146,Tryz.ntmps146
   go_wp2_with (first
    | (go_at_call 56;have HZ:=HB2;(with_reducible refine (HNR.out _ ?hb3).mono ?_);(case hb3=>exact HZ.out);rintro e w3 ⟨rfl,hb3⟩;have hbw3:Bel w w3:=(show Bel w _ by (have HB:=HB2.out;exact EL)).trans hb3;have C3:Blk w3 w.heap.size #[.slice p qq cap,.int .u8 c0] 86:=Blk.bel (by (have HB:=HC2.out;exact KL)) hb3;have HB3:=Lib.hid hbw3;have HC3:=Lib.hid C3;obtain ⟨r3,y3,u3⟩:=C3.facts;clear hbw3 C3 hb3)
    | (go_at_call 126;have HZ:=HB1;(with_reducible refine (HLD.out _ _ _ _ ?hm).mono ?_);(case hm=>exact HM2.out.symm);rintro e w2 ⟨rfl,hb2⟩;have hbw2:Bel w w2:=(show Bel w _ by (have HB:=HB1.out;exact EL)).trans hb2;have C2:Blk w2 w.heap.size #[.slice p qq cap,.int .u8 c0] 86:=Blk.bel (by (have HB:=HC1.out;exact KL)) hb2;have HB2:=Lib.hid hbw2;have HC2:=Lib.hid C2;obtain ⟨r2,y2,u2⟩:=C2.facts;clear hbw2 C2 hb2)
    | (go_at_call 187;(with_reducible refine (HDU.out _ ?hb0).mono ?_);(case hb0=>exact EL);rintro e w1 ⟨p2,m2,q2,rfl,hf2,hb1⟩;have hbw1:Bel w w1:=(show Bel w _ by exact EL).trans hb1;have C1:Blk w1 w.heap.size #[.slice p qq cap,.int .u8 c0] 86:=Blk.bel (by exact KL) hb1;have HB1:=Lib.hid hbw1;have HC1:=Lib.hid C1;obtain ⟨r1,y1,u1⟩:=C1.facts;have HM2:=Lib.hid hf2.len.1;clear hf2;clear hbw1 C1 hb1))
   have hBB:=HB3.out
   have hCC:=HC3.out
   go_region_held3 (fun w'=>(∀ o,w'.cell? ⟨w.heap.size,o,none⟩=(#[Value.slice p qq cap,.int .u8 c0]:Array Value)[o]?)∧Blk w' (w.heap.size) #[Value.slice p qq cap,.int .u8 c0] 86∧Bel w w')
    (exact K1L)
    (first
     | (go_at_call 190;(with_reducible refine (HIq.out _ ?hbq).mono ?_);(case hbq=>exact EL);rintro e w60 ⟨rfl,hb60⟩)
     | (go_at_call 190;(with_reducible refine (HIm.out _ ?hbm).mono ?_);(case hbm=>exact EL);rintro e w61 ⟨rfl,hb61⟩)
     | (go_at_call 189;(with_reducible refine (HC.out _).mono ?_);rintro e w53 ⟨rfl,hb53⟩)
     | (go_at_call 110;(with_reducible refine (HCT.out _).mono ?_);rintro e w52 ⟨rfl,hb52⟩)
     | (go_at_call 117;(with_reducible refine (HK.out _).mono ?_);rintro e w' ⟨rfl,rfl⟩)
     | (go_at_call 188;(with_reducible refine (HT.out _).mono ?_);rintro e w51 ⟨rfl,hb51⟩))
   go_wp2
   go_ret
   refine ⟨?_,by exact EL⟩
   rw [HSUFq.out]
   rw [HSUFm.out]
   first|rfl|simp [joinB]
  ·skip
   have hS0:(9223372036854775807<kn.size+1)=False:=eq_false (by omega)
   have hS1:(9223372036854775807<kn.size+1+cn.size)=False:=eq_false (by omega)
   have hS2:(9223372036854775807<kn.size+1+cn.size+7)=False:=eq_false (by omega)
   have hS3:(9223372036854775807<kn.size+1+cn.size+7+dgq.size)=False:=eq_false (by omega)
   have hS4:(9223372036854775807<kn.size+1+cn.size+7+dgq.size+14)=False:=eq_false (by omega)
   have hS5:(9223372036854775807<kn.size+1+cn.size+7+dgq.size+14+1)=False:=eq_false (by omega)
   have hS6:(9223372036854775807<kn.size+1+cn.size+7+dgq.size+14+1+15)=False:=eq_false (by omega)
   have hS7:(9223372036854775807<kn.size+1+cn.size+7+dgq.size+14+1+15+dgm.size)=False:=eq_false (by omega)
   have hS8:(9223372036854775807<kn.size+1+cn.size+7+dgq.size+14+1+15+dgm.size+12)=False:=eq_false (by omega)
   have hS9:(9223372036854775807<kn.size+1+cn.size+7+dgq.size+14+1+15+dgm.size+12+1)=False:=eq_false (by omega)
   clear s1 s2 szq szm
   go_enter Tryz.func146,Tryz.ntmps146
   go_wp2_with (first
    | (go_at_call 56;have HZ:=HB2;(with_reducible refine (HNR.out _ ?hb3).mono ?_);(case hb3=>exact HZ.out);rintro e w3 ⟨rfl,hb3⟩;have hbw3:Bel w w3:=(show Bel w _ by (have HB:=HB2.out;exact EL)).trans hb3;have C3:Blk w3 w.heap.size #[.slice p qq cap,.int .u8 c0] 86:=Blk.bel (by (have HB:=HC2.out;exact KL)) hb3;have HB3:=Lib.hid hbw3;have HC3:=Lib.hid C3;obtain ⟨r3,y3,u3⟩:=C3.facts;clear hbw3 C3 hb3)
    | (go_at_call 126;have HZ:=HB1;(with_reducible refine (HLD.out _ _ _ _ ?hm).mono ?_);(case hm=>exact HM2.out.symm);rintro e w2 ⟨rfl,hb2⟩;have hbw2:Bel w w2:=(show Bel w _ by (have HB:=HB1.out;exact EL)).trans hb2;have C2:Blk w2 w.heap.size #[.slice p qq cap,.int .u8 c0] 86:=Blk.bel (by (have HB:=HC1.out;exact KL)) hb2;have HB2:=Lib.hid hbw2;have HC2:=Lib.hid C2;obtain ⟨r2,y2,u2⟩:=C2.facts;clear hbw2 C2 hb2)
    | (go_at_call 187;(with_reducible refine (HDU.out _ ?hb0).mono ?_);(case hb0=>exact EL);rintro e w1 ⟨p2,m2,q2,rfl,hf2,hb1⟩;have hbw1:Bel w w1:=(show Bel w _ by exact EL).trans hb1;have C1:Blk w1 w.heap.size #[.slice p qq cap,.int .u8 c0] 86:=Blk.bel (by exact KL) hb1;have HB1:=Lib.hid hbw1;have HC1:=Lib.hid C1;obtain ⟨r1,y1,u1⟩:=C1.facts;have HM2:=Lib.hid hf2.len.1;clear hf2;clear hbw1 C1 hb1))
   have hBB:=HB3.out
   have hCC:=HC3.out
   go_region_held3 (fun w'=>(∀ o,w'.cell? ⟨w.heap.size,o,none⟩=(#[Value.slice p qq cap,.int .u8 c0]:Array Value)[o]?)∧Blk w' (w.heap.size) #[Value.slice p qq cap,.int .u8 c0] 86∧Bel w w')
    (exact K1L)
    (first
     | (go_at_call 190;(with_reducible refine (HIq.out _ ?hbq).mono ?_);(case hbq=>exact EL);rintro e w60 ⟨rfl,hb60⟩)
     | (go_at_call 190;(with_reducible refine (HIm.out _ ?hbm).mono ?_);(case hbm=>exact EL);rintro e w61 ⟨rfl,hb61⟩)
     | (go_at_call 189;(with_reducible refine (HC.out _).mono ?_);rintro e w53 ⟨rfl,hb53⟩)
     | (go_at_call 110;(with_reducible refine (HCT.out _).mono ?_);rintro e w52 ⟨rfl,hb52⟩)
     | (go_at_call 117;(with_reducible refine (HK.out _).mono ?_);rintro e w' ⟨rfl,rfl⟩)
     | (go_at_call 188;(with_reducible refine (HT.out _).mono ?_);rintro e w51 ⟨rfl,hb51⟩))
   go_wp2
   go_ret
   refine ⟨?_,by exact EL⟩
   rw [HSUFq.out]
   rw [HSUFm.out]
   first|rfl|simp [joinB]
 ·skip
  cases nbm
  ·skip
   have hS0:(9223372036854775807<kn.size+1)=False:=eq_false (by omega)
   have hS1:(9223372036854775807<kn.size+1+cn.size)=False:=eq_false (by omega)
   have hS2:(9223372036854775807<kn.size+1+cn.size+7)=False:=eq_false (by omega)
   have hS3:(9223372036854775807<kn.size+1+cn.size+7+dgq.size)=False:=eq_false (by omega)
   have hS4:(9223372036854775807<kn.size+1+cn.size+7+dgq.size+14)=False:=eq_false (by omega)
   have hS5:(9223372036854775807<kn.size+1+cn.size+7+dgq.size+14+3)=False:=eq_false (by omega)
   have hS6:(9223372036854775807<kn.size+1+cn.size+7+dgq.size+14+3+15)=False:=eq_false (by omega)
   have hS7:(9223372036854775807<kn.size+1+cn.size+7+dgq.size+14+3+15+dgm.size)=False:=eq_false (by omega)
   have hS8:(9223372036854775807<kn.size+1+cn.size+7+dgq.size+14+3+15+dgm.size+12)=False:=eq_false (by omega)
   clear s1 s2 szq szm
   go_enter Tryz.func146,Tryz.ntmps146
   go_wp2_with (first
    | (go_at_call 56;have HZ:=HB2;(with_reducible refine (HNR.out _ ?hb3).mono ?_);(case hb3=>exact HZ.out);rintro e w3 ⟨rfl,hb3⟩;have hbw3:Bel w w3:=(show Bel w _ by (have HB:=HB2.out;exact EL)).trans hb3;have C3:Blk w3 w.heap.size #[.slice p qq cap,.int .u8 c0] 86:=Blk.bel (by (have HB:=HC2.out;exact KL)) hb3;have HB3:=Lib.hid hbw3;have HC3:=Lib.hid C3;obtain ⟨r3,y3,u3⟩:=C3.facts;clear hbw3 C3 hb3)
    | (go_at_call 126;have HZ:=HB1;(with_reducible refine (HLD.out _ _ _ _ ?hm).mono ?_);(case hm=>exact HM2.out.symm);rintro e w2 ⟨rfl,hb2⟩;have hbw2:Bel w w2:=(show Bel w _ by (have HB:=HB1.out;exact EL)).trans hb2;have C2:Blk w2 w.heap.size #[.slice p qq cap,.int .u8 c0] 86:=Blk.bel (by (have HB:=HC1.out;exact KL)) hb2;have HB2:=Lib.hid hbw2;have HC2:=Lib.hid C2;obtain ⟨r2,y2,u2⟩:=C2.facts;clear hbw2 C2 hb2)
    | (go_at_call 187;(with_reducible refine (HDU.out _ ?hb0).mono ?_);(case hb0=>exact EL);rintro e w1 ⟨p2,m2,q2,rfl,hf2,hb1⟩;have hbw1:Bel w w1:=(show Bel w _ by exact EL).trans hb1;have C1:Blk w1 w.heap.size #[.slice p qq cap,.int .u8 c0] 86:=Blk.bel (by exact KL) hb1;have HB1:=Lib.hid hbw1;have HC1:=Lib.hid C1;obtain ⟨r1,y1,u1⟩:=C1.facts;have HM2:=Lib.hid hf2.len.1;clear hf2;clear hbw1 C1 hb1))
   have hBB:=HB3.out
   have hCC:=HC3.out
   go_region_held3 (fun w'=>(∀ o,w'.cell? ⟨w.heap.size,o,none⟩=(#[Value.slice p qq cap,.int .u8 c0]:Array Value)[o]?)∧Blk w' (w.heap.size) #[Value.slice p qq cap,.int .u8 c0] 86∧Bel w w')
    (exact K1L)
    (first
     | (go_at_call 190;(with_reducible refine (HIq.out _ ?hbq).mono ?_);(case hbq=>exact EL);rintro e w60 ⟨rfl,hb60⟩)
     | (go_at_call 190;(with_reducible refine (HIm.out _ ?hbm).mono ?_);(case hbm=>exact EL);rintro e w61 ⟨rfl,hb61⟩)
     | (go_at_call 189;(with_reducible refine (HC.out _).mono ?_);rintro e w53 ⟨rfl,hb53⟩)
     | (go_at_call 110;(with_reducible refine (HCT.out _).mono ?_);rintro e w52 ⟨rfl,hb52⟩)
     | (go_at_call 117;(with_reducible refine (HK.out _).mono ?_);rintro e w' ⟨rfl,rfl⟩)
     | (go_at_call 188;(with_reducible refine (HT.out _).mono ?_);rintro e w51 ⟨rfl,hb51⟩))
   go_wp2
   go_ret
   refine ⟨?_,by exact EL⟩
   rw [HSUFq.out]
   rw [HSUFm.out]
   first|rfl|simp [joinB]
  ·skip
   have hS0:(9223372036854775807<kn.size+1)=False:=eq_false (by omega)
   have hS1:(9223372036854775807<kn.size+1+cn.size)=False:=eq_false (by omega)
   have hS2:(9223372036854775807<kn.size+1+cn.size+7)=False:=eq_false (by omega)
   have hS3:(9223372036854775807<kn.size+1+cn.size+7+dgq.size)=False:=eq_false (by omega)
   have hS4:(9223372036854775807<kn.size+1+cn.size+7+dgq.size+14)=False:=eq_false (by omega)
   have hS5:(9223372036854775807<kn.size+1+cn.size+7+dgq.size+14+3)=False:=eq_false (by omega)
   have hS6:(9223372036854775807<kn.size+1+cn.size+7+dgq.size+14+3+15)=False:=eq_false (by omega)
   have hS7:(9223372036854775807<kn.size+1+cn.size+7+dgq.size+14+3+15+dgm.size)=False:=eq_false (by omega)
   have hS8:(9223372036854775807<kn.size+1+cn.size+7+dgq.size+14+3+15+dgm.size+12)=False:=eq_false (by omega)
   have hS9:(9223372036854775807<kn.size+1+cn.size+7+dgq.size+14+3+15+dgm.size+12+1)=False:=eq_false (by omega)
   clear s1 s2 szq szm
   go_enter Tryz.func146,Tryz.ntmps146
   go_wp2_with (first
    | (go_at_call 56;have HZ:=HB2;(with_reducible refine (HNR.out _ ?hb3).mono ?_);(case hb3=>exact HZ.out);rintro e w3 ⟨rfl,hb3⟩;have hbw3:Bel w w3:=(show Bel w _ by (have HB:=HB2.out;exact EL)).trans hb3;have C3:Blk w3 w.heap.size #[.slice p qq cap,.int .u8 c0] 86:=Blk.bel (by (have HB:=HC2.out;exact KL)) hb3;have HB3:=Lib.hid hbw3;have HC3:=Lib.hid C3;obtain ⟨r3,y3,u3⟩:=C3.facts;clear hbw3 C3 hb3)
    | (go_at_call 126;have HZ:=HB1;(with_reducible refine (HLD.out _ _ _ _ ?hm).mono ?_);(case hm=>exact HM2.out.symm);rintro e w2 ⟨rfl,hb2⟩;have hbw2:Bel w w2:=(show Bel w _ by (have HB:=HB1.out;exact EL)).trans hb2;have C2:Blk w2 w.heap.size #[.slice p qq cap,.int .u8 c0] 86:=Blk.bel (by (have HB:=HC1.out;exact KL)) hb2;have HB2:=Lib.hid hbw2;have HC2:=Lib.hid C2;obtain ⟨r2,y2,u2⟩:=C2.facts;clear hbw2 C2 hb2)
    | (go_at_call 187;(with_reducible refine (HDU.out _ ?hb0).mono ?_);(case hb0=>exact EL);rintro e w1 ⟨p2,m2,q2,rfl,hf2,hb1⟩;have hbw1:Bel w w1:=(show Bel w _ by exact EL).trans hb1;have C1:Blk w1 w.heap.size #[.slice p qq cap,.int .u8 c0] 86:=Blk.bel (by exact KL) hb1;have HB1:=Lib.hid hbw1;have HC1:=Lib.hid C1;obtain ⟨r1,y1,u1⟩:=C1.facts;have HM2:=Lib.hid hf2.len.1;clear hf2;clear hbw1 C1 hb1))
   have hBB:=HB3.out
   have hCC:=HC3.out
   go_region_held3 (fun w'=>(∀ o,w'.cell? ⟨w.heap.size,o,none⟩=(#[Value.slice p qq cap,.int .u8 c0]:Array Value)[o]?)∧Blk w' (w.heap.size) #[Value.slice p qq cap,.int .u8 c0] 86∧Bel w w')
    (exact K1L)
    (first
     | (go_at_call 190;(with_reducible refine (HIq.out _ ?hbq).mono ?_);(case hbq=>exact EL);rintro e w60 ⟨rfl,hb60⟩)
     | (go_at_call 190;(with_reducible refine (HIm.out _ ?hbm).mono ?_);(case hbm=>exact EL);rintro e w61 ⟨rfl,hb61⟩)
     | (go_at_call 189;(with_reducible refine (HC.out _).mono ?_);rintro e w53 ⟨rfl,hb53⟩)
     | (go_at_call 110;(with_reducible refine (HCT.out _).mono ?_);rintro e w52 ⟨rfl,hb52⟩)
     | (go_at_call 117;(with_reducible refine (HK.out _).mono ?_);rintro e w' ⟨rfl,rfl⟩)
     | (go_at_call 188;(with_reducible refine (HT.out _).mono ?_);rintro e w51 ⟨rfl,hb51⟩))
   go_wp2
   go_ret
   refine ⟨?_,by exact EL⟩
   rw [HSUFq.out]
   rw [HSUFm.out]
   first|rfl|simp [joinB]
end Go.Proofs.YtpipehenfcbjbaaGreatDoor
