/-
 DumpCoordinates of points,polygons,multi line strings: all numbers,in a row of their own. No panic;what stood in memory has not turned.
-/
import Derived.Test.YtpipehenfcbjbaaGreatDoorPan
import Derived.StillTailTactics
import Derived.Shelf.Strconv.Itoa3
import Derived.Lib.LaidTab
import Derived.Lib.SmallJoins
set_option linter.unusedVariables false
set_option linter.unusedSimpArgs false
namespace Go.Proofs.YtpipehenfcbjbaaGreatDoor
open Go.ChangeShapes Go.WideShapes Go.ChangeAt Go.RowKit
/-- A sequence of all numbers comes back. -/
def IsDump (c:Nat) (xs:List Nat) (w:World) (e:Ending) (w':World):Prop:=∃ p m cap,e=.returned (.agg #[.int .u8 c,.slice p m cap])∧FlSl (fun b=>w.heap.size≤b) w' (.slice p m cap) xs∧Bel w w'
theorem UniAll.mem {c:Nat}:∀ {l:List Gm} {g:Gm},UniAll c l→g ∈ l→Uni c g
 | [],g,_,h=>by simp at h
 | a :: r,g,h,hm=>by
  rw [UniAll] at h
  rcases List.mem_cons.1 hm with rfl|k
  ·exact h.1
  ·exact h.2.mem k
theorem Uni.kid {c:Nat} {g k:Gm} (h:Uni c g) (hk:k ∈ g.kids):Uni c k:=by
 cases g with
 | mk kk d ns ks =>
  rw [Uni] at h
  exact h.2.mem hk
theorem Uni.dim' {c:Nat} {g:Gm} (h:Uni c g):g.dim=c:=by
 cases g with
 | mk kk d ns ks =>
  rw [Uni] at h
  exact h.1
theorem allOf_mod {F:Nat→Prop} {w:World} {c s:Nat} {cs:List Value} {g:Gm} (h:Ob F w s cs g) (hu:Uni c g):(allOf g).length % wd c=0:=by
 induction h with
 | point x y z m c' full hc =>
  have:=hu.dim'
  change ((c':Nat):Int)=c at this
  have hcc:c'=c:=by omega
  subst hcc
  rw [allOf,allOfs,List.append_nil]
  cases full
  ·simp
  ·simp only [if_true]
   rw [numsOfPl_len,Nat.mod_self]
 | line c' p n cap xs hc h hw hb =>
  have:=hu.dim'
  change ((c':Nat):Int)=c at this
  have hcc:c'=c:=by omega
  subst hcc
  rw [allOf,allOfs,List.append_nil,h.len.1,hw]
 | parts s e k c' p cap gs cs he hc hl hcap hb h0 hkk h1 ih =>
  rw [allOf,List.nil_append]
  have key:∀ l:List Gm,(∀ g ∈ l,(allOf g).length % wd c=0)→(allOfs l).length % wd c=0:=fun l=>by
   induction l with
   | nil=>exact fun _=>by simp [allOfs]
   | cons a r ih2=>exact fun hq=>by rw [allOfs,List.length_append,Nat.add_mod,hq a (by simp),ih2 fun g hg=>hq g (by simp [hg])];simp
  refine key gs fun g hg=>?_
  obtain ⟨i,hi⟩:=List.mem_iff_getElem?.1 hg
  exact ih i g hi (hu.kid hg)
 | geo s b cs g hs hb hF hc h ih=>exact ih hu
theorem noUnused_any (c:Nat) (p:Option Addr) (n:Nat) (w:World):Calls Tryz.prog 212 #[.agg #[.int .u8 c,.slice p n n]] w fun e w'=>e=.returned (.tuple #[])∧Bel w w':=by
 go_enter Tryz.func212,Tryz.ntmps212
 go_wp2
 go_end0
 exact ⟨rfl,by exact EL⟩
/-- make([]float64, 0, D): the cells, whatever the world. -/
theorem make0 (D:Nat) (hD:D≤17179869184):∃ CS:Array Value,(∀ w:World,(Instr.makeSlice 22 (.int .i64 0) (.int .i64 (D:Int))).run Tryz.prog w=.ok (.slice (some ⟨w.heap.size,0,none⟩) 0 D) (w.alloc (.cells CS 27)))∧∀ (base:Nat) (w:World),base≤w.heap.size→(w.alloc (.cells CS 27)).ownsRow base 27 1 (.slice (some ⟨w.heap.size,0,none⟩) 0 D) 0 []:=by
 obtain ⟨i0,hi,hz0,hz1,hz2⟩:=info_parts infoF
 have hb':(i0.bytes:Int)*(D:Int)≤281474976710656:=by
  rw [hz2]
  omega
 refine ⟨madeCells (Value.float .f64 0).cells (D*i0.size),fun w=>?_,fun base w hb=>?_⟩
 ·have hr:=run_make (P:=Tryz.prog) w 22 27 i0 _ Tryz.underlying22 hi hz0 .i64 .i64 0 D (Int.le_refl _) (by omega) hb' (by omega)
  simp only [Int.toNat_zero,Int.toNat_natCast] at hr
  exact hr
 ·exact World.ownsRow_made w _ D hb (by unfold maxLen;omega) (by rw [size_madeCells,hz1])
set_option maxHeartbeats 4000000 in
set_option maxRecDepth 100000 in
theorem pointCo_any (x y z m c:Nat) (full:Bool) (w:World):Calls Tryz.prog 173 #[.agg #[.float .f64 x,.float .f64 y,.float .f64 z,.float .f64 m,.int .u8 c,.bool full]] w fun e w'=>e=.returned (.tuple #[.agg #[.float .f64 x,.float .f64 y,.float .f64 z,.float .f64 m,.int .u8 c],.bool full])∧Bel w w':=by
 go_enter Tryz.func173,Tryz.ntmps173
 go_wp2
 go_region
 all_goals
  go_wp2
  refine post_ret (results_two rfl (resIs_agg (n:=5) (cs:=#[.float .f64 x,.float .f64 y,.float .f64 z,.float .f64 m,.int .u8 c]) (by rfl) Tryz.underlying105 (by kernel_rfl) (T:=105) ?_ rfl) (resIs_tmp (by rfl))) ⟨rfl,?_⟩
  ·exact SL
  ·exact EL
set_option maxHeartbeats 4000000 in
set_option maxRecDepth 100000 in
theorem pointDump_any {F:Nat→Prop} {cs:List Value} {g:Gm} {w0:World} (h:Ob F w0 1 cs g) (c:Nat) (hcg:g.dim=c) (w:World):Calls Tryz.prog 214 #[.agg cs.toArray] w (IsDump c (allOf g) w):=by
 obtain ⟨x,y,z,m,c',full,rfl,hc,rfl⟩:=h.pt
 have hcc:c'=c:=by
  change ((c':Nat):Int)=c at hcg
  omega
 subst hcc
 clear h hcg
 rw [allOf,allOfs,List.append_nil]
 show Calls Tryz.prog 214 #[.agg #[.float .f64 x,.float .f64 y,.float .f64 z,.float .f64 m,.int .u8 c',.bool full]] w _
 have HT:=Lib.hid (pointType_any x y z m c' full)
 have HCO:=Lib.hid (pointCo_any x y z m c' full)
 have HD:=Lib.hid (dimension_any c' hc)
 obtain ⟨i0,hi,hz0,hz1,hz2⟩:=info_parts infoF
 have hwd:=wd_bd c'
 cases full
 ·have HNS:=Lib.hid fun w=>newSequence_any none 0 0 c' hc (by omega) (Nat.zero_mod _) w
  simp only [Bool.false_eq_true,if_false]
  clear hwd
  go_enter Tryz.func214,Tryz.ntmps214
  go_wp2_with (first
   | (go_at_call 212;(with_reducible refine (noUnused_any _ _ _ _).mono ?_);rintro e w4 ⟨rfl,hb4⟩;have hb5:Bel w3 w4:=(show Bel w3 _ by exact EL).trans hb4;have HB4:Hid (Bel w w4):=Lib.hid (HB3.out.trans hb5);have C8:Blk w4 w3.heap.size #[.int .u8 c',.slice none 0 0] 109:=Blk.bel (by exact KL) hb4;have C2:=HC3.out.bel hb5;have HC4:=Lib.hid C2;obtain ⟨r8,y8,u8⟩:=C8.facts;obtain ⟨r9,y9,u9⟩:=C2.facts;clear hb4 hb5 C8 C2)
   | (go_at_call 202;(with_reducible refine (HNS.out _).mono ?_);rintro e w3 ⟨rfl,hb3⟩;have hb5:Bel w2 w3:=(show Bel w2 _ by exact EL).trans hb3;have HB3:Hid (Bel w w3):=Lib.hid (HB2.out.trans hb5);have HC3:=Lib.hid (HC2.out.bel hb5);clear hb3 hb5)
   | (go_at_call 173;(with_reducible refine (HCO.out _).mono ?_);rintro e w2 ⟨rfl,hb2⟩;have HB2:Hid (Bel w w2):=Lib.hid (HB1.out.trans hb2);have HC2:=Lib.hid (HC1.out.bel hb2);clear hb2)
   | (go_at_call 111;(with_reducible refine (HT.out _).mono ?_);rintro e w1 ⟨rfl,hb1⟩;have HB1:Hid (Bel w w1):=Lib.hid ((show Bel w _ by exact EL).trans hb1);have C1:Blk w1 w.heap.size #[.float .f64 x,.float .f64 y,.float .f64 z,.float .f64 m,.int .u8 c',.bool false] 107:=Blk.bel (by exact KL) hb1;have C2:Blk w1 (w.heap.size+1) #[.int .u8 0,.slice none 0 0] 109:=Blk.bel (by exact KL) hb1;have HC1:=Lib.hid C2;obtain ⟨r1,y1,u1⟩:=C1.facts;clear hb1 C1 C2))
  refine post_ret (results_one rfl (resIs_agg (n:=2) (cs:=#[.int .u8 c',.slice none 0 0]) (by rfl) Tryz.underlying109 (by kernel_rfl) (T:=109) ?_ rfl)) ⟨none,0,0,rfl,FlSl.nil _ _,?_⟩
  ·have HB:=HC4.out
   exact SL
  ·have HB:=HB4.out
   exact EL
 ·simp only [if_true]
  have HNS:Hid (∀ (p:Option Addr) (n cap:Nat) (w:World),n=wd c'→Calls Tryz.prog 202 #[.slice p n cap,.int .u8 c'] w fun e w'=>e=.returned (.agg #[.int .u8 c',.slice p n cap])∧Bel w w'):=Lib.hid fun p n cap w hn=>newSequence_any p n cap c' hc (by omega) (by rw [hn,Nat.mod_self]) w
  have HAP:Hid (∀ (base:Nat) (p0:Option Addr) (cap0:Nat) (w:World),w.ownsRow base 27 1 (.slice p0 0 cap0) 0 (([]:List Nat).map flv)→base≤w.heap.size→Calls Tryz.prog 217 #[.agg #[.float .f64 x,.float .f64 y,.float .f64 z,.float .f64 m,.int .u8 c'],.slice p0 0 cap0] w (IsApp base p0 0 cap0 (wd c') (numsOfPl c' ⟨x,y,z,m⟩) w)):=Lib.hid fun base p0 cap0 w ho hb=>appendCo_any base p0 0 cap0 c' x y z m [] w hc ho (by omega) hb
  have HLN:Hid ((numsOfPl c' ⟨x,y,z,m⟩).length=wd c'):=Lib.hid (numsOfPl_len c' _)
  generalize numsOfPl c' ⟨x,y,z,m⟩=xs at *
  generalize hD:wd c'=D at *
  have HDD:=Lib.hid hD
  clear hD
  obtain ⟨hD2,hD4⟩:=hwd
  go_enter Tryz.func214,Tryz.ntmps214
  go_wp2_with (first
   | (go_at_call 161;(with_reducible refine (HD.out _).mono ?_);rintro e w' ⟨rfl,rfl⟩)
   | (go_at_call 173;(with_reducible refine (HCO.out _).mono ?_);rintro e w2 ⟨rfl,hb2⟩;have HB2:Hid (Bel w w2):=Lib.hid (HB1.out.trans hb2);have HC2:=Lib.hid (HC1.out.bel hb2);have HS2:Hid (w.heap.size+2≤w2.heap.size):=Lib.hid (by have:=hb2.size;have:=HS1.out;omega);clear hb2)
   | (go_at_call 111;(with_reducible refine (HT.out _).mono ?_);rintro e w1 ⟨rfl,hb1⟩;have HB1:Hid (Bel w w1):=Lib.hid ((show Bel w _ by exact EL).trans hb1);have HS1:Hid (w.heap.size+2≤w1.heap.size):=Lib.hid (by have:=hb1.size;simp at this;omega);have C1:Blk w1 w.heap.size #[.float .f64 x,.float .f64 y,.float .f64 z,.float .f64 m,.int .u8 c',.bool true] 107:=Blk.bel (by exact KL) hb1;have C2:Blk w1 (w.heap.size+1) #[.int .u8 0,.slice none 0 0] 109:=Blk.bel (by exact KL) hb1;have HC1:=Lib.hid C2;obtain ⟨r1,y1,u1⟩:=C1.facts;clear hb1 C1 C2))
  generalize hW9:World.alloc w2 _=w9 at *
  have hb9:Bel w2 w9:=by
   subst hW9
   exact EL
  have C9:Blk w9 w2.heap.size #[.float .f64 x,.float .f64 y,.float .f64 z,.float .f64 m,.int .u8 c'] 105:=by
   subst hW9
   exact KL
  have HB9:Hid (Bel w w9):=Lib.hid (HB2.out.trans hb9)
  have HS9:Hid (w.heap.size+2≤w9.heap.size):=Lib.hid (Nat.le_trans HS2.out hb9.size)
  have HC9:=Lib.hid (HC2.out.bel hb9)
  obtain ⟨r9,y9,u9⟩:=C9.facts
  clear hW9 hb9 C9
  obtain ⟨CS,hmk,hmo⟩:=make0 D (by omega)
  have HMO:=Lib.hid hmo
  clear hmo
  go_region_with ((go_at_call 217;(with_reducible refine (HAP.out (w.heap.size+2) _ _ _ ?ho ?hs).mono ?_);(case ho=>exact own_kept (HMO.out _ w9 HS9.out) (show Bel _ _ by exact EL));(case hs=>(have h1:=HS9.out;simp;omega));rintro e w4 ⟨p4,cap4,rfl,ho4,hg4,hb4,hf4⟩;simp only [Nat.zero_add] at ho4 hf4;obtain ⟨hp4,hc4⟩:=hf4 (Nat.le_refl _);subst p4;subst cap4;have HF4:Hid (FlSl (fun b=>w.heap.size+2≤b) w4 (.slice (some ⟨w9.heap.size,0,none⟩) D D) xs):=Lib.hid (FlSl.of_owns ho4 HLN.out (fun _ hb=>hb));have HB4:Hid (Bel w w4):=Lib.hid ((HB9.out.trans (show Bel w9 _ by exact EL)).of_row hg4 (fun g hg=>by (simp [Value.ownBlock] at hg;have:=HS9.out;omega)));have HC4:=Lib.hid (grownBy_blk hg4 (HC9.out.bel (show Bel w9 _ by exact EL)) (fun e=>by (simp [Value.ownBlock] at e;have:=HS9.out;omega)));clear ho4 hg4 hb4 hf4))
  all_goals
   go_wp2_with (first
    | (go_at_call 212;(with_reducible refine (noUnused_any _ _ _ _).mono ?_);rintro e w6 ⟨rfl,hb6⟩;have hb7:Bel w5 w6:=(show Bel w5 _ by exact EL).trans hb6;have HB6:Hid (Bel w w6):=Lib.hid (HB5.out.trans hb7);have C8:Blk w6 w5.heap.size #[.int .u8 c',.slice (some ⟨w9.heap.size,0,none⟩) D D] 109:=Blk.bel (by exact KL) hb6;have C2:=HC5.out.bel hb7;have HC6:=Lib.hid C2;have HF6:=Lib.hid (HF5.out.bel hb7);obtain ⟨r8,y8,u8⟩:=C8.facts;obtain ⟨r7,y7,u7⟩:=C2.facts;clear hb6 hb7 C8 C2)
    | (go_at_call 202;(with_reducible refine (HNS.out _ _ _ _ ?hn).mono ?_);(case hn=>rfl);rintro e w5 ⟨rfl,hb5⟩;have HB5:Hid (Bel w w5):=Lib.hid (HB4.out.trans hb5);have HC5:=Lib.hid (HC4.out.bel hb5);have HF5:=Lib.hid (HF4.out.bel hb5);clear hb5))
   refine post_ret (results_one rfl (resIs_agg (n:=2) (cs:=#[.int .u8 c',.slice (some ⟨w9.heap.size,0,none⟩) D D]) (by rfl) Tryz.underlying109 (by kernel_rfl) (T:=109) ?_ rfl)) ⟨_,D,D,rfl,?_,?_⟩
   ·have HB:=HC6.out
    exact SL
   ·exact ((HF6.out.set (g:=w.heap.size+1) (by omega) 0 _).set (g:=w.heap.size+1) (by omega) 1 _).mono fun b _ hb=>by omega
   ·have HB:=HB6.out
    exact EL
end Go.Proofs.YtpipehenfcbjbaaGreatDoor
set_option linter.unusedVariables false
set_option linter.unusedSimpArgs false
namespace Go.Proofs.YtpipehenfcbjbaaGreatDoor
open Go.ChangeShapes Go.WideShapes Go.ChangeAt Go.RowKit
theorem allOf_line {F:Nat→Prop} {w:World} {cs:List Value} {g:Gm} (h:Ob F w 2 cs g) {c:Nat} (hu:Uni c g):∃ (p:Option Addr) (n cap:Nat),cs=[.int .u8 c,.slice p n cap]∧FlSl F w (.slice p n cap) (allOf g)∧n % wd c=0:=by
 obtain ⟨c',p,n,cap,xs,rfl,hc,rfl,hf,hm,-⟩:=h.ln
 have:=hu.dim'
 change ((c':Nat):Int)=c at this
 have hcc:c'=c:=by omega
 subst hcc
 refine ⟨p,n,cap,rfl,?_,hm⟩
 rw [allOf,allOfs,List.append_nil]
 exact hf
theorem allOfs_take_le:∀ (l:List Gm) (t:Nat),(allOfs (l.take t)).length≤(allOfs l).length
 | [],t=>by simp
 | a :: r,0=>by simp [allOfs]
 | a :: r,t+1=>by
  have:=allOfs_take_le r t
  rw [List.take_succ_cons,allOfs,allOfs,List.length_append,List.length_append]
  omega
set_option maxHeartbeats 8000000 in
set_option maxRecDepth 100000 in
theorem polyDump_any {F:Nat→Prop} {cs:List Value} {g:Gm} (w:World) (h:Ob F w 3 cs g) (c:Nat) (hu:Uni c g) (hsz:g.size≤1048576):Calls Tryz.prog 193 #[.agg cs.toArray] w (IsDump c (allOf g) w):=by
 have hmod:=allOf_mod h hu
 have hlen:(allOf g).length≤1048576:=Nat.le_trans (allOf_len g) hsz
 obtain ⟨p,cap,c',gs,rfl,hc,rfl,hn31,hsl⟩:=h.sl (e:=2) (k:=2) rfl
 have hcc:c'=c:=by
  have:=hu.dim'
  change ((c':Nat):Int)=c at this
  omega
 subst hcc
 rw [allOf,List.nil_append] at hmod hlen ⊢
 have HUN:Hid (∀ k ∈ gs,Uni c' k):=Lib.hid fun k hk=>hu.kid (by simpa [Gm.kids] using hk)
 have HSL:=Lib.hid hsl
 have HT:=Lib.hid (polygonType_any c' p gs.length cap)
 have HD:=Lib.hid (dimension_any c' hc)
 have HCO:=Lib.hid lineCoords_any
 have HLN:Hid (∀ (p:Option Addr) (n cap:Nat) (w:World),n≤9223372036854775807→Calls Tryz.prog 126 #[.agg #[.int .u8 c',.slice p n cap]] w fun e w'=>e=.returned (.int .i64 (n / wd c':Nat))∧Bel w w'):=Lib.hid fun p n cap w hn=>length_any p n cap c' hc hn w
 have HNS:Hid (∀ (p:Option Addr) (cap:Nat) (w:World),Calls Tryz.prog 202 #[.slice p (allOfs gs).length cap,.int .u8 c'] w fun e w'=>e=.returned (.agg #[.int .u8 c',.slice p (allOfs gs).length cap])∧Bel w w'):=Lib.hid fun p cap w=>newSequence_any p _ cap c' hc (by omega) hmod w
 have HAP:Hid (∀ (F:Nat→Prop) (base:Nat) (p0:Option Addr) (n0 cap0:Nat) (p:Option Addr) (n cap:Nat) (xs ys:List Nat) (w:World),w.ownsRow base 27 1 (.slice p0 n0 cap0) n0 (ys.map flv)→FlSl F w (.slice p n cap) xs→n0+n≤17179869184→base≤w.heap.size→Calls Tryz.prog 210 #[.agg #[.int .u8 c',.slice p n cap],.slice p0 n0 cap0] w (IsApp base p0 n0 cap0 n (ys ++ xs) w)):=Lib.hid fun F base p0 n0 cap0 p n cap xs ys w h1 h2 h3 h4=>appendAll_any F base p0 n0 cap0 c' p n cap xs ys w h1 h2 h3 h4
 obtain ⟨i0,hi,hz0,hz1,hz2⟩:=info_parts infoF
 have hwd:=wd_bd c'
 have HMOD:=Lib.hid hmod
 have HLEN:=Lib.hid hlen
 have HWD:=Lib.hid hwd
 clear h hsl hu hsz hmod hlen
 show Calls Tryz.prog 193 #[.agg #[.slice p gs.length cap,.int .u8 c']] w _
 generalize hn:gs.length=n at *
 have HN:=Lib.hid hn
 clear hn
 generalize hL:(allOfs gs).length=L at *
 have HL:=Lib.hid hL
 have hLb:L≤1048576:=HLEN.out
 clear hL
 generalize hDD:wd c'=D at *
 have HDD:=Lib.hid hDD
 clear hDD
 obtain ⟨hD2,hD4⟩:=hwd
 go_enter Tryz.func193,Tryz.ntmps193
 go_wp2
 go_loopw [3,14] (fun dv iv wr=>∃ (t N:Nat),dv=.int .i64 N∧N*D=(allOfs (gs.take t)).length∧iv=.int .i64 t∧t≤n∧Bel w wr∧Blk wr w.heap.size #[.slice p n cap,.int .u8 c'] 91∧Blk wr (w.heap.size+1) #[.int .u8 0,.slice none 0 0] 109) (fun _ iv _=>n - (intOf iv).toNat)
 case atStart=>exact ⟨0,0,rfl,by simp [allOfs],rfl,Nat.zero_le _,by exact EL,by exact KL,by exact KL⟩
 case round =>
  obtain ⟨t,N,rfl,hN,rfl,ht,hbel,hb0,hb1⟩:=hrel
  have HBEL:=Lib.hid hbel
  have HNN:=Lib.hid hN
  have HG0:=Lib.hid hb0
  have HG1:=Lib.hid hb1
  obtain ⟨r0,y0,u0⟩:=hb0.facts
  clear hb0 hb1 hN
  by_cases htn:t<n
  ·obtain ⟨g,hg⟩:∃ g,gs[t]?=some g:=⟨_,List.getElem?_eq_getElem (by have:=HN.out;omega)⟩
   obtain ⟨_,_,hve,_,_,hq⟩:=HSL.out
   cases hve
   obtain ⟨b,off,rfl,hlt,-,hr⟩:=hq (by intro e;rw [e] at hg;simp at hg)
   obtain ⟨cl,hcl,hcell,hob⟩:=hr t g hg
   obtain ⟨p0,n0,q0,hcs0,hf0,hm0⟩:=allOf_line hob (HUN.out g (List.mem_iff_getElem?.2 ⟨t,hg⟩))
   subst hcs0
   have D0:=cell_kept hbel (hcell 0 (.int .u8 c') rfl)
   have D1:=cell_kept hbel (hcell 1 (.slice p0 n0 q0) rfl)
   simp only [Nat.add_zero] at D0
   have E1:=D1
   rw [← Nat.add_assoc] at E1
   have hbl:b<wr.heap.size:=Nat.lt_of_lt_of_le hlt hbel.size
   have HQ:Hid (n0 / D*D=n0):=Lib.hid (by
    rw [HDD.out] at hm0
    exact Nat.div_mul_cancel (Nat.dvd_of_mod_eq_zero hm0))
   have HLE:=allOfs_take_le gs (t+1)
   rw [HL.out] at HLE
   have hlg:=hf0.len
   have HT1:Hid ((allOfs (gs.take (t+1))).length=(allOfs (gs.take t)).length+n0):=Lib.hid (by rw [allOfs_take hg,List.length_append,hlg.1])
   have hNb:N≤1048576:=by
    have h1:=HNN.out
    have h2:=HT1.out
    have h3:N*2≤N*D:=Nat.mul_le_mul_left _ hD2
    omega
   have hnb:n0≤1048576:=by
    have h2:=HT1.out
    omega
   have hqb:n0 / D≤n0:=Nat.div_le_self _ _
   have HLQ:Hid (∀ w,Calls Tryz.prog 126 #[.agg #[.int .u8 c',.slice p0 n0 q0]] w fun e w'=>e=.returned (.int .i64 (n0 / D:Nat))∧Bel w w'):=Lib.hid fun w=>HLN.out p0 n0 q0 w (by omega)
   generalize n0 / D=qq at *
   clear hq hr hcell hob hcl hbel hg hf0 hm0 HLE hlg
   go_wp2_with (first
    | (go_at_call 68;(with_reducible refine (HCO.out _ _ _ _ _).mono ?_);rintro e w3 ⟨rfl,hb3⟩;have hb4:Bel wr w3:=(show Bel wr _ by exact EL).trans hb3;have HB3:=Lib.hid hb4;have HC0:=Lib.hid (HG0.out.bel hb4);have HC1:=Lib.hid (HG1.out.bel hb4);clear hb3 hb4)
    | (go_at_call 126;(with_reducible refine (HLQ.out _).mono ?_);rintro e w4 ⟨rfl,hb4⟩;have HB4:Hid (Bel wr w4):=Lib.hid (HB3.out.trans hb4);have HD0:=Lib.hid (HC0.out.bel hb4);have HD1:=Lib.hid (HC1.out.bel hb4);clear hb4))
   go_roundw
   case rel=>exact ⟨t+1,N+qq,by go_num,by (rw [HT1.out,Nat.add_mul,HNN.out,HQ.out]),by go_num,by omega,HBEL.out.trans HB4.out,HD0.out,HD1.out⟩
   case measure=>simp [intOf];omega
  ·obtain rfl:n=t:=by omega
   have hx:gs.take n=gs:=List.take_of_length_le (by have:=HN.out;omega)
   have hNL:N*D=L:=by
    rw [← HL.out,← hx]
    exact HNN.out
   have HNL:=Lib.hid hNL
   have hNb:N≤1048576:=by
    have h3:N*2≤N*D:=Nat.mul_le_mul_left _ hD2
    omega
   have hmul:((N:Nat):Int)*((D:Nat):Int)=((L:Nat):Int):=by exact_mod_cast hNL
   clear hx hbel
   clear hNL
   go_wp2_with (first
    | (at_make;refine wpList_make_own _ rfl _ _ 22 rfl (w.heap.size+2) 27 i0 (.float .f64 0) 1 Tryz.underlying22 hi hz0 hz1 .i64 .i64 _ L rfl rfl rfl ?b2 ?b3 ?b4 ?_;(case b2=>(rw [hz2];omega));(case b3=>(unfold maxLen;omega));(case b4=>exact HZ3.out);intro w4 hown hgrow;have HB4:Hid (Bel w3 w4):=Lib.hid (Bel.of_grown0 hgrow);have HOWN:=Lib.hid hown;have C0:=HE0.out.bel HB4.out;have HF0:=Lib.hid C0;have HF1:=Lib.hid (HE1.out.bel HB4.out);obtain ⟨r4,y4,u4⟩:=C0.facts;clear hown hgrow C0)
    | (go_at_call 161;(with_reducible refine (HD.out _).mono ?_);rintro e w' ⟨rfl,rfl⟩)
    | (go_at_call 113;(with_reducible refine (HT.out _).mono ?_);rintro e w3 ⟨rfl,hb3⟩;have HB3:Hid (Bel w w3):=Lib.hid (HBEL.out.trans hb3);have HE0:=Lib.hid (HG0.out.bel hb3);have HE1:=Lib.hid (HG1.out.bel hb3);have HZ3:Hid (w.heap.size+2≤w3.heap.size):=Lib.hid (by have:=HE1.out.facts.2.2;omega);clear hb3))
   generalize hMB:w3.heap.size=MB at *
   have HMB:=Lib.hid hMB
   clear hMB
   go_loopw [7,34] (fun dv iv wr=>∃ (t m:Nat),dv=.slice (some ⟨MB,0,none⟩) m L∧m=(allOfs (gs.take t)).length∧iv=.int .i64 t∧t≤n∧Bel w wr∧w4.heap.size≤wr.heap.size∧wr.ownsRow (w.heap.size+2) 27 1 (.slice (some ⟨MB,0,none⟩) m L) m ((allOfs (gs.take t)).map flv)∧Blk wr w.heap.size #[.slice p n cap,.int .u8 c'] 91∧Blk wr (w.heap.size+1) #[.int .u8 0,.slice none 0 0] 109) (fun _ iv _=>n - (intOf iv).toNat)
   case atStart=>exact ⟨0,0,rfl,by simp [allOfs],rfl,Nat.zero_le _,HB3.out.trans HB4.out,Nat.le_refl _,by simpa [allOfs] using HOWN.out,HF0.out,HF1.out⟩
   case round =>
    obtain ⟨t,m,rfl,hm,rfl,ht,hbel,hgrow,hown,hb0,hb1⟩:=hrel
    have HBEL:=Lib.hid hbel
    have HGR:=Lib.hid hgrow
    have HM:=Lib.hid hm
    have HOW:=Lib.hid hown
    have HG0:=Lib.hid hb0
    have HG1:=Lib.hid hb1
    obtain ⟨r0,y0,u0⟩:=hb0.facts
    clear hb0 hb1 hm hown hgrow
    by_cases htn:t<n
    ·obtain ⟨g,hg⟩:∃ g,gs[t]?=some g:=⟨_,List.getElem?_eq_getElem (by have:=HN.out;omega)⟩
     obtain ⟨_,_,hve,_,_,hq⟩:=HSL.out
     cases hve
     obtain ⟨b,off,rfl,hlt,-,hr⟩:=hq (by intro e;rw [e] at hg;simp at hg)
     obtain ⟨cl,hcl,hcell,hob⟩:=hr t g hg
     obtain ⟨p0,n0,q0,hcs0,hf0,hm0⟩:=allOf_line hob (HUN.out g (List.mem_iff_getElem?.2 ⟨t,hg⟩))
     subst hcs0
     have D0:=cell_kept hbel (hcell 0 (.int .u8 c') rfl)
     have D1:=cell_kept hbel (hcell 1 (.slice p0 n0 q0) rfl)
     simp only [Nat.add_zero] at D0
     have E1:=D1
     rw [← Nat.add_assoc] at E1
     have hbl:b<wr.heap.size:=Nat.lt_of_lt_of_le hlt hbel.size
     have HLE:=allOfs_take_le gs (t+1)
     rw [HL.out] at HLE
     have HLG:=Lib.hid hf0.len
     have HT1:=Lib.hid (allOfs_take hg)
     have HT2:Hid ((allOfs (gs.take (t+1))).length=m+n0):=Lib.hid (by rw [allOfs_take hg,List.length_append,HLG.out.1,HM.out])
     have hmn:m+n0≤L:=by have:=HT2.out;omega
     have HAA:Hid (∀ W,Bel wr W→Calls Tryz.prog 210 #[.agg #[.int .u8 c',.slice p0 n0 q0],.slice (some ⟨MB,0,none⟩) m L] W (IsApp (w.heap.size+2) (some ⟨MB,0,none⟩) m L n0 (allOfs (gs.take (t+1))) W)):=Lib.hid fun W hW=>by
      rw [HT1.out]
      exact HAP.out F _ _ _ _ _ _ _ _ _ W (own_kept HOW.out hW) ((hf0.bel hbel).bel hW) (by omega) (by have:=hW.size;have:=HG1.out.facts.2.2;omega)
     clear hq hr hcell hob hcl hbel hg hf0 hm0 HLE
     go_wp2_with (first
      | (go_at_call 68;(with_reducible refine (HCO.out _ _ _ _ _).mono ?_);rintro e w5 ⟨rfl,hb5⟩;have hb6:Bel wr w5:=(show Bel wr _ by exact EL).trans hb5;have HB5:=Lib.hid hb6;have HC0:=Lib.hid (HG0.out.bel hb6);have HC1:=Lib.hid (HG1.out.bel hb6);clear hb5 hb6)
      | (go_at_call 210;(with_reducible refine (HAA.out _ HB5.out).mono ?_);rintro e w6 ⟨p6,cap6,rfl,ho6,hg6,hb6,hf6⟩;obtain ⟨hp6,hc6⟩:=hf6 hmn;subst p6;subst cap6;have HO6:=Lib.hid ho6;have hbw:Bel w w6:=(HBEL.out.trans HB5.out).of_row hg6 (fun g hg=>by (have:=(HOW.out.lt g hg).1;omega));have HBW:=Lib.hid hbw;have HX0:=Lib.hid (grownBy_blk hg6 HC0.out (fun e=>by (have:=(HOW.out.lt _ e.symm).1;omega)));have HX1:=Lib.hid (grownBy_blk hg6 HC1.out (fun e=>by (have:=(HOW.out.lt _ e.symm).1;omega)));have HZ6:Hid (w4.heap.size≤w6.heap.size):=Lib.hid (by have h1:=HGR.out;have h2:=HB5.out.size;have h3:=hg6.size;omega);clear ho6 hg6 hb6 hf6 hbw))
     go_roundw
     case rel=>exact ⟨t+1,m+n0,rfl,HT2.out.symm,by go_num,by omega,HBW.out,HZ6.out,HO6.out,HX0.out,HX1.out⟩
     case measure=>simp [intOf];omega
    ·obtain rfl:n=t:=by omega
     have hx:gs.take n=gs:=List.take_of_length_le (by have:=HN.out;omega)
     have hmL:L=m:=by
      rw [HM.out,hx]
      exact HL.out.symm
     obtain rfl:=hmL
     have HFL:Hid (FlSl (fun b=>w.heap.size+2≤b) wr (.slice (some ⟨MB,0,none⟩) L L) (allOfs gs)):=Lib.hid (by
      have:=HOW.out
      rw [hx] at this
      exact FlSl.of_owns this HL.out (fun _ hb=>hb))
     clear hx hbel
     go_wp2_with (first
      | (go_at_call 212;(with_reducible refine (noUnused_any _ _ _ _).mono ?_);rintro e w6 ⟨rfl,hb6⟩;have hb7:Bel w5 w6:=(show Bel w5 _ by exact EL).trans hb6;have HB6:Hid (Bel w w6):=Lib.hid (HB5.out.trans hb7);have C8:Blk w6 w5.heap.size #[.int .u8 c',.slice (some ⟨MB,0,none⟩) L L] 109:=Blk.bel (by exact KL) hb6;have C2:=HC5.out.bel hb7;have HC6:=Lib.hid C2;have HF6:=Lib.hid (HF5.out.bel hb7);obtain ⟨r8,y8,u8⟩:=C8.facts;obtain ⟨r7,y7,u7⟩:=C2.facts;clear hb6 hb7 C8 C2)
      | (go_at_call 202;(with_reducible refine (HNS.out _ _ _).mono ?_);rintro e w5 ⟨rfl,hb5⟩;have HB5:Hid (Bel w w5):=Lib.hid (HBEL.out.trans hb5);have HC5:=Lib.hid (HG1.out.bel hb5);have HF5:=Lib.hid (HFL.out.bel hb5);clear hb5))
     refine post_ret (results_one rfl (resIs_agg (n:=2) (cs:=#[.int .u8 c',.slice (some ⟨MB,0,none⟩) L L]) (by rfl) Tryz.underlying109 (by kernel_rfl) (T:=109) ?_ rfl)) ⟨_,L,L,rfl,?_,?_⟩
     ·have HB:=HC6.out
      exact SL
     ·exact ((HF6.out.set (g:=w.heap.size+1) (by omega) 0 _).set (g:=w.heap.size+1) (by omega) 1 _).mono fun b _ hb=>by omega
     ·have HB:=HB6.out
      exact EL
set_option maxHeartbeats 8000000 in
set_option maxRecDepth 100000 in
theorem multiLineDump_any {F:Nat→Prop} {cs:List Value} {g:Gm} (w:World) (h:Ob F w 5 cs g) (c:Nat) (hu:Uni c g) (hsz:g.size≤1048576):Calls Tryz.prog 196 #[.agg cs.toArray] w (IsDump c (allOf g) w):=by
 have hmod:=allOf_mod h hu
 have hlen:(allOf g).length≤1048576:=Nat.le_trans (allOf_len g) hsz
 obtain ⟨p,cap,c',gs,rfl,hc,rfl,hn31,hsl⟩:=h.sl (e:=2) (k:=2) rfl
 have hcc:c'=c:=by
  have:=hu.dim'
  change ((c':Nat):Int)=c at this
  omega
 subst hcc
 rw [allOf,List.nil_append] at hmod hlen ⊢
 have HUN:Hid (∀ k ∈ gs,Uni c' k):=Lib.hid fun k hk=>hu.kid (by simpa [Gm.kids] using hk)
 have HSL:=Lib.hid hsl
 have HT:=Lib.hid (rawType_5 c' p gs.length cap)
 have HD:=Lib.hid (dimension_any c' hc)
 have HCO:=Lib.hid lineCoords_any
 have HLN:Hid (∀ (p:Option Addr) (n cap:Nat) (w:World),n≤9223372036854775807→Calls Tryz.prog 126 #[.agg #[.int .u8 c',.slice p n cap]] w fun e w'=>e=.returned (.int .i64 (n / wd c':Nat))∧Bel w w'):=Lib.hid fun p n cap w hn=>length_any p n cap c' hc hn w
 have HNS:Hid (∀ (p:Option Addr) (cap:Nat) (w:World),Calls Tryz.prog 202 #[.slice p (allOfs gs).length cap,.int .u8 c'] w fun e w'=>e=.returned (.agg #[.int .u8 c',.slice p (allOfs gs).length cap])∧Bel w w'):=Lib.hid fun p cap w=>newSequence_any p _ cap c' hc (by omega) hmod w
 have HAP:Hid (∀ (F:Nat→Prop) (base:Nat) (p0:Option Addr) (n0 cap0:Nat) (p:Option Addr) (n cap:Nat) (xs ys:List Nat) (w:World),w.ownsRow base 27 1 (.slice p0 n0 cap0) n0 (ys.map flv)→FlSl F w (.slice p n cap) xs→n0+n≤17179869184→base≤w.heap.size→Calls Tryz.prog 210 #[.agg #[.int .u8 c',.slice p n cap],.slice p0 n0 cap0] w (IsApp base p0 n0 cap0 n (ys ++ xs) w)):=Lib.hid fun F base p0 n0 cap0 p n cap xs ys w h1 h2 h3 h4=>appendAll_any F base p0 n0 cap0 c' p n cap xs ys w h1 h2 h3 h4
 obtain ⟨i0,hi,hz0,hz1,hz2⟩:=info_parts infoF
 have hwd:=wd_bd c'
 have HMOD:=Lib.hid hmod
 have HLEN:=Lib.hid hlen
 have HWD:=Lib.hid hwd
 clear h hsl hu hsz hmod hlen
 show Calls Tryz.prog 196 #[.agg #[.slice p gs.length cap,.int .u8 c']] w _
 generalize hn:gs.length=n at *
 have HN:=Lib.hid hn
 clear hn
 generalize hL:(allOfs gs).length=L at *
 have HL:=Lib.hid hL
 have hLb:L≤1048576:=HLEN.out
 clear hL
 generalize hDD:wd c'=D at *
 have HDD:=Lib.hid hDD
 clear hDD
 obtain ⟨hD2,hD4⟩:=hwd
 go_enter Tryz.func196,Tryz.ntmps196
 go_wp2
 go_loopw [3,13] (fun dv iv wr=>∃ (t N:Nat),dv=.int .i64 N∧N=(allOfs (gs.take t)).length∧iv=.int .i64 t∧t≤n∧Bel w wr∧Blk wr w.heap.size #[.slice p n cap,.int .u8 c'] 125∧Blk wr (w.heap.size+1) #[.int .u8 0,.slice none 0 0] 109) (fun _ iv _=>n - (intOf iv).toNat)
 case atStart=>exact ⟨0,0,rfl,by simp [allOfs],rfl,Nat.zero_le _,by exact EL,by exact KL,by exact KL⟩
 case round =>
  obtain ⟨t,N,rfl,hN,rfl,ht,hbel,hb0,hb1⟩:=hrel
  have HBEL:=Lib.hid hbel
  have HNN:=Lib.hid hN
  have HG0:=Lib.hid hb0
  have HG1:=Lib.hid hb1
  obtain ⟨r0,y0,u0⟩:=hb0.facts
  clear hb0 hb1 hN
  by_cases htn:t<n
  ·obtain ⟨g,hg⟩:∃ g,gs[t]?=some g:=⟨_,List.getElem?_eq_getElem (by have:=HN.out;omega)⟩
   obtain ⟨_,_,hve,_,_,hq⟩:=HSL.out
   cases hve
   obtain ⟨b,off,rfl,hlt,-,hr⟩:=hq (by intro e;rw [e] at hg;simp at hg)
   obtain ⟨cl,hcl,hcell,hob⟩:=hr t g hg
   obtain ⟨p0,n0,q0,hcs0,hf0,hm0⟩:=allOf_line hob (HUN.out g (List.mem_iff_getElem?.2 ⟨t,hg⟩))
   subst hcs0
   have D0:=cell_kept hbel (hcell 0 (.int .u8 c') rfl)
   have D1:=cell_kept hbel (hcell 1 (.slice p0 n0 q0) rfl)
   simp only [Nat.add_zero] at D0
   have E1:=D1
   rw [← Nat.add_assoc] at E1
   have hbl:b<wr.heap.size:=Nat.lt_of_lt_of_le hlt hbel.size
   have HQ:Hid (n0 / D*D=n0):=Lib.hid (by
    rw [HDD.out] at hm0
    exact Nat.div_mul_cancel (Nat.dvd_of_mod_eq_zero hm0))
   have HLE:=allOfs_take_le gs (t+1)
   rw [HL.out] at HLE
   have hlg:=hf0.len
   have HT1:Hid ((allOfs (gs.take (t+1))).length=(allOfs (gs.take t)).length+n0):=Lib.hid (by rw [allOfs_take hg,List.length_append,hlg.1])
   have hNb:N≤1048576:=by
    have h1:=HNN.out
    have h2:=HT1.out
    
    omega
   have hnb:n0≤1048576:=by
    have h2:=HT1.out
    omega
   have hqb:n0 / D≤n0:=Nat.div_le_self _ _
   have HLQ:Hid (∀ w,Calls Tryz.prog 126 #[.agg #[.int .u8 c',.slice p0 n0 q0]] w fun e w'=>e=.returned (.int .i64 (n0 / D:Nat))∧Bel w w'):=Lib.hid fun w=>HLN.out p0 n0 q0 w (by omega)
   generalize n0 / D=qq at *
   clear hq hr hcell hob hcl hbel hg hf0 hm0 HLE hlg
   have hmq:((qq:Nat):Int)*((D:Nat):Int)=((n0:Nat):Int):=by exact_mod_cast HQ.out
   have hnb2:N+n0≤2097152:=by omega
   have HQ5:=Lib.hid HQ.out
   clear HQ HQ5
   go_wp2
   generalize hW9:World.alloc wr _=w9 at *
   have hb9:Bel wr w9:=by
    subst hW9
    exact EL
   have C9:Blk w9 wr.heap.size #[.int .u8 c',.slice p0 n0 q0] 111:=by
    subst hW9
    exact KL
   have C0:=HG0.out.bel hb9
   have C1:=HG1.out.bel hb9
   have HB9:=Lib.hid hb9
   have HC0:=Lib.hid C0
   have HC1:=Lib.hid C1
   obtain ⟨r9,y9,u9⟩:=C9.facts
   obtain ⟨r8,y8,u8⟩:=C0.facts
   clear hW9 hb9 C9 C0 C1 r0 y0 u0
   go_region_with (first
    | (go_at_call 161;(with_reducible refine (HD.out _).mono ?_);rintro e w' ⟨rfl,rfl⟩)
    | (go_at_call 126;(with_reducible refine (HLQ.out _).mono ?_);rintro e w4 ⟨rfl,hb4⟩;have hb5:Bel w9 w4:=(show Bel w9 _ by exact EL).trans hb4;have HB4:Hid (Bel wr w4):=Lib.hid (HB9.out.trans hb5);have C0:=HC0.out.bel hb5;have HD0:=Lib.hid C0;have HD1:=Lib.hid (HC1.out.bel hb5);obtain ⟨r7,y7,u7⟩:=C0.facts;clear hb4 hb5 C0))
   all_goals
    go_wp2
    go_roundw
    case rel=>exact ⟨t+1,N+n0,by go_num,by (rw [HT1.out,HNN.out]),by go_num,by omega,HBEL.out.trans HB4.out,HD0.out,HD1.out⟩
    case measure=>simp [intOf];omega
  ·obtain rfl:n=t:=by omega
   have hx:gs.take n=gs:=List.take_of_length_le (by have:=HN.out;omega)
   have hNL:N=L:=by
    rw [← HL.out,← hx]
    exact HNN.out
   have HNL:=Lib.hid hNL
   have hNb:N≤1048576:=by
    
    omega
   
   clear hx hbel
   obtain rfl:L=N:=hNL.symm
   have HB3:=HBEL
   have HE0:=HG0
   have HE1:=HG1
   have HZ3:Hid (w.heap.size+2≤wr.heap.size):=Lib.hid (by have:=HE1.out.facts.2.2;omega)
   go_wp2_with (first
    | (at_make;refine wpList_make_own _ rfl _ _ 22 rfl (w.heap.size+2) 27 i0 (.float .f64 0) 1 Tryz.underlying22 hi hz0 hz1 .i64 .i64 _ L rfl rfl rfl ?b2 ?b3 ?b4 ?_;(case b2=>(rw [hz2];omega));(case b3=>(unfold maxLen;omega));(case b4=>exact HZ3.out);intro w4 hown hgrow;have HB4:Hid (Bel wr w4):=Lib.hid (Bel.of_grown0 hgrow);have HOWN:=Lib.hid hown;have C0:=HE0.out.bel HB4.out;have HF0:=Lib.hid C0;have HF1:=Lib.hid (HE1.out.bel HB4.out);obtain ⟨r4,y4,u4⟩:=C0.facts;clear hown hgrow C0)
    | (go_at_call 161;(with_reducible refine (HD.out _).mono ?_);rintro e w' ⟨rfl,rfl⟩)
    | fail)
   generalize hMB:wr.heap.size=MB at *
   have HMB:=Lib.hid hMB
   clear hMB
   go_loopw [6,32] (fun dv iv wr=>∃ (t m:Nat),dv=.slice (some ⟨MB,0,none⟩) m L∧m=(allOfs (gs.take t)).length∧iv=.int .i64 t∧t≤n∧Bel w wr∧w4.heap.size≤wr.heap.size∧wr.ownsRow (w.heap.size+2) 27 1 (.slice (some ⟨MB,0,none⟩) m L) m ((allOfs (gs.take t)).map flv)∧Blk wr w.heap.size #[.slice p n cap,.int .u8 c'] 125∧Blk wr (w.heap.size+1) #[.int .u8 0,.slice none 0 0] 109) (fun _ iv _=>n - (intOf iv).toNat)
   case atStart=>exact ⟨0,0,rfl,by simp [allOfs],rfl,Nat.zero_le _,HB3.out.trans HB4.out,Nat.le_refl _,by simpa [allOfs] using HOWN.out,HF0.out,HF1.out⟩
   case round =>
    obtain ⟨t,m,rfl,hm,rfl,ht,hbel,hgrow,hown,hb0,hb1⟩:=hrel
    have HBEL:=Lib.hid hbel
    have HGR:=Lib.hid hgrow
    have HM:=Lib.hid hm
    have HOW:=Lib.hid hown
    have HG0:=Lib.hid hb0
    have HG1:=Lib.hid hb1
    obtain ⟨r0,y0,u0⟩:=hb0.facts
    clear hb0 hb1 hm hown hgrow
    by_cases htn:t<n
    ·obtain ⟨g,hg⟩:∃ g,gs[t]?=some g:=⟨_,List.getElem?_eq_getElem (by have:=HN.out;omega)⟩
     obtain ⟨_,_,hve,_,_,hq⟩:=HSL.out
     cases hve
     obtain ⟨b,off,rfl,hlt,-,hr⟩:=hq (by intro e;rw [e] at hg;simp at hg)
     obtain ⟨cl,hcl,hcell,hob⟩:=hr t g hg
     obtain ⟨p0,n0,q0,hcs0,hf0,hm0⟩:=allOf_line hob (HUN.out g (List.mem_iff_getElem?.2 ⟨t,hg⟩))
     subst hcs0
     have D0:=cell_kept hbel (hcell 0 (.int .u8 c') rfl)
     have D1:=cell_kept hbel (hcell 1 (.slice p0 n0 q0) rfl)
     simp only [Nat.add_zero] at D0
     have E1:=D1
     rw [← Nat.add_assoc] at E1
     have hbl:b<wr.heap.size:=Nat.lt_of_lt_of_le hlt hbel.size
     have HLE:=allOfs_take_le gs (t+1)
     rw [HL.out] at HLE
     have HLG:=Lib.hid hf0.len
     have HT1:=Lib.hid (allOfs_take hg)
     have HT2:Hid ((allOfs (gs.take (t+1))).length=m+n0):=Lib.hid (by rw [allOfs_take hg,List.length_append,HLG.out.1,HM.out])
     have hmn:m+n0≤L:=by have:=HT2.out;omega
     have HAA:Hid (∀ W,Bel wr W→Calls Tryz.prog 210 #[.agg #[.int .u8 c',.slice p0 n0 q0],.slice (some ⟨MB,0,none⟩) m L] W (IsApp (w.heap.size+2) (some ⟨MB,0,none⟩) m L n0 (allOfs (gs.take (t+1))) W)):=Lib.hid fun W hW=>by
      rw [HT1.out]
      exact HAP.out F _ _ _ _ _ _ _ _ _ W (own_kept HOW.out hW) ((hf0.bel hbel).bel hW) (by omega) (by have:=hW.size;have:=HG1.out.facts.2.2;omega)
     clear hq hr hcell hob hcl hbel hg hf0 hm0 HLE
     go_wp2_with (first
      | (go_at_call 68;(with_reducible refine (HCO.out _ _ _ _ _).mono ?_);rintro e w5 ⟨rfl,hb5⟩;have hb6:Bel wr w5:=(show Bel wr _ by exact EL).trans hb5;have HB5:=Lib.hid hb6;have HC0:=Lib.hid (HG0.out.bel hb6);have HC1:=Lib.hid (HG1.out.bel hb6);clear hb5 hb6)
      | (go_at_call 210;(with_reducible refine (HAA.out _ HB5.out).mono ?_);rintro e w6 ⟨p6,cap6,rfl,ho6,hg6,hb6,hf6⟩;obtain ⟨hp6,hc6⟩:=hf6 hmn;subst p6;subst cap6;have HO6:=Lib.hid ho6;have hbw:Bel w w6:=(HBEL.out.trans HB5.out).of_row hg6 (fun g hg=>by (have:=(HOW.out.lt g hg).1;omega));have HBW:=Lib.hid hbw;have HX0:=Lib.hid (grownBy_blk hg6 HC0.out (fun e=>by (have:=(HOW.out.lt _ e.symm).1;omega)));have HX1:=Lib.hid (grownBy_blk hg6 HC1.out (fun e=>by (have:=(HOW.out.lt _ e.symm).1;omega)));have HZ6:Hid (w4.heap.size≤w6.heap.size):=Lib.hid (by have h1:=HGR.out;have h2:=HB5.out.size;have h3:=hg6.size;omega);clear ho6 hg6 hb6 hf6 hbw))
     go_roundw
     case rel=>exact ⟨t+1,m+n0,rfl,HT2.out.symm,by go_num,by omega,HBW.out,HZ6.out,HO6.out,HX0.out,HX1.out⟩
     case measure=>simp [intOf];omega
    ·obtain rfl:n=t:=by omega
     have hx:gs.take n=gs:=List.take_of_length_le (by have:=HN.out;omega)
     have hmL:L=m:=by
      rw [HM.out,hx]
      exact HL.out.symm
     obtain rfl:=hmL
     have HFL:Hid (FlSl (fun b=>w.heap.size+2≤b) wr (.slice (some ⟨MB,0,none⟩) L L) (allOfs gs)):=Lib.hid (by
      have:=HOW.out
      rw [hx] at this
      exact FlSl.of_owns this HL.out (fun _ hb=>hb))
     clear hx hbel
     go_wp2_with (first
      | (go_at_call 212;(with_reducible refine (noUnused_any _ _ _ _).mono ?_);rintro e w6 ⟨rfl,hb6⟩;have hb7:Bel w5 w6:=(show Bel w5 _ by exact EL).trans hb6;have HB6:Hid (Bel w w6):=Lib.hid (HB5.out.trans hb7);have C8:Blk w6 w5.heap.size #[.int .u8 c',.slice (some ⟨MB,0,none⟩) L L] 109:=Blk.bel (by exact KL) hb6;have C2:=HC5.out.bel hb7;have HC6:=Lib.hid C2;have HF6:=Lib.hid (HF5.out.bel hb7);obtain ⟨r8,y8,u8⟩:=C8.facts;obtain ⟨r7,y7,u7⟩:=C2.facts;clear hb6 hb7 C8 C2)
      | (go_at_call 202;(with_reducible refine (HNS.out _ _ _).mono ?_);rintro e w5 ⟨rfl,hb5⟩;have HB5:Hid (Bel w w5):=Lib.hid (HBEL.out.trans hb5);have HC5:=Lib.hid (HG1.out.bel hb5);have HF5:=Lib.hid (HFL.out.bel hb5);clear hb5))
     refine post_ret (results_one rfl (resIs_agg (n:=2) (cs:=#[.int .u8 c',.slice (some ⟨MB,0,none⟩) L L]) (by rfl) Tryz.underlying109 (by kernel_rfl) (T:=109) ?_ rfl)) ⟨_,L,L,rfl,?_,?_⟩
     ·have HB:=HC6.out
      exact SL
     ·exact ((HF6.out.set (g:=w.heap.size+1) (by omega) 0 _).set (g:=w.heap.size+1) (by omega) 1 _).mono fun b _ hb=>by omega
     ·have HB:=HB6.out
      exact EL
end Go.Proofs.YtpipehenfcbjbaaGreatDoor
set_option linter.unusedVariables false
set_option linter.unusedSimpArgs false
namespace Go.Proofs.YtpipehenfcbjbaaGreatDoor
open Go.ChangeShapes Go.WideShapes Go.ChangeAt Go.RowKit
set_option maxHeartbeats 8000000 in
set_option maxRecDepth 100000 in
theorem multiPolyDump_any {F:Nat→Prop} {cs:List Value} {g:Gm} (w:World) (h:Ob F w 6 cs g) (c:Nat) (hu:Uni c g) (hsz:g.size≤1048576):Calls Tryz.prog 198 #[.agg cs.toArray] w (IsDump c (allOf g) w):=by
 have hmod:=allOf_mod h hu
 have hlen:(allOf g).length≤1048576:=Nat.le_trans (allOf_len g) hsz
 obtain ⟨p,cap,c',gs,rfl,hc,rfl,hn31,hsl⟩:=h.sl (e:=3) (k:=2) rfl
 have hcc:c'=c:=by
  have:=hu.dim'
  change ((c':Nat):Int)=c at this
  omega
 subst hcc
 rw [allOf,List.nil_append] at hmod hlen ⊢
 have HUN:Hid (∀ k ∈ gs,Uni c' k):=Lib.hid fun k hk=>hu.kid (by simpa [Gm.kids] using hk)
 have HSL:=Lib.hid hsl
 have HT:=Lib.hid (rawType_6 c' p gs.length cap)
 have HD:=Lib.hid (dimension_any c' hc)
 have HCO:=Lib.hid lineCoords_any
 have HLN:Hid (∀ (p:Option Addr) (n cap:Nat) (w:World),n≤9223372036854775807→Calls Tryz.prog 126 #[.agg #[.int .u8 c',.slice p n cap]] w fun e w'=>e=.returned (.int .i64 (n / wd c':Nat))∧Bel w w'):=Lib.hid fun p n cap w hn=>length_any p n cap c' hc hn w
 have HNS:Hid (∀ (p:Option Addr) (cap:Nat) (w:World),Calls Tryz.prog 202 #[.slice p (allOfs gs).length cap,.int .u8 c'] w fun e w'=>e=.returned (.agg #[.int .u8 c',.slice p (allOfs gs).length cap])∧Bel w w'):=Lib.hid fun p cap w=>newSequence_any p _ cap c' hc (by omega) hmod w
 have HAP:Hid (∀ (F:Nat→Prop) (base:Nat) (p0:Option Addr) (n0 cap0:Nat) (p:Option Addr) (n cap:Nat) (xs ys:List Nat) (w:World),w.ownsRow base 27 1 (.slice p0 n0 cap0) n0 (ys.map flv)→FlSl F w (.slice p n cap) xs→n0+n≤17179869184→base≤w.heap.size→Calls Tryz.prog 210 #[.agg #[.int .u8 c',.slice p n cap],.slice p0 n0 cap0] w (IsApp base p0 n0 cap0 n (ys ++ xs) w)):=Lib.hid fun F base p0 n0 cap0 p n cap xs ys w h1 h2 h3 h4=>appendAll_any F base p0 n0 cap0 c' p n cap xs ys w h1 h2 h3 h4
 obtain ⟨i0,hi,hz0,hz1,hz2⟩:=info_parts infoF
 have hwd:=wd_bd c'
 have HMOD:=Lib.hid hmod
 have HLEN:=Lib.hid hlen
 have HWD:=Lib.hid hwd
 clear h hsl hu hsz hmod hlen
 show Calls Tryz.prog 198 #[.agg #[.slice p gs.length cap,.int .u8 c']] w _
 generalize hn:gs.length=n at *
 have HN:=Lib.hid hn
 clear hn
 generalize hL:(allOfs gs).length=L at *
 have HL:=Lib.hid hL
 have hLb:L≤1048576:=HLEN.out
 clear hL
 generalize hDD:wd c'=D at *
 have HDD:=Lib.hid hDD
 clear hDD
 obtain ⟨hD2,hD4⟩:=hwd
 go_enter Tryz.func198,Tryz.ntmps198
 go_wp2
 go_loopw [3,18] (fun dv iv wr=>∃ (t N:Nat),dv=.int .i64 N∧N*D=(allOfs (gs.take t)).length∧iv=.int .i64 t∧t≤n∧Bel w wr∧Blk wr w.heap.size #[.slice p n cap,.int .u8 c'] 129∧Blk wr (w.heap.size+1) #[.int .u8 0,.slice none 0 0] 109) (fun _ iv _=>n - (intOf iv).toNat)
 case atStart=>exact ⟨0,0,rfl,by simp [allOfs],rfl,Nat.zero_le _,by exact EL,by exact KL,by exact KL⟩
 case round =>
  obtain ⟨t,N,rfl,hN,rfl,ht,hbel,hb0,hb1⟩:=hrel
  have HBEL:=Lib.hid hbel
  have HNN:=Lib.hid hN
  have HG0:=Lib.hid hb0
  have HG1:=Lib.hid hb1
  obtain ⟨r0,y0,u0⟩:=hb0.facts
  clear hb0 hb1 hN
  by_cases htn:t<n
  ·obtain ⟨g,hg⟩:∃ g,gs[t]?=some g:=⟨_,List.getElem?_eq_getElem (by have:=HN.out;omega)⟩
   obtain ⟨_,_,hve,_,_,hq⟩:=HSL.out
   cases hve
   obtain ⟨b,off,rfl,hlt,-,hr⟩:=hq (by intro e;rw [e] at hg;simp at hg)
   obtain ⟨cl,hcl,hcell,hob⟩:=hr t g hg
   have hug:=HUN.out g (List.mem_iff_getElem?.2 ⟨t,hg⟩)
   obtain ⟨pr,qr,cr,rs,hcs0,hcr,hge,hrn31,hslr⟩:=hob.sl (e:=2) (k:=2) rfl
   have hcc2:cr=c':=by
    have:=hug.dim'
    rw [hge] at this
    change ((cr:Nat):Int)=c' at this
    omega
   subst hcc2
   subst hcs0
   have HUR:Hid (∀ k ∈ rs,Uni cr k):=Lib.hid fun k hk=>hug.kid (by rw [hge];simpa [Gm.kids] using hk)
   have hag:allOf g=allOfs rs:=by rw [hge,allOf,List.nil_append]
   have HSR:=Lib.hid hslr
   have D0:=cell_kept hbel (hcell 0 (.slice pr rs.length qr) rfl)
   have D1:=cell_kept hbel (hcell 1 (.int .u8 cr) rfl)
   simp only [Nat.add_zero] at D0
   have E1:=D1
   rw [← Nat.add_assoc] at E1
   have hbl:b<wr.heap.size:=Nat.lt_of_lt_of_le hlt hbel.size
   have HT0:Hid (allOfs (gs.take (t+1))=allOfs (gs.take t) ++ allOfs rs):=Lib.hid (by rw [allOfs_take hg,hag])
   have HLE:Hid ((allOfs (gs.take (t+1))).length≤L):=Lib.hid (by
    have:=allOfs_take_le gs (t+1)
    rw [HL.out] at this
    exact this)
   have HAS:Hid ((allOfs (gs.take t)).length+(allOfs rs).length≤L):=Lib.hid (by
    have h1:=HLE.out
    rw [HT0.out,List.length_append] at h1
    exact h1)
   clear hq hr hcell hob hcl hbel hge hug hag hslr
   generalize hrn:rs.length=rn at *
   have HRN:=Lib.hid hrn
   clear hrn
   go_wp2
   go_loopw [3,25] (fun dv iv wq=>∃ (r M:Nat),dv=.int .i64 M∧M*D=(allOfs (gs.take t)).length+(allOfs (rs.take r)).length∧iv=.int .i64 r∧r≤rn∧Bel w wq∧Blk wq w.heap.size #[.slice (some ⟨b,off,none⟩) gs.length cap,.int .u8 cr] 129∧Blk wq (w.heap.size+1) #[.int .u8 0,.slice none 0 0] 109) (fun _ iv _=>rn - (intOf iv).toNat)
   case atStart=>exact ⟨0,N,rfl,by (rw [HNN.out];simp [allOfs]),rfl,Nat.zero_le _,by have HB:=HBEL.out;exact EL,by have HB:=HG0.out;exact KL,by have HB:=HG1.out;exact KL⟩
   case round =>
    obtain ⟨r,M,rfl,hM,rfl,hrr,hbq,hq0,hq1⟩:=hrel
    have HBQ:=Lib.hid hbq
    have HMM:=Lib.hid hM
    have HQ0:=Lib.hid hq0
    have HQ1:=Lib.hid hq1
    clear hq0 hq1 hM r0 y0 u0
    by_cases hrt:r<rn
    ·obtain ⟨g,hg⟩:∃ g,rs[r]?=some g:=⟨_,List.getElem?_eq_getElem (by have:=HRN.out;omega)⟩
     obtain ⟨_,_,hve,_,_,hq⟩:=HSR.out
     cases hve
     obtain ⟨b2,off2,rfl,hlt2,-,hr⟩:=hq (by intro e;rw [e] at hg;simp at hg)
     obtain ⟨cl,hcl,hcell,hob⟩:=hr r g hg
     obtain ⟨p0,n0,q0,hcs0,hf0,hm0⟩:=allOf_line hob (HUR.out g (List.mem_iff_getElem?.2 ⟨r,hg⟩))
     subst hcs0
     have F0:=cell_kept hbq (hcell 0 (.int .u8 cr) rfl)
     have F1:=cell_kept hbq (hcell 1 (.slice p0 n0 q0) rfl)
     simp only [Nat.add_zero] at F0
     have E2:=F1
     rw [← Nat.add_assoc] at E2
     have hbl3:b2<wr.heap.size:=Nat.lt_of_lt_of_le hlt2 hbq.size
     have HQ:Hid (n0 / D*D=n0):=Lib.hid (by
      rw [HDD.out] at hm0
      exact Nat.div_mul_cancel (Nat.dvd_of_mod_eq_zero hm0))
     have hlg:=hf0.len
     have HT1:Hid ((allOfs (rs.take (r+1))).length=(allOfs (rs.take r)).length+n0):=Lib.hid (by rw [allOfs_take hg,List.length_append,hlg.1])
     have hle2:=allOfs_take_le rs (r+1)
     have hMb:M≤1048576:=by
      have h1:=HMM.out
      have h2:=HT1.out
      have h4:=HAS.out
      have h3:M*2≤M*D:=Nat.mul_le_mul_left _ hD2
      omega
     have hnb:n0≤1048576:=by
      have h2:=HT1.out
      have h4:=HAS.out
      omega
     have hqb:n0 / D≤n0:=Nat.div_le_self _ _
     have HLQ:Hid (∀ w,Calls Tryz.prog 126 #[.agg #[.int .u8 cr,.slice p0 n0 q0]] w fun e w'=>e=.returned (.int .i64 (n0 / D:Nat))∧Bel w w'):=Lib.hid fun w=>HLN.out p0 n0 q0 w (by omega)
     generalize n0 / D=qq at *
     clear hq hr hcell hob hcl hbq hg hf0 hm0 hle2 hlg
     go_wp2_with (first
      | (go_at_call 68;(with_reducible refine (HCO.out _ _ _ _ _).mono ?_);rintro e w3 ⟨rfl,hb3⟩;have hb4:Bel wr w3:=(show Bel wr _ by exact EL).trans hb3;have HB3:=Lib.hid hb4;have HC0:=Lib.hid (HQ0.out.bel hb4);have HC1:=Lib.hid (HQ1.out.bel hb4);clear hb3 hb4)
      | (go_at_call 126;(with_reducible refine (HLQ.out _).mono ?_);rintro e w4 ⟨rfl,hb4⟩;have HB4:Hid (Bel wr w4):=Lib.hid (HB3.out.trans hb4);have HD0:=Lib.hid (HC0.out.bel hb4);have HD1:=Lib.hid (HC1.out.bel hb4);clear hb4))
     go_roundw
     case rel=>exact ⟨r+1,M+qq,by go_num,by (rw [HT1.out,Nat.add_mul,HMM.out,HQ.out,Nat.add_assoc]),by go_num,by omega,HBQ.out.trans HB4.out,HD0.out,HD1.out⟩
     case measure=>simp [intOf];omega
    ·obtain rfl:rn=r:=by omega
     have hx:rs.take rn=rs:=List.take_of_length_le (by have:=HRN.out;omega)
     have HM9:Hid (M*D=(allOfs (gs.take (t+1))).length):=Lib.hid (by rw [HMM.out,HT0.out,List.length_append,hx])
     clear hx hbq
     go_wp2
     go_roundw
     case rel=>exact ⟨t+1,M,rfl,HM9.out,by go_num,by omega,HBQ.out,HQ0.out,HQ1.out⟩
     case measure=>simp [intOf];omega
  ·obtain rfl:n=t:=by omega
   have hx:gs.take n=gs:=List.take_of_length_le (by have:=HN.out;omega)
   have hNL:N*D=L:=by
    rw [← HL.out,← hx]
    exact HNN.out
   have HNL:=Lib.hid hNL
   have hNb:N≤1048576:=by
    have h3:N*2≤N*D:=Nat.mul_le_mul_left _ hD2
    omega
   have hmul:((N:Nat):Int)*((D:Nat):Int)=((L:Nat):Int):=by exact_mod_cast hNL
   clear hx hbel
   clear hNL
   go_wp2_with (first
    | (at_make;refine wpList_make_own _ rfl _ _ 22 rfl (w.heap.size+2) 27 i0 (.float .f64 0) 1 Tryz.underlying22 hi hz0 hz1 .i64 .i64 _ L rfl rfl rfl ?b2 ?b3 ?b4 ?_;(case b2=>(rw [hz2];omega));(case b3=>(unfold maxLen;omega));(case b4=>exact HZ3.out);intro w4 hown hgrow;have HB4:Hid (Bel w3 w4):=Lib.hid (Bel.of_grown0 hgrow);have HOWN:=Lib.hid hown;have C0:=HE0.out.bel HB4.out;have HF0:=Lib.hid C0;have HF1:=Lib.hid (HE1.out.bel HB4.out);obtain ⟨r4,y4,u4⟩:=C0.facts;clear hown hgrow C0)
    | (go_at_call 161;(with_reducible refine (HD.out _).mono ?_);rintro e w' ⟨rfl,rfl⟩)
    | (go_at_call 116;(with_reducible refine (HT.out _).mono ?_);rintro e w3 ⟨rfl,hb3⟩;have HB3:Hid (Bel w w3):=Lib.hid (HBEL.out.trans hb3);have HE0:=Lib.hid (HG0.out.bel hb3);have HE1:=Lib.hid (HG1.out.bel hb3);have HZ3:Hid (w.heap.size+2≤w3.heap.size):=Lib.hid (by have:=HE1.out.facts.2.2;omega);clear hb3))
   generalize hMB:w3.heap.size=MB at *
   have HMB:=Lib.hid hMB
   clear hMB
   go_loopw [9,46] (fun dv iv wr=>∃ (t m:Nat),dv=.slice (some ⟨MB,0,none⟩) m L∧m=(allOfs (gs.take t)).length∧iv=.int .i64 t∧t≤n∧Bel w wr∧w4.heap.size≤wr.heap.size∧wr.ownsRow (w.heap.size+2) 27 1 (.slice (some ⟨MB,0,none⟩) m L) m ((allOfs (gs.take t)).map flv)∧Blk wr w.heap.size #[.slice p n cap,.int .u8 c'] 129∧Blk wr (w.heap.size+1) #[.int .u8 0,.slice none 0 0] 109) (fun _ iv _=>n - (intOf iv).toNat)
   case atStart=>exact ⟨0,0,rfl,by simp [allOfs],rfl,Nat.zero_le _,HB3.out.trans HB4.out,Nat.le_refl _,by simpa [allOfs] using HOWN.out,HF0.out,HF1.out⟩
   case round =>
    obtain ⟨t,m,rfl,hm,rfl,ht,hbel,hgrow,hown,hb0,hb1⟩:=hrel
    have HBEL:=Lib.hid hbel
    have HGR:=Lib.hid hgrow
    have HM:=Lib.hid hm
    have HOW:=Lib.hid hown
    have HG0:=Lib.hid hb0
    have HG1:=Lib.hid hb1
    obtain ⟨r0,y0,u0⟩:=hb0.facts
    clear hb0 hb1 hm hown hgrow
    by_cases htn:t<n
    ·obtain ⟨g,hg⟩:∃ g,gs[t]?=some g:=⟨_,List.getElem?_eq_getElem (by have:=HN.out;omega)⟩
     obtain ⟨_,_,hve,_,_,hq⟩:=HSL.out
     cases hve
     obtain ⟨b,off,rfl,hlt,-,hr⟩:=hq (by intro e;rw [e] at hg;simp at hg)
     obtain ⟨cl,hcl,hcell,hob⟩:=hr t g hg
     have hug:=HUN.out g (List.mem_iff_getElem?.2 ⟨t,hg⟩)
     obtain ⟨pr,qr,cr,rs,hcs0,hcr,hge,hrn31,hslr⟩:=hob.sl (e:=2) (k:=2) rfl
     have hcc2:cr=c':=by
      have:=hug.dim'
      rw [hge] at this
      change ((cr:Nat):Int)=c' at this
      omega
     subst hcc2
     subst hcs0
     have HUR:Hid (∀ k ∈ rs,Uni cr k):=Lib.hid fun k hk=>hug.kid (by rw [hge];simpa [Gm.kids] using hk)
     have hag:allOf g=allOfs rs:=by rw [hge,allOf,List.nil_append]
     have HSR:=Lib.hid hslr
     have D0:=cell_kept hbel (hcell 0 (.slice pr rs.length qr) rfl)
     have D1:=cell_kept hbel (hcell 1 (.int .u8 cr) rfl)
     simp only [Nat.add_zero] at D0
     have E1:=D1
     rw [← Nat.add_assoc] at E1
     have hbl:b<wr.heap.size:=Nat.lt_of_lt_of_le hlt hbel.size
     have HT0:Hid (allOfs (gs.take (t+1))=allOfs (gs.take t) ++ allOfs rs):=Lib.hid (by rw [allOfs_take hg,hag])
     have HLE:Hid ((allOfs (gs.take (t+1))).length≤L):=Lib.hid (by
      have:=allOfs_take_le gs (t+1)
      rw [HL.out] at this
      exact this)
     have HAS:Hid ((allOfs (gs.take t)).length+(allOfs rs).length≤L):=Lib.hid (by
      have h1:=HLE.out
      rw [HT0.out,List.length_append] at h1
      exact h1)
     clear hq hr hcell hob hcl hbel hge hug hag hslr
     generalize hrn:rs.length=rn at *
     have HRN:=Lib.hid hrn
     clear hrn
     go_wp2
     generalize hws:w4.heap.size=ws at *
     have HWS:=Lib.hid hws
     clear hws
     go_loopw [9,53] (fun dv iv wq=>∃ (r m:Nat),dv=.slice (some ⟨MB,0,none⟩) m L∧m=(allOfs (gs.take t)).length+(allOfs (rs.take r)).length∧iv=.int .i64 r∧r≤rn∧Bel w wq∧ws≤wq.heap.size∧wq.ownsRow (w.heap.size+2) 27 1 (.slice (some ⟨MB,0,none⟩) m L) m ((allOfs (gs.take t) ++ allOfs (rs.take r)).map flv)∧Blk wq w.heap.size #[.slice (some ⟨b,off,none⟩) gs.length cap,.int .u8 cr] 129∧Blk wq (w.heap.size+1) #[.int .u8 0,.slice none 0 0] 109) (fun _ iv _=>rn - (intOf iv).toNat)
     case atStart=>exact ⟨0,m,rfl,by (rw [HM.out];simp [allOfs]),rfl,Nat.zero_le _,by have HB:=HBEL.out;exact EL,by (have:=HGR.out;simp;omega),by (have:=HOW.out.alloc (.cells #[.slice pr rn qr,.int .u8 cr] 91);simpa [allOfs] using this),by have HB:=HG0.out;exact KL,by have HB:=HG1.out;exact KL⟩
     case round =>
      obtain ⟨r,m2,rfl,hM,rfl,hrr,hbq,hgq,hoq,hq0,hq1⟩:=hrel
      have HBQ:=Lib.hid hbq
      have HMM:=Lib.hid hM
      have HGQ:=Lib.hid hgq
      have HOQ:=Lib.hid hoq
      have HQ0:=Lib.hid hq0
      have HQ1:=Lib.hid hq1
      clear hq0 hq1 hM r0 y0 u0 hgq hoq
      by_cases hrt:r<rn
      ·obtain ⟨g,hg⟩:∃ g,rs[r]?=some g:=⟨_,List.getElem?_eq_getElem (by have:=HRN.out;omega)⟩
       obtain ⟨_,_,hve,_,_,hq⟩:=HSR.out
       cases hve
       obtain ⟨b2,off2,rfl,hlt2,-,hr⟩:=hq (by intro e;rw [e] at hg;simp at hg)
       obtain ⟨cl,hcl,hcell,hob⟩:=hr r g hg
       obtain ⟨p0,n0,q0,hcs0,hf0,hm0⟩:=allOf_line hob (HUR.out g (List.mem_iff_getElem?.2 ⟨r,hg⟩))
       subst hcs0
       have F0:=cell_kept hbq (hcell 0 (.int .u8 cr) rfl)
       have F1:=cell_kept hbq (hcell 1 (.slice p0 n0 q0) rfl)
       simp only [Nat.add_zero] at F0
       have E2:=F1
       rw [← Nat.add_assoc] at E2
       have hbl3:b2<wr.heap.size:=Nat.lt_of_lt_of_le hlt2 hbq.size
       have HLG:=Lib.hid hf0.len
       have HT1:=Lib.hid (allOfs_take hg)
       have HT2:Hid ((allOfs (gs.take t)).length+(allOfs (rs.take (r+1))).length=m2+n0):=Lib.hid (by rw [allOfs_take hg,List.length_append,HLG.out.1,HMM.out,Nat.add_assoc])
       have hmn:m2+n0≤L:=by
        have h1:=HT2.out
        have h2:=allOfs_take_le rs (r+1)
        have h3:=HAS.out
        omega
       have HAA:Hid (∀ W,Bel wr W→Calls Tryz.prog 210 #[.agg #[.int .u8 cr,.slice p0 n0 q0],.slice (some ⟨MB,0,none⟩) m2 L] W (IsApp (w.heap.size+2) (some ⟨MB,0,none⟩) m2 L n0 (allOfs (gs.take t) ++ allOfs (rs.take (r+1))) W)):=Lib.hid fun W hW=>by
        rw [HT1.out,← List.append_assoc]
        exact HAP.out F _ _ _ _ _ _ _ _ _ W (own_kept HOQ.out hW) ((hf0.bel hbq).bel hW) (by omega) (by have:=hW.size;have:=HQ1.out.facts.2.2;omega)
       clear hq hr hcell hob hcl hbq hg hf0 hm0
       go_wp2_with (first
        | (go_at_call 68;(with_reducible refine (HCO.out _ _ _ _ _).mono ?_);rintro e w5 ⟨rfl,hb5⟩;have hb6:Bel wr w5:=(show Bel wr _ by exact EL).trans hb5;have HB5:=Lib.hid hb6;have HC0:=Lib.hid (HQ0.out.bel hb6);have HC1:=Lib.hid (HQ1.out.bel hb6);clear hb5 hb6)
        | (go_at_call 210;(with_reducible refine (HAA.out _ HB5.out).mono ?_);rintro e w6 ⟨p6,cap6,rfl,ho6,hg6,hb6,hf6⟩;obtain ⟨hp6,hc6⟩:=hf6 hmn;subst p6;subst cap6;have HO6:=Lib.hid ho6;have hbw:Bel w w6:=(HBQ.out.trans HB5.out).of_row hg6 (fun g hg=>by (have:=(HOQ.out.lt g hg).1;omega));have HBW:=Lib.hid hbw;have HX0:=Lib.hid (grownBy_blk hg6 HC0.out (fun e=>by (have:=(HOQ.out.lt _ e.symm).1;omega)));have HX1:=Lib.hid (grownBy_blk hg6 HC1.out (fun e=>by (have:=(HOQ.out.lt _ e.symm).1;omega)));have HZ6:Hid (ws≤w6.heap.size):=Lib.hid (by have h1:=HGQ.out;have h2:=HB5.out.size;have h3:=hg6.size;omega);clear ho6 hg6 hb6 hf6 hbw))
       go_roundw
       case rel=>exact ⟨r+1,m2+n0,rfl,HT2.out.symm,by go_num,by omega,HBW.out,HZ6.out,HO6.out,HX0.out,HX1.out⟩
       case measure=>simp [intOf];omega
      ·obtain rfl:rn=r:=by omega
       have hx:rs.take rn=rs:=List.take_of_length_le (by have:=HRN.out;omega)
       have HM9:Hid (m2=(allOfs (gs.take (t+1))).length):=Lib.hid (by rw [HMM.out,HT0.out,List.length_append,hx])
       have HO9:Hid (wr.ownsRow (w.heap.size+2) 27 1 (.slice (some ⟨MB,0,none⟩) m2 L) m2 ((allOfs (gs.take (t+1))).map flv)):=Lib.hid (by
        have:=HOQ.out
        rw [hx,← HT0.out] at this
        exact this)
       clear hx hbq
       go_wp2
       go_roundw
       case rel=>exact ⟨t+1,m2,rfl,HM9.out,by go_num,by omega,HBQ.out,by (have:=HGQ.out;have:=HWS.out;omega),HO9.out,HQ0.out,HQ1.out⟩
       case measure=>simp [intOf];omega
    ·obtain rfl:n=t:=by omega
     have hx:gs.take n=gs:=List.take_of_length_le (by have:=HN.out;omega)
     have hmL:L=m:=by
      rw [HM.out,hx]
      exact HL.out.symm
     obtain rfl:=hmL
     have HFL:Hid (FlSl (fun b=>w.heap.size+2≤b) wr (.slice (some ⟨MB,0,none⟩) L L) (allOfs gs)):=Lib.hid (by
      have:=HOW.out
      rw [hx] at this
      exact FlSl.of_owns this HL.out (fun _ hb=>hb))
     clear hx hbel
     go_wp2_with (first
      | (go_at_call 212;(with_reducible refine (noUnused_any _ _ _ _).mono ?_);rintro e w6 ⟨rfl,hb6⟩;have hb7:Bel w5 w6:=(show Bel w5 _ by exact EL).trans hb6;have HB6:Hid (Bel w w6):=Lib.hid (HB5.out.trans hb7);have C8:Blk w6 w5.heap.size #[.int .u8 c',.slice (some ⟨MB,0,none⟩) L L] 109:=Blk.bel (by exact KL) hb6;have C2:=HC5.out.bel hb7;have HC6:=Lib.hid C2;have HF6:=Lib.hid (HF5.out.bel hb7);obtain ⟨r8,y8,u8⟩:=C8.facts;obtain ⟨r7,y7,u7⟩:=C2.facts;clear hb6 hb7 C8 C2)
      | (go_at_call 202;(with_reducible refine (HNS.out _ _ _).mono ?_);rintro e w5 ⟨rfl,hb5⟩;have HB5:Hid (Bel w w5):=Lib.hid (HBEL.out.trans hb5);have HC5:=Lib.hid (HG1.out.bel hb5);have HF5:=Lib.hid (HFL.out.bel hb5);clear hb5))
     refine post_ret (results_one rfl (resIs_agg (n:=2) (cs:=#[.int .u8 c',.slice (some ⟨MB,0,none⟩) L L]) (by rfl) Tryz.underlying109 (by kernel_rfl) (T:=109) ?_ rfl)) ⟨_,L,L,rfl,?_,?_⟩
     ·have HB:=HC6.out
      exact SL
     ·exact ((HF6.out.set (g:=w.heap.size+1) (by omega) 0 _).set (g:=w.heap.size+1) (by omega) 1 _).mono fun b _ hb=>by omega
     ·have HB:=HB6.out
      exact EL
end Go.Proofs.YtpipehenfcbjbaaGreatDoor
set_option linter.unusedVariables false
set_option linter.unusedSimpArgs false
namespace Go.Proofs.YtpipehenfcbjbaaGreatDoor
open Go.ChangeShapes Go.WideShapes Go.ChangeAt Go.RowKit
/-- The same, wherever the numbers lie. -/
def IsDumpT (c:Nat) (xs:List Nat) (w:World) (e:Ending) (w':World):Prop:=∃ p m cap,e=.returned (.agg #[.int .u8 c,.slice p m cap])∧FlSl (fun _=>True) w' (.slice p m cap) xs∧Bel w w'
def GeoDump (g:Gm):Prop:=∀ (F:Nat→Prop) (cs:List Value) (w:World) (c:Nat),Ob F w 7 cs g→Uni c g→g.size≤1048576→Calls Tryz.prog 209 #[.agg cs.toArray] w (IsDumpT c (allOf g) w)
theorem allOf_point {F:Nat→Prop} {w:World} {cs:List Value} {g:Gm} (h:Ob F w 1 cs g) {c:Nat} (hu:Uni c g):∃ (x y z m:Nat) (full:Bool),cs=[.float .f64 x,.float .f64 y,.float .f64 z,.float .f64 m,.int .u8 c,.bool full]∧allOf g=(if full then numsOfPl c ⟨x,y,z,m⟩ else []):=by
 obtain ⟨x,y,z,m,c',full,rfl,hc,rfl⟩:=h.pt
 have:=hu.dim'
 change ((c':Nat):Int)=c at this
 have hcc:c'=c:=by omega
 subst hcc
 exact ⟨x,y,z,m,full,rfl,by rw [allOf,allOfs,List.append_nil]⟩
set_option maxHeartbeats 8000000 in
set_option maxRecDepth 100000 in
theorem collDump_any {F:Nat→Prop} {cs:List Value} {g:Gm} (w:World) (h:Ob F w 0 cs g) (c:Nat) (hu:Uni c g) (hsz:g.size≤1048576) (hih:∀ k ∈ g.kids,GeoDump k):Calls Tryz.prog 187 #[.agg cs.toArray] w (IsDump c (allOf g) w):=by
 have hmod:=allOf_mod h hu
 have hlen:(allOf g).length≤1048576:=Nat.le_trans (allOf_len g) hsz
 obtain ⟨p,cap,c',gs,rfl,hc,rfl,hn31,hsl⟩:=h.sl (e:=7) (k:=2) rfl
 have hcc:c'=c:=by
  have:=hu.dim'
  change ((c':Nat):Int)=c at this
  omega
 subst hcc
 have HIH:Hid (∀ k ∈ gs,GeoDump k):=Lib.hid hih
 have HSZ:Hid (∀ k ∈ gs,k.size≤1048576):=Lib.hid fun k hk=>by
  have h1:=Gm.size_mem hk
  simp only [Gm.size] at hsz
  omega
 clear hih
 rw [allOf,List.nil_append] at hmod hlen ⊢
 have HUN:Hid (∀ k ∈ gs,Uni c' k):=Lib.hid fun k hk=>hu.kid (by simpa [Gm.kids] using hk)
 have HSL:=Lib.hid hsl
 have HT:=Lib.hid (rawType_0 c' p gs.length cap)
 have HD:=Lib.hid (dimension_any c' hc)
 have HNS:Hid (∀ (p:Option Addr) (cap:Nat) (w:World),Calls Tryz.prog 202 #[.slice p (allOfs gs).length cap,.int .u8 c'] w fun e w'=>e=.returned (.agg #[.int .u8 c',.slice p (allOfs gs).length cap])∧Bel w w'):=Lib.hid fun p cap w=>newSequence_any p _ cap c' hc (by omega) hmod w
 obtain ⟨i0,hi,hz0,hz1,hz2⟩:=info_parts infoF
 have hwd:=wd_bd c'
 have HLEN:=Lib.hid hlen
 have HC3:=Lib.hid hc
 clear h hsl hu hsz hmod hlen
 show Calls Tryz.prog 187 #[.agg #[.slice p gs.length cap,.int .u8 c']] w _
 generalize hn:gs.length=n at *
 have HN:=Lib.hid hn
 clear hn
 generalize hL:(allOfs gs).length=L at *
 have HL:=Lib.hid hL
 have hLb:L≤1048576:=HLEN.out
 clear hL
 go_enter Tryz.func187,Tryz.ntmps187
 go_wp2
 go_loopw [3,9] (fun dv iv wr=>∃ (t m:Nat) (pv:Option Addr) (cv:Nat),dv=.slice pv m cv∧m=(allOfs (gs.take t)).length∧iv=.int .i64 t∧t≤n∧Bel w wr∧wr.ownsRow (w.heap.size+2) 27 1 (.slice pv m cv) m ((allOfs (gs.take t)).map flv)∧Blk wr w.heap.size #[.slice p n cap,.int .u8 c'] 86∧Blk wr (w.heap.size+1) #[.int .u8 0,.slice none 0 0] 109) (fun _ iv _=>n - (intOf iv).toNat)
 case atStart=>exact ⟨0,0,none,0,rfl,by simp [allOfs],rfl,Nat.zero_le _,by exact EL,by simpa [allOfs] using World.ownsRow_nil _ _ _ _,by exact KL,by exact KL⟩
 case round =>
  obtain ⟨t,m,pv,cv,rfl,hm,rfl,ht,hbel,hown,hb0,hb1⟩:=hrel
  have HBEL:=Lib.hid hbel
  have HM:=Lib.hid hm
  have HOW:=Lib.hid hown
  have HG0:=Lib.hid hb0
  have HG1:=Lib.hid hb1
  obtain ⟨r0,y0,u0⟩:=hb0.facts
  clear hb0 hb1 hm hown
  by_cases htn:t<n
  ·obtain ⟨g,hg⟩:∃ g,gs[t]?=some g:=⟨_,List.getElem?_eq_getElem (by have:=HN.out;omega)⟩
   obtain ⟨_,_,hve,_,_,hq⟩:=HSL.out
   cases hve
   obtain ⟨b,off,rfl,hlt,-,hr⟩:=hq (by intro e;rw [e] at hg;simp at hg)
   obtain ⟨cl,hcl,hcell,hob⟩:=hr t g hg
   have hbl:b<wr.heap.size:=Nat.lt_of_lt_of_le hlt hbel.size
   have HLE:Hid ((allOfs (gs.take (t+1))).length≤L):=Lib.hid (by
    have:=allOfs_take_le gs (t+1)
    rw [HL.out] at this
    exact this)
   have HT1:=Lib.hid (allOfs_take hg)
   have HC:Hid (∀ W,Bel w W→Calls Tryz.prog 209 #[.agg cl.toArray] W (IsDumpT c' (allOf g) W)):=Lib.hid fun W hW=>HIH.out g (List.mem_iff_getElem?.2 ⟨t,hg⟩) F _ W c' (hob.bel hW) (HUN.out g (List.mem_iff_getElem?.2 ⟨t,hg⟩)) (HSZ.out g (List.mem_iff_getElem?.2 ⟨t,hg⟩))
   obtain ⟨s0,b0,cl0,hcs0,-⟩:=hob.gi
   cases hcs0
   have D0:=cell_kept hbel (hcell 0 (.int .i64 s0) rfl)
   have D1:=cell_kept hbel (hcell 1 (.iface (ptrT s0) (.pointer (some ⟨b0,0,none⟩))) rfl)
   simp only [Nat.add_zero] at D0
   have E1:=D1
   rw [← Nat.add_assoc] at E1
   clear hq hr hcell hob hcl hbel hg
   generalize ptrT s0=T at *
   generalize allOf g=xs at *
   go_wp2_with (first
    | (go_at_call 209;(with_reducible refine (HC.out _ ?hb).mono ?_);(case hb=>(have HB:=HBEL.out;exact EL));rintro e w5 ⟨p5,m5,q5,rfl,hf5,hb5⟩;have hb6:Bel wr w5:=(show Bel wr _ by exact EL).trans hb5;have HB5:=Lib.hid hb6;have HC0:=Lib.hid (HG0.out.bel hb6);have HC1:=Lib.hid (HG1.out.bel hb6);have HF5:=Lib.hid hf5;have HT2:Hid ((allOfs (gs.take (t+1))).length=m+m5):=Lib.hid (by rw [HT1.out,List.length_append,hf5.len.1,HM.out]);clear hb5 hb6 hf5)
    | (go_at_call 210;(with_reducible refine (appendAll_any (fun _=>True) (w.heap.size+2) pv m cv c' _ _ _ xs (allOfs (gs.take t)) _ ?h1 ?h2 ?h3 ?h4).mono ?_);(case h1=>exact own_kept HOW.out HB5.out);(case h2=>exact HF5.out);(case h3=>(have:=HT2.out;have:=HLE.out;omega));(case h4=>(have:=HC1.out.facts.2.2;omega));rintro e w6 ⟨p6,cap6,rfl,ho6,hg6,hb6,hf6⟩;have HO6:=Lib.hid ho6;have hbw:Bel w w6:=(HBEL.out.trans HB5.out).of_row hg6 (fun g hg=>by (have:=(HOW.out.lt g hg).1;omega));have HBW:=Lib.hid hbw;have HX0:=Lib.hid (grownBy_blk hg6 HC0.out (fun e=>by (have:=(HOW.out.lt _ e.symm).1;omega)));have HX1:=Lib.hid (grownBy_blk hg6 HC1.out (fun e=>by (have:=(HOW.out.lt _ e.symm).1;omega)));clear ho6 hg6 hb6 hf6 hbw))
   go_roundw
   case rel=>exact ⟨t+1,m+m5,p6,cap6,rfl,HT2.out.symm,by go_num,by omega,HBW.out,by (rw [HT1.out];exact HO6.out),HX0.out,HX1.out⟩
   case measure=>simp [intOf];omega
  ·obtain rfl:n=t:=by omega
   have hx:gs.take n=gs:=List.take_of_length_le (by have:=HN.out;omega)
   have hmL:L=m:=by
    rw [HM.out,hx]
    exact HL.out.symm
   obtain rfl:=hmL
   have HFL:Hid (FlSl (fun b=>w.heap.size+2≤b) wr (.slice pv L cv) (allOfs gs)):=Lib.hid (by
    have:=HOW.out
    rw [hx] at this
    exact FlSl.of_owns this HL.out (fun _ hb=>hb))
   clear hx hbel
   go_wp2_with (go_at_call 202;(with_reducible refine (HNS.out _ _ _).mono ?_);rintro e w5 ⟨rfl,hb5⟩;have HB5:Hid (Bel w w5):=Lib.hid (HBEL.out.trans hb5);have C2:=HG1.out.bel hb5;have HC5:=Lib.hid C2;have HF5:=Lib.hid (HFL.out.bel hb5);obtain ⟨r7,y7,u7⟩:=C2.facts;clear hb5 C2)
   refine post_ret (results_one rfl (resIs_agg (n:=2) (cs:=#[.int .u8 c',.slice pv L cv]) (by rfl) Tryz.underlying109 (by kernel_rfl) (T:=109) ?_ rfl)) ⟨_,L,cv,rfl,?_,?_⟩
   ·have HB:=HC5.out
    exact SL
   ·exact ((HF5.out.set (g:=w.heap.size+1) (by omega) 0 _).set (g:=w.heap.size+1) (by omega) 1 _).mono fun b _ hb=>by omega
   ·have HB:=HB5.out
    exact EL
set_option maxHeartbeats 8000000 in
set_option maxRecDepth 100000 in
theorem multiPointDump_any {F:Nat→Prop} {cs:List Value} {g:Gm} (w:World) (h:Ob F w 4 cs g) (c:Nat) (hu:Uni c g) (hsz:g.size≤1048576):Calls Tryz.prog 215 #[.agg cs.toArray] w (IsDump c (allOf g) w):=by
 have hmod:=allOf_mod h hu
 have hlen:(allOf g).length≤1048576:=Nat.le_trans (allOf_len g) hsz
 obtain ⟨p,cap,c',gs,rfl,hc,rfl,hn31,hsl⟩:=h.sl (e:=1) (k:=6) rfl
 have hcc:c'=c:=by
  have:=hu.dim'
  change ((c':Nat):Int)=c at this
  omega
 subst hcc
 rw [allOf,List.nil_append] at hmod hlen ⊢
 have HUN:Hid (∀ k ∈ gs,Uni c' k):=Lib.hid fun k hk=>hu.kid (by simpa [Gm.kids] using hk)
 have HSL:=Lib.hid hsl
 have HT:=Lib.hid (rawType_4 c' p gs.length cap)
 have HD:=Lib.hid (dimension_any c' hc)
 have HNS:Hid (∀ (p:Option Addr) (cap:Nat) (w:World),Calls Tryz.prog 202 #[.slice p (allOfs gs).length cap,.int .u8 c'] w fun e w'=>e=.returned (.agg #[.int .u8 c',.slice p (allOfs gs).length cap])∧Bel w w'):=Lib.hid fun p cap w=>newSequence_any p _ cap c' hc (by omega) hmod w
 obtain ⟨i0,hi,hz0,hz1,hz2⟩:=info_parts infoF
 have hwd:=wd_bd c'
 have HLEN:=Lib.hid hlen
 have HC3:=Lib.hid hc
 clear h hsl hu hsz hmod hlen
 show Calls Tryz.prog 215 #[.agg #[.slice p gs.length cap,.int .u8 c']] w _
 generalize hn:gs.length=n at *
 have HN:=Lib.hid hn
 clear hn
 generalize hL:(allOfs gs).length=L at *
 have HL:=Lib.hid hL
 have hLb:L≤1048576:=HLEN.out
 clear hL
 have hmul:((n:Nat):Int)*((wd c':Nat):Int)=((n*wd c':Nat):Int):=(Int.natCast_mul _ _).symm
 have hMb:n*wd c'≤1048576*4:=Nat.mul_le_mul hn31 hwd.2
 have HMB:Hid (n*wd c'≤4194304):=Lib.hid (by omega)
 have hwrM:IntKind.i64.wrap ((n*wd c':Nat):Int)=((n*wd c':Nat):Int):=by
  rw [IntKind.wrap_i64]
  omega
 generalize n*wd c'=M at *
 generalize hDD:wd c'=D at *
 have HDD:=Lib.hid hDD
 clear hDD
 go_enter Tryz.func215,Tryz.ntmps215
 go_wp2_with (go_at_call 114;(with_reducible refine (HT.out _).mono ?_);rintro e w3 ⟨rfl,hb3⟩;have hbw:Bel w w3:=(show Bel w _ by exact EL).trans hb3;have HB3:=Lib.hid hbw;have C0:Blk w3 w.heap.size #[.slice p n cap,.int .u8 c'] 121:=Blk.bel (by exact KL) hb3;have C1:Blk w3 (w.heap.size+1) #[.int .u8 0,.slice none 0 0] 109:=Blk.bel (by exact KL) hb3;have HE0:=Lib.hid C0;have HE1:=Lib.hid C1;obtain ⟨r3,y3,u3⟩:=C0.facts;have HZ3:Hid (w.heap.size+2≤w3.heap.size):=Lib.hid (by have:=C1.facts.2.2;omega);clear hb3 hbw C0 C1)
 refine wp_region_still_tail 6 (by kernel_rfl) (by kernel_rfl) ?_
 simp only [List.take_succ_cons,List.take_zero,List.drop_succ_cons,List.drop_zero]
 repeat still_step
 still_call ((HD.out _).mono fun _ _ h=>⟨h.1,h.2.symm⟩)
 repeat still_step
 refine wpStill_nil ?_
 change wpList _ _ _ _ _ w3.drew
 go_wp2_with (at_make;refine wpList_make_own _ rfl _ _ 22 rfl (w.heap.size+2) 27 i0 (.float .f64 0) 1 Tryz.underlying22 hi hz0 hz1 .i64 .i64 _ M rfl rfl (by first|rfl|exact hwrM) ?b2 ?b3 ?b4 ?_;(case b2=>(rw [hz2];have:=HMB.out;omega));(case b3=>(unfold maxLen;have:=HMB.out;omega));(case b4=>exact HZ3.out);intro w4 hown hgrow;have hb4:Bel w3 w4:=(show Bel w3 _ by exact EL).trans (Bel.of_grown0 hgrow);have HB4:=Lib.hid hb4;have HOWN:=Lib.hid (show w4.ownsRow (w.heap.size+2) 27 1 (.slice (some ⟨w3.heap.size,0,none⟩) 0 M) 0 [] from hown);have C0:=HE0.out.bel hb4;have HF0:=Lib.hid C0;have HF1:=Lib.hid (HE1.out.bel hb4);obtain ⟨r4,y4,u4⟩:=C0.facts;clear hown hgrow C0 hb4)
 go_loopw [4,21] (fun dv iv wr=>∃ (t m:Nat) (pv:Option Addr) (cv:Nat),dv=.slice pv m cv∧m=(allOfs (gs.take t)).length∧iv=.int .i64 t∧t≤n∧Bel w wr∧wr.ownsRow (w.heap.size+2) 27 1 (.slice pv m cv) m ((allOfs (gs.take t)).map flv)∧Blk wr w.heap.size #[.slice p n cap,.int .u8 c'] 121∧Blk wr (w.heap.size+1) #[.int .u8 0,.slice none 0 0] 109) (fun _ iv _=>n - (intOf iv).toNat)
 case atStart=>exact ⟨0,0,_,_,rfl,by simp [allOfs],rfl,Nat.zero_le _,HB3.out.trans HB4.out,by simpa [allOfs] using HOWN.out,HF0.out,HF1.out⟩
 case round =>
  obtain ⟨t,m,pv,cv,rfl,hm,rfl,ht,hbel,hown,hb0,hb1⟩:=hrel
  have HBEL:=Lib.hid hbel
  have HM:=Lib.hid hm
  have HOW:=Lib.hid hown
  have HG0:=Lib.hid hb0
  have HG1:=Lib.hid hb1
  obtain ⟨r0,y0,u0⟩:=hb0.facts
  clear hb0 hb1 hm hown
  by_cases htn:t<n
  ·obtain ⟨g,hg⟩:∃ g,gs[t]?=some g:=⟨_,List.getElem?_eq_getElem (by have:=HN.out;omega)⟩
   obtain ⟨_,_,hve,_,_,hq⟩:=HSL.out
   cases hve
   obtain ⟨b,off,rfl,hlt,-,hr⟩:=hq (by intro e;rw [e] at hg;simp at hg)
   obtain ⟨cl,hcl,hcell,hob⟩:=hr t g hg
   have hbl:b<wr.heap.size:=Nat.lt_of_lt_of_le hlt hbel.size
   have HLE:Hid ((allOfs (gs.take (t+1))).length≤L):=Lib.hid (by
    have:=allOfs_take_le gs (t+1)
    rw [HL.out] at this
    exact this)
   have HT1:=Lib.hid (allOfs_take hg)
   obtain ⟨x,y,z,m9,full,hcs0,hal⟩:=allOf_point hob (HUN.out g (List.mem_iff_getElem?.2 ⟨t,hg⟩))
   subst hcs0
   have D0:=cell_kept hbel (hcell 0 _ rfl)
   have D1:=cell_kept hbel (hcell 1 _ rfl)
   have D2:=cell_kept hbel (hcell 2 _ rfl)
   have D3:=cell_kept hbel (hcell 3 _ rfl)
   have D4:=cell_kept hbel (hcell 4 _ rfl)
   have D5:=cell_kept hbel (hcell 5 _ rfl)
   simp only [Nat.add_zero] at D0
   have E1:=D1
   have E2:=D2
   have E3:=D3
   have E4:=D4
   have E5:=D5
   rw [← Nat.add_assoc] at E1 E2 E3 E4 E5
   have HPC:=Lib.hid (pointCo_any x y z m9 c' full)
   rw [hal] at HT1
   clear hq hr hcell hob hcl hbel hg hal
   cases full
   ·have HT2:Hid (allOfs (gs.take (t+1))=allOfs (gs.take t)):=Lib.hid (by rw [HT1.out];simp)
    go_wp2_with (go_at_call 173;(with_reducible refine (HPC.out _).mono ?_);rintro e w5 ⟨rfl,hb5⟩;have hb6:Bel wr w5:=(show Bel wr _ by exact EL).trans hb5;have HB5:=Lib.hid hb6;have HC0:=Lib.hid (HG0.out.bel hb6);have HC1:=Lib.hid (HG1.out.bel hb6);have HO5:=Lib.hid (own_kept HOW.out hb6);clear hb5 hb6)
    go_roundw
    case rel=>exact ⟨t+1,m,pv,cv,rfl,by (rw [HT2.out];exact HM.out),by go_num,by omega,by have HB:=HBEL.out.trans HB5.out;exact EL,by (rw [HT2.out];first|exact HO5.out|exact HO5.out.alloc _),by have HB:=HC0.out;exact KL,by have HB:=HC1.out;exact KL⟩
    case measure=>simp [intOf];omega
   ·simp only [if_true] at HT1
    have HT2:Hid ((allOfs (gs.take (t+1))).length=m+D):=Lib.hid (by rw [HT1.out,List.length_append,numsOfPl_len,HM.out,HDD.out])
    have hmn:m≤1048576:=by have:=HT2.out;have:=HLE.out;omega
    have HAA:Hid (∀ W,Bel wr W→Calls Tryz.prog 217 #[.agg #[.float .f64 x,.float .f64 y,.float .f64 z,.float .f64 m9,.int .u8 c'],.slice pv m cv] W (IsApp (w.heap.size+2) pv m cv D (allOfs (gs.take (t+1))) W)):=Lib.hid fun W hW=>by
     rw [HT1.out,← HDD.out]
     exact appendCo_any (w.heap.size+2) pv m cv c' x y z m9 _ W HC3.out (own_kept HOW.out hW) (by omega) (by have:=hW.size;have:=HG1.out.facts.2.2;omega)
    go_wp2_with (first
     | (go_at_call 173;(with_reducible refine (HPC.out _).mono ?_);rintro e w5 ⟨rfl,hb5⟩;have hb6:Bel wr w5:=(show Bel wr _ by exact EL).trans hb5;have HB4:=Lib.hid hb6;have HA0:=Lib.hid (HG0.out.bel hb6);have HA1:=Lib.hid (HG1.out.bel hb6);clear hb5 hb6)
     | (go_at_call 217;(with_reducible refine (HAA.out _ ?hb).mono ?_);(case hb=>(have HB:=HB4.out;exact EL));rintro e w6 ⟨p6,cap6,rfl,ho6,hg6,hb6,hf6⟩;have HO6:=Lib.hid ho6;have HBW:Hid (Bel w w6):=Lib.hid ((HBEL.out.trans (show Bel wr _ by (have HB:=HB4.out;exact EL))).of_row hg6 (fun g hg=>by (have:=(HOW.out.lt g hg).1;omega)));have HX0:=Lib.hid (grownBy_blk hg6 (show Blk _ w.heap.size #[.slice (some ⟨b,off,none⟩) gs.length cap,.int .u8 c'] 121 by (have HB:=HA0.out;exact KL)) (fun e=>by (have:=(HOW.out.lt _ e.symm).1;omega)));have HX1:=Lib.hid (grownBy_blk hg6 (show Blk _ (w.heap.size+1) #[.int .u8 0,.slice none 0 0] 109 by (have HB:=HA1.out;exact KL)) (fun e=>by (have:=(HOW.out.lt _ e.symm).1;omega)));clear ho6 hg6 hb6 hf6))
    go_roundw
    case rel=>exact ⟨t+1,m+D,p6,cap6,rfl,HT2.out.symm,by go_num,by omega,HBW.out,HO6.out,HX0.out,HX1.out⟩
    case measure=>simp [intOf];omega
  ·obtain rfl:n=t:=by omega
   have hx:gs.take n=gs:=List.take_of_length_le (by have:=HN.out;omega)
   have hmL:L=m:=by
    rw [HM.out,hx]
    exact HL.out.symm
   obtain rfl:=hmL
   have HFL:Hid (FlSl (fun b=>w.heap.size+2≤b) wr (.slice pv L cv) (allOfs gs)):=Lib.hid (by
    have:=HOW.out
    rw [hx] at this
    exact FlSl.of_owns this HL.out (fun _ hb=>hb))
   clear hx hbel
   go_wp2_with (go_at_call 202;(with_reducible refine (HNS.out _ _ _).mono ?_);rintro e w5 ⟨rfl,hb5⟩;have HB5:Hid (Bel w w5):=Lib.hid (HBEL.out.trans hb5);have C2:=HG1.out.bel hb5;have HC5:=Lib.hid C2;have HF5:=Lib.hid (HFL.out.bel hb5);obtain ⟨r7,y7,u7⟩:=C2.facts;clear hb5 C2)
   refine post_ret (results_one rfl (resIs_agg (n:=2) (cs:=#[.int .u8 c',.slice pv L cv]) (by rfl) Tryz.underlying109 (by kernel_rfl) (T:=109) ?_ rfl)) ⟨_,L,cv,rfl,?_,?_⟩
   ·have HB:=HC5.out
    exact SL
   ·exact ((HF5.out.set (g:=w.heap.size+1) (by omega) 0 _).set (g:=w.heap.size+1) (by omega) 1 _).mono fun b _ hb=>by omega
   ·have HB:=HB5.out
    exact EL
set_option maxHeartbeats 8000000 in
set_option maxRecDepth 100000 in
theorem geoDump_ind:∀ (n:Nat) (g:Gm),g.size≤n→GeoDump g:=by
 intro n
 induction n with
 | zero=>exact fun g h=>absurd h (by have:=g.size_pos;omega)
 | succ n ih =>
  intro g hsz F cs w c h hu hbig
  obtain ⟨s,b,cl,rfl,hs6,hlt,hFb,hc,ho⟩:=h.gi
  clear h
  have h7:s=0∨s=1∨s=2∨s=3∨s=4∨s=5∨s=6:=by omega
  have HO:Hid (∀ W,Bel w W→Ob F W s cl g):=Lib.hid fun W hW=>ho.bel hW
  have HIH:Hid (∀ k ∈ g.kids,GeoDump k):=Lib.hid fun k hk=>ih k (by
   have:=g.size_eq
   have:=Gm.size_mem hk
   omega)
  have HU:=Lib.hid hu
  have HSZ:=Lib.hid hbig
  have hdim:=hu.dim'
  clear ih hsz hu hbig
  rcases h7 with rfl|rfl|rfl|rfl|rfl|rfl|rfl
  ·obtain ⟨p,cap,c9,gs,hcs,-⟩:=ho.sl (e:=7) (k:=2) rfl
   subst hcs
   clear ho
   show Calls Tryz.prog 209 #[.agg #[.int .i64 0,.iface 170 (.pointer (some ⟨b,0,none⟩))]] w _
   have HM:Hid (∀ W,Bel w W→Calls Tryz.prog 83 #[.agg #[.int .i64 0,.iface 170 (.pointer (some ⟨b,0,none⟩))]] W fun e w'=>e=.returned (.agg #[.slice p gs.length cap,.int .u8 c9])∧Bel W w'):=Lib.hid fun W hW=>mustAs_0 _ _ _ _ b W (cell_kept hW (hc 0 _ rfl)) (cell_kept hW (hc 1 _ rfl))
   have HC:Hid (∀ W,Bel w W→Calls Tryz.prog 187 #[.agg #[.slice p gs.length cap,.int .u8 c9]] W (IsDump c (allOf g) W)):=Lib.hid fun W hW=>collDump_any W (HO.out W hW) c HU.out HSZ.out HIH.out
   clear hc HO HIH hdim
   generalize gs.length=n at *
   generalize allOf g=xs at *
   go_enter Tryz.func209,Tryz.ntmps209
   go_wp2_with (first
    | (go_at_call 83;(with_reducible refine (HM.out _ ?hb).mono ?_);(case hb=>exact EL);rintro e w1 ⟨rfl,hb1⟩;have HB1:Hid (Bel w w1):=Lib.hid ((show Bel w _ by exact EL).trans hb1);have C2:Blk w1 (w.heap.size+1) #[.int .u8 0,.slice none 0 0] 109:=Blk.bel (by exact KL) hb1;have HC2:=Lib.hid C2;clear hb1 C2)
    | (go_at_call 187;(with_reducible refine (HC.out _ HB1.out).mono ?_);rintro e w2 ⟨p2,m2,q2,rfl,hf2,hb2⟩;have HF2:Hid (FlSl (fun b=>w.heap.size+2≤b) w2 (.slice p2 m2 q2) xs):=Lib.hid (hf2.mono fun b _ hb=>by (have:=HC2.out.facts.2.2;omega));have HB2:Hid (Bel w w2):=Lib.hid (HB1.out.trans hb2);have C2:=HC2.out.bel hb2;have HD2:=Lib.hid C2;obtain ⟨r2,y2,u2⟩:=C2.facts;clear hb2 C2 hf2))
   refine post_ret (results_one rfl (resIs_agg (n:=2) (cs:=#[.int .u8 c,.slice p2 m2 q2]) (by rfl) Tryz.underlying109 (by kernel_rfl) (T:=109) ?_ rfl)) ⟨p2,m2,q2,rfl,?_,?_⟩
   ·have HB:=HD2.out
    exact SL
   ·exact ((HF2.out.set (g:=w.heap.size+1) (by omega) 0 _).set (g:=w.heap.size+1) (by omega) 1 _).mono fun _ _ _=>trivial
   ·have HB:=HB2.out
    exact EL
  ·obtain ⟨x,y,z,m,c9,full,hcs,-⟩:=ho.pt
   subst hcs
   clear ho
   show Calls Tryz.prog 209 #[.agg #[.int .i64 1,.iface 164 (.pointer (some ⟨b,0,none⟩))]] w _
   have HM:Hid (∀ W,Bel w W→Calls Tryz.prog 97 #[.agg #[.int .i64 1,.iface 164 (.pointer (some ⟨b,0,none⟩))]] W fun e w'=>e=.returned (.agg #[.float .f64 x,.float .f64 y,.float .f64 z,.float .f64 m,.int .u8 c9,.bool full])∧Bel W w'):=Lib.hid fun W hW=>mustAs_1 _ _ _ _ _ _ b W (cell_kept hW (hc 0 _ rfl)) (cell_kept hW (hc 1 _ rfl)) (cell_kept hW (hc 2 _ rfl)) (cell_kept hW (hc 3 _ rfl)) (cell_kept hW (hc 4 _ rfl)) (cell_kept hW (hc 5 _ rfl))
   have HC:Hid (∀ W,Bel w W→Calls Tryz.prog 214 #[.agg #[.float .f64 x,.float .f64 y,.float .f64 z,.float .f64 m,.int .u8 c9,.bool full]] W (IsDump c (allOf g) W)):=Lib.hid fun W hW=>pointDump_any (HO.out W hW) c hdim W
   clear hc HO HIH hdim
   generalize allOf g=xs at *
   go_enter Tryz.func209,Tryz.ntmps209
   go_wp2_with (first
    | (go_at_call 97;(with_reducible refine (HM.out _ ?hb).mono ?_);(case hb=>exact EL);rintro e w1 ⟨rfl,hb1⟩;have HB1:Hid (Bel w w1):=Lib.hid ((show Bel w _ by exact EL).trans hb1);have C2:Blk w1 (w.heap.size+1) #[.int .u8 0,.slice none 0 0] 109:=Blk.bel (by exact KL) hb1;have HC2:=Lib.hid C2;clear hb1 C2)
    | (go_at_call 214;(with_reducible refine (HC.out _ HB1.out).mono ?_);rintro e w2 ⟨p2,m2,q2,rfl,hf2,hb2⟩;have HF2:Hid (FlSl (fun b=>w.heap.size+2≤b) w2 (.slice p2 m2 q2) xs):=Lib.hid (hf2.mono fun b _ hb=>by (have:=HC2.out.facts.2.2;omega));have HB2:Hid (Bel w w2):=Lib.hid (HB1.out.trans hb2);have C2:=HC2.out.bel hb2;have HD2:=Lib.hid C2;obtain ⟨r2,y2,u2⟩:=C2.facts;clear hb2 C2 hf2))
   refine post_ret (results_one rfl (resIs_agg (n:=2) (cs:=#[.int .u8 c,.slice p2 m2 q2]) (by rfl) Tryz.underlying109 (by kernel_rfl) (T:=109) ?_ rfl)) ⟨p2,m2,q2,rfl,?_,?_⟩
   ·have HB:=HD2.out
    exact SL
   ·exact ((HF2.out.set (g:=w.heap.size+1) (by omega) 0 _).set (g:=w.heap.size+1) (by omega) 1 _).mono fun _ _ _=>trivial
   ·have HB:=HB2.out
    exact EL
  ·obtain ⟨p,n,cap,hcs,hf,hm⟩:=allOf_line ho HU.out
   subst hcs
   clear ho
   show Calls Tryz.prog 209 #[.agg #[.int .i64 2,.iface 162 (.pointer (some ⟨b,0,none⟩))]] w _
   have HM:Hid (∀ W,Bel w W→Calls Tryz.prog 67 #[.agg #[.int .i64 2,.iface 162 (.pointer (some ⟨b,0,none⟩))]] W fun e w'=>e=.returned (.agg #[.int .u8 c,.slice p n cap])∧Bel W w'):=Lib.hid fun W hW=>mustAs_2 _ _ _ _ b W (cell_kept hW (hc 0 _ rfl)) (cell_kept hW (hc 1 _ rfl))
   have HF:=Lib.hid hf
   have HCO:=Lib.hid (lineCoords_any c p n cap)
   clear hc HO HIH hf hm
   generalize allOf g=xs at *
   go_enter Tryz.func209,Tryz.ntmps209
   go_wp2_with (first
    | (go_at_call 67;(with_reducible refine (HM.out _ ?hb).mono ?_);(case hb=>exact EL);rintro e w1 ⟨rfl,hb1⟩;have HB1:Hid (Bel w w1):=Lib.hid ((show Bel w _ by exact EL).trans hb1);have C2:Blk w1 (w.heap.size+1) #[.int .u8 0,.slice none 0 0] 109:=Blk.bel (by exact KL) hb1;have HC2:=Lib.hid C2;clear hb1 C2)
    | (go_at_call 68;(with_reducible refine (HCO.out _).mono ?_);rintro e w2 ⟨rfl,hb2⟩;have HB2:Hid (Bel w w2):=Lib.hid (HB1.out.trans hb2);have C2:=HC2.out.bel hb2;have HD2:=Lib.hid C2;obtain ⟨r2,y2,u2⟩:=C2.facts;clear hb2 C2))
   refine post_ret (results_one rfl (resIs_agg (n:=2) (cs:=#[.int .u8 c,.slice p n cap]) (by rfl) Tryz.underlying109 (by kernel_rfl) (T:=109) ?_ rfl)) ⟨p,n,cap,rfl,?_,?_⟩
   ·have HB:=HD2.out
    exact SL
   ·exact (HF.out.bel (show Bel w _ by (have HB:=HB2.out;exact EL))).mono fun _ _ _=>trivial
   ·have HB:=HB2.out
    exact EL
  ·obtain ⟨p,cap,c9,gs,hcs,-⟩:=ho.sl (e:=2) (k:=2) rfl
   subst hcs
   clear ho
   show Calls Tryz.prog 209 #[.agg #[.int .i64 3,.iface 165 (.pointer (some ⟨b,0,none⟩))]] w _
   have HM:Hid (∀ W,Bel w W→Calls Tryz.prog 72 #[.agg #[.int .i64 3,.iface 165 (.pointer (some ⟨b,0,none⟩))]] W fun e w'=>e=.returned (.agg #[.slice p gs.length cap,.int .u8 c9])∧Bel W w'):=Lib.hid fun W hW=>mustAs_3 _ _ _ _ b W (cell_kept hW (hc 0 _ rfl)) (cell_kept hW (hc 1 _ rfl))
   have HC:Hid (∀ W,Bel w W→Calls Tryz.prog 193 #[.agg #[.slice p gs.length cap,.int .u8 c9]] W (IsDump c (allOf g) W)):=Lib.hid fun W hW=>polyDump_any W (HO.out W hW) c HU.out HSZ.out
   clear hc HO HIH hdim
   generalize gs.length=n at *
   generalize allOf g=xs at *
   go_enter Tryz.func209,Tryz.ntmps209
   go_wp2_with (first
    | (go_at_call 72;(with_reducible refine (HM.out _ ?hb).mono ?_);(case hb=>exact EL);rintro e w1 ⟨rfl,hb1⟩;have HB1:Hid (Bel w w1):=Lib.hid ((show Bel w _ by exact EL).trans hb1);have C2:Blk w1 (w.heap.size+1) #[.int .u8 0,.slice none 0 0] 109:=Blk.bel (by exact KL) hb1;have HC2:=Lib.hid C2;clear hb1 C2)
    | (go_at_call 193;(with_reducible refine (HC.out _ HB1.out).mono ?_);rintro e w2 ⟨p2,m2,q2,rfl,hf2,hb2⟩;have HF2:Hid (FlSl (fun b=>w.heap.size+2≤b) w2 (.slice p2 m2 q2) xs):=Lib.hid (hf2.mono fun b _ hb=>by (have:=HC2.out.facts.2.2;omega));have HB2:Hid (Bel w w2):=Lib.hid (HB1.out.trans hb2);have C2:=HC2.out.bel hb2;have HD2:=Lib.hid C2;obtain ⟨r2,y2,u2⟩:=C2.facts;clear hb2 C2 hf2))
   refine post_ret (results_one rfl (resIs_agg (n:=2) (cs:=#[.int .u8 c,.slice p2 m2 q2]) (by rfl) Tryz.underlying109 (by kernel_rfl) (T:=109) ?_ rfl)) ⟨p2,m2,q2,rfl,?_,?_⟩
   ·have HB:=HD2.out
    exact SL
   ·exact ((HF2.out.set (g:=w.heap.size+1) (by omega) 0 _).set (g:=w.heap.size+1) (by omega) 1 _).mono fun _ _ _=>trivial
   ·have HB:=HB2.out
    exact EL
  ·obtain ⟨p,cap,c9,gs,hcs,-⟩:=ho.sl (e:=1) (k:=6) rfl
   subst hcs
   clear ho
   show Calls Tryz.prog 209 #[.agg #[.int .i64 4,.iface 167 (.pointer (some ⟨b,0,none⟩))]] w _
   have HM:Hid (∀ W,Bel w W→Calls Tryz.prog 76 #[.agg #[.int .i64 4,.iface 167 (.pointer (some ⟨b,0,none⟩))]] W fun e w'=>e=.returned (.agg #[.slice p gs.length cap,.int .u8 c9])∧Bel W w'):=Lib.hid fun W hW=>mustAs_4 _ _ _ _ b W (cell_kept hW (hc 0 _ rfl)) (cell_kept hW (hc 1 _ rfl))
   have HC:Hid (∀ W,Bel w W→Calls Tryz.prog 215 #[.agg #[.slice p gs.length cap,.int .u8 c9]] W (IsDump c (allOf g) W)):=Lib.hid fun W hW=>multiPointDump_any W (HO.out W hW) c HU.out HSZ.out
   clear hc HO HIH hdim
   generalize gs.length=n at *
   generalize allOf g=xs at *
   go_enter Tryz.func209,Tryz.ntmps209
   go_wp2_with (first
    | (go_at_call 76;(with_reducible refine (HM.out _ ?hb).mono ?_);(case hb=>exact EL);rintro e w1 ⟨rfl,hb1⟩;have HB1:Hid (Bel w w1):=Lib.hid ((show Bel w _ by exact EL).trans hb1);have C2:Blk w1 (w.heap.size+1) #[.int .u8 0,.slice none 0 0] 109:=Blk.bel (by exact KL) hb1;have HC2:=Lib.hid C2;clear hb1 C2)
    | (go_at_call 215;(with_reducible refine (HC.out _ HB1.out).mono ?_);rintro e w2 ⟨p2,m2,q2,rfl,hf2,hb2⟩;have HF2:Hid (FlSl (fun b=>w.heap.size+2≤b) w2 (.slice p2 m2 q2) xs):=Lib.hid (hf2.mono fun b _ hb=>by (have:=HC2.out.facts.2.2;omega));have HB2:Hid (Bel w w2):=Lib.hid (HB1.out.trans hb2);have C2:=HC2.out.bel hb2;have HD2:=Lib.hid C2;obtain ⟨r2,y2,u2⟩:=C2.facts;clear hb2 C2 hf2))
   refine post_ret (results_one rfl (resIs_agg (n:=2) (cs:=#[.int .u8 c,.slice p2 m2 q2]) (by rfl) Tryz.underlying109 (by kernel_rfl) (T:=109) ?_ rfl)) ⟨p2,m2,q2,rfl,?_,?_⟩
   ·have HB:=HD2.out
    exact SL
   ·exact ((HF2.out.set (g:=w.heap.size+1) (by omega) 0 _).set (g:=w.heap.size+1) (by omega) 1 _).mono fun _ _ _=>trivial
   ·have HB:=HB2.out
    exact EL
  ·obtain ⟨p,cap,c9,gs,hcs,-⟩:=ho.sl (e:=2) (k:=2) rfl
   subst hcs
   clear ho
   show Calls Tryz.prog 209 #[.agg #[.int .i64 5,.iface 168 (.pointer (some ⟨b,0,none⟩))]] w _
   have HM:Hid (∀ W,Bel w W→Calls Tryz.prog 78 #[.agg #[.int .i64 5,.iface 168 (.pointer (some ⟨b,0,none⟩))]] W fun e w'=>e=.returned (.agg #[.slice p gs.length cap,.int .u8 c9])∧Bel W w'):=Lib.hid fun W hW=>mustAs_5 _ _ _ _ b W (cell_kept hW (hc 0 _ rfl)) (cell_kept hW (hc 1 _ rfl))
   have HC:Hid (∀ W,Bel w W→Calls Tryz.prog 196 #[.agg #[.slice p gs.length cap,.int .u8 c9]] W (IsDump c (allOf g) W)):=Lib.hid fun W hW=>multiLineDump_any W (HO.out W hW) c HU.out HSZ.out
   clear hc HO HIH hdim
   generalize gs.length=n at *
   generalize allOf g=xs at *
   go_enter Tryz.func209,Tryz.ntmps209
   go_wp2_with (first
    | (go_at_call 78;(with_reducible refine (HM.out _ ?hb).mono ?_);(case hb=>exact EL);rintro e w1 ⟨rfl,hb1⟩;have HB1:Hid (Bel w w1):=Lib.hid ((show Bel w _ by exact EL).trans hb1);have C2:Blk w1 (w.heap.size+1) #[.int .u8 0,.slice none 0 0] 109:=Blk.bel (by exact KL) hb1;have HC2:=Lib.hid C2;clear hb1 C2)
    | (go_at_call 196;(with_reducible refine (HC.out _ HB1.out).mono ?_);rintro e w2 ⟨p2,m2,q2,rfl,hf2,hb2⟩;have HF2:Hid (FlSl (fun b=>w.heap.size+2≤b) w2 (.slice p2 m2 q2) xs):=Lib.hid (hf2.mono fun b _ hb=>by (have:=HC2.out.facts.2.2;omega));have HB2:Hid (Bel w w2):=Lib.hid (HB1.out.trans hb2);have C2:=HC2.out.bel hb2;have HD2:=Lib.hid C2;obtain ⟨r2,y2,u2⟩:=C2.facts;clear hb2 C2 hf2))
   refine post_ret (results_one rfl (resIs_agg (n:=2) (cs:=#[.int .u8 c,.slice p2 m2 q2]) (by rfl) Tryz.underlying109 (by kernel_rfl) (T:=109) ?_ rfl)) ⟨p2,m2,q2,rfl,?_,?_⟩
   ·have HB:=HD2.out
    exact SL
   ·exact ((HF2.out.set (g:=w.heap.size+1) (by omega) 0 _).set (g:=w.heap.size+1) (by omega) 1 _).mono fun _ _ _=>trivial
   ·have HB:=HB2.out
    exact EL
  ·obtain ⟨p,cap,c9,gs,hcs,-⟩:=ho.sl (e:=3) (k:=2) rfl
   subst hcs
   clear ho
   show Calls Tryz.prog 209 #[.agg #[.int .i64 6,.iface 169 (.pointer (some ⟨b,0,none⟩))]] w _
   have HM:Hid (∀ W,Bel w W→Calls Tryz.prog 80 #[.agg #[.int .i64 6,.iface 169 (.pointer (some ⟨b,0,none⟩))]] W fun e w'=>e=.returned (.agg #[.slice p gs.length cap,.int .u8 c9])∧Bel W w'):=Lib.hid fun W hW=>mustAs_6 _ _ _ _ b W (cell_kept hW (hc 0 _ rfl)) (cell_kept hW (hc 1 _ rfl))
   have HC:Hid (∀ W,Bel w W→Calls Tryz.prog 198 #[.agg #[.slice p gs.length cap,.int .u8 c9]] W (IsDump c (allOf g) W)):=Lib.hid fun W hW=>multiPolyDump_any W (HO.out W hW) c HU.out HSZ.out
   clear hc HO HIH hdim
   generalize gs.length=n at *
   generalize allOf g=xs at *
   go_enter Tryz.func209,Tryz.ntmps209
   go_wp2_with (first
    | (go_at_call 80;(with_reducible refine (HM.out _ ?hb).mono ?_);(case hb=>exact EL);rintro e w1 ⟨rfl,hb1⟩;have HB1:Hid (Bel w w1):=Lib.hid ((show Bel w _ by exact EL).trans hb1);have C2:Blk w1 (w.heap.size+1) #[.int .u8 0,.slice none 0 0] 109:=Blk.bel (by exact KL) hb1;have HC2:=Lib.hid C2;clear hb1 C2)
    | (go_at_call 198;(with_reducible refine (HC.out _ HB1.out).mono ?_);rintro e w2 ⟨p2,m2,q2,rfl,hf2,hb2⟩;have HF2:Hid (FlSl (fun b=>w.heap.size+2≤b) w2 (.slice p2 m2 q2) xs):=Lib.hid (hf2.mono fun b _ hb=>by (have:=HC2.out.facts.2.2;omega));have HB2:Hid (Bel w w2):=Lib.hid (HB1.out.trans hb2);have C2:=HC2.out.bel hb2;have HD2:=Lib.hid C2;obtain ⟨r2,y2,u2⟩:=C2.facts;clear hb2 C2 hf2))
   refine post_ret (results_one rfl (resIs_agg (n:=2) (cs:=#[.int .u8 c,.slice p2 m2 q2]) (by rfl) Tryz.underlying109 (by kernel_rfl) (T:=109) ?_ rfl)) ⟨p2,m2,q2,rfl,?_,?_⟩
   ·have HB:=HD2.out
    exact SL
   ·exact ((HF2.out.set (g:=w.heap.size+1) (by omega) 0 _).set (g:=w.heap.size+1) (by omega) 1 _).mono fun _ _ _=>trivial
   ·have HB:=HB2.out
    exact EL
theorem geoDump_any (g:Gm):GeoDump g:=geoDump_ind g.size g (Nat.le_refl _)
end Go.Proofs.YtpipehenfcbjbaaGreatDoor
set_option linter.unusedVariables false
set_option linter.unusedSimpArgs false
namespace Go.Proofs
open Go.Shelf
def Tryz.lays171_ren : Go.Shelf.Ren := ⟨fun | 171 => 190 | 243 => 211 | 246 => 216 | 283 => 218 | 284 => 219 | 285 => 220 | 286 => 221 | 129 => 223 | 317 => 222 | 318 => 224 | 319 => 225 | 320 => 226 | 337 => 227 | 338 => 228 | n => n, fun | 3 => 3 | 9 => 9 | 2 => 2 | 4 => 4 | 171 => 202 | 0 => 0 | 53 => 159 | 37 => 157 | 5 => 5 | 173 => 205 | 212 => 208 | 51 => 209 | 20 => 20 | 213 => 210 | 46 => 100 | 232 => 213 | 233 => 214 | n => n, fun | 17 => 1 | 18 => 2 | 19 => 3 | n => n⟩
theorem Tryz.lays171 : Go.Proofs.LaysM.n171 Tryz.prog Tryz.lays171_ren := {
  mixed := by kernel_rfl
  f129 := Tryz.func223.trans (congrArg some (by kernel_rfl))
  f171 := Tryz.func190.trans (congrArg some (by kernel_rfl))
  f243 := Tryz.func211.trans (congrArg some (by kernel_rfl))
  f246 := Tryz.func216.trans (congrArg some (by kernel_rfl))
  f283 := Tryz.func218.trans (congrArg some (by kernel_rfl))
  f284 := Tryz.func219.trans (congrArg some (by kernel_rfl))
  f285 := Tryz.func220.trans (congrArg some (by kernel_rfl))
  f286 := Tryz.func221.trans (congrArg some (by kernel_rfl))
  f317 := Tryz.func222.trans (congrArg some (by kernel_rfl))
  f318 := Tryz.func224.trans (congrArg some (by kernel_rfl))
  f319 := Tryz.func225.trans (congrArg some (by kernel_rfl))
  f320 := Tryz.func226.trans (congrArg some (by kernel_rfl))
  f337 := Tryz.func227.trans (congrArg some (by kernel_rfl))
  f338 := Tryz.func228.trans (congrArg some (by kernel_rfl))
  t0 := Tryz.underlying0
  a0 := Tryz.isAgg0
  z0 := Tryz.sizeOf0
  v0 := Tryz.zeroValue0
  t2 := Tryz.underlying2
  a2 := Tryz.isAgg2
  z2 := Tryz.sizeOf2
  v2 := Tryz.zeroValue2
  t3 := Tryz.underlying3
  a3 := Tryz.isAgg3
  z3 := Tryz.sizeOf3
  v3 := Tryz.zeroValue3
  t4 := Tryz.underlying4
  a4 := Tryz.isAgg4
  z4 := Tryz.sizeOf4
  v4 := Tryz.zeroValue4
  t5 := Tryz.underlying5
  a5 := Tryz.isAgg5
  z5 := Tryz.sizeOf5
  v5 := Tryz.zeroValue5
  t9 := Tryz.underlying9
  a9 := Tryz.isAgg9
  z9 := Tryz.sizeOf9
  v9 := Tryz.zeroValue9
  t20 := Tryz.underlying20
  a20 := Tryz.isAgg20
  z20 := Tryz.sizeOf20
  v20 := Tryz.zeroValue20
  t37 := Tryz.underlying157
  a37 := Tryz.isAgg157
  z37 := Tryz.sizeOf157
  v37 := Tryz.zeroValue157
  t46 := Tryz.underlying100
  a46 := Tryz.isAgg100
  z46 := Tryz.sizeOf100
  v46 := Tryz.zeroValue100
  t51 := Tryz.underlying209
  a51 := Tryz.isAgg209
  z51 := Tryz.sizeOf209
  v51 := Tryz.zeroValue209
  t53 := Tryz.underlying159
  a53 := Tryz.isAgg159
  z53 := Tryz.sizeOf159
  v53 := Tryz.zeroValue159
  t171 := Tryz.underlying202
  a171 := Tryz.isAgg202
  z171 := Tryz.sizeOf202
  v171 := Tryz.zeroValue202
  t173 := Tryz.underlying205
  a173 := Tryz.isAgg205
  z173 := Tryz.sizeOf205
  v173 := Tryz.zeroValue205
  t212 := Tryz.underlying208
  a212 := Tryz.isAgg208
  z212 := Tryz.sizeOf208
  v212 := Tryz.zeroValue208
  t213 := Tryz.underlying210
  a213 := Tryz.isAgg210
  z213 := Tryz.sizeOf210
  t232 := Tryz.underlying213
  a232 := Tryz.isAgg213
  z232 := Tryz.sizeOf213
  v232 := Tryz.zeroValue213
  t233 := Tryz.underlying214
  a233 := Tryz.isAgg214
  z233 := Tryz.sizeOf214
  v233 := Tryz.zeroValue214
  g17 := by kernel_rfl
  g18 := by kernel_rfl
  g19 := by kernel_rfl
  i0 := by kernel_rfl
  i2 := by kernel_rfl
  i3 := by kernel_rfl
  i4 := by kernel_rfl
  i5 := by kernel_rfl
  i9 := by kernel_rfl
  i20 := by kernel_rfl
  i37 := by kernel_rfl
  i46 := by kernel_rfl
  i51 := by kernel_rfl
  i53 := by kernel_rfl
  i171 := by kernel_rfl
  i173 := by kernel_rfl
  i212 := by kernel_rfl
  i232 := by kernel_rfl
  i233 := by kernel_rfl
  m17 := by kernel_rfl
  m18 := by kernel_rfl
  m19 := by kernel_rfl }
end Go.Proofs
namespace Go.Proofs.YtpipehenfcbjbaaGreatDoor
open Go.ChangeShapes Go.WideShapes Go.ChangeAt Go.RowKit
def Tab (w:World):Prop:=Lib.TabIs Tryz.prog w "internal/strconv.uint64pow10" .u64 Lib.pow10Tab
theorem tabNamed:Tryz.prog.globalNamed "internal/strconv.uint64pow10"=some 1:=by kernel_rfl
theorem Tab.bel {w w':World} (h:Tab w) (hb:Bel w w'):Tab w':=by
 exact Go.Joins.var_stays tabNamed h hb (Nat.le_refl _)
/-- The decimal digits of a number. -/
def digits (n:Int):ByteArray:=⟨(Lib.itoa n).toArray⟩
theorem itoa_any (n:Int) (h0:0≤n) (h1:n≤4294967296) (w:World) (ht:Tab w):Calls Tryz.prog 190 #[.int .i64 n] w fun e w'=>e=.returned (.string (digits n))∧Bel w w' :=
 (Go.Proofs.Any.strconv_Itoa Tryz.lays171 n (by omega) (by omega) w ht).mono fun e w' ⟨he,k,os,hw⟩=>⟨he,by
  subst hw
  exact ⟨rfl,rfl,rfl,by simp [Sort.grow,World.drewN],fun k hk=>by simp [Sort.grow,World.drewN,Array.getElem?_append_left hk]⟩⟩
end Go.Proofs.YtpipehenfcbjbaaGreatDoor
set_option linter.unusedVariables false
set_option linter.unusedSimpArgs false
namespace Go.Proofs.YtpipehenfcbjbaaGreatDoor
open Go.ChangeShapes Go.WideShapes Go.ChangeAt Go.RowKit
def kName:Nat→ByteArray
 | 0=>⟨#[71,101,111,109,101,116,114,121,67,111,108,108,101,99,116,105,111,110]⟩
 | 1=>⟨#[80,111,105,110,116]⟩
 | 2=>⟨#[76,105,110,101,83,116,114,105,110,103]⟩
 | 3=>⟨#[80,111,108,121,103,111,110]⟩
 | 4=>⟨#[77,117,108,116,105,80,111,105,110,116]⟩
 | 5=>⟨#[77,117,108,116,105,76,105,110,101,83,116,114,105,110,103]⟩
 | _=>⟨#[77,117,108,116,105,80,111,108,121,103,111,110]⟩
def cName:Nat→ByteArray
 | 0=>⟨#[88,89]⟩
 | 1=>⟨#[88,89,90]⟩
 | 2=>⟨#[88,89,77]⟩
 | _=>⟨#[88,89,90,77]⟩
set_option maxRecDepth 100000 in
theorem kindStr_any (s:Nat) (hs:s≤6) (w:World):Calls Tryz.prog 117 #[.int .i64 s] w fun e w'=>e=.returned (.string (kName s))∧w=w':=by
 have h7:s=0∨s=1∨s=2∨s=3∨s=4∨s=5∨s=6:=by omega
 rcases h7 with rfl|rfl|rfl|rfl|rfl|rfl|rfl
 all_goals
  go_enter Tryz.func117,Tryz.ntmps117
  go_wp2
  go_ret
  exact ⟨rfl,rfl⟩
theorem nameIndex (w:World):∀ (c:Nat),c≤3→Sem.run Tryz.prog (Instr.index 199 (.agg #[.string ⟨#[88,89]⟩,.string ⟨#[88,89,90]⟩,.string ⟨#[88,89,77]⟩,.string ⟨#[88,89,90,77]⟩]) (.int .u8 (c:Int))) w=.ok (.string (cName c)) w
 | 0,_=>by kernel_rfl
 | 1,_=>by kernel_rfl
 | 2,_=>by kernel_rfl
 | 3,_=>by kernel_rfl
 | _+4,h=>absurd h (by omega)
set_option maxRecDepth 100000 in
theorem ctStr_any (c:Nat) (hc:c≤3) (w:World):Calls Tryz.prog 189 #[.int .u8 c] w fun e w'=>e=.returned (.string (cName c))∧Bel w w':=by
 have ix:=nameIndex w c hc
 have hc4:((c:Nat):Int)<4:=by omega
 generalize cName c=cn at *
 go_enter Tryz.func189,Tryz.ntmps189
 go_wp2
 go_ret
 exact ⟨rfl,by exact EL⟩
theorem kName_size (s:Nat):(kName s).size≤100:=by
 unfold kName
 split<;>decide
theorem cName_size (c:Nat):(cName c).size≤100:=by
 unfold cName
 split<;>decide
theorem dec_len:∀ (k u:Nat),u<10 ^ (k+1)→(Lib.decDigits u).length≤k+1
 | 0,u,h=>by
  rw [Lib.decDigits,dif_pos (by simpa using h)]
  simp
 | k+1,u,h=>by
  rw [Lib.decDigits]
  split
  ·simp
  ·have h1:u / 10<10 ^ (k+1):=by
    rw [Nat.div_lt_iff_lt_mul (by decide),← Nat.pow_succ]
    exact h
   have:=dec_len k (u / 10) h1
   rw [List.length_append]
   simpa using this
theorem digits_size (n:Nat) (h:n≤4294967296):(digits (n:Int)).size≤100:=by
 have h1:Lib.itoa (n:Int)=Lib.decDigits n:=by
  unfold Lib.itoa
  rw [if_neg (by omega),Int.toNat_natCast]
 have h2:=dec_len 9 n (by omega)
 unfold digits
 rw [h1]
 have h3:(ByteArray.mk (Lib.decDigits n).toArray).size=(Lib.decDigits n).length:=by simp [ByteArray.size]
 omega
/-- What stands behind a word of which there are n. -/
def sufS (n:Nat):ByteArray:=if n=1 then ⟨#[]⟩ else ⟨#[115]⟩
def sufY (n:Nat):ByteArray:=if n=1 then ⟨#[121]⟩ else ⟨#[105,101,115]⟩
/-- Pieces, one behind another. -/
def joinB:List ByteArray→ByteArray
 | []=>⟨#[]⟩
 | a :: r=>r.foldl (· ++ ·) a
set_option maxHeartbeats 8000000 in
set_option maxRecDepth 100000 in
theorem lineSum_any {F:Nat→Prop} {cs:List Value} {g:Gm} (w:World) (h:Ob F w 2 cs g) (ht:Tab w):Calls Tryz.prog 148 #[.agg cs.toArray] w fun e w'=>e=.returned (.string (joinB [kName 2,⟨#[91]⟩,cName g.dim.toNat,⟨#[93,32,119,105,116,104,32]⟩,digits (partsG g),⟨#[32,112,111,105,110,116,115]⟩]))∧Bel w w':=by
 obtain ⟨c,p,n,cap,xs,rfl,hc,rfl,hf,hm,hb⟩:=h.ln
 have hcap:=hf.len
 have hp:partsG (.mk 2 c xs [])=n / wd c:=by
  rw [partsG_mk,if_pos (by decide),ct_nat hc,hf.len.1]
 have hdm:(Gm.mk 2 (c:Int) xs []).dim.toNat=c:=by simp [Gm.dim]
 rw [hp,hdm]
 have HK:Hid (∀ W,Calls Tryz.prog 117 #[.int .i64 2] W fun e w'=>e=.returned (.string (kName 2))∧W=w'):=Lib.hid (kindStr_any 2 (by decide))
 have HC:=Lib.hid (ctStr_any c hc)
 have HT:=Lib.hid (type_2 c p n cap)
 have HCT:=Lib.hid (lineType_any c p n cap)
 have HCO:=Lib.hid (lineCoords_any c p n cap)
 have HL:=Lib.hid (fun w=>length_any p n cap c hc (by omega) w)
 have HTAB:=Lib.hid ht
 have HI:Hid (∀ W,Bel w W→Calls Tryz.prog 190 #[.int .i64 ((n / wd c:Nat):Int)] W fun e w'=>e=.returned (.string (digits ((n / wd c:Nat):Int)))∧Bel W w'):=Lib.hid fun W hW=>itoa_any _ (Int.natCast_nonneg _) (by have:=hb;omega) W (ht.bel hW)
 have s1:=kName_size 2
 have s2:=cName_size c
 have s3:=digits_size (n / wd c) (by omega)
 clear hb hm hp hdm
 generalize n / wd c=q at *
 generalize digits (q:Int)=dg at *
 generalize kName 2=kn at *
 generalize cName c=cn at *
 have hS0:(9223372036854775807<kn.size+1)=False:=eq_false (by omega)
 have hS1:(9223372036854775807<kn.size+1+cn.size)=False:=eq_false (by omega)
 have hS2:(9223372036854775807<kn.size+1+cn.size+7)=False:=eq_false (by omega)
 have hS3:(9223372036854775807<kn.size+1+cn.size+7+dg.size)=False:=eq_false (by omega)
 have hS4:(9223372036854775807<kn.size+1+cn.size+7+dg.size+7)=False:=eq_false (by omega)
 clear h hf ht hcap s1 s2 s3
 show Calls Tryz.prog 148 #[.agg #[.int .u8 c,.slice p n cap]] w _
 go_enter Tryz.func148,Tryz.ntmps148
 go_wp2
 go_region_held3 (fun w'=>(∀ o,w'.cell? ⟨w.heap.size,o,none⟩=(#[Value.int .u8 c,.slice p n cap]:Array Value)[o]?)∧Blk w' (w.heap.size) #[Value.int .u8 c,.slice p n cap] 111∧Bel w w')
  (exact K1L)
  (first
  | (go_at_call 190;(with_reducible refine (HI.out _ ?hb).mono ?_);(case hb=>exact EL);rintro e w6 ⟨rfl,hb6⟩)
  | (go_at_call 126;(with_reducible refine (HL.out _).mono ?_);rintro e w5 ⟨rfl,hb5⟩)
  | (go_at_call 68;(with_reducible refine (HCO.out _).mono ?_);rintro e w4 ⟨rfl,hb4⟩)
  | (go_at_call 189;(with_reducible refine (HC.out _).mono ?_);rintro e w3 ⟨rfl,hb3⟩)
  | (go_at_call 112;(with_reducible refine (HCT.out _).mono ?_);rintro e w2 ⟨rfl,hb2⟩)
  | (go_at_call 117;(with_reducible refine (HK.out _).mono ?_);rintro e w' ⟨rfl,rfl⟩)
  | (go_at_call 192;(with_reducible refine (HT.out _).mono ?_);rintro e w1 ⟨rfl,hb1⟩))

 go_wp2
 go_ret
 exact ⟨rfl,by exact EL⟩
set_option maxHeartbeats 8000000 in
set_option maxRecDepth 100000 in
theorem sum_4 {F:Nat→Prop} {cs:List Value} {g:Gm} (w:World) (h:Ob F w 4 cs g) (ht:Tab w):Calls Tryz.prog 150 #[.agg cs.toArray] w fun e w'=>e=.returned (.string (joinB [kName 4,⟨#[91]⟩,cName g.dim.toNat,⟨#[93,32,119,105,116,104,32]⟩,digits ((g.kids.length:Nat):Int),⟨#[32,112,111,105,110,116]⟩,sufS (g.kids.length)]))∧Bel w w':=by
 obtain ⟨p,cap,c,gs,rfl,hc,hge,hn31,hsl⟩:=h.sl (e:=1) (k:=6) rfl
 have hdm:g.dim.toNat=c:=by rw [hge];simp [Gm.dim]
 have hkl:g.kids=gs:=by rw [hge];rfl
 have HK:Hid (∀ W,Calls Tryz.prog 117 #[.int .i64 4] W fun e w'=>e=.returned (.string (kName 4))∧W=w'):=Lib.hid (kindStr_any 4 (by decide))
 have HC:=Lib.hid (ctStr_any c hc)
 have HT:=Lib.hid (type_4 p gs.length cap c)
 have HCT:=Lib.hid (rawType_4 c p gs.length cap)
 have HTAB:=Lib.hid ht
 have HI:Hid (∀ (n:Nat) (W:World),n≤4294967296→Bel w W→Calls Tryz.prog 190 #[.int .i64 (n:Int)] W fun e w'=>e=.returned (.string (digits (n:Int)))∧Bel W w'):=Lib.hid fun n W hn hW=>itoa_any _ (Int.natCast_nonneg _) (by omega) W (ht.bel hW)
 have s1:=kName_size 4
 have s2:=cName_size c
 have HNP:=Lib.hid (num_4 p gs.length cap c)
 rw [hdm,hkl]
 show Calls Tryz.prog 150 #[.agg #[.slice p gs.length cap,.int .u8 c]] w _
 generalize gs.length=q at *
 clear h hsl hge hkl hdm ht
 have HIq:Hid (∀ W,Bel w W→Calls Tryz.prog 190 #[.int .i64 ((q:Nat):Int)] W fun e w'=>e=.returned (.string (digits ((q:Nat):Int)))∧Bel W w'):=Lib.hid fun W hW=>HI.out _ W (by omega) hW
 have szq:=digits_size q (by omega)
 generalize digits ((q:Nat):Int)=dgq at *
 generalize kName 4=kn at *
 generalize cName c=cn at *
 obtain ⟨nbq,hnbq⟩:∃ nb,(((q:Nat):Int) != 1)=nb:=⟨_,rfl⟩
 have HSUFq:Hid (sufS q=if nbq then ⟨#[115]⟩ else ⟨#[]⟩):=Lib.hid (by
  rw [← hnbq]
  unfold sufS
  by_cases h1:q=1
  ·rw [if_pos h1]
   simp [h1]
  ·rw [if_neg h1]
   have:(((q:Nat):Int) != 1)=true:=by simp;omega
   rw [this]
   rfl)
 cases nbq
 ·skip
  have hS0:(9223372036854775807<kn.size+1)=False:=eq_false (by omega)
  have hS1:(9223372036854775807<kn.size+1+cn.size)=False:=eq_false (by omega)
  have hS2:(9223372036854775807<kn.size+1+cn.size+7)=False:=eq_false (by omega)
  have hS3:(9223372036854775807<kn.size+1+cn.size+7+dgq.size)=False:=eq_false (by omega)
  have hS4:(9223372036854775807<kn.size+1+cn.size+7+dgq.size+6)=False:=eq_false (by omega)
  clear s1 s2 szq
  go_enter Tryz.func150,Tryz.ntmps150
  go_wp2_with (first
   | (go_at_call 128;(with_reducible refine (HNP.out _).mono ?_);rintro e w1 ⟨rfl,hb1⟩;have hbw1:Bel w w1:=(show Bel w _ by exact EL).trans hb1;have C1:Blk w1 w.heap.size #[.slice p q cap,.int .u8 c] 121:=Blk.bel (by exact KL) hb1;have HB1:=Lib.hid hbw1;have HC1:=Lib.hid C1;obtain ⟨r1,y1,u1⟩:=C1.facts;clear hbw1 C1 hb1))
  have hBB:=HB1.out
  have hCC:=HC1.out
  go_region_held3 (fun w'=>(∀ o,w'.cell? ⟨w.heap.size,o,none⟩=(#[Value.slice p q cap,.int .u8 c]:Array Value)[o]?)∧Blk w' (w.heap.size) #[Value.slice p q cap,.int .u8 c] 121∧Bel w w')
   (exact K1L)
   (first
    | (go_at_call 190;(with_reducible refine (HIq.out _ ?hbq).mono ?_);(case hbq=>exact EL);rintro e w60 ⟨rfl,hb60⟩)
    | (go_at_call 189;(with_reducible refine (HC.out _).mono ?_);rintro e w53 ⟨rfl,hb53⟩)
    | (go_at_call 114;(with_reducible refine (HCT.out _).mono ?_);rintro e w52 ⟨rfl,hb52⟩)
    | (go_at_call 117;(with_reducible refine (HK.out _).mono ?_);rintro e w' ⟨rfl,rfl⟩)
    | (go_at_call 195;(with_reducible refine (HT.out _).mono ?_);rintro e w51 ⟨rfl,hb51⟩))
  go_wp2
  go_ret
  refine ⟨?_,by exact EL⟩
  rw [HSUFq.out]
  first|rfl|simp [joinB]
 ·skip
  have hS0:(9223372036854775807<kn.size+1)=False:=eq_false (by omega)
  have hS1:(9223372036854775807<kn.size+1+cn.size)=False:=eq_false (by omega)
  have hS2:(9223372036854775807<kn.size+1+cn.size+7)=False:=eq_false (by omega)
  have hS3:(9223372036854775807<kn.size+1+cn.size+7+dgq.size)=False:=eq_false (by omega)
  have hS4:(9223372036854775807<kn.size+1+cn.size+7+dgq.size+6)=False:=eq_false (by omega)
  have hS5:(9223372036854775807<kn.size+1+cn.size+7+dgq.size+6+1)=False:=eq_false (by omega)
  clear s1 s2 szq
  go_enter Tryz.func150,Tryz.ntmps150
  go_wp2_with (first
   | (go_at_call 128;(with_reducible refine (HNP.out _).mono ?_);rintro e w1 ⟨rfl,hb1⟩;have hbw1:Bel w w1:=(show Bel w _ by exact EL).trans hb1;have C1:Blk w1 w.heap.size #[.slice p q cap,.int .u8 c] 121:=Blk.bel (by exact KL) hb1;have HB1:=Lib.hid hbw1;have HC1:=Lib.hid C1;obtain ⟨r1,y1,u1⟩:=C1.facts;clear hbw1 C1 hb1))
  have hBB:=HB1.out
  have hCC:=HC1.out
  go_region_held3 (fun w'=>(∀ o,w'.cell? ⟨w.heap.size,o,none⟩=(#[Value.slice p q cap,.int .u8 c]:Array Value)[o]?)∧Blk w' (w.heap.size) #[Value.slice p q cap,.int .u8 c] 121∧Bel w w')
   (exact K1L)
   (first
    | (go_at_call 190;(with_reducible refine (HIq.out _ ?hbq).mono ?_);(case hbq=>exact EL);rintro e w60 ⟨rfl,hb60⟩)
    | (go_at_call 189;(with_reducible refine (HC.out _).mono ?_);rintro e w53 ⟨rfl,hb53⟩)
    | (go_at_call 114;(with_reducible refine (HCT.out _).mono ?_);rintro e w52 ⟨rfl,hb52⟩)
    | (go_at_call 117;(with_reducible refine (HK.out _).mono ?_);rintro e w' ⟨rfl,rfl⟩)
    | (go_at_call 195;(with_reducible refine (HT.out _).mono ?_);rintro e w51 ⟨rfl,hb51⟩))
  go_wp2
  go_ret
  refine ⟨?_,by exact EL⟩
  rw [HSUFq.out]
  first|rfl|simp [joinB]
end Go.Proofs.YtpipehenfcbjbaaGreatDoor
