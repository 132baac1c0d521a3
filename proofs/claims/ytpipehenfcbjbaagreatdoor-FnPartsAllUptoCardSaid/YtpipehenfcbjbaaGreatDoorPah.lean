/-
 The types of coordinates of objects and geometries. No panic;what stood in memory has not turned.
-/
import Derived.Test.YtpipehenfcbjbaaGreatDoorPag
set_option linter.unusedVariables false
namespace Go.Proofs.YtpipehenfcbjbaaGreatDoor
open Go.ChangeShapes Go.WideShapes Go.ChangeAt Go.RowKit
theorem rawType_0 (c:Int) (p:Option Addr) (n cap:Nat) (w:World):Calls Tryz.prog 110 #[.agg #[.slice p n cap,.int .u8 c]] w fun e w'=>e=.returned (.int .u8 c)∧Bel w w':=by
 go_enter Tryz.func110,Tryz.ntmps110
 go_wp2
 go_ret
 exact ⟨rfl,by exact EL⟩
theorem rawType_4 (c:Int) (p:Option Addr) (n cap:Nat) (w:World):Calls Tryz.prog 114 #[.agg #[.slice p n cap,.int .u8 c]] w fun e w'=>e=.returned (.int .u8 c)∧Bel w w':=by
 go_enter Tryz.func114,Tryz.ntmps114
 go_wp2
 go_ret
 exact ⟨rfl,by exact EL⟩
theorem rawType_5 (c:Int) (p:Option Addr) (n cap:Nat) (w:World):Calls Tryz.prog 115 #[.agg #[.slice p n cap,.int .u8 c]] w fun e w'=>e=.returned (.int .u8 c)∧Bel w w':=by
 go_enter Tryz.func115,Tryz.ntmps115
 go_wp2
 go_ret
 exact ⟨rfl,by exact EL⟩
theorem rawType_6 (c:Int) (p:Option Addr) (n cap:Nat) (w:World):Calls Tryz.prog 116 #[.agg #[.slice p n cap,.int .u8 c]] w fun e w'=>e=.returned (.int .u8 c)∧Bel w w':=by
 go_enter Tryz.func116,Tryz.ntmps116
 go_wp2
 go_ret
 exact ⟨rfl,by exact EL⟩
set_option maxHeartbeats 4000000 in
set_option maxRecDepth 100000 in
theorem geoType_any {F:Nat→Prop} {cs:List Value} {g:Gm} (w:World) (h:Ob F w 7 cs g):Calls Tryz.prog 45 #[.agg cs.toArray] w fun e w'=>e=.returned (.int .u8 g.dim.toNat)∧Bel w w':=by
 obtain ⟨s,b,cl,rfl,hs6,hlt,hF,hc,ho⟩:=h.gi
 clear h
 have h7:s=0∨s=1∨s=2∨s=3∨s=4∨s=5∨s=6:=by omega
 rcases h7 with rfl|rfl|rfl|rfl|rfl|rfl|rfl
 ·obtain ⟨p,cap,c,gs,rfl,hc3,rfl,-⟩:=ho.sl (e:=7) (k:=2) rfl
  show Calls Tryz.prog 45 #[.agg #[.int .i64 0,.iface 170 (.pointer (some ⟨b,0,none⟩))]] w _
  have HM:Hid (∀ W,Bel w W→Calls Tryz.prog 83 #[.agg #[.int .i64 0,.iface 170 (.pointer (some ⟨b,0,none⟩))]] W fun e w'=>e=.returned (.agg #[.slice p gs.length cap,.int .u8 c])∧Bel W w'):=Lib.hid fun W hW=>mustAs_0 _ _ _ _ b W (cell_kept hW (hc 0 _ rfl)) (cell_kept hW (hc 1 _ rfl))
  have HT:=Lib.hid fun W=>rawType_0 c p gs.length cap W
  have hdm:∀ (k:Int) (ns:List Nat) (ks:List Gm),(Gm.mk k (c:Int) ns ks).dim.toNat=c:=fun _ _ _=>by simp [Gm.dim]
  rw [hdm]
  clear hc hF hdm
  generalize gs.length=n at *
  go_enter Tryz.func45,Tryz.ntmps45
  go_wp2_with (first
   | (go_at_call 83;(with_reducible refine (HM.out _ ?hb).mono ?_);(case hb=>exact EL);rintro e w1 ⟨rfl,hb1⟩;have HB1:Hid (Bel w w1):=Lib.hid ((show Bel w _ by exact EL).trans hb1);clear hb1)
   | (go_at_call 110;(with_reducible refine (HT.out _).mono ?_);rintro e w2 ⟨rfl,hb2⟩;have HB2:Hid (Bel w w2):=Lib.hid (HB1.out.trans hb2);clear hb2))
  go_ret
  exact ⟨rfl,HB2.out⟩
 ·obtain ⟨x,y,z,m,c,full,rfl,hc3,rfl⟩:=ho.pt
  show Calls Tryz.prog 45 #[.agg #[.int .i64 1,.iface 164 (.pointer (some ⟨b,0,none⟩))]] w _
  have HM:Hid (∀ W,Bel w W→Calls Tryz.prog 97 #[.agg #[.int .i64 1,.iface 164 (.pointer (some ⟨b,0,none⟩))]] W fun e w'=>e=.returned (.agg #[.float .f64 x,.float .f64 y,.float .f64 z,.float .f64 m,.int .u8 c,.bool full])∧Bel W w'):=Lib.hid fun W hW=>mustAs_1 _ _ _ _ _ _ b W (cell_kept hW (hc 0 _ rfl)) (cell_kept hW (hc 1 _ rfl)) (cell_kept hW (hc 2 _ rfl)) (cell_kept hW (hc 3 _ rfl)) (cell_kept hW (hc 4 _ rfl)) (cell_kept hW (hc 5 _ rfl))
  have HT:=Lib.hid fun W=>pointType_any x y z m c full W
  have hdm:∀ (k:Int) (ns:List Nat) (ks:List Gm),(Gm.mk k (c:Int) ns ks).dim.toNat=c:=fun _ _ _=>by simp [Gm.dim]
  rw [hdm]
  clear hc hF hdm
  go_enter Tryz.func45,Tryz.ntmps45
  go_wp2_with (first
   | (go_at_call 97;(with_reducible refine (HM.out _ ?hb).mono ?_);(case hb=>exact EL);rintro e w1 ⟨rfl,hb1⟩;have HB1:Hid (Bel w w1):=Lib.hid ((show Bel w _ by exact EL).trans hb1);clear hb1)
   | (go_at_call 111;(with_reducible refine (HT.out _).mono ?_);rintro e w2 ⟨rfl,hb2⟩;have HB2:Hid (Bel w w2):=Lib.hid (HB1.out.trans hb2);clear hb2))
  go_ret
  exact ⟨rfl,HB2.out⟩
 ·obtain ⟨c,p,n,cap,xs,rfl,hc3,rfl,-⟩:=ho.ln
  show Calls Tryz.prog 45 #[.agg #[.int .i64 2,.iface 162 (.pointer (some ⟨b,0,none⟩))]] w _
  have HM:Hid (∀ W,Bel w W→Calls Tryz.prog 67 #[.agg #[.int .i64 2,.iface 162 (.pointer (some ⟨b,0,none⟩))]] W fun e w'=>e=.returned (.agg #[.int .u8 c,.slice p n cap])∧Bel W w'):=Lib.hid fun W hW=>mustAs_2 _ _ _ _ b W (cell_kept hW (hc 0 _ rfl)) (cell_kept hW (hc 1 _ rfl))
  have HT:=Lib.hid fun W=>lineType_any c p n cap W
  have hdm:∀ (k:Int) (ns:List Nat) (ks:List Gm),(Gm.mk k (c:Int) ns ks).dim.toNat=c:=fun _ _ _=>by simp [Gm.dim]
  rw [hdm]
  clear hc hF hdm
  go_enter Tryz.func45,Tryz.ntmps45
  go_wp2_with (first
   | (go_at_call 67;(with_reducible refine (HM.out _ ?hb).mono ?_);(case hb=>exact EL);rintro e w1 ⟨rfl,hb1⟩;have HB1:Hid (Bel w w1):=Lib.hid ((show Bel w _ by exact EL).trans hb1);clear hb1)
   | (go_at_call 112;(with_reducible refine (HT.out _).mono ?_);rintro e w2 ⟨rfl,hb2⟩;have HB2:Hid (Bel w w2):=Lib.hid (HB1.out.trans hb2);clear hb2))
  go_ret
  exact ⟨rfl,HB2.out⟩
 ·obtain ⟨p,cap,c,gs,rfl,hc3,rfl,-⟩:=ho.sl (e:=2) (k:=2) rfl
  show Calls Tryz.prog 45 #[.agg #[.int .i64 3,.iface 165 (.pointer (some ⟨b,0,none⟩))]] w _
  have HM:Hid (∀ W,Bel w W→Calls Tryz.prog 72 #[.agg #[.int .i64 3,.iface 165 (.pointer (some ⟨b,0,none⟩))]] W fun e w'=>e=.returned (.agg #[.slice p gs.length cap,.int .u8 c])∧Bel W w'):=Lib.hid fun W hW=>mustAs_3 _ _ _ _ b W (cell_kept hW (hc 0 _ rfl)) (cell_kept hW (hc 1 _ rfl))
  have HT:=Lib.hid fun W=>polygonType_any c p gs.length cap W
  have hdm:∀ (k:Int) (ns:List Nat) (ks:List Gm),(Gm.mk k (c:Int) ns ks).dim.toNat=c:=fun _ _ _=>by simp [Gm.dim]
  rw [hdm]
  clear hc hF hdm
  generalize gs.length=n at *
  go_enter Tryz.func45,Tryz.ntmps45
  go_wp2_with (first
   | (go_at_call 72;(with_reducible refine (HM.out _ ?hb).mono ?_);(case hb=>exact EL);rintro e w1 ⟨rfl,hb1⟩;have HB1:Hid (Bel w w1):=Lib.hid ((show Bel w _ by exact EL).trans hb1);clear hb1)
   | (go_at_call 113;(with_reducible refine (HT.out _).mono ?_);rintro e w2 ⟨rfl,hb2⟩;have HB2:Hid (Bel w w2):=Lib.hid (HB1.out.trans hb2);clear hb2))
  go_ret
  exact ⟨rfl,HB2.out⟩
 ·obtain ⟨p,cap,c,gs,rfl,hc3,rfl,-⟩:=ho.sl (e:=1) (k:=6) rfl
  show Calls Tryz.prog 45 #[.agg #[.int .i64 4,.iface 167 (.pointer (some ⟨b,0,none⟩))]] w _
  have HM:Hid (∀ W,Bel w W→Calls Tryz.prog 76 #[.agg #[.int .i64 4,.iface 167 (.pointer (some ⟨b,0,none⟩))]] W fun e w'=>e=.returned (.agg #[.slice p gs.length cap,.int .u8 c])∧Bel W w'):=Lib.hid fun W hW=>mustAs_4 _ _ _ _ b W (cell_kept hW (hc 0 _ rfl)) (cell_kept hW (hc 1 _ rfl))
  have HT:=Lib.hid fun W=>rawType_4 c p gs.length cap W
  have hdm:∀ (k:Int) (ns:List Nat) (ks:List Gm),(Gm.mk k (c:Int) ns ks).dim.toNat=c:=fun _ _ _=>by simp [Gm.dim]
  rw [hdm]
  clear hc hF hdm
  generalize gs.length=n at *
  go_enter Tryz.func45,Tryz.ntmps45
  go_wp2_with (first
   | (go_at_call 76;(with_reducible refine (HM.out _ ?hb).mono ?_);(case hb=>exact EL);rintro e w1 ⟨rfl,hb1⟩;have HB1:Hid (Bel w w1):=Lib.hid ((show Bel w _ by exact EL).trans hb1);clear hb1)
   | (go_at_call 114;(with_reducible refine (HT.out _).mono ?_);rintro e w2 ⟨rfl,hb2⟩;have HB2:Hid (Bel w w2):=Lib.hid (HB1.out.trans hb2);clear hb2))
  go_ret
  exact ⟨rfl,HB2.out⟩
 ·obtain ⟨p,cap,c,gs,rfl,hc3,rfl,-⟩:=ho.sl (e:=2) (k:=2) rfl
  show Calls Tryz.prog 45 #[.agg #[.int .i64 5,.iface 168 (.pointer (some ⟨b,0,none⟩))]] w _
  have HM:Hid (∀ W,Bel w W→Calls Tryz.prog 78 #[.agg #[.int .i64 5,.iface 168 (.pointer (some ⟨b,0,none⟩))]] W fun e w'=>e=.returned (.agg #[.slice p gs.length cap,.int .u8 c])∧Bel W w'):=Lib.hid fun W hW=>mustAs_5 _ _ _ _ b W (cell_kept hW (hc 0 _ rfl)) (cell_kept hW (hc 1 _ rfl))
  have HT:=Lib.hid fun W=>rawType_5 c p gs.length cap W
  have hdm:∀ (k:Int) (ns:List Nat) (ks:List Gm),(Gm.mk k (c:Int) ns ks).dim.toNat=c:=fun _ _ _=>by simp [Gm.dim]
  rw [hdm]
  clear hc hF hdm
  generalize gs.length=n at *
  go_enter Tryz.func45,Tryz.ntmps45
  go_wp2_with (first
   | (go_at_call 78;(with_reducible refine (HM.out _ ?hb).mono ?_);(case hb=>exact EL);rintro e w1 ⟨rfl,hb1⟩;have HB1:Hid (Bel w w1):=Lib.hid ((show Bel w _ by exact EL).trans hb1);clear hb1)
   | (go_at_call 115;(with_reducible refine (HT.out _).mono ?_);rintro e w2 ⟨rfl,hb2⟩;have HB2:Hid (Bel w w2):=Lib.hid (HB1.out.trans hb2);clear hb2))
  go_ret
  exact ⟨rfl,HB2.out⟩
 ·obtain ⟨p,cap,c,gs,rfl,hc3,rfl,-⟩:=ho.sl (e:=3) (k:=2) rfl
  show Calls Tryz.prog 45 #[.agg #[.int .i64 6,.iface 169 (.pointer (some ⟨b,0,none⟩))]] w _
  have HM:Hid (∀ W,Bel w W→Calls Tryz.prog 80 #[.agg #[.int .i64 6,.iface 169 (.pointer (some ⟨b,0,none⟩))]] W fun e w'=>e=.returned (.agg #[.slice p gs.length cap,.int .u8 c])∧Bel W w'):=Lib.hid fun W hW=>mustAs_6 _ _ _ _ b W (cell_kept hW (hc 0 _ rfl)) (cell_kept hW (hc 1 _ rfl))
  have HT:=Lib.hid fun W=>rawType_6 c p gs.length cap W
  have hdm:∀ (k:Int) (ns:List Nat) (ks:List Gm),(Gm.mk k (c:Int) ns ks).dim.toNat=c:=fun _ _ _=>by simp [Gm.dim]
  rw [hdm]
  clear hc hF hdm
  generalize gs.length=n at *
  go_enter Tryz.func45,Tryz.ntmps45
  go_wp2_with (first
   | (go_at_call 80;(with_reducible refine (HM.out _ ?hb).mono ?_);(case hb=>exact EL);rintro e w1 ⟨rfl,hb1⟩;have HB1:Hid (Bel w w1):=Lib.hid ((show Bel w _ by exact EL).trans hb1);clear hb1)
   | (go_at_call 116;(with_reducible refine (HT.out _).mono ?_);rintro e w2 ⟨rfl,hb2⟩;have HB2:Hid (Bel w w2):=Lib.hid (HB1.out.trans hb2);clear hb2))
  go_ret
  exact ⟨rfl,HB2.out⟩
end Go.Proofs.YtpipehenfcbjbaaGreatDoor
set_option linter.unusedVariables false
namespace Go.Proofs.YtpipehenfcbjbaaGreatDoor
open Go.ChangeShapes Go.WideShapes Go.ChangeAt Go.RowKit
theorem infoGe:(Tryz.prog.info? 64).map (fun i=>(i.zero,i.size,i.bytes))=some (some (.agg #[.int .i64 0,.nilIface]),2,24):=by kernel_rfl
def GeoForced (c':Nat) (k:Gm):Prop:=∀ (F':Nat→Prop) (cs:List Value) (W:World),New F' W→Ob F' W 7 cs k→Calls Tryz.prog 178 #[.agg cs.toArray,.int .u8 c'] W (IsOb F' W 7 (force c' k))
set_option maxHeartbeats 4000000 in
set_option maxRecDepth 100000 in
theorem collForce_any (F:Nat→Prop) (cs:List Value) (g:Gm) (c':Nat) (hc':c'≤3) (w:World) (hF:New F w) (h:Ob F w 0 cs g) (hih:∀ k ∈ g.kids,GeoForced c' k):Calls Tryz.prog 172 #[.agg cs.toArray,.int .u8 c'] w (IsOb F w 0 (force c' g)):=by
 obtain ⟨p,cap,c,gs,rfl,hc,rfl,hn31,hsl⟩:=h.sl (e:=7) (k:=2) rfl
 rw [force_parts (by decide) (by decide)]
 have HIH:Hid (∀ k ∈ gs,GeoForced c' k):=Lib.hid hih
 clear hih
 have HSL:=Lib.hid hsl
 clear h hsl
 show Calls Tryz.prog 172 #[.agg #[.slice p gs.length cap,.int .u8 c],.int .u8 c'] w _
 generalize hn:gs.length=n at *
 have HN:=Lib.hid hn
 clear hn
 obtain ⟨i0,hi,hz0,hz1,hz2⟩:=info_parts infoGe
 go_enter Tryz.func172,Tryz.ntmps172
 go_wp2_with (at_make;refine wpList_make_full _ rfl (.tmp 9) (.tmp 9) 84 rfl (w.heap.size+1+1) 64 i0 (.agg #[.int .i64 0,.nilIface]) 2 Tryz.underlying84 hi hz0 hz1 .i64 .i64 _ _ n rfl rfl rfl rfl ?b2 ?b3 ?b4 ?_;(case b2=>(rw [hz2];omega));(case b3=>(unfold maxLen;omega));(case b4=>simp);intro w1 hown hgrow;obtain ⟨arr0,hB0,hs0⟩:=hown.blk;rw [show ((w.alloc (.cells #[.slice p n cap,.int .u8 c] 86)).alloc (.cells #[.slice none 0 0,.int .u8 0] 86)).heap.size=w.heap.size+1+1 by simp] at hB0;have HW1:=Bel.of_grown0 hgrow;have B1:=((Blk.new w #[.slice p n cap,.int .u8 c] 86).alloc (.cells #[.slice none 0 0,.int .u8 0] 86)).bel HW1;have B2:=(Blk.new' (w.alloc (.cells #[.slice p n cap,.int .u8 c] 86)) #[.slice none 0 0,.int .u8 0] 86 (b:=w.heap.size+1) (by simp)).bel HW1;have HB1:Hid (Bel w w1):=Lib.hid (((Bel.alloc1 w _).alloc _).trans HW1);have HP0:=Lib.hid hB0;have HS0:=Lib.hid hs0;have HP1:=Lib.hid B1;have HP2:=Lib.hid B2;obtain ⟨r1,z1,l1⟩:=B1.facts;clear hown hgrow hB0 hs0 HW1 B1 B2)
 go_loopw [14] (fun iv wr=>∃ (t:Nat) (arr:Array Value),iv=.int .i64 t∧t≤n∧Bel w wr∧Blk wr w.heap.size #[.slice p n cap,.int .u8 c] 86∧Blk wr (w.heap.size+1) #[.slice none 0 0,.int .u8 0] 86∧Blk wr (w.heap.size+1+1) arr 64∧arr.size=n*2∧RowOb (fun b=>(F b∧b<w.heap.size)∨w.heap.size+3≤b) wr (fun o=>arr[o]?) 7 2 ((gs.take t).map (force c'))) (fun iv _=>n - (intOf iv).toNat)
 case atStart=>exact ⟨0,arr0,rfl,Nat.zero_le _,HB1.out,HP1.out,HP2.out,HP0.out,HS0.out,fun i g hg=>by simp at hg⟩
 case round =>
  obtain ⟨t,arr,rfl,ht,hbel,hb1,hb2,hb3,harr,hrow⟩:=hrel
  have HBEL:=Lib.hid hbel
  have HG1:=Lib.hid hb1
  have HG2:=Lib.hid hb2
  have HG3:=Lib.hid hb3
  have HROW:=Lib.hid hrow
  obtain ⟨s1,t1,m1⟩:=hb1.facts
  have l3:=hb3.lt
  clear r1 z1 hrow hb1 hb2 hb3
  by_cases htn:t<n
  ·obtain ⟨g,hg⟩:∃ g,gs[t]?=some g:=⟨_,List.getElem?_eq_getElem (by have:=HN.out;omega)⟩
   obtain ⟨_,_,hve,_,_,hq⟩:=HSL.out
   cases hve
   obtain ⟨b,off,rfl,hlt,-,hr⟩:=hq (by intro e;rw [e] at hg;simp at hg)
   obtain ⟨cl,hcl,hcell,hob⟩:=hr t g hg
   obtain ⟨u0,u1,rfl⟩:=hob.two (by decide)
   have D0:=cell_kept hbel (hcell 0 u0 rfl)
   have D1:=cell_kept hbel (hcell 1 u1 rfl)
   simp only [Nat.add_zero] at D0
   have E1:=D1
   rw [← Nat.add_assoc] at E1
   have hbl:b<wr.heap.size:=Nat.lt_of_lt_of_le hlt hbel.size
   have HG:=Lib.hid hg
   have HC:Hid (∀ W,Bel w W→Calls Tryz.prog 178 #[.agg #[u0,u1],.int .u8 c'] W (IsOb (fun b=>(F b∧b<w.heap.size)∨W.heap.size≤b) W 7 (force c' g))):=Lib.hid fun W hW=>HIH.out g (List.mem_iff_getElem?.2 ⟨t,hg⟩) _ [u0,u1] W (fun b hb=>Or.inr hb) (hob.keep hW.size (fun b _ hl=>hW.block b hl) fun b hl hb=>Or.inl ⟨hb,hl⟩)
   clear hq hr hcell hob hcl hbel hg
   go_wp2_with (go_at_call 178;(with_reducible refine (HC.out _ HBEL.out).mono ?_);rintro e w3 ⟨cs,rfl,ho,hb⟩;obtain ⟨s1,b1,cl1,hcs1,-⟩:=ho.gi;cases hcs1;have C1:=HG1.out.bel hb;have C2:=HG2.out.bel hb;have C3:=HG3.out.bel hb;have HB3:=Lib.hid hb;have HC1:=Lib.hid C1;have HC2:=Lib.hid C2;have HC3:=Lib.hid C3;have HO:=Lib.hid ho;obtain ⟨x0,k0⟩:∃ u,w3.cell? ⟨w.heap.size+1+1,t*2,none⟩=some u:=⟨arr[t*2],(C3.rules.1 _).trans (Array.getElem?_eq_getElem (by omega))⟩;obtain ⟨x1,k1⟩:∃ u,w3.cell? ⟨w.heap.size+1+1,t*2+1,none⟩=some u:=⟨arr[t*2+1],(C3.rules.1 _).trans (Array.getElem?_eq_getElem (by omega))⟩;have t3:=C3.rules.2;have m3:=C3.lt;clear hb C1 C2 C3 ho)
   go_roundw
   case rel =>
    have hs1:=HBEL.out.size
    have hs3:=HB3.out.size
    refine ⟨t+1,(arr.setIfInBounds (t*2) (.int .i64 s1)).setIfInBounds (t*2+1) (.iface (ptrT s1) (.pointer (some ⟨b1,0,none⟩))),by go_num,by omega,?_,?_,?_,?_,by simp [harr],?_⟩
    ·have HB:=HBEL.out.trans HB3.out
     exact EL
    ·have HB:=HC1.out
     exact KL
    ·have HB:=HC2.out
     exact KL
    ·exact (HC3.out.set _ _).set _ _
    ·have e1:(gs.take (t+1)).map (force c')=(gs.take t).map (force c') ++ [force c' g]:=by
      rw [List.take_add_one,HG.out]
      simp
     rw [e1]
     refine RowOb.push (t:=t) (cl:=[.int .i64 s1,.iface (ptrT s1) (.pointer (some ⟨b1,0,none⟩))]) (HROW.out.keep (by simp;omega) (fun b hb hl=>?_) fun b _ hb=>hb) (by rw [List.length_map,List.length_take];have:=HN.out;omega) (fun o u ho hu=>?_) rfl (fun j u hu=>?_) (HO.out.keep (by simp) (fun b hb hl=>?_) fun b _ hb=>?_)
     ·rw [Below.heap_setCell _ _ _ _ (by simp;omega),Below.heap_setCell _ _ _ _ (by simp;omega)]
      exact HB3.out.block b hl
     ·show (_:Array Value)[o]?=some u
      rw [Array.getElem?_setIfInBounds_ne (by omega),Array.getElem?_setIfInBounds_ne (by omega)]
      exact hu
     ·have hlt2:=(List.getElem?_eq_some_iff.1 hu).1
      simp at hlt2
      show (_:Array Value)[t*2+j]?=some u
      match j,hlt2 with
      | 0,_ =>
       simp at hu
       subst hu
       rw [Array.getElem?_setIfInBounds_ne (by omega)]
       exact Array.getElem?_setIfInBounds_self_of_lt (by omega)
      | 1,_ =>
       simp at hu
       subst hu
       exact Array.getElem?_setIfInBounds_self_of_lt (by (try simp only [Array.size_setIfInBounds]);omega)
     ·rw [Below.heap_setCell _ _ _ _ (by simp;omega),Below.heap_setCell _ _ _ _ (by simp;omega)]
     ·rcases hb with hb|hb
      ·exact Or.inl hb
      ·exact Or.inr (by omega)
   case measure=>simp [intOf];omega
  ·obtain rfl:t=n:=by omega
   have hfin:=HROW.out
   rw [List.take_of_length_le (by have:=HN.out;omega)] at hfin
   have HFIN:Hid (ObSl (fun b=>F b∧b ≠ w.heap.size+1) wr 7 2 (.slice (some ⟨w.heap.size+1+1,0,none⟩) t t) (gs.map (force c'))):=Lib.hid ⟨_,t,by rw [List.length_map,HN.out],Nat.le_of_eq (by rw [List.length_map,HN.out]),by omega,fun _=>⟨w.heap.size+1+1,0,rfl,l3,⟨hF _ (by omega),by omega⟩,(hfin.keep (Nat.le_refl _) (fun _ _ _=>rfl) fun b _ hb=>by
    rcases hb with hb|hb
    ·exact ⟨hb.1,by omega⟩
    ·exact ⟨hF _ (by omega),by omega⟩).cells fun o u ho=>by
     rw [Nat.zero_add]
     exact (HG3.out.rules.1 o).trans ho⟩⟩
   clear hfin
   obtain ⟨s2,t2,m2⟩:=HG2.out.facts
   go_wp2
   refine post_ret (results_one rfl (resIs_agg (n:=2) (cs:=#[.slice (some ⟨w.heap.size+1+1,0,none⟩) t t,.int .u8 c']) (by rfl) Tryz.underlying86 (by kernel_rfl) (T:=86) ?_ rfl)) ⟨_,rfl,ObSl.ob ?_ rfl hc' (by rw [List.length_map,HN.out];exact hn31),?_⟩
   ·have HB:=HG2.out
    exact SL
   ·exact HFIN.out.keep (by simp) (fun b hb hl=>by rw [Below.heap_setCell _ _ _ _ (fun e=>hb.2 e),Below.heap_setCell _ _ _ _ (fun e=>hb.2 e)]) fun b _ hb=>hb.1
   ·have HB:=HBEL.out
    exact EL
set_option maxHeartbeats 8000000 in
set_option maxRecDepth 100000 in
theorem geoForce_ind (c':Nat) (hc':c'≤3):∀ (n:Nat) (g:Gm),g.size≤n→GeoForced c' g:=by
 intro n
 induction n with
 | zero=>exact fun g h=>absurd h (by have:=g.size_pos;omega)
 | succ n ih =>
  intro g hsz F cs w hF h
  obtain ⟨s,b,cl,rfl,hs6,hlt,hFb,hc,ho⟩:=h.gi
  clear h
  have h7:s=0∨s=1∨s=2∨s=3∨s=4∨s=5∨s=6:=by omega
  have HO:Hid (∀ W,Bel w W→Ob (fun b=>W.heap.size≤b∨(F b∧b<w.heap.size)) W s cl g):=Lib.hid fun W hW=>ho.keep hW.size (fun b _ hl=>hW.block b hl) fun b hl hb=>Or.inr ⟨hb,hl⟩
  have HIH:Hid (∀ k ∈ g.kids,GeoForced c' k):=Lib.hid fun k hk=>ih k (by
   have:=g.size_eq
   have:=Gm.size_mem hk
   omega)
  clear ih hsz
  rcases h7 with rfl|rfl|rfl|rfl|rfl|rfl|rfl
  ·obtain ⟨p,cap,c,gs,hcs,-⟩:=ho.sl (e:=7) (k:=2) rfl
   subst hcs
   clear ho
   show Calls Tryz.prog 178 #[.agg #[.int .i64 0,.iface 170 (.pointer (some ⟨b,0,none⟩))],.int .u8 c'] w _
   have HM:Hid (∀ W,Bel w W→Calls Tryz.prog 83 #[.agg #[.int .i64 0,.iface 170 (.pointer (some ⟨b,0,none⟩))]] W fun e w'=>e=.returned (.agg #[.slice p gs.length cap,.int .u8 c])∧Bel W w'):=Lib.hid fun W hW=>mustAs_0 _ _ _ _ b W (cell_kept hW (hc 0 _ rfl)) (cell_kept hW (hc 1 _ rfl))
   have HC:Hid (∀ W,Bel w W→Calls Tryz.prog 172 #[.agg #[.slice p gs.length cap,.int .u8 c],.int .u8 c'] W (IsOb (fun b=>W.heap.size≤b∨(F b∧b<w.heap.size)) W 0 (force c' g))):=Lib.hid fun W hW=>collForce_any _ [.slice p gs.length cap,.int .u8 c] g c' hc' W (fun b hb=>Or.inl hb) (HO.out W hW) HIH.out
   clear hc HO HIH
   generalize gs.length=n at *
   go_enter Tryz.func178,Tryz.ntmps178
   go_wp2_with (first
    | (go_at_call 83;(with_reducible refine (HM.out _ ?hb).mono ?_);(case hb=>exact EL);rintro e w1 ⟨rfl,hb1⟩;have HB1:Hid (Bel w w1):=Lib.hid ((show Bel w _ by exact EL).trans hb1);have B2:=(Blk.new' (w.alloc (.cells #[.int .i64 0,.iface 170 (.pointer (some ⟨b,0,none⟩))] 64)) #[.int .i64 0,.nilIface] 64 (b:=w.heap.size+1) (by simp)).bel hb1;have HP2:=Lib.hid B2;clear hb1 B2)
    | (go_at_call 172;(with_reducible refine (HC.out _ HB1.out).mono ?_);rintro e w2 ⟨cs2,rfl,ho2,hb2⟩;have HO2:=Lib.hid ho2;have HB2:Hid (Bel w w2):=Lib.hid (HB1.out.trans hb2);have HB12:Hid (Bel w1 w2):=Lib.hid hb2;have B2:=HP2.out.bel hb2;have HP3:=Lib.hid B2;clear ho2 hb2 B2)
    | (go_at_call 95;(with_reducible refine (asGeo_0 _ cs2 _ _ ?hn HO2.out).mono ?_);(case hn=>exact fun b hb=>Or.inl (by have:=HB12.out.size;omega));rintro e w3 ⟨cs3,rfl,ho3,hb3⟩;have HO3:=Lib.hid ho3;obtain ⟨s1,b1,cl1,hcs1,-⟩:=ho3.gi;cases hcs1;have B2:=HP3.out.bel hb3;have HP4:=Lib.hid B2;obtain ⟨r2,z2,l2⟩:=B2.facts;have HB3:Hid (Bel w w3):=Lib.hid (HB2.out.trans hb3);clear ho3 hb3 B2))
   have hw1:=HP2.out.lt
   refine post_ret (results_one rfl (resIs_agg (n:=2) (cs:=#[.int .i64 s1,.iface (ptrT s1) (.pointer (some ⟨b1,0,none⟩))]) (by rfl) Tryz.underlying64 (by kernel_rfl) (T:=64) ?_ rfl)) ⟨_,rfl,HO3.out.keep (by simp) (fun b hb hl=>?_) (fun b _ hb=>?_),?_⟩
   ·have HB:=HP4.out
    exact SL
   ·rw [Below.heap_setCell _ _ _ _ (by simp;omega),Below.heap_setCell _ _ _ _ (by simp;omega)]
   ·rcases hb with hb|hb
    ·exact hF b (by have:=HB1.out.size;omega)
    ·exact hb.1
   ·have HB:=HB3.out
    exact EL
  ·obtain ⟨x,y,z,m,c,full,hcs,-⟩:=ho.pt
   subst hcs
   clear ho
   show Calls Tryz.prog 178 #[.agg #[.int .i64 1,.iface 164 (.pointer (some ⟨b,0,none⟩))],.int .u8 c'] w _
   have HM:Hid (∀ W,Bel w W→Calls Tryz.prog 97 #[.agg #[.int .i64 1,.iface 164 (.pointer (some ⟨b,0,none⟩))]] W fun e w'=>e=.returned (.agg #[.float .f64 x,.float .f64 y,.float .f64 z,.float .f64 m,.int .u8 c,.bool full])∧Bel W w'):=Lib.hid fun W hW=>mustAs_1 _ _ _ _ _ _ b W (cell_kept hW (hc 0 _ rfl)) (cell_kept hW (hc 1 _ rfl)) (cell_kept hW (hc 2 _ rfl)) (cell_kept hW (hc 3 _ rfl)) (cell_kept hW (hc 4 _ rfl)) (cell_kept hW (hc 5 _ rfl))
   have HC:Hid (∀ W,Bel w W→Calls Tryz.prog 203 #[.agg #[.float .f64 x,.float .f64 y,.float .f64 z,.float .f64 m,.int .u8 c,.bool full],.int .u8 c'] W (IsOb (fun b=>W.heap.size≤b∨(F b∧b<w.heap.size)) W 1 (force c' g))):=Lib.hid fun W hW=>pointForce_any [.float .f64 x,.float .f64 y,.float .f64 z,.float .f64 m,.int .u8 c,.bool full] g c' hc' W (HO.out W hW)
   clear hc HO HIH
   go_enter Tryz.func178,Tryz.ntmps178
   go_wp2_with (first
    | (go_at_call 97;(with_reducible refine (HM.out _ ?hb).mono ?_);(case hb=>exact EL);rintro e w1 ⟨rfl,hb1⟩;have HB1:Hid (Bel w w1):=Lib.hid ((show Bel w _ by exact EL).trans hb1);have B2:=(Blk.new' (w.alloc (.cells #[.int .i64 1,.iface 164 (.pointer (some ⟨b,0,none⟩))] 64)) #[.int .i64 0,.nilIface] 64 (b:=w.heap.size+1) (by simp)).bel hb1;have HP2:=Lib.hid B2;clear hb1 B2)
    | (go_at_call 203;(with_reducible refine (HC.out _ HB1.out).mono ?_);rintro e w2 ⟨cs2,rfl,ho2,hb2⟩;have HO2:=Lib.hid ho2;have HB2:Hid (Bel w w2):=Lib.hid (HB1.out.trans hb2);have HB12:Hid (Bel w1 w2):=Lib.hid hb2;have B2:=HP2.out.bel hb2;have HP3:=Lib.hid B2;clear ho2 hb2 B2)
    | (go_at_call 71;(with_reducible refine (asGeo_1 _ cs2 _ _ ?hn HO2.out).mono ?_);(case hn=>exact fun b hb=>Or.inl (by have:=HB12.out.size;omega));rintro e w3 ⟨cs3,rfl,ho3,hb3⟩;have HO3:=Lib.hid ho3;obtain ⟨s1,b1,cl1,hcs1,-⟩:=ho3.gi;cases hcs1;have B2:=HP3.out.bel hb3;have HP4:=Lib.hid B2;obtain ⟨r2,z2,l2⟩:=B2.facts;have HB3:Hid (Bel w w3):=Lib.hid (HB2.out.trans hb3);clear ho3 hb3 B2))
   have hw1:=HP2.out.lt
   refine post_ret (results_one rfl (resIs_agg (n:=2) (cs:=#[.int .i64 s1,.iface (ptrT s1) (.pointer (some ⟨b1,0,none⟩))]) (by rfl) Tryz.underlying64 (by kernel_rfl) (T:=64) ?_ rfl)) ⟨_,rfl,HO3.out.keep (by simp) (fun b hb hl=>?_) (fun b _ hb=>?_),?_⟩
   ·have HB:=HP4.out
    exact SL
   ·rw [Below.heap_setCell _ _ _ _ (by simp;omega),Below.heap_setCell _ _ _ _ (by simp;omega)]
   ·rcases hb with hb|hb
    ·exact hF b (by have:=HB1.out.size;omega)
    ·exact hb.1
   ·have HB:=HB3.out
    exact EL
  ·obtain ⟨c,p,n,cap,xs,hcs,-⟩:=ho.ln
   subst hcs
   clear ho
   show Calls Tryz.prog 178 #[.agg #[.int .i64 2,.iface 162 (.pointer (some ⟨b,0,none⟩))],.int .u8 c'] w _
   have HM:Hid (∀ W,Bel w W→Calls Tryz.prog 67 #[.agg #[.int .i64 2,.iface 162 (.pointer (some ⟨b,0,none⟩))]] W fun e w'=>e=.returned (.agg #[.int .u8 c,.slice p n cap])∧Bel W w'):=Lib.hid fun W hW=>mustAs_2 _ _ _ _ b W (cell_kept hW (hc 0 _ rfl)) (cell_kept hW (hc 1 _ rfl))
   have HC:Hid (∀ W,Bel w W→Calls Tryz.prog 163 #[.agg #[.int .u8 c,.slice p n cap],.int .u8 c'] W (IsOb (fun b=>W.heap.size≤b∨(F b∧b<w.heap.size)) W 2 (force c' g))):=Lib.hid fun W hW=>lineForce_any _ [.int .u8 c,.slice p n cap] g c' hc' W (fun b hb=>Or.inl hb) (HO.out W hW)
   clear hc HO HIH
   go_enter Tryz.func178,Tryz.ntmps178
   go_wp2_with (first
    | (go_at_call 67;(with_reducible refine (HM.out _ ?hb).mono ?_);(case hb=>exact EL);rintro e w1 ⟨rfl,hb1⟩;have HB1:Hid (Bel w w1):=Lib.hid ((show Bel w _ by exact EL).trans hb1);have B2:=(Blk.new' (w.alloc (.cells #[.int .i64 2,.iface 162 (.pointer (some ⟨b,0,none⟩))] 64)) #[.int .i64 0,.nilIface] 64 (b:=w.heap.size+1) (by simp)).bel hb1;have HP2:=Lib.hid B2;clear hb1 B2)
    | (go_at_call 163;(with_reducible refine (HC.out _ HB1.out).mono ?_);rintro e w2 ⟨cs2,rfl,ho2,hb2⟩;have HO2:=Lib.hid ho2;have HB2:Hid (Bel w w2):=Lib.hid (HB1.out.trans hb2);have HB12:Hid (Bel w1 w2):=Lib.hid hb2;have B2:=HP2.out.bel hb2;have HP3:=Lib.hid B2;clear ho2 hb2 B2)
    | (go_at_call 74;(with_reducible refine (asGeo_2 _ cs2 _ _ ?hn HO2.out).mono ?_);(case hn=>exact fun b hb=>Or.inl (by have:=HB12.out.size;omega));rintro e w3 ⟨cs3,rfl,ho3,hb3⟩;have HO3:=Lib.hid ho3;obtain ⟨s1,b1,cl1,hcs1,-⟩:=ho3.gi;cases hcs1;have B2:=HP3.out.bel hb3;have HP4:=Lib.hid B2;obtain ⟨r2,z2,l2⟩:=B2.facts;have HB3:Hid (Bel w w3):=Lib.hid (HB2.out.trans hb3);clear ho3 hb3 B2))
   have hw1:=HP2.out.lt
   refine post_ret (results_one rfl (resIs_agg (n:=2) (cs:=#[.int .i64 s1,.iface (ptrT s1) (.pointer (some ⟨b1,0,none⟩))]) (by rfl) Tryz.underlying64 (by kernel_rfl) (T:=64) ?_ rfl)) ⟨_,rfl,HO3.out.keep (by simp) (fun b hb hl=>?_) (fun b _ hb=>?_),?_⟩
   ·have HB:=HP4.out
    exact SL
   ·rw [Below.heap_setCell _ _ _ _ (by simp;omega),Below.heap_setCell _ _ _ _ (by simp;omega)]
   ·rcases hb with hb|hb
    ·exact hF b (by have:=HB1.out.size;omega)
    ·exact hb.1
   ·have HB:=HB3.out
    exact EL
  ·obtain ⟨p,cap,c,gs,hcs,-⟩:=ho.sl (e:=2) (k:=2) rfl
   subst hcs
   clear ho
   show Calls Tryz.prog 178 #[.agg #[.int .i64 3,.iface 165 (.pointer (some ⟨b,0,none⟩))],.int .u8 c'] w _
   have HM:Hid (∀ W,Bel w W→Calls Tryz.prog 72 #[.agg #[.int .i64 3,.iface 165 (.pointer (some ⟨b,0,none⟩))]] W fun e w'=>e=.returned (.agg #[.slice p gs.length cap,.int .u8 c])∧Bel W w'):=Lib.hid fun W hW=>mustAs_3 _ _ _ _ b W (cell_kept hW (hc 0 _ rfl)) (cell_kept hW (hc 1 _ rfl))
   have HC:Hid (∀ W,Bel w W→Calls Tryz.prog 168 #[.agg #[.slice p gs.length cap,.int .u8 c],.int .u8 c'] W (IsOb (fun b=>W.heap.size≤b∨(F b∧b<w.heap.size)) W 3 (force c' g))):=Lib.hid fun W hW=>polygonForce_any _ [.slice p gs.length cap,.int .u8 c] g c' hc' W (fun b hb=>Or.inl hb) (HO.out W hW)
   clear hc HO HIH
   generalize gs.length=n at *
   go_enter Tryz.func178,Tryz.ntmps178
   go_wp2_with (first
    | (go_at_call 72;(with_reducible refine (HM.out _ ?hb).mono ?_);(case hb=>exact EL);rintro e w1 ⟨rfl,hb1⟩;have HB1:Hid (Bel w w1):=Lib.hid ((show Bel w _ by exact EL).trans hb1);have B2:=(Blk.new' (w.alloc (.cells #[.int .i64 3,.iface 165 (.pointer (some ⟨b,0,none⟩))] 64)) #[.int .i64 0,.nilIface] 64 (b:=w.heap.size+1) (by simp)).bel hb1;have HP2:=Lib.hid B2;clear hb1 B2)
    | (go_at_call 168;(with_reducible refine (HC.out _ HB1.out).mono ?_);rintro e w2 ⟨cs2,rfl,ho2,hb2⟩;have HO2:=Lib.hid ho2;have HB2:Hid (Bel w w2):=Lib.hid (HB1.out.trans hb2);have HB12:Hid (Bel w1 w2):=Lib.hid hb2;have B2:=HP2.out.bel hb2;have HP3:=Lib.hid B2;clear ho2 hb2 B2)
    | (go_at_call 82;(with_reducible refine (asGeo_3 _ cs2 _ _ ?hn HO2.out).mono ?_);(case hn=>exact fun b hb=>Or.inl (by have:=HB12.out.size;omega));rintro e w3 ⟨cs3,rfl,ho3,hb3⟩;have HO3:=Lib.hid ho3;obtain ⟨s1,b1,cl1,hcs1,-⟩:=ho3.gi;cases hcs1;have B2:=HP3.out.bel hb3;have HP4:=Lib.hid B2;obtain ⟨r2,z2,l2⟩:=B2.facts;have HB3:Hid (Bel w w3):=Lib.hid (HB2.out.trans hb3);clear ho3 hb3 B2))
   have hw1:=HP2.out.lt
   refine post_ret (results_one rfl (resIs_agg (n:=2) (cs:=#[.int .i64 s1,.iface (ptrT s1) (.pointer (some ⟨b1,0,none⟩))]) (by rfl) Tryz.underlying64 (by kernel_rfl) (T:=64) ?_ rfl)) ⟨_,rfl,HO3.out.keep (by simp) (fun b hb hl=>?_) (fun b _ hb=>?_),?_⟩
   ·have HB:=HP4.out
    exact SL
   ·rw [Below.heap_setCell _ _ _ _ (by simp;omega),Below.heap_setCell _ _ _ _ (by simp;omega)]
   ·rcases hb with hb|hb
    ·exact hF b (by have:=HB1.out.size;omega)
    ·exact hb.1
   ·have HB:=HB3.out
    exact EL
  ·obtain ⟨p,cap,c,gs,hcs,-⟩:=ho.sl (e:=1) (k:=6) rfl
   subst hcs
   clear ho
   show Calls Tryz.prog 178 #[.agg #[.int .i64 4,.iface 167 (.pointer (some ⟨b,0,none⟩))],.int .u8 c'] w _
   have HM:Hid (∀ W,Bel w W→Calls Tryz.prog 76 #[.agg #[.int .i64 4,.iface 167 (.pointer (some ⟨b,0,none⟩))]] W fun e w'=>e=.returned (.agg #[.slice p gs.length cap,.int .u8 c])∧Bel W w'):=Lib.hid fun W hW=>mustAs_4 _ _ _ _ b W (cell_kept hW (hc 0 _ rfl)) (cell_kept hW (hc 1 _ rfl))
   have HC:Hid (∀ W,Bel w W→Calls Tryz.prog 169 #[.agg #[.slice p gs.length cap,.int .u8 c],.int .u8 c'] W (IsOb (fun b=>W.heap.size≤b∨(F b∧b<w.heap.size)) W 4 (force c' g))):=Lib.hid fun W hW=>multiPointForce_any _ [.slice p gs.length cap,.int .u8 c] g c' hc' W (fun b hb=>Or.inl hb) (HO.out W hW)
   clear hc HO HIH
   generalize gs.length=n at *
   go_enter Tryz.func178,Tryz.ntmps178
   go_wp2_with (first
    | (go_at_call 76;(with_reducible refine (HM.out _ ?hb).mono ?_);(case hb=>exact EL);rintro e w1 ⟨rfl,hb1⟩;have HB1:Hid (Bel w w1):=Lib.hid ((show Bel w _ by exact EL).trans hb1);have B2:=(Blk.new' (w.alloc (.cells #[.int .i64 4,.iface 167 (.pointer (some ⟨b,0,none⟩))] 64)) #[.int .i64 0,.nilIface] 64 (b:=w.heap.size+1) (by simp)).bel hb1;have HP2:=Lib.hid B2;clear hb1 B2)
    | (go_at_call 169;(with_reducible refine (HC.out _ HB1.out).mono ?_);rintro e w2 ⟨cs2,rfl,ho2,hb2⟩;have HO2:=Lib.hid ho2;have HB2:Hid (Bel w w2):=Lib.hid (HB1.out.trans hb2);have HB12:Hid (Bel w1 w2):=Lib.hid hb2;have B2:=HP2.out.bel hb2;have HP3:=Lib.hid B2;clear ho2 hb2 B2)
    | (go_at_call 89;(with_reducible refine (asGeo_4 _ cs2 _ _ ?hn HO2.out).mono ?_);(case hn=>exact fun b hb=>Or.inl (by have:=HB12.out.size;omega));rintro e w3 ⟨cs3,rfl,ho3,hb3⟩;have HO3:=Lib.hid ho3;obtain ⟨s1,b1,cl1,hcs1,-⟩:=ho3.gi;cases hcs1;have B2:=HP3.out.bel hb3;have HP4:=Lib.hid B2;obtain ⟨r2,z2,l2⟩:=B2.facts;have HB3:Hid (Bel w w3):=Lib.hid (HB2.out.trans hb3);clear ho3 hb3 B2))
   have hw1:=HP2.out.lt
   refine post_ret (results_one rfl (resIs_agg (n:=2) (cs:=#[.int .i64 s1,.iface (ptrT s1) (.pointer (some ⟨b1,0,none⟩))]) (by rfl) Tryz.underlying64 (by kernel_rfl) (T:=64) ?_ rfl)) ⟨_,rfl,HO3.out.keep (by simp) (fun b hb hl=>?_) (fun b _ hb=>?_),?_⟩
   ·have HB:=HP4.out
    exact SL
   ·rw [Below.heap_setCell _ _ _ _ (by simp;omega),Below.heap_setCell _ _ _ _ (by simp;omega)]
   ·rcases hb with hb|hb
    ·exact hF b (by have:=HB1.out.size;omega)
    ·exact hb.1
   ·have HB:=HB3.out
    exact EL
  ·obtain ⟨p,cap,c,gs,hcs,-⟩:=ho.sl (e:=2) (k:=2) rfl
   subst hcs
   clear ho
   show Calls Tryz.prog 178 #[.agg #[.int .i64 5,.iface 168 (.pointer (some ⟨b,0,none⟩))],.int .u8 c'] w _
   have HM:Hid (∀ W,Bel w W→Calls Tryz.prog 78 #[.agg #[.int .i64 5,.iface 168 (.pointer (some ⟨b,0,none⟩))]] W fun e w'=>e=.returned (.agg #[.slice p gs.length cap,.int .u8 c])∧Bel W w'):=Lib.hid fun W hW=>mustAs_5 _ _ _ _ b W (cell_kept hW (hc 0 _ rfl)) (cell_kept hW (hc 1 _ rfl))
   have HC:Hid (∀ W,Bel w W→Calls Tryz.prog 170 #[.agg #[.slice p gs.length cap,.int .u8 c],.int .u8 c'] W (IsOb (fun b=>W.heap.size≤b∨(F b∧b<w.heap.size)) W 5 (force c' g))):=Lib.hid fun W hW=>multiLineForce_any _ [.slice p gs.length cap,.int .u8 c] g c' hc' W (fun b hb=>Or.inl hb) (HO.out W hW)
   clear hc HO HIH
   generalize gs.length=n at *
   go_enter Tryz.func178,Tryz.ntmps178
   go_wp2_with (first
    | (go_at_call 78;(with_reducible refine (HM.out _ ?hb).mono ?_);(case hb=>exact EL);rintro e w1 ⟨rfl,hb1⟩;have HB1:Hid (Bel w w1):=Lib.hid ((show Bel w _ by exact EL).trans hb1);have B2:=(Blk.new' (w.alloc (.cells #[.int .i64 5,.iface 168 (.pointer (some ⟨b,0,none⟩))] 64)) #[.int .i64 0,.nilIface] 64 (b:=w.heap.size+1) (by simp)).bel hb1;have HP2:=Lib.hid B2;clear hb1 B2)
    | (go_at_call 170;(with_reducible refine (HC.out _ HB1.out).mono ?_);rintro e w2 ⟨cs2,rfl,ho2,hb2⟩;have HO2:=Lib.hid ho2;have HB2:Hid (Bel w w2):=Lib.hid (HB1.out.trans hb2);have HB12:Hid (Bel w1 w2):=Lib.hid hb2;have B2:=HP2.out.bel hb2;have HP3:=Lib.hid B2;clear ho2 hb2 B2)
    | (go_at_call 91;(with_reducible refine (asGeo_5 _ cs2 _ _ ?hn HO2.out).mono ?_);(case hn=>exact fun b hb=>Or.inl (by have:=HB12.out.size;omega));rintro e w3 ⟨cs3,rfl,ho3,hb3⟩;have HO3:=Lib.hid ho3;obtain ⟨s1,b1,cl1,hcs1,-⟩:=ho3.gi;cases hcs1;have B2:=HP3.out.bel hb3;have HP4:=Lib.hid B2;obtain ⟨r2,z2,l2⟩:=B2.facts;have HB3:Hid (Bel w w3):=Lib.hid (HB2.out.trans hb3);clear ho3 hb3 B2))
   have hw1:=HP2.out.lt
   refine post_ret (results_one rfl (resIs_agg (n:=2) (cs:=#[.int .i64 s1,.iface (ptrT s1) (.pointer (some ⟨b1,0,none⟩))]) (by rfl) Tryz.underlying64 (by kernel_rfl) (T:=64) ?_ rfl)) ⟨_,rfl,HO3.out.keep (by simp) (fun b hb hl=>?_) (fun b _ hb=>?_),?_⟩
   ·have HB:=HP4.out
    exact SL
   ·rw [Below.heap_setCell _ _ _ _ (by simp;omega),Below.heap_setCell _ _ _ _ (by simp;omega)]
   ·rcases hb with hb|hb
    ·exact hF b (by have:=HB1.out.size;omega)
    ·exact hb.1
   ·have HB:=HB3.out
    exact EL
  ·obtain ⟨p,cap,c,gs,hcs,-⟩:=ho.sl (e:=3) (k:=2) rfl
   subst hcs
   clear ho
   show Calls Tryz.prog 178 #[.agg #[.int .i64 6,.iface 169 (.pointer (some ⟨b,0,none⟩))],.int .u8 c'] w _
   have HM:Hid (∀ W,Bel w W→Calls Tryz.prog 80 #[.agg #[.int .i64 6,.iface 169 (.pointer (some ⟨b,0,none⟩))]] W fun e w'=>e=.returned (.agg #[.slice p gs.length cap,.int .u8 c])∧Bel W w'):=Lib.hid fun W hW=>mustAs_6 _ _ _ _ b W (cell_kept hW (hc 0 _ rfl)) (cell_kept hW (hc 1 _ rfl))
   have HC:Hid (∀ W,Bel w W→Calls Tryz.prog 171 #[.agg #[.slice p gs.length cap,.int .u8 c],.int .u8 c'] W (IsOb (fun b=>W.heap.size≤b∨(F b∧b<w.heap.size)) W 6 (force c' g))):=Lib.hid fun W hW=>multiPolygonForce_any _ [.slice p gs.length cap,.int .u8 c] g c' hc' W (fun b hb=>Or.inl hb) (HO.out W hW)
   clear hc HO HIH
   generalize gs.length=n at *
   go_enter Tryz.func178,Tryz.ntmps178
   go_wp2_with (first
    | (go_at_call 80;(with_reducible refine (HM.out _ ?hb).mono ?_);(case hb=>exact EL);rintro e w1 ⟨rfl,hb1⟩;have HB1:Hid (Bel w w1):=Lib.hid ((show Bel w _ by exact EL).trans hb1);have B2:=(Blk.new' (w.alloc (.cells #[.int .i64 6,.iface 169 (.pointer (some ⟨b,0,none⟩))] 64)) #[.int .i64 0,.nilIface] 64 (b:=w.heap.size+1) (by simp)).bel hb1;have HP2:=Lib.hid B2;clear hb1 B2)
    | (go_at_call 171;(with_reducible refine (HC.out _ HB1.out).mono ?_);rintro e w2 ⟨cs2,rfl,ho2,hb2⟩;have HO2:=Lib.hid ho2;have HB2:Hid (Bel w w2):=Lib.hid (HB1.out.trans hb2);have HB12:Hid (Bel w1 w2):=Lib.hid hb2;have B2:=HP2.out.bel hb2;have HP3:=Lib.hid B2;clear ho2 hb2 B2)
    | (go_at_call 93;(with_reducible refine (asGeo_6 _ cs2 _ _ ?hn HO2.out).mono ?_);(case hn=>exact fun b hb=>Or.inl (by have:=HB12.out.size;omega));rintro e w3 ⟨cs3,rfl,ho3,hb3⟩;have HO3:=Lib.hid ho3;obtain ⟨s1,b1,cl1,hcs1,-⟩:=ho3.gi;cases hcs1;have B2:=HP3.out.bel hb3;have HP4:=Lib.hid B2;obtain ⟨r2,z2,l2⟩:=B2.facts;have HB3:Hid (Bel w w3):=Lib.hid (HB2.out.trans hb3);clear ho3 hb3 B2))
   have hw1:=HP2.out.lt
   refine post_ret (results_one rfl (resIs_agg (n:=2) (cs:=#[.int .i64 s1,.iface (ptrT s1) (.pointer (some ⟨b1,0,none⟩))]) (by rfl) Tryz.underlying64 (by kernel_rfl) (T:=64) ?_ rfl)) ⟨_,rfl,HO3.out.keep (by simp) (fun b hb hl=>?_) (fun b _ hb=>?_),?_⟩
   ·have HB:=HP4.out
    exact SL
   ·rw [Below.heap_setCell _ _ _ _ (by simp;omega),Below.heap_setCell _ _ _ _ (by simp;omega)]
   ·rcases hb with hb|hb
    ·exact hF b (by have:=HB1.out.size;omega)
    ·exact hb.1
   ·have HB:=HB3.out
    exact EL
theorem geoForce_any (F:Nat→Prop) (cs:List Value) (g:Gm) (c':Nat) (hc':c'≤3) (w:World) (hF:New F w) (h:Ob F w 7 cs g):Calls Tryz.prog 178 #[.agg cs.toArray,.int .u8 c'] w (IsOb F w 7 (force c' g)):=geoForce_ind c' hc' g.size g (Nat.le_refl _) F cs w hF h
set_option maxHeartbeats 4000000 in
set_option maxRecDepth 100000 in
theorem newColl_any (F:Nat→Prop) (p:Option Addr) (n cap:Nat) (gs:List Gm) (w:World) (hF:New F w) (hsl:ObSl F w 7 2 (.slice p n cap) gs) (hpos:0<n) (hn31:n≤1048576):Calls Tryz.prog 104 #[.slice p n cap] w (IsOb F w 0 (.mk 0 (common gs) [] (gs.map (force (common gs))))):=by
 have HSL:=Lib.hid hsl
 obtain ⟨_,_,hve,hl1,hl2,hq⟩:=hsl
 cases hve
 have hgn:gs ≠ []:=by intro e;rw [e] at hpos;simp at hpos
 obtain ⟨b,off,rfl,hlt,hFb,hr⟩:=hq hgn
 have HR:=Lib.hid hr
 have HFB:=Lib.hid hFb
 clear hq hr hFb hgn
 generalize hn:gs.length=n at *
 have HN:=Lib.hid hn
 clear hn
 have hn0:((n:Int) == 0)=false:=by simp;omega
 obtain ⟨i0,hi,hz0,hz1,hz2⟩:=info_parts infoGe
 go_enter Tryz.func104,Tryz.ntmps104
 go_wp2
 go_loopw [3,13] (fun cv iv wr=>∃ (t:Nat),cv=.int .u8 (common (gs.take t):Nat)∧iv=.int .i64 t∧t≤n∧Bel w wr∧Blk wr w.heap.size #[.slice none 0 0,.int .u8 0] 86) (fun _ iv _=>n - (intOf iv).toNat)
 case atStart=>exact ⟨0,rfl,rfl,Nat.zero_le _,by exact EL,by exact KL⟩
 case round =>
  obtain ⟨t,rfl,rfl,ht,hbel,hb1⟩:=hrel
  have HBEL:=Lib.hid hbel
  have HG1:=Lib.hid hb1
  clear hb1
  by_cases htn:t<n
  ·obtain ⟨g,hg⟩:∃ g,gs[t]?=some g:=⟨_,List.getElem?_eq_getElem (by have:=HN.out;omega)⟩
   obtain ⟨cl,hcl,hcell,hob⟩:=HR.out t g hg
   have HC:=Lib.hid (fun W (hW:Bel w W)=>geoType_any W (hob.bel hW))
   obtain ⟨cg,hcg,hdim⟩:=hob.dim
   obtain ⟨s0,b0,cl0,hcs0,-⟩:=hob.gi;cases hcs0
   have D0:=cell_kept hbel (hcell 0 (.int .i64 s0) rfl)
   have D1:=cell_kept hbel (hcell 1 (.iface (ptrT s0) (.pointer (some ⟨b0,0,none⟩))) rfl)
   simp only [Nat.add_zero] at D0
   have E1:=D1
   rw [← Nat.add_assoc] at E1
   have hbl:b<wr.heap.size:=Nat.lt_of_lt_of_le hlt hbel.size
   have hct:=common_take hg
   have hdn:g.dim.toNat=cg:=by rw [hdim];simp
   rw [hdn] at hct HC
   have hland:=u8_land (common (gs.take t)) cg (common_le _ 3 (Nat.le_refl _)) hcg
   rw [← hct] at hland
   clear hcl hcell hob hbel hg hdim hct hdn
   generalize common (gs.take t)=ca at *
   generalize hcb:common (gs.take (t+1))=cb at *
   have HCB:=Lib.hid hcb
   clear hcb
   go_wp2_with (go_at_call 45;(with_reducible refine (HC.out _ (HBEL.out.alloc _)).mono ?_);rintro e w3 ⟨rfl,hb⟩;have C1:=HG1.out.bel ((Bel.alloc1 _ _).trans hb);have HC1:=Lib.hid C1;have HB3:Hid (Bel wr w3):=Lib.hid ((Bel.alloc1 _ _).trans hb);clear hb C1)
   go_roundw
   case rel=>exact ⟨t+1,by rw [HCB.out],by go_num,by omega,HBEL.out.trans HB3.out,HC1.out⟩
   case measure=>simp [intOf];omega
  ·obtain rfl:t=n:=by omega
   have hca:common (gs.take t)=common gs:=by rw [List.take_of_length_le (by have:=HN.out;omega)]
   rw [hca]
   have hcl3:=common_le gs 3 (Nat.le_refl _)
   have hcm:common gs≤3:=hcl3
   clear hca hcl3
   generalize common gs=c' at *
   obtain ⟨w1,hw1⟩:∃ w1,w1=wr:=⟨_,rfl⟩
   subst hw1
   obtain ⟨news,hnl,hnc,hnr,hn1⟩:=((HR.out.keep (G:=F) hbel.size (fun b _ hl=>hbel.block b hl) fun _ _ h=>h).cells (arr':=fun o=>w1.cell? ⟨b,off+o,none⟩) fun o u ho=>cell_kept hbel ho).flat
   have HNL:Hid (news.length=t*2):=Lib.hid (by rw [hnl,HN.out])
   have HNC:Hid (∀ (j:Nat) (u:Value),news[j]?=some u→w1.cell? ((⟨b,off,none⟩:Addr).add j)=some u):=Lib.hid fun j u hu=>by rw [add_off];exact hnc j u hu
   have HNR:=Lib.hid hnr
   have HN1:=Lib.hid hn1
   have hbl:b<w1.heap.size:=Nat.lt_of_lt_of_le hlt hbel.size
   clear hnl hnc hnr hn1
   have HSZ:Hid (w.heap.size+1≤w1.heap.size):=Lib.hid (HG1.out.lt)
   go_wp2_with (at_builtin;refine wpList_append_row _ rfl (.const (.slice none 0 0)) (.tmp 22) 84 rfl w1.heap.size 64 i0 _ 2 24 Tryz.underlying84 hi hz0 hz1 hz2 rfl (by decide) (.slice none 0 0) 0 [] rfl (World.ownsRow_nil _ _ _ _) ⟨b,off,none⟩ t cap news rfl HNL.out HNC.out HN1.out hpos (by unfold maxLen;omega) (by omega) (Nat.le_refl _) ?_;intro v' w2 ho2 hg2 hb2;have HO2:=Lib.hid ho2;have HB2:Hid (Bel w1 w2):=Lib.hid (Bel.of_grown0 hg2);rcases ho2.2 with ⟨rfl,h0⟩|⟨g0,c0,arr0,rfl,hb0,hg0,hc0,hc1,hs0,htk⟩;(case inl=>exact absurd h0 (by omega));have HCE:=Lib.hid (ho2.cells rfl);simp only [Nat.zero_add] at hc0 hc1;clear ho2 hg2 hb2 htk)
   simp only [Nat.zero_add,List.nil_append] at *
   have HG0:Hid (Blk w2 g0 arr0 64):=Lib.hid hg0
   have HS0:=Lib.hid hs0
   have HGE:=Lib.hid hb0
   have hrow0:RowOb (fun b=>(F b∧b<w.heap.size)∨g0<b) w2 (fun o=>arr0[o]?) 7 2 (mixed (force c') gs 0):=by
    have e0:mixed (force c') gs 0=gs:=by simp [mixed]
    rw [e0]
    have h2:=(HR.out.keep (w':=w2) (G:=fun b=>(F b∧b<w.heap.size)∨g0<b) (HBEL.out.trans HB2.out).size (fun b _ hl=>(HBEL.out.trans HB2.out).block b hl) fun b hl hb=>Or.inl ⟨hb,hl⟩)
    intro i g hg
    obtain ⟨cl,a1,a2,a3⟩:=HNR.out i g hg
    obtain ⟨cl',b1,b2,b3⟩:=h2 i g hg
    have ecl:cl=cl':=by
     apply List.ext_getElem?
     intro j
     rcases Nat.lt_or_ge j 2 with q|q
     ·obtain ⟨u,hu⟩:∃ u,cl[j]?=some u:=⟨_,List.getElem?_eq_getElem (by omega)⟩
      obtain ⟨u',hu'⟩:∃ u,cl'[j]?=some u:=⟨_,List.getElem?_eq_getElem (by omega)⟩
      have q1:=HNC.out _ _ (a2 j u hu)
      rw [add_off] at q1
      have q2:=cell_kept HBEL.out (b2 j u' hu')
      rw [hu,hu']
      exact q1.symm.trans q2
     ·rw [List.getElem?_eq_none (by omega),List.getElem?_eq_none (by omega)]
    refine ⟨cl,a1,fun j u hu=>?_,ecl▸b3⟩
    have q1:=HCE.out (i*2+j) u (a2 j u hu)
    rw [add_none] at q1
    exact (HG0.out.rules.1 _).symm.trans q1
   have HROW0:=Lib.hid hrow0
   have hb20:=(HG1.out.bel HB2.out)
   have HG20:=Lib.hid hb20
   have HB20:=Lib.hid (HBEL.out.trans HB2.out)
   clear hrow0 hb20 HNC HNL HN1 HNR hg0 hs0 hb0 HCE
   go_loopw [26] (fun iv wr=>∃ (j:Nat) (arr:Array Value),iv=.int .i64 j∧j≤t∧Bel w wr∧Blk wr w.heap.size #[.slice none 0 0,.int .u8 0] 86∧Blk wr g0 arr 64∧arr.size=c0*2∧RowOb (fun b=>(F b∧b<w.heap.size)∨g0<b) wr (fun o=>arr[o]?) 7 2 (mixed (force c') gs j)) (fun iv _=>t - (intOf iv).toNat)
   case atStart=>exact ⟨0,arr0,rfl,Nat.zero_le _,HB20.out,HG20.out,HG0.out,HS0.out,HROW0.out⟩
   case round =>
    obtain ⟨j,arr,rfl,hj,hbel2,hz,hga,harr,hrow⟩:=hrel
    have HBEL2:=Lib.hid hbel2
    have HZ:=Lib.hid hz
    have HGA:=Lib.hid hga
    have HROW:=Lib.hid hrow
    have l3:=hga.lt
    have z3:=hga.rules.2
    clear hrow
    by_cases hjt:j<t
    ·obtain ⟨g,hg⟩:∃ g,gs[j]?=some g:=⟨_,List.getElem?_eq_getElem (by have:=HN.out;omega)⟩
     obtain ⟨cl,hcl,hcell,hob⟩:=HROW.out j g (mixed_at hg)
     have HC:Hid (∀ W,Bel wr W→Calls Tryz.prog 178 #[.agg cl.toArray,.int .u8 c'] W (IsOb (fun b=>(F b∧b<w.heap.size)∨g0<b) W 7 (force c' g))):=Lib.hid fun W hW=>geoForce_any _ cl g c' hcm W (fun b hb=>Or.inr (by have:=hW.size;omega)) (hob.bel hW)
     obtain ⟨s0,b0,cl0,hcs0,-⟩:=hob.gi;cases hcs0
     have D0:=(hga.rules.1 (j*2)).trans (hcell 0 (.int .i64 s0) rfl)
     have D1:=(hga.rules.1 (j*2+1)).trans (hcell 1 (.iface (ptrT s0) (.pointer (some ⟨b0,0,none⟩))) rfl)
     have HG:=Lib.hid hg
     clear hcl hcell hob hbel2 hg hz hga
     go_wp2_with (go_at_call 178;(with_reducible refine (HC.out _ (Bel.refl _)).mono ?_);rintro e w3 ⟨cs,rfl,ho,hb⟩;obtain ⟨s1,b1,cl1,hcs1,-⟩:=ho.gi;cases hcs1;have C1:=HZ.out.bel hb;have C3:=HGA.out.bel hb;have HB3:=Lib.hid hb;have HC1:=Lib.hid C1;have HC3:=Lib.hid C3;have HO:=Lib.hid ho;have k0:=cell_kept hb D0;have k1:=cell_kept hb D1;have t3:=C3.rules.2;have m3:=C3.lt;clear hb C1 C3 ho)
     go_roundw
     case rel =>
      have hs1:=HBEL2.out.size
      have hs3:=HB3.out.size
      have hge:=HGE.out
      have hsz:=HSZ.out
      refine ⟨j+1,(arr.setIfInBounds (j*2) (.int .i64 s1)).setIfInBounds (j*2+1) (.iface (ptrT s1) (.pointer (some ⟨b1,0,none⟩))),by go_num,by omega,?_,?_,?_,by simp [harr],?_⟩
      ·have HB:=HBEL2.out.trans HB3.out
       exact EL
      ·have HB:=HC1.out
       exact KL
      ·exact (HC3.out.set _ _).set _ _
      ·refine RowOb.put (t:=j) (cl:=[.int .i64 s1,.iface (ptrT s1) (.pointer (some ⟨b1,0,none⟩))]) (HROW.out.keep (by simp;omega) (fun b hb hl=>?_) fun b _ hb=>hb) (mixed_put HG.out) (fun o u ho hu=>?_) rfl (fun i u hu=>?_) (HO.out.keep (by simp) (fun b hb hl=>?_) fun b _ hb=>hb)
       ·rw [Below.heap_setCell _ _ _ _ (by simp;omega),Below.heap_setCell _ _ _ _ (by simp;omega)]
        exact HB3.out.block b hl
       ·show (_:Array Value)[o]?=some u
        rw [Array.getElem?_setIfInBounds_ne (by omega),Array.getElem?_setIfInBounds_ne (by omega)]
        exact hu
       ·have hlt2:=(List.getElem?_eq_some_iff.1 hu).1
        simp at hlt2
        show (_:Array Value)[j*2+i]?=some u
        match i,hlt2 with
        | 0,_ =>
         simp at hu
         subst hu
         rw [Array.getElem?_setIfInBounds_ne (by omega)]
         exact Array.getElem?_setIfInBounds_self_of_lt (by omega)
        | 1,_ =>
         simp at hu
         subst hu
         exact Array.getElem?_setIfInBounds_self_of_lt (by (try simp only [Array.size_setIfInBounds]);omega)
       ·rw [Below.heap_setCell _ _ _ _ (by simp;omega),Below.heap_setCell _ _ _ _ (by simp;omega)]
     case measure=>simp [intOf];omega
    ·obtain rfl:j=t:=by omega
     have hfin:=HROW.out
     have em:mixed (force c') gs j=gs.map (force c'):=by
      unfold mixed
      rw [List.take_of_length_le (by have:=HN.out;omega),List.drop_of_length_le (by have:=HN.out;omega),List.append_nil]
     rw [em] at hfin
     have hge:=HGE.out
     have hsz:=HSZ.out
     have HFIN:Hid (ObSl (fun b=>F b∧b ≠ w.heap.size) wr 7 2 (.slice (some ⟨g0,0,none⟩) j c0) (gs.map (force c'))):=Lib.hid ⟨_,c0,by rw [List.length_map,HN.out],by rw [List.length_map,HN.out];exact hc0,by unfold maxLen at hc1;omega,fun _=>⟨g0,0,rfl,l3,⟨hF _ (by omega),by omega⟩,(hfin.keep (Nat.le_refl _) (fun _ _ _=>rfl) fun b _ hb=>by
      rcases hb with hb|hb
      ·exact ⟨hb.1,by omega⟩
      ·exact ⟨hF _ (by omega),by omega⟩).cells fun o u ho=>by
       rw [Nat.zero_add]
       exact (HGA.out.rules.1 o).trans ho⟩⟩
     clear hfin em
     obtain ⟨s2,t2,m2⟩:=HZ.out.facts
     go_wp2
     refine post_ret (results_one rfl (resIs_agg (n:=2) (cs:=#[.slice (some ⟨g0,0,none⟩) j c0,.int .u8 c']) (by rfl) Tryz.underlying86 (by kernel_rfl) (T:=86) ?_ rfl)) ⟨_,rfl,ObSl.ob ?_ rfl hcm (by rw [List.length_map,HN.out];exact hn31),?_⟩
     ·have HB:=HZ.out
      exact SL
     ·exact HFIN.out.keep (by simp) (fun b hb hl=>by rw [Below.heap_setCell _ _ _ _ (fun e=>hb.2 e),Below.heap_setCell _ _ _ _ (fun e=>hb.2 e)]) fun b _ hb=>hb.1
     ·have HB:=HBEL2.out
      exact EL
end Go.Proofs.YtpipehenfcbjbaaGreatDoor
set_option linter.unusedVariables false
namespace Go.Proofs.YtpipehenfcbjbaaGreatDoor
open Go.ChangeShapes Go.WideShapes Go.ChangeAt Go.RowKit
theorem newOf_kind:∀ (g:Gm),(newOf g).kind=kindOf g.kind
 | .mk k d ns ks=>by
  show (newOf (.mk k d ns ks)).kind=kindOf k
  rw [newOf]
  by_cases h:kindOf k=1∨kindOf k=2
  ·rw [if_pos h]
   rfl
  ·rw [if_neg h]
   by_cases h2:(newAll (kidOf (kindOf k)) ks).isEmpty=true
   ·rw [if_pos h2]
    rfl
   ·rw [if_neg h2,force]
    rfl
theorem kindOf_eq {k s:Int} (h1:1≤s) (h6:s≤6):kindOf k=s↔k=s:=by
 unfold kindOf
 split<;>omega
theorem newAll_snoc (want:Int):∀ (l:List Gm) (g:Gm),newAll want (l ++ [g])=newAll want l ++ (if want<0∨want=(newOf g).kind then [newOf g] else [])
 | [],g=>by
  simp only [List.nil_append,newAll]
 | a :: r,g=>by
  simp only [List.cons_append,newAll]
  rw [newAll_snoc want r g]
  split<;>simp
theorem newAll_take {want:Int} {ks:List Gm} {i:Nat} {g:Gm} (h:ks[i]?=some g):newAll want (ks.take (i+1))=newAll want (ks.take i) ++ (if want<0∨want=(newOf g).kind then [newOf g] else []):=by
 rw [List.take_add_one,h]
 exact newAll_snoc want _ _
theorem newOf_parts (g:Gm) (s:Nat) (h0:kindOf g.kind=s) (h1:s ≠ 1) (h2:s ≠ 2):newOf g=if (newAll (kidOf s) g.kids).isEmpty then .mk s (ct g.dim) [] [] else .mk s (common (newAll (kidOf s) g.kids)) [] ((newAll (kidOf s) g.kids).map (force (common (newAll (kidOf s) g.kids)))):=by
 cases g with
 | mk k d ns ks =>
  simp only [Gm.kind] at h0
  rw [newOf,h0,if_neg (by omega)]
  show _=if (newAll (kidOf s) ks).isEmpty then Gm.mk s (ct d) [] [] else Gm.mk s (common (newAll (kidOf s) ks)) [] ((newAll (kidOf s) ks).map (force (common (newAll (kidOf s) ks))))
  by_cases h3:(newAll (kidOf (s:Int)) ks).isEmpty=true
  ·rw [if_pos h3,if_pos h3]
  ·rw [if_neg h3,if_neg h3,force_parts h1 h2]
theorem own_obs {F:Nat→Prop} {w:World} {base n e k:Nat} {T:TypeId} {v:Value} {xs:List Value} {gs:List Gm} (h:w.ownsRow base T k v n xs) (hr:RowOb F w (fun o=>xs[o]?) e k gs) (hn:gs.length=n) (hF:∀ b,v.ownBlock=some b→F b):ObSl F w e k v gs:=by
 subst hn
 have hc:=fun (g:Nat) (hg:v.ownBlock=some g)=>h.cells hg
 rcases h.2 with ⟨rfl,h0⟩|⟨g,cap,cur,rfl,hb,hg,h1,h2,_⟩
 ·exact ⟨none,0,by rw [h0],by omega,by omega,fun hn=>absurd (List.length_eq_zero_iff.1 h0) hn⟩
 ·refine ⟨_,cap,rfl,h1,by unfold maxLen at h2;omega,fun _=>⟨g,0,rfl,(Array.getElem?_eq_some_iff.1 hg).1,hF g rfl,hr.cells fun o u ho=>?_⟩⟩
  have:=hc g rfl o u ho
  rw [add_none] at this
  rw [Nat.zero_add]
  exact this
theorem lineOb_any (F:Nat→Prop) (g:Gm) (hk:g.kind=2) (hsz:g.size≤1048576) (pn:Option Addr) (nn cn:Nat) (pk:Option Addr) (nk ck:Nat) (w:World) (hF:New F w) (hN:FlSl F w (.slice pn nn cn) g.nums) (hK:GmSl F w (.slice pk nk ck) g.kids) :
  Calls Tryz.prog 86 #[.agg #[.int .i64 2,.int .i64 g.dim,.slice pn nn cn,.slice pk nk ck]] w (IsOb F w 2 (newOf g)):=by
 have hnl:=hN.len.1
 have hs:=g.size_eq
 have h0:=wd_bd (ct g.dim)
 have hc:=ct_le g.dim
 refine (line_any F pn nn cn g.nums g.dim pk nk ck w hF hN (by omega)).mono ?_
 rintro e w1 ⟨p,n,cap,rfl,hf,hb⟩
 have hl:=hf.len.1
 have hw:(wholeNums (ct g.dim) g.nums).length=g.nums.length - g.nums.length % wd (ct g.dim):=by
  unfold wholeNums
  rw [List.length_take]
  omega
 have hd:=Nat.div_add_mod g.nums.length (wd (ct g.dim))
 have e1:g.nums.length - g.nums.length % wd (ct g.dim)=g.nums.length / wd (ct g.dim)*wd (ct g.dim):=by rw [Nat.mul_comm];omega
 have he:newOf g=.mk 2 (ct g.dim) (wholeNums (ct g.dim) g.nums) []:=by
  cases g with
  | mk k d ns ks =>
   simp only [Gm.kind] at hk
   subst hk
   have hk2:kindOf 2=2:=by decide
   rw [newOf,hk2,if_pos (Or.inr rfl),if_neg (by decide)]
   unfold wholeNums
   simp only [Gm.nums,Gm.dim] at e1 ⊢
   rw [e1]
 rw [he]
 refine ⟨_,rfl,.line (ct g.dim) p n cap _ hc hf ?_ ?_,hb⟩
 ·rw [← hl,hw,e1]
  exact Nat.mul_mod_left _ _
 ·rw [← hl,hw,e1,Nat.mul_div_cancel _ (by omega)]
  exact Nat.le_trans (Nat.div_le_self _ _) (by omega)
theorem pointOb_any (F:Nat→Prop) (g:Gm) (hk:g.kind=1) (hsz:g.size≤1048576) (pn:Option Addr) (nn cn:Nat) (pk:Option Addr) (nk ck:Nat) (w:World) (hF:New F w) (hN:FlSl F w (.slice pn nn cn) g.nums) (hK:GmSl F w (.slice pk nk ck) g.kids) :
  Calls Tryz.prog 85 #[.agg #[.int .i64 1,.int .i64 g.dim,.slice pn nn cn,.slice pk nk ck]] w (IsOb F w 1 (newOf g)):=by
 have hnl:=hN.len.1
 have hs:=g.size_eq
 have he:newOf g=newPt (ct g.dim) g.nums:=by
  cases g with
  | mk k d ns ks =>
   simp only [Gm.kind] at hk
   subst hk
   have hk2:kindOf 1=1:=by decide
   rw [newOf,hk2,if_pos (Or.inl rfl),if_pos rfl]
   rfl
 rw [he]
 exact point_any F g.dim pn nn cn g.nums pk nk ck w hF hN (by omega)
theorem Ob.ofSl {F:Nat→Prop} {w:World} {s e k c:Nat} {cs:List Value} {g:Gm} (h:Ob F w s cs g) (he:partOf s=some (e,k)):∃ (p:Option Addr) (n cap c:Nat),cs=[.slice p n cap,.int .u8 c]:=by
 obtain ⟨p,cap,c,gs,rfl,_⟩:=h.sl he
 exact ⟨p,_,cap,c,rfl⟩
set_option maxHeartbeats 8000000 in
set_option maxRecDepth 100000 in
theorem polygonOb_any (F:Nat→Prop) (g:Gm) (hk:g.kind=3) (hsz:g.size≤1048576) (pn:Option Addr) (nn cn:Nat) (pk:Option Addr) (nk ck:Nat) (w:World) (hF:New F w) (hN:FlSl F w (.slice pn nn cn) g.nums) (hK:GmSl F w (.slice pk nk ck) g.kids) :
  Calls Tryz.prog 87 #[.agg #[.int .i64 3,.int .i64 g.dim,.slice pn nn cn,.slice pk nk ck]] w (IsOb F w 3 (newOf g)):=by
 have hnew:=newOf_parts g 3 (by rw [hk];decide) (by decide) (by decide)
 have hko:kidOf (3:Nat)=2:=by decide
 rw [hko] at hnew
 have HNEW:=Lib.hid hnew
 obtain ⟨_,_,hve,hkl,hkc⟩:=hK.isSlice
 cases hve
 have hszq:=g.size_eq
 have hlen:=Gm.len_sizes g.kids
 have HK:=Lib.hid hK
 have HKS:Hid (∀ k ∈ g.kids,k.size≤1048576):=Lib.hid fun k hk=>by
  have:=Gm.size_mem hk
  omega
 have hm31:g.kids.length≤1048576:=by omega
 have HDO:=Lib.hid (dimOf_any g.dim)
 have hct:=ct_le g.dim
 clear hN hK hnew hko hszq hlen hsz
 generalize hdd:ct g.dim=cd at *
 generalize hdim:g.dim=dim at *
 generalize hks:g.kids=ks at *
 have HNW:Hid (newOf g=if (newAll 2 ks).isEmpty then .mk 3 cd [] [] else .mk 3 (common (newAll 2 ks)) [] ((newAll 2 ks).map (force (common (newAll 2 ks))))):=HNEW
 clear HNEW hks hdim hk
 generalize hm:ks.length=m at *
 have HM:=Lib.hid hm
 clear hm
 obtain ⟨i0,hi,hz0,hz1,hz2⟩:=info_parts infoLn
 go_enter Tryz.func87,Tryz.ntmps87
 go_wp2
 go_loopw [3,9] (fun rv iv wr=>∃ (i t:Nat) (pr:Option Addr) (cr:Nat) (xs:List Value),rv=.slice pr t cr∧iv=.int .i64 i∧i≤m∧t≤i∧(newAll 2 (ks.take i)).length=t∧Bel w wr∧w.heap.size+2≤wr.heap.size∧Blk wr w.heap.size #[.int .i64 3,.int .i64 dim,.slice pn nn cn,.slice pk m ck] 25∧Blk wr (w.heap.size+1) #[.slice none 0 0,.int .u8 0] 91∧wr.ownsRow (w.heap.size+2) 111 2 (.slice pr t cr) t xs∧RowOb (fun b=>((F b∧b<w.heap.size)∨w.heap.size+2≤b)∧Value.ownBlock (.slice pr t cr) ≠ some b) wr (fun o=>xs[o]?) 2 2 (newAll 2 (ks.take i))) (fun _ iv _=>m - (intOf iv).toNat)
 case atStart=>exact ⟨0,0,none,0,[],rfl,rfl,Nat.zero_le _,Nat.le_refl _,by simp [newAll],by exact EL,by simp,by exact KL,by exact KL,World.ownsRow_nil _ _ _ _,fun i g hg=>by simp [newAll] at hg⟩
 case round =>
  obtain ⟨i,t,pr,cr,xs,rfl,rfl,hi',hti,hlt',hbel,hgrow,hb1,hb2,hown,hrow⟩:=hrel
  have HBEL:=Lib.hid hbel
  have HGROW:=Lib.hid hgrow
  have HG1:=Lib.hid hb1
  have HG2:=Lib.hid hb2
  have HOWN:=Lib.hid hown
  have HROW:=Lib.hid hrow
  have HLT:=Lib.hid hlt'
  obtain ⟨r1,z1,l1⟩:=hb1.facts
  obtain ⟨r2,z2,l2⟩:=hb2.facts
  clear hb1 hb2 hown hrow hlt'
  by_cases him:i<m
  ·obtain ⟨kd,hkd⟩:∃ kd,ks[i]?=some kd:=⟨_,List.getElem?_eq_getElem (by have:=HM.out;omega)⟩
   have hmem:kd ∈ ks:=List.mem_iff_getElem?.2 ⟨i,hkd⟩
   obtain ⟨b,off,pn',nn',cn',pk',nk',ck',rfl,hlt,-,d0,d1,d2,d3,hf,hg'⟩:=HK.out.at hkd
   have D0:=cell_kept hbel d0
   have D1:=cell_kept hbel d1
   have D2:=cell_kept hbel d2
   have D3:=cell_kept hbel d3
   have hbl:b<wr.heap.size:=Nat.lt_of_lt_of_le hlt hbel.size
   have hsn:=newAll_take (want:=2) hkd
   have hnk:=newOf_kind kd
   have HCE:Hid (kd.kind=2→∀ W,Bel w W→Calls Tryz.prog 86 #[.agg #[.int .i64 2,.int .i64 kd.dim,.slice pn' nn' cn',.slice pk' nk' ck']] W (IsOb (fun b=>W.heap.size≤b∨(F b∧b<w.heap.size)) W 2 (newOf kd))):=Lib.hid fun hkk W hW=>lineOb_any _ kd hkk (HKS.out kd hmem) pn' nn' cn' pk' nk' ck' W (fun b hb=>Or.inl hb) ((hf.keep hW.size (fun b _ hl=>hW.block b hl) fun b hl hb=>Or.inr ⟨hb,hl⟩)) ((hg'.keep hW.size (fun b _ hl=>hW.block b hl) fun b hl hb=>Or.inr ⟨hb,hl⟩))
   by_cases hkk:kd.kind=2
   ·have hsn2:newAll 2 (ks.take (i+1))=newAll 2 (ks.take i) ++ [newOf kd]:=by
     rw [hsn,if_pos (Or.inr (by rw [hnk,hkk];decide))]
    have HSN:=Lib.hid hsn2
    have HC:=Lib.hid (HCE.out hkk)
    rw [hkk] at D0
    clear hmem d0 d1 d2 d3 hf hg' hbel hkd hsn hnk hsn2 HCE hkk
    generalize kd.dim=kdim at *
    go_wp2_with (first
     | (go_at_call 86;(with_reducible refine (HC.out _ ?hb).mono ?_);(case hb=>exact HBEL.out.alloc _);rintro e w3 ⟨cs,rfl,ho,hb3⟩;have HO:=Lib.hid ho;obtain ⟨d1,p1,n1,q1,xs1,hcs1,-⟩:=ho.ln;cases hcs1;have HB3:Hid (Bel wr w3):=Lib.hid ((Bel.alloc1 wr _).trans hb3);have C1:=HG1.out.bel HB3.out;have C2:=HG2.out.bel HB3.out;have HC1:=Lib.hid C1;have HC2:=Lib.hid C2;clear hb3 ho C1 C2)
     | (at_builtin;refine wpList_append_row _ rfl (.tmp 21) (.tmp 24) 89 rfl (w.heap.size+2) 111 i0 _ 2 32 Tryz.underlying89 hi hz0 hz1 hz2 rfl (by decide) (.slice pr t cr) t xs rfl (own_kept HOWN.out (show Bel wr _ by (have HB:=HB3.out;exact EL))) ⟨w3.heap.size,0,none⟩ 1 1 [.int .u8 d1,.slice p1 n1 q1] rfl rfl (blk_arr (cs:=#[.int .u8 d1,.slice p1 n1 q1]) (t:=111) (by exact KL)) (by simp [Value.oneCell']) (by decide) (by unfold maxLen;omega) (by omega) (by have:=HGROW.out;have:=HB3.out.size;simp;omega) ?_;intro v' w6 ho6 hg6 hb6;obtain ⟨p6,c6,rfl⟩:=ho6.isSlice;have HO6:=Lib.hid ho6;have HG6:=Lib.hid hg6;have HB6:=Lib.hid hb6;have E1:=grownBy_blk hg6 (show Blk _ w.heap.size #[.int .i64 3,.int .i64 dim,.slice pn nn cn,.slice (some ⟨b,off,none⟩) m ck] 25 by (have HB:=HC1.out;exact KL)) (HOWN.out.ne_of_lt (by omega));have E2:=grownBy_blk hg6 (show Blk _ (w.heap.size+1) #[.slice none 0 0,.int .u8 0] 91 by (have HB:=HC2.out;exact KL)) (HOWN.out.ne_of_lt (by omega));have HE1:=Lib.hid E1;have HE2:=Lib.hid E2;clear ho6 hg6 hb6 E1 E2))
    go_roundw
    case rel =>
     have hs3:=HB3.out.size
     have hs6:=HG6.out.size
     have hgr:=HGROW.out
     simp at hs6
     refine ⟨i+1,t+1,p6,c6,_,rfl,by go_num,by omega,by omega,by rw [HSN.out,List.length_append,HLT.out];rfl,?_,?_,HE1.out,HE2.out,HO6.out,?_⟩
     ·exact (show Bel w _ from HBEL.out.trans (show Bel wr _ by (have HB:=HB3.out;exact EL))).of_row HG6.out (fun g hg=>by have:=(HOWN.out.lt g hg).1;omega)
     ·omega
     ·rw [HSN.out]
      have hne:∀ b,b<w3.heap.size→Value.ownBlock (.slice pr t cr) ≠ some b→Value.ownBlock (.slice p6 (t+1) c6) ≠ some b:=fun b hb hn=>by
       rcases HB6.out with h|h
       ·rw [h]
        exact hn
       ·rw [h]
        intro e
        have:=Option.some.inj e
        simp at this
        omega
      have hblk:∀ b,b<w3.heap.size→Value.ownBlock (.slice pr t cr) ≠ some b→w6.heap[b]?=w3.heap[b]?:=fun b hb hn=>by
       rw [HG6.out.block b (by simp;omega) (fun e=>hn e.symm)]
       exact Below.heap_alloc _ _ _ (by simpa using hb)
      refine RowOb.push (t:=t) (cl:=[.int .u8 d1,.slice p1 n1 q1]) (HROW.out.keep (by omega) (fun b hb hl=>?_) fun b hl hb=>⟨hb.1,hne b (by omega) hb.2⟩) HLT.out (fun o u ho hu=>?_) rfl (fun j u hu=>?_) (HO.out.keep (by omega) (fun b hb hl=>?_) fun b hl hb=>⟨?_,?_⟩)
      ·rw [hblk b (by omega) hb.2]
       exact HB3.out.block b hl
      ·show (xs ++ _)[o]?=some u
       rw [List.getElem?_append_left (List.getElem?_eq_some_iff.1 hu).1]
       exact hu
      ·show (xs ++ _)[t*2+j]?=some u
       have hxl:xs.length=t*2:=HOWN.out.1
       rw [List.getElem?_append_right (by omega),hxl,Nat.add_sub_cancel_left]
       exact hu
      ·refine hblk b hl (fun e=>?_)
       have:=HOWN.out.lt b e
       rcases hb with hb|hb
       ·simp at hb
        omega
       ·omega
      ·rcases hb with hb|hb
       ·exact Or.inr (by simp at hb;omega)
       ·exact Or.inl hb
      ·refine hne b hl (fun e=>?_)
       have:=HOWN.out.lt b e
       rcases hb with hb|hb
       ·simp at hb
        omega
       ·omega
    case measure=>simp [intOf];omega
   ·have hsn2:newAll 2 (ks.take (i+1))=newAll 2 (ks.take i):=by
     rw [hsn,if_neg (by
      rw [hnk]
      intro h
      rcases h with h|h
      ·omega
      ·exact hkk ((kindOf_eq (by decide) (by decide)).1 h.symm)),List.append_nil]
    have HSN:=Lib.hid hsn2
    have hk0:(kd.kind == 2)=false:=by simpa using hkk
    clear hmem d0 d1 d2 d3 hf hg' hbel hkd hsn hnk hsn2 HCE hkk
    generalize kd.dim=kdim at *
    generalize kd.kind=kkind at *
    go_wp2
    go_roundw
    case rel =>
     have hgr:=HGROW.out
     refine ⟨i+1,t,pr,cr,xs,rfl,by go_num,by omega,by omega,by rw [HSN.out];exact HLT.out,HBEL.out.alloc _,by simp;omega,HG1.out.alloc _,HG2.out.alloc _,own_kept HOWN.out (Bel.alloc1 _ _),?_⟩
     rw [HSN.out]
     exact HROW.out.keep (by simp) (fun b _ hl=>(Bel.alloc1 wr _).block b hl) fun b _ hb=>hb
    case measure=>simp [intOf];omega
  ·obtain rfl:i=m:=by omega
   have hall:ks.take i=ks:=List.take_of_length_le (by have:=HM.out;omega)
   rw [hall] at HLT HROW
   have hgr:=HGROW.out
   have HSL:Hid (ObSl (fun b=>(F b∧b<w.heap.size)∨w.heap.size+2≤b) wr 2 2 (.slice pr t cr) (newAll 2 ks)):=Lib.hid (own_obs HOWN.out (HROW.out.keep (Nat.le_refl _) (fun _ _ _=>rfl) fun b _ hb=>hb.1) HLT.out fun b hb=>Or.inr (HOWN.out.lt b hb).1)
   clear hall hbel
   by_cases ht0:t=0
   ·subst ht0
    have hnil:newAll 2 ks=[]:=List.length_eq_zero_iff.1 HLT.out
    have HR:Hid (newOf g=.mk 3 cd [] []):=Lib.hid (by rw [HNW.out,hnil];rfl)
    have HFC:Hid (∀ W,Bel wr W→Calls Tryz.prog 168 #[.agg #[.slice none 0 0,.int .u8 0],.int .u8 cd] W (IsOb (fun b=>W.heap.size≤b) W 3 (newOf g))):=Lib.hid fun W hW=>by
     have h:=polygonForce_any (fun b=>W.heap.size≤b) [.slice none 0 0,.int .u8 0] (.mk 3 0 [] []) cd hct W (fun b hb=>hb) (.parts 3 2 2 0 none 0 [] (fun _=>[]) rfl (by decide) (Nat.zero_le _) (by decide) (by decide) (fun h=>absurd rfl h) (fun i g h=>by simp at h) (fun i g h=>by simp at h))
     have e:force cd (.mk 3 0 [] [])=newOf g:=by
      rw [HR.out]
      exact force_parts (s:=3) (by decide) (by decide) 0 cd []
     rw [e] at h
     exact h
    clear hnil
    go_wp2_with (first
     | (go_at_call 166;refine (HDO.out _).mono ?_;rintro e w' ⟨rfl,rfl⟩)
     | (go_at_call 168;(with_reducible refine (HFC.out _ (Bel.refl _)).mono ?_);rintro e w4 ⟨cs,rfl,ho,hb4⟩;have HO:=Lib.hid ho;obtain ⟨p9,n9,q9,d9,hcs9⟩:=ho.ofSl (c:=0) (e:=2) (k:=2) rfl;cases hcs9;have C2:=HG2.out.bel hb4;have HC2:=Lib.hid C2;obtain ⟨s2,t2,m2⟩:=C2.facts;have HB4:Hid (Bel w w4):=Lib.hid (HBEL.out.trans hb4);clear hb4 ho C2))
    refine post_ret (results_one rfl (resIs_agg (n:=2) (cs:=#[.slice p9 n9 q9,.int .u8 d9]) (by rfl) Tryz.underlying91 (by kernel_rfl) (T:=91) ?_ rfl)) ⟨_,rfl,HO.out.keep (by simp) (fun b hb hl=>?_) (fun b _ hb=>hF b (by omega)),?_⟩
    ·have HB:=HC2.out
     exact SL
    ·rw [Below.heap_setCell _ _ _ _ (by simp;omega),Below.heap_setCell _ _ _ _ (by simp;omega)]
    ·have HB:=HB4.out
     exact EL
   ·have htz:((t:Int) == 0)=false:=by simp;omega
    have hne:(newAll 2 ks).isEmpty=false:=by
     have:=HLT.out
     cases hq:newAll 2 ks with
     | nil=>rw [hq] at this;simp at this;omega
     | cons a r=>rfl
    have HR:Hid (newOf g=.mk 3 (common (newAll 2 ks)) [] ((newAll 2 ks).map (force (common (newAll 2 ks))))):=Lib.hid (by rw [HNW.out,hne];rfl)
    have HNC:Hid (Calls Tryz.prog 106 #[.slice pr t cr] wr (IsOb (fun b=>(F b∧b<w.heap.size)∨w.heap.size+2≤b) wr 3 (newOf g))):=Lib.hid (by
     rw [HR.out]
     exact newPolygon_any _ pr t cr _ wr (fun b hb=>Or.inr (by omega)) HSL.out (by omega) (by omega))
    clear hne
    go_wp2_with (go_at_call 106;(with_reducible refine HNC.out.mono ?_);rintro e w4 ⟨cs,rfl,ho,hb4⟩;have HO:=Lib.hid ho;obtain ⟨p9,n9,q9,d9,hcs9⟩:=ho.ofSl (c:=0) (e:=2) (k:=2) rfl;cases hcs9;have C2:=HG2.out.bel hb4;have HC2:=Lib.hid C2;obtain ⟨s2,t2,m2⟩:=C2.facts;have HB4:Hid (Bel w w4):=Lib.hid (HBEL.out.trans hb4);clear hb4 ho C2)
    refine post_ret (results_one rfl (resIs_agg (n:=2) (cs:=#[.slice p9 n9 q9,.int .u8 d9]) (by rfl) Tryz.underlying91 (by kernel_rfl) (T:=91) ?_ rfl)) ⟨_,rfl,HO.out.keep (by simp) (fun b hb hl=>?_) (fun b _ hb=>?_),?_⟩
    ·have HB:=HC2.out
     exact SL
    ·rw [Below.heap_setCell _ _ _ _ (by simp;omega),Below.heap_setCell _ _ _ _ (by simp;omega)]
    ·rcases hb with hb|hb
     ·exact hb.1
     ·exact hF b (by omega)
    ·have HB:=HB4.out
     exact EL
set_option maxHeartbeats 8000000 in
set_option maxRecDepth 100000 in
theorem multiPointOb_any (F:Nat→Prop) (g:Gm) (hk:g.kind=4) (hsz:g.size≤1048576) (pn:Option Addr) (nn cn:Nat) (pk:Option Addr) (nk ck:Nat) (w:World) (hF:New F w) (hN:FlSl F w (.slice pn nn cn) g.nums) (hK:GmSl F w (.slice pk nk ck) g.kids) :
  Calls Tryz.prog 88 #[.agg #[.int .i64 4,.int .i64 g.dim,.slice pn nn cn,.slice pk nk ck]] w (IsOb F w 4 (newOf g)):=by
 have hnew:=newOf_parts g 4 (by rw [hk];decide) (by decide) (by decide)
 have hko:kidOf (4:Nat)=1:=by decide
 rw [hko] at hnew
 have HNEW:=Lib.hid hnew
 obtain ⟨_,_,hve,hkl,hkc⟩:=hK.isSlice
 cases hve
 have hszq:=g.size_eq
 have hlen:=Gm.len_sizes g.kids
 have HK:=Lib.hid hK
 have HKS:Hid (∀ k ∈ g.kids,k.size≤1048576):=Lib.hid fun k hk=>by
  have:=Gm.size_mem hk
  omega
 have hm31:g.kids.length≤1048576:=by omega
 have HDO:=Lib.hid (dimOf_any g.dim)
 have hct:=ct_le g.dim
 clear hN hK hnew hko hszq hlen hsz
 generalize hdd:ct g.dim=cd at *
 generalize hdim:g.dim=dim at *
 generalize hks:g.kids=ks at *
 have HNW:Hid (newOf g=if (newAll 1 ks).isEmpty then .mk 4 cd [] [] else .mk 4 (common (newAll 1 ks)) [] ((newAll 1 ks).map (force (common (newAll 1 ks))))):=HNEW
 clear HNEW hks hdim hk
 generalize hm:ks.length=m at *
 have HM:=Lib.hid hm
 clear hm
 obtain ⟨i0,hi,hz0,hz1,hz2⟩:=info_parts infoPt
 go_enter Tryz.func88,Tryz.ntmps88
 go_wp2
 go_loopw [3,9] (fun rv iv wr=>∃ (i t:Nat) (pr:Option Addr) (cr:Nat) (xs:List Value),rv=.slice pr t cr∧iv=.int .i64 i∧i≤m∧t≤i∧(newAll 1 (ks.take i)).length=t∧Bel w wr∧w.heap.size+2≤wr.heap.size∧Blk wr w.heap.size #[.int .i64 4,.int .i64 dim,.slice pn nn cn,.slice pk m ck] 25∧Blk wr (w.heap.size+1) #[.slice none 0 0,.int .u8 0] 121∧wr.ownsRow (w.heap.size+2) 107 6 (.slice pr t cr) t xs∧RowOb (fun b=>((F b∧b<w.heap.size)∨w.heap.size+2≤b)∧Value.ownBlock (.slice pr t cr) ≠ some b) wr (fun o=>xs[o]?) 1 6 (newAll 1 (ks.take i))) (fun _ iv _=>m - (intOf iv).toNat)
 case atStart=>exact ⟨0,0,none,0,[],rfl,rfl,Nat.zero_le _,Nat.le_refl _,by simp [newAll],by exact EL,by simp,by exact KL,by exact KL,World.ownsRow_nil _ _ _ _,fun i g hg=>by simp [newAll] at hg⟩
 case round =>
  obtain ⟨i,t,pr,cr,xs,rfl,rfl,hi',hti,hlt',hbel,hgrow,hb1,hb2,hown,hrow⟩:=hrel
  have HBEL:=Lib.hid hbel
  have HGROW:=Lib.hid hgrow
  have HG1:=Lib.hid hb1
  have HG2:=Lib.hid hb2
  have HOWN:=Lib.hid hown
  have HROW:=Lib.hid hrow
  have HLT:=Lib.hid hlt'
  obtain ⟨r1,z1,l1⟩:=hb1.facts
  obtain ⟨r2,z2,l2⟩:=hb2.facts
  clear hb1 hb2 hown hrow hlt'
  by_cases him:i<m
  ·obtain ⟨kd,hkd⟩:∃ kd,ks[i]?=some kd:=⟨_,List.getElem?_eq_getElem (by have:=HM.out;omega)⟩
   have hmem:kd ∈ ks:=List.mem_iff_getElem?.2 ⟨i,hkd⟩
   obtain ⟨b,off,pn',nn',cn',pk',nk',ck',rfl,hlt,-,d0,d1,d2,d3,hf,hg'⟩:=HK.out.at hkd
   have D0:=cell_kept hbel d0
   have D1:=cell_kept hbel d1
   have D2:=cell_kept hbel d2
   have D3:=cell_kept hbel d3
   have hbl:b<wr.heap.size:=Nat.lt_of_lt_of_le hlt hbel.size
   have hsn:=newAll_take (want:=1) hkd
   have hnk:=newOf_kind kd
   have HCE:Hid (kd.kind=1→∀ W,Bel w W→Calls Tryz.prog 85 #[.agg #[.int .i64 1,.int .i64 kd.dim,.slice pn' nn' cn',.slice pk' nk' ck']] W (IsOb (fun b=>W.heap.size≤b∨(F b∧b<w.heap.size)) W 1 (newOf kd))):=Lib.hid fun hkk W hW=>pointOb_any _ kd hkk (HKS.out kd hmem) pn' nn' cn' pk' nk' ck' W (fun b hb=>Or.inl hb) ((hf.keep hW.size (fun b _ hl=>hW.block b hl) fun b hl hb=>Or.inr ⟨hb,hl⟩)) ((hg'.keep hW.size (fun b _ hl=>hW.block b hl) fun b hl hb=>Or.inr ⟨hb,hl⟩))
   by_cases hkk:kd.kind=1
   ·have hsn2:newAll 1 (ks.take (i+1))=newAll 1 (ks.take i) ++ [newOf kd]:=by
     rw [hsn,if_pos (Or.inr (by rw [hnk,hkk];decide))]
    have HSN:=Lib.hid hsn2
    have HC:=Lib.hid (HCE.out hkk)
    rw [hkk] at D0
    clear hmem d0 d1 d2 d3 hf hg' hbel hkd hsn hnk hsn2 HCE hkk
    generalize kd.dim=kdim at *
    go_wp2_with (first
     | (go_at_call 85;(with_reducible refine (HC.out _ ?hb).mono ?_);(case hb=>exact HBEL.out.alloc _);rintro e w3 ⟨cs,rfl,ho,hb3⟩;have HO:=Lib.hid ho;obtain ⟨x1,y1,a1,m1,d1,f1,hcs1,-⟩:=ho.pt;cases hcs1;have HB3:Hid (Bel wr w3):=Lib.hid ((Bel.alloc1 wr _).trans hb3);have C1:=HG1.out.bel HB3.out;have C2:=HG2.out.bel HB3.out;have HC1:=Lib.hid C1;have HC2:=Lib.hid C2;clear hb3 ho C1 C2)
     | (at_builtin;refine wpList_append_row _ rfl (.tmp 21) (.tmp 24) 119 rfl (w.heap.size+2) 107 i0 _ 6 48 Tryz.underlying119 hi hz0 hz1 hz2 rfl (by decide) (.slice pr t cr) t xs rfl (own_kept HOWN.out (show Bel wr _ by (have HB:=HB3.out;exact EL))) ⟨w3.heap.size,0,none⟩ 1 1 [.float .f64 x1,.float .f64 y1,.float .f64 a1,.float .f64 m1,.int .u8 d1,.bool f1] rfl rfl (blk_arr (cs:=#[.float .f64 x1,.float .f64 y1,.float .f64 a1,.float .f64 m1,.int .u8 d1,.bool f1]) (t:=107) (by exact KL)) (by simp [Value.oneCell']) (by decide) (by unfold maxLen;omega) (by omega) (by have:=HGROW.out;have:=HB3.out.size;simp;omega) ?_;intro v' w6 ho6 hg6 hb6;obtain ⟨p6,c6,rfl⟩:=ho6.isSlice;have HO6:=Lib.hid ho6;have HG6:=Lib.hid hg6;have HB6:=Lib.hid hb6;have E1:=grownBy_blk hg6 (show Blk _ w.heap.size #[.int .i64 4,.int .i64 dim,.slice pn nn cn,.slice (some ⟨b,off,none⟩) m ck] 25 by (have HB:=HC1.out;exact KL)) (HOWN.out.ne_of_lt (by omega));have E2:=grownBy_blk hg6 (show Blk _ (w.heap.size+1) #[.slice none 0 0,.int .u8 0] 121 by (have HB:=HC2.out;exact KL)) (HOWN.out.ne_of_lt (by omega));have HE1:=Lib.hid E1;have HE2:=Lib.hid E2;clear ho6 hg6 hb6 E1 E2))
    go_roundw
    case rel =>
     have hs3:=HB3.out.size
     have hs6:=HG6.out.size
     have hgr:=HGROW.out
     simp at hs6
     refine ⟨i+1,t+1,p6,c6,_,rfl,by go_num,by omega,by omega,by rw [HSN.out,List.length_append,HLT.out];rfl,?_,?_,HE1.out,HE2.out,HO6.out,?_⟩
     ·exact (show Bel w _ from HBEL.out.trans (show Bel wr _ by (have HB:=HB3.out;exact EL))).of_row HG6.out (fun g hg=>by have:=(HOWN.out.lt g hg).1;omega)
     ·omega
     ·rw [HSN.out]
      have hne:∀ b,b<w3.heap.size→Value.ownBlock (.slice pr t cr) ≠ some b→Value.ownBlock (.slice p6 (t+1) c6) ≠ some b:=fun b hb hn=>by
       rcases HB6.out with h|h
       ·rw [h]
        exact hn
       ·rw [h]
        intro e
        have:=Option.some.inj e
        simp at this
        omega
      have hblk:∀ b,b<w3.heap.size→Value.ownBlock (.slice pr t cr) ≠ some b→w6.heap[b]?=w3.heap[b]?:=fun b hb hn=>by
       rw [HG6.out.block b (by simp;omega) (fun e=>hn e.symm)]
       exact Below.heap_alloc _ _ _ (by simpa using hb)
      refine RowOb.push (t:=t) (cl:=[.float .f64 x1,.float .f64 y1,.float .f64 a1,.float .f64 m1,.int .u8 d1,.bool f1]) (HROW.out.keep (by omega) (fun b hb hl=>?_) fun b hl hb=>⟨hb.1,hne b (by omega) hb.2⟩) HLT.out (fun o u ho hu=>?_) rfl (fun j u hu=>?_) (HO.out.keep (by omega) (fun b hb hl=>?_) fun b hl hb=>⟨?_,?_⟩)
      ·rw [hblk b (by omega) hb.2]
       exact HB3.out.block b hl
      ·show (xs ++ _)[o]?=some u
       rw [List.getElem?_append_left (List.getElem?_eq_some_iff.1 hu).1]
       exact hu
      ·show (xs ++ _)[t*6+j]?=some u
       have hxl:xs.length=t*6:=HOWN.out.1
       rw [List.getElem?_append_right (by omega),hxl,Nat.add_sub_cancel_left]
       exact hu
      ·refine hblk b hl (fun e=>?_)
       have:=HOWN.out.lt b e
       rcases hb with hb|hb
       ·simp at hb
        omega
       ·omega
      ·rcases hb with hb|hb
       ·exact Or.inr (by simp at hb;omega)
       ·exact Or.inl hb
      ·refine hne b hl (fun e=>?_)
       have:=HOWN.out.lt b e
       rcases hb with hb|hb
       ·simp at hb
        omega
       ·omega
    case measure=>simp [intOf];omega
   ·have hsn2:newAll 1 (ks.take (i+1))=newAll 1 (ks.take i):=by
     rw [hsn,if_neg (by
      rw [hnk]
      intro h
      rcases h with h|h
      ·omega
      ·exact hkk ((kindOf_eq (by decide) (by decide)).1 h.symm)),List.append_nil]
    have HSN:=Lib.hid hsn2
    have hk0:(kd.kind == 1)=false:=by simpa using hkk
    clear hmem d0 d1 d2 d3 hf hg' hbel hkd hsn hnk hsn2 HCE hkk
    generalize kd.dim=kdim at *
    generalize kd.kind=kkind at *
    go_wp2
    go_roundw
    case rel =>
     have hgr:=HGROW.out
     refine ⟨i+1,t,pr,cr,xs,rfl,by go_num,by omega,by omega,by rw [HSN.out];exact HLT.out,HBEL.out.alloc _,by simp;omega,HG1.out.alloc _,HG2.out.alloc _,own_kept HOWN.out (Bel.alloc1 _ _),?_⟩
     rw [HSN.out]
     exact HROW.out.keep (by simp) (fun b _ hl=>(Bel.alloc1 wr _).block b hl) fun b _ hb=>hb
    case measure=>simp [intOf];omega
  ·obtain rfl:i=m:=by omega
   have hall:ks.take i=ks:=List.take_of_length_le (by have:=HM.out;omega)
   rw [hall] at HLT HROW
   have hgr:=HGROW.out
   have HSL:Hid (ObSl (fun b=>(F b∧b<w.heap.size)∨w.heap.size+2≤b) wr 1 6 (.slice pr t cr) (newAll 1 ks)):=Lib.hid (own_obs HOWN.out (HROW.out.keep (Nat.le_refl _) (fun _ _ _=>rfl) fun b _ hb=>hb.1) HLT.out fun b hb=>Or.inr (HOWN.out.lt b hb).1)
   clear hall hbel
   by_cases ht0:t=0
   ·subst ht0
    have hnil:newAll 1 ks=[]:=List.length_eq_zero_iff.1 HLT.out
    have HR:Hid (newOf g=.mk 4 cd [] []):=Lib.hid (by rw [HNW.out,hnil];rfl)
    have HFC:Hid (∀ W,Bel wr W→Calls Tryz.prog 169 #[.agg #[.slice none 0 0,.int .u8 0],.int .u8 cd] W (IsOb (fun b=>W.heap.size≤b) W 4 (newOf g))):=Lib.hid fun W hW=>by
     have h:=multiPointForce_any (fun b=>W.heap.size≤b) [.slice none 0 0,.int .u8 0] (.mk 4 0 [] []) cd hct W (fun b hb=>hb) (.parts 4 1 6 0 none 0 [] (fun _=>[]) rfl (by decide) (Nat.zero_le _) (by decide) (by decide) (fun h=>absurd rfl h) (fun i g h=>by simp at h) (fun i g h=>by simp at h))
     have e:force cd (.mk 4 0 [] [])=newOf g:=by
      rw [HR.out]
      exact force_parts (s:=4) (by decide) (by decide) 0 cd []
     rw [e] at h
     exact h
    clear hnil
    go_wp2_with (first
     | (go_at_call 166;refine (HDO.out _).mono ?_;rintro e w' ⟨rfl,rfl⟩)
     | (go_at_call 169;(with_reducible refine (HFC.out _ (Bel.refl _)).mono ?_);rintro e w4 ⟨cs,rfl,ho,hb4⟩;have HO:=Lib.hid ho;obtain ⟨p9,n9,q9,d9,hcs9⟩:=ho.ofSl (c:=0) (e:=1) (k:=6) rfl;cases hcs9;have C2:=HG2.out.bel hb4;have HC2:=Lib.hid C2;obtain ⟨s2,t2,m2⟩:=C2.facts;have HB4:Hid (Bel w w4):=Lib.hid (HBEL.out.trans hb4);clear hb4 ho C2))
    refine post_ret (results_one rfl (resIs_agg (n:=2) (cs:=#[.slice p9 n9 q9,.int .u8 d9]) (by rfl) Tryz.underlying121 (by kernel_rfl) (T:=121) ?_ rfl)) ⟨_,rfl,HO.out.keep (by simp) (fun b hb hl=>?_) (fun b _ hb=>hF b (by omega)),?_⟩
    ·have HB:=HC2.out
     exact SL
    ·rw [Below.heap_setCell _ _ _ _ (by simp;omega),Below.heap_setCell _ _ _ _ (by simp;omega)]
    ·have HB:=HB4.out
     exact EL
   ·have htz:((t:Int) == 0)=false:=by simp;omega
    have hne:(newAll 1 ks).isEmpty=false:=by
     have:=HLT.out
     cases hq:newAll 1 ks with
     | nil=>rw [hq] at this;simp at this;omega
     | cons a r=>rfl
    have HR:Hid (newOf g=.mk 4 (common (newAll 1 ks)) [] ((newAll 1 ks).map (force (common (newAll 1 ks))))):=Lib.hid (by rw [HNW.out,hne];rfl)
    have HNC:Hid (Calls Tryz.prog 107 #[.slice pr t cr] wr (IsOb (fun b=>(F b∧b<w.heap.size)∨w.heap.size+2≤b) wr 4 (newOf g))):=Lib.hid (by
     rw [HR.out]
     exact newMultiPoint_any _ pr t cr _ wr (fun b hb=>Or.inr (by omega)) HSL.out (by omega) (by omega))
    clear hne
    go_wp2_with (go_at_call 107;(with_reducible refine HNC.out.mono ?_);rintro e w4 ⟨cs,rfl,ho,hb4⟩;have HO:=Lib.hid ho;obtain ⟨p9,n9,q9,d9,hcs9⟩:=ho.ofSl (c:=0) (e:=1) (k:=6) rfl;cases hcs9;have C2:=HG2.out.bel hb4;have HC2:=Lib.hid C2;obtain ⟨s2,t2,m2⟩:=C2.facts;have HB4:Hid (Bel w w4):=Lib.hid (HBEL.out.trans hb4);clear hb4 ho C2)
    refine post_ret (results_one rfl (resIs_agg (n:=2) (cs:=#[.slice p9 n9 q9,.int .u8 d9]) (by rfl) Tryz.underlying121 (by kernel_rfl) (T:=121) ?_ rfl)) ⟨_,rfl,HO.out.keep (by simp) (fun b hb hl=>?_) (fun b _ hb=>?_),?_⟩
    ·have HB:=HC2.out
     exact SL
    ·rw [Below.heap_setCell _ _ _ _ (by simp;omega),Below.heap_setCell _ _ _ _ (by simp;omega)]
    ·rcases hb with hb|hb
     ·exact hb.1
     ·exact hF b (by omega)
    ·have HB:=HB4.out
     exact EL
set_option maxHeartbeats 8000000 in
set_option maxRecDepth 100000 in
theorem multiLineOb_any (F:Nat→Prop) (g:Gm) (hk:g.kind=5) (hsz:g.size≤1048576) (pn:Option Addr) (nn cn:Nat) (pk:Option Addr) (nk ck:Nat) (w:World) (hF:New F w) (hN:FlSl F w (.slice pn nn cn) g.nums) (hK:GmSl F w (.slice pk nk ck) g.kids) :
  Calls Tryz.prog 90 #[.agg #[.int .i64 5,.int .i64 g.dim,.slice pn nn cn,.slice pk nk ck]] w (IsOb F w 5 (newOf g)):=by
 have hnew:=newOf_parts g 5 (by rw [hk];decide) (by decide) (by decide)
 have hko:kidOf (5:Nat)=2:=by decide
 rw [hko] at hnew
 have HNEW:=Lib.hid hnew
 obtain ⟨_,_,hve,hkl,hkc⟩:=hK.isSlice
 cases hve
 have hszq:=g.size_eq
 have hlen:=Gm.len_sizes g.kids
 have HK:=Lib.hid hK
 have HKS:Hid (∀ k ∈ g.kids,k.size≤1048576):=Lib.hid fun k hk=>by
  have:=Gm.size_mem hk
  omega
 have hm31:g.kids.length≤1048576:=by omega
 have HDO:=Lib.hid (dimOf_any g.dim)
 have hct:=ct_le g.dim
 clear hN hK hnew hko hszq hlen hsz
 generalize hdd:ct g.dim=cd at *
 generalize hdim:g.dim=dim at *
 generalize hks:g.kids=ks at *
 have HNW:Hid (newOf g=if (newAll 2 ks).isEmpty then .mk 5 cd [] [] else .mk 5 (common (newAll 2 ks)) [] ((newAll 2 ks).map (force (common (newAll 2 ks))))):=HNEW
 clear HNEW hks hdim hk
 generalize hm:ks.length=m at *
 have HM:=Lib.hid hm
 clear hm
 obtain ⟨i0,hi,hz0,hz1,hz2⟩:=info_parts infoLn
 go_enter Tryz.func90,Tryz.ntmps90
 go_wp2
 go_loopw [3,9] (fun rv iv wr=>∃ (i t:Nat) (pr:Option Addr) (cr:Nat) (xs:List Value),rv=.slice pr t cr∧iv=.int .i64 i∧i≤m∧t≤i∧(newAll 2 (ks.take i)).length=t∧Bel w wr∧w.heap.size+2≤wr.heap.size∧Blk wr w.heap.size #[.int .i64 5,.int .i64 dim,.slice pn nn cn,.slice pk m ck] 25∧Blk wr (w.heap.size+1) #[.slice none 0 0,.int .u8 0] 125∧wr.ownsRow (w.heap.size+2) 111 2 (.slice pr t cr) t xs∧RowOb (fun b=>((F b∧b<w.heap.size)∨w.heap.size+2≤b)∧Value.ownBlock (.slice pr t cr) ≠ some b) wr (fun o=>xs[o]?) 2 2 (newAll 2 (ks.take i))) (fun _ iv _=>m - (intOf iv).toNat)
 case atStart=>exact ⟨0,0,none,0,[],rfl,rfl,Nat.zero_le _,Nat.le_refl _,by simp [newAll],by exact EL,by simp,by exact KL,by exact KL,World.ownsRow_nil _ _ _ _,fun i g hg=>by simp [newAll] at hg⟩
 case round =>
  obtain ⟨i,t,pr,cr,xs,rfl,rfl,hi',hti,hlt',hbel,hgrow,hb1,hb2,hown,hrow⟩:=hrel
  have HBEL:=Lib.hid hbel
  have HGROW:=Lib.hid hgrow
  have HG1:=Lib.hid hb1
  have HG2:=Lib.hid hb2
  have HOWN:=Lib.hid hown
  have HROW:=Lib.hid hrow
  have HLT:=Lib.hid hlt'
  obtain ⟨r1,z1,l1⟩:=hb1.facts
  obtain ⟨r2,z2,l2⟩:=hb2.facts
  clear hb1 hb2 hown hrow hlt'
  by_cases him:i<m
  ·obtain ⟨kd,hkd⟩:∃ kd,ks[i]?=some kd:=⟨_,List.getElem?_eq_getElem (by have:=HM.out;omega)⟩
   have hmem:kd ∈ ks:=List.mem_iff_getElem?.2 ⟨i,hkd⟩
   obtain ⟨b,off,pn',nn',cn',pk',nk',ck',rfl,hlt,-,d0,d1,d2,d3,hf,hg'⟩:=HK.out.at hkd
   have D0:=cell_kept hbel d0
   have D1:=cell_kept hbel d1
   have D2:=cell_kept hbel d2
   have D3:=cell_kept hbel d3
   have hbl:b<wr.heap.size:=Nat.lt_of_lt_of_le hlt hbel.size
   have hsn:=newAll_take (want:=2) hkd
   have hnk:=newOf_kind kd
   have HCE:Hid (kd.kind=2→∀ W,Bel w W→Calls Tryz.prog 86 #[.agg #[.int .i64 2,.int .i64 kd.dim,.slice pn' nn' cn',.slice pk' nk' ck']] W (IsOb (fun b=>W.heap.size≤b∨(F b∧b<w.heap.size)) W 2 (newOf kd))):=Lib.hid fun hkk W hW=>lineOb_any _ kd hkk (HKS.out kd hmem) pn' nn' cn' pk' nk' ck' W (fun b hb=>Or.inl hb) ((hf.keep hW.size (fun b _ hl=>hW.block b hl) fun b hl hb=>Or.inr ⟨hb,hl⟩)) ((hg'.keep hW.size (fun b _ hl=>hW.block b hl) fun b hl hb=>Or.inr ⟨hb,hl⟩))
   by_cases hkk:kd.kind=2
   ·have hsn2:newAll 2 (ks.take (i+1))=newAll 2 (ks.take i) ++ [newOf kd]:=by
     rw [hsn,if_pos (Or.inr (by rw [hnk,hkk];decide))]
    have HSN:=Lib.hid hsn2
    have HC:=Lib.hid (HCE.out hkk)
    rw [hkk] at D0
    clear hmem d0 d1 d2 d3 hf hg' hbel hkd hsn hnk hsn2 HCE hkk
    generalize kd.dim=kdim at *
    go_wp2_with (first
     | (go_at_call 86;(with_reducible refine (HC.out _ ?hb).mono ?_);(case hb=>exact HBEL.out.alloc _);rintro e w3 ⟨cs,rfl,ho,hb3⟩;have HO:=Lib.hid ho;obtain ⟨d1,p1,n1,q1,xs1,hcs1,-⟩:=ho.ln;cases hcs1;have HB3:Hid (Bel wr w3):=Lib.hid ((Bel.alloc1 wr _).trans hb3);have C1:=HG1.out.bel HB3.out;have C2:=HG2.out.bel HB3.out;have HC1:=Lib.hid C1;have HC2:=Lib.hid C2;clear hb3 ho C1 C2)
     | (at_builtin;refine wpList_append_row _ rfl (.tmp 21) (.tmp 24) 89 rfl (w.heap.size+2) 111 i0 _ 2 32 Tryz.underlying89 hi hz0 hz1 hz2 rfl (by decide) (.slice pr t cr) t xs rfl (own_kept HOWN.out (show Bel wr _ by (have HB:=HB3.out;exact EL))) ⟨w3.heap.size,0,none⟩ 1 1 [.int .u8 d1,.slice p1 n1 q1] rfl rfl (blk_arr (cs:=#[.int .u8 d1,.slice p1 n1 q1]) (t:=111) (by exact KL)) (by simp [Value.oneCell']) (by decide) (by unfold maxLen;omega) (by omega) (by have:=HGROW.out;have:=HB3.out.size;simp;omega) ?_;intro v' w6 ho6 hg6 hb6;obtain ⟨p6,c6,rfl⟩:=ho6.isSlice;have HO6:=Lib.hid ho6;have HG6:=Lib.hid hg6;have HB6:=Lib.hid hb6;have E1:=grownBy_blk hg6 (show Blk _ w.heap.size #[.int .i64 5,.int .i64 dim,.slice pn nn cn,.slice (some ⟨b,off,none⟩) m ck] 25 by (have HB:=HC1.out;exact KL)) (HOWN.out.ne_of_lt (by omega));have E2:=grownBy_blk hg6 (show Blk _ (w.heap.size+1) #[.slice none 0 0,.int .u8 0] 125 by (have HB:=HC2.out;exact KL)) (HOWN.out.ne_of_lt (by omega));have HE1:=Lib.hid E1;have HE2:=Lib.hid E2;clear ho6 hg6 hb6 E1 E2))
    go_roundw
    case rel =>
     have hs3:=HB3.out.size
     have hs6:=HG6.out.size
     have hgr:=HGROW.out
     simp at hs6
     refine ⟨i+1,t+1,p6,c6,_,rfl,by go_num,by omega,by omega,by rw [HSN.out,List.length_append,HLT.out];rfl,?_,?_,HE1.out,HE2.out,HO6.out,?_⟩
     ·exact (show Bel w _ from HBEL.out.trans (show Bel wr _ by (have HB:=HB3.out;exact EL))).of_row HG6.out (fun g hg=>by have:=(HOWN.out.lt g hg).1;omega)
     ·omega
     ·rw [HSN.out]
      have hne:∀ b,b<w3.heap.size→Value.ownBlock (.slice pr t cr) ≠ some b→Value.ownBlock (.slice p6 (t+1) c6) ≠ some b:=fun b hb hn=>by
       rcases HB6.out with h|h
       ·rw [h]
        exact hn
       ·rw [h]
        intro e
        have:=Option.some.inj e
        simp at this
        omega
      have hblk:∀ b,b<w3.heap.size→Value.ownBlock (.slice pr t cr) ≠ some b→w6.heap[b]?=w3.heap[b]?:=fun b hb hn=>by
       rw [HG6.out.block b (by simp;omega) (fun e=>hn e.symm)]
       exact Below.heap_alloc _ _ _ (by simpa using hb)
      refine RowOb.push (t:=t) (cl:=[.int .u8 d1,.slice p1 n1 q1]) (HROW.out.keep (by omega) (fun b hb hl=>?_) fun b hl hb=>⟨hb.1,hne b (by omega) hb.2⟩) HLT.out (fun o u ho hu=>?_) rfl (fun j u hu=>?_) (HO.out.keep (by omega) (fun b hb hl=>?_) fun b hl hb=>⟨?_,?_⟩)
      ·rw [hblk b (by omega) hb.2]
       exact HB3.out.block b hl
      ·show (xs ++ _)[o]?=some u
       rw [List.getElem?_append_left (List.getElem?_eq_some_iff.1 hu).1]
       exact hu
      ·show (xs ++ _)[t*2+j]?=some u
       have hxl:xs.length=t*2:=HOWN.out.1
       rw [List.getElem?_append_right (by omega),hxl,Nat.add_sub_cancel_left]
       exact hu
      ·refine hblk b hl (fun e=>?_)
       have:=HOWN.out.lt b e
       rcases hb with hb|hb
       ·simp at hb
        omega
       ·omega
      ·rcases hb with hb|hb
       ·exact Or.inr (by simp at hb;omega)
       ·exact Or.inl hb
      ·refine hne b hl (fun e=>?_)
       have:=HOWN.out.lt b e
       rcases hb with hb|hb
       ·simp at hb
        omega
       ·omega
    case measure=>simp [intOf];omega
   ·have hsn2:newAll 2 (ks.take (i+1))=newAll 2 (ks.take i):=by
     rw [hsn,if_neg (by
      rw [hnk]
      intro h
      rcases h with h|h
      ·omega
      ·exact hkk ((kindOf_eq (by decide) (by decide)).1 h.symm)),List.append_nil]
    have HSN:=Lib.hid hsn2
    have hk0:(kd.kind == 2)=false:=by simpa using hkk
    clear hmem d0 d1 d2 d3 hf hg' hbel hkd hsn hnk hsn2 HCE hkk
    generalize kd.dim=kdim at *
    generalize kd.kind=kkind at *
    go_wp2
    go_roundw
    case rel =>
     have hgr:=HGROW.out
     refine ⟨i+1,t,pr,cr,xs,rfl,by go_num,by omega,by omega,by rw [HSN.out];exact HLT.out,HBEL.out.alloc _,by simp;omega,HG1.out.alloc _,HG2.out.alloc _,own_kept HOWN.out (Bel.alloc1 _ _),?_⟩
     rw [HSN.out]
     exact HROW.out.keep (by simp) (fun b _ hl=>(Bel.alloc1 wr _).block b hl) fun b _ hb=>hb
    case measure=>simp [intOf];omega
  ·obtain rfl:i=m:=by omega
   have hall:ks.take i=ks:=List.take_of_length_le (by have:=HM.out;omega)
   rw [hall] at HLT HROW
   have hgr:=HGROW.out
   have HSL:Hid (ObSl (fun b=>(F b∧b<w.heap.size)∨w.heap.size+2≤b) wr 2 2 (.slice pr t cr) (newAll 2 ks)):=Lib.hid (own_obs HOWN.out (HROW.out.keep (Nat.le_refl _) (fun _ _ _=>rfl) fun b _ hb=>hb.1) HLT.out fun b hb=>Or.inr (HOWN.out.lt b hb).1)
   clear hall hbel
   by_cases ht0:t=0
   ·subst ht0
    have hnil:newAll 2 ks=[]:=List.length_eq_zero_iff.1 HLT.out
    have HR:Hid (newOf g=.mk 5 cd [] []):=Lib.hid (by rw [HNW.out,hnil];rfl)
    have HFC:Hid (∀ W,Bel wr W→Calls Tryz.prog 170 #[.agg #[.slice none 0 0,.int .u8 0],.int .u8 cd] W (IsOb (fun b=>W.heap.size≤b) W 5 (newOf g))):=Lib.hid fun W hW=>by
     have h:=multiLineForce_any (fun b=>W.heap.size≤b) [.slice none 0 0,.int .u8 0] (.mk 5 0 [] []) cd hct W (fun b hb=>hb) (.parts 5 2 2 0 none 0 [] (fun _=>[]) rfl (by decide) (Nat.zero_le _) (by decide) (by decide) (fun h=>absurd rfl h) (fun i g h=>by simp at h) (fun i g h=>by simp at h))
     have e:force cd (.mk 5 0 [] [])=newOf g:=by
      rw [HR.out]
      exact force_parts (s:=5) (by decide) (by decide) 0 cd []
     rw [e] at h
     exact h
    clear hnil
    go_wp2_with (first
     | (go_at_call 166;refine (HDO.out _).mono ?_;rintro e w' ⟨rfl,rfl⟩)
     | (go_at_call 170;(with_reducible refine (HFC.out _ (Bel.refl _)).mono ?_);rintro e w4 ⟨cs,rfl,ho,hb4⟩;have HO:=Lib.hid ho;obtain ⟨p9,n9,q9,d9,hcs9⟩:=ho.ofSl (c:=0) (e:=2) (k:=2) rfl;cases hcs9;have C2:=HG2.out.bel hb4;have HC2:=Lib.hid C2;obtain ⟨s2,t2,m2⟩:=C2.facts;have HB4:Hid (Bel w w4):=Lib.hid (HBEL.out.trans hb4);clear hb4 ho C2))
    refine post_ret (results_one rfl (resIs_agg (n:=2) (cs:=#[.slice p9 n9 q9,.int .u8 d9]) (by rfl) Tryz.underlying125 (by kernel_rfl) (T:=125) ?_ rfl)) ⟨_,rfl,HO.out.keep (by simp) (fun b hb hl=>?_) (fun b _ hb=>hF b (by omega)),?_⟩
    ·have HB:=HC2.out
     exact SL
    ·rw [Below.heap_setCell _ _ _ _ (by simp;omega),Below.heap_setCell _ _ _ _ (by simp;omega)]
    ·have HB:=HB4.out
     exact EL
   ·have htz:((t:Int) == 0)=false:=by simp;omega
    have hne:(newAll 2 ks).isEmpty=false:=by
     have:=HLT.out
     cases hq:newAll 2 ks with
     | nil=>rw [hq] at this;simp at this;omega
     | cons a r=>rfl
    have HR:Hid (newOf g=.mk 5 (common (newAll 2 ks)) [] ((newAll 2 ks).map (force (common (newAll 2 ks))))):=Lib.hid (by rw [HNW.out,hne];rfl)
    have HNC:Hid (Calls Tryz.prog 108 #[.slice pr t cr] wr (IsOb (fun b=>(F b∧b<w.heap.size)∨w.heap.size+2≤b) wr 5 (newOf g))):=Lib.hid (by
     rw [HR.out]
     exact newMultiLine_any _ pr t cr _ wr (fun b hb=>Or.inr (by omega)) HSL.out (by omega) (by omega))
    clear hne
    go_wp2_with (go_at_call 108;(with_reducible refine HNC.out.mono ?_);rintro e w4 ⟨cs,rfl,ho,hb4⟩;have HO:=Lib.hid ho;obtain ⟨p9,n9,q9,d9,hcs9⟩:=ho.ofSl (c:=0) (e:=2) (k:=2) rfl;cases hcs9;have C2:=HG2.out.bel hb4;have HC2:=Lib.hid C2;obtain ⟨s2,t2,m2⟩:=C2.facts;have HB4:Hid (Bel w w4):=Lib.hid (HBEL.out.trans hb4);clear hb4 ho C2)
    refine post_ret (results_one rfl (resIs_agg (n:=2) (cs:=#[.slice p9 n9 q9,.int .u8 d9]) (by rfl) Tryz.underlying125 (by kernel_rfl) (T:=125) ?_ rfl)) ⟨_,rfl,HO.out.keep (by simp) (fun b hb hl=>?_) (fun b _ hb=>?_),?_⟩
    ·have HB:=HC2.out
     exact SL
    ·rw [Below.heap_setCell _ _ _ _ (by simp;omega),Below.heap_setCell _ _ _ _ (by simp;omega)]
    ·rcases hb with hb|hb
     ·exact hb.1
     ·exact hF b (by omega)
    ·have HB:=HB4.out
     exact EL
set_option maxHeartbeats 8000000 in
set_option maxRecDepth 100000 in
theorem multiPolygonOb_any (F:Nat→Prop) (g:Gm) (hk:g.kind=6) (hsz:g.size≤1048576) (pn:Option Addr) (nn cn:Nat) (pk:Option Addr) (nk ck:Nat) (w:World) (hF:New F w) (hN:FlSl F w (.slice pn nn cn) g.nums) (hK:GmSl F w (.slice pk nk ck) g.kids) :
  Calls Tryz.prog 92 #[.agg #[.int .i64 6,.int .i64 g.dim,.slice pn nn cn,.slice pk nk ck]] w (IsOb F w 6 (newOf g)):=by
 have hnew:=newOf_parts g 6 (by rw [hk];decide) (by decide) (by decide)
 have hko:kidOf (6:Nat)=3:=by decide
 rw [hko] at hnew
 have HNEW:=Lib.hid hnew
 obtain ⟨_,_,hve,hkl,hkc⟩:=hK.isSlice
 cases hve
 have hszq:=g.size_eq
 have hlen:=Gm.len_sizes g.kids
 have HK:=Lib.hid hK
 have HKS:Hid (∀ k ∈ g.kids,k.size≤1048576):=Lib.hid fun k hk=>by
  have:=Gm.size_mem hk
  omega
 have hm31:g.kids.length≤1048576:=by omega
 have HDO:=Lib.hid (dimOf_any g.dim)
 have hct:=ct_le g.dim
 clear hN hK hnew hko hszq hlen hsz
 generalize hdd:ct g.dim=cd at *
 generalize hdim:g.dim=dim at *
 generalize hks:g.kids=ks at *
 have HNW:Hid (newOf g=if (newAll 3 ks).isEmpty then .mk 6 cd [] [] else .mk 6 (common (newAll 3 ks)) [] ((newAll 3 ks).map (force (common (newAll 3 ks))))):=HNEW
 clear HNEW hks hdim hk
 generalize hm:ks.length=m at *
 have HM:=Lib.hid hm
 clear hm
 obtain ⟨i0,hi,hz0,hz1,hz2⟩:=info_parts infoPg
 go_enter Tryz.func92,Tryz.ntmps92
 go_wp2
 go_loopw [3,9] (fun rv iv wr=>∃ (i t:Nat) (pr:Option Addr) (cr:Nat) (xs:List Value),rv=.slice pr t cr∧iv=.int .i64 i∧i≤m∧t≤i∧(newAll 3 (ks.take i)).length=t∧Bel w wr∧w.heap.size+2≤wr.heap.size∧Blk wr w.heap.size #[.int .i64 6,.int .i64 dim,.slice pn nn cn,.slice pk m ck] 25∧Blk wr (w.heap.size+1) #[.slice none 0 0,.int .u8 0] 129∧wr.ownsRow (w.heap.size+2) 91 2 (.slice pr t cr) t xs∧RowOb (fun b=>((F b∧b<w.heap.size)∨w.heap.size+2≤b)∧Value.ownBlock (.slice pr t cr) ≠ some b) wr (fun o=>xs[o]?) 3 2 (newAll 3 (ks.take i))) (fun _ iv _=>m - (intOf iv).toNat)
 case atStart=>exact ⟨0,0,none,0,[],rfl,rfl,Nat.zero_le _,Nat.le_refl _,by simp [newAll],by exact EL,by simp,by exact KL,by exact KL,World.ownsRow_nil _ _ _ _,fun i g hg=>by simp [newAll] at hg⟩
 case round =>
  obtain ⟨i,t,pr,cr,xs,rfl,rfl,hi',hti,hlt',hbel,hgrow,hb1,hb2,hown,hrow⟩:=hrel
  have HBEL:=Lib.hid hbel
  have HGROW:=Lib.hid hgrow
  have HG1:=Lib.hid hb1
  have HG2:=Lib.hid hb2
  have HOWN:=Lib.hid hown
  have HROW:=Lib.hid hrow
  have HLT:=Lib.hid hlt'
  obtain ⟨r1,z1,l1⟩:=hb1.facts
  obtain ⟨r2,z2,l2⟩:=hb2.facts
  clear hb1 hb2 hown hrow hlt'
  by_cases him:i<m
  ·obtain ⟨kd,hkd⟩:∃ kd,ks[i]?=some kd:=⟨_,List.getElem?_eq_getElem (by have:=HM.out;omega)⟩
   have hmem:kd ∈ ks:=List.mem_iff_getElem?.2 ⟨i,hkd⟩
   obtain ⟨b,off,pn',nn',cn',pk',nk',ck',rfl,hlt,-,d0,d1,d2,d3,hf,hg'⟩:=HK.out.at hkd
   have D0:=cell_kept hbel d0
   have D1:=cell_kept hbel d1
   have D2:=cell_kept hbel d2
   have D3:=cell_kept hbel d3
   have hbl:b<wr.heap.size:=Nat.lt_of_lt_of_le hlt hbel.size
   have hsn:=newAll_take (want:=3) hkd
   have hnk:=newOf_kind kd
   have HCE:Hid (kd.kind=3→∀ W,Bel w W→Calls Tryz.prog 87 #[.agg #[.int .i64 3,.int .i64 kd.dim,.slice pn' nn' cn',.slice pk' nk' ck']] W (IsOb (fun b=>W.heap.size≤b∨(F b∧b<w.heap.size)) W 3 (newOf kd))):=Lib.hid fun hkk W hW=>polygonOb_any _ kd hkk (HKS.out kd hmem) pn' nn' cn' pk' nk' ck' W (fun b hb=>Or.inl hb) ((hf.keep hW.size (fun b _ hl=>hW.block b hl) fun b hl hb=>Or.inr ⟨hb,hl⟩)) ((hg'.keep hW.size (fun b _ hl=>hW.block b hl) fun b hl hb=>Or.inr ⟨hb,hl⟩))
   by_cases hkk:kd.kind=3
   ·have hsn2:newAll 3 (ks.take (i+1))=newAll 3 (ks.take i) ++ [newOf kd]:=by
     rw [hsn,if_pos (Or.inr (by rw [hnk,hkk];decide))]
    have HSN:=Lib.hid hsn2
    have HC:=Lib.hid (HCE.out hkk)
    rw [hkk] at D0
    clear hmem d0 d1 d2 d3 hf hg' hbel hkd hsn hnk hsn2 HCE hkk
    generalize kd.dim=kdim at *
    go_wp2_with (first
     | (go_at_call 87;(with_reducible refine (HC.out _ ?hb).mono ?_);(case hb=>exact HBEL.out.alloc _);rintro e w3 ⟨cs,rfl,ho,hb3⟩;have HO:=Lib.hid ho;obtain ⟨p1,n1,q1,d1,hcs1⟩:=ho.ofSl (c:=0) (e:=2) (k:=2) rfl;cases hcs1;have HB3:Hid (Bel wr w3):=Lib.hid ((Bel.alloc1 wr _).trans hb3);have C1:=HG1.out.bel HB3.out;have C2:=HG2.out.bel HB3.out;have HC1:=Lib.hid C1;have HC2:=Lib.hid C2;clear hb3 ho C1 C2)
     | (at_builtin;refine wpList_append_row _ rfl (.tmp 21) (.tmp 24) 127 rfl (w.heap.size+2) 91 i0 _ 2 32 Tryz.underlying127 hi hz0 hz1 hz2 rfl (by decide) (.slice pr t cr) t xs rfl (own_kept HOWN.out (show Bel wr _ by (have HB:=HB3.out;exact EL))) ⟨w3.heap.size,0,none⟩ 1 1 [.slice p1 n1 q1,.int .u8 d1] rfl rfl (blk_arr (cs:=#[.slice p1 n1 q1,.int .u8 d1]) (t:=91) (by exact KL)) (by simp [Value.oneCell']) (by decide) (by unfold maxLen;omega) (by omega) (by have:=HGROW.out;have:=HB3.out.size;simp;omega) ?_;intro v' w6 ho6 hg6 hb6;obtain ⟨p6,c6,rfl⟩:=ho6.isSlice;have HO6:=Lib.hid ho6;have HG6:=Lib.hid hg6;have HB6:=Lib.hid hb6;have E1:=grownBy_blk hg6 (show Blk _ w.heap.size #[.int .i64 6,.int .i64 dim,.slice pn nn cn,.slice (some ⟨b,off,none⟩) m ck] 25 by (have HB:=HC1.out;exact KL)) (HOWN.out.ne_of_lt (by omega));have E2:=grownBy_blk hg6 (show Blk _ (w.heap.size+1) #[.slice none 0 0,.int .u8 0] 129 by (have HB:=HC2.out;exact KL)) (HOWN.out.ne_of_lt (by omega));have HE1:=Lib.hid E1;have HE2:=Lib.hid E2;clear ho6 hg6 hb6 E1 E2))
    go_roundw
    case rel =>
     have hs3:=HB3.out.size
     have hs6:=HG6.out.size
     have hgr:=HGROW.out
     simp at hs6
     refine ⟨i+1,t+1,p6,c6,_,rfl,by go_num,by omega,by omega,by rw [HSN.out,List.length_append,HLT.out];rfl,?_,?_,HE1.out,HE2.out,HO6.out,?_⟩
     ·exact (show Bel w _ from HBEL.out.trans (show Bel wr _ by (have HB:=HB3.out;exact EL))).of_row HG6.out (fun g hg=>by have:=(HOWN.out.lt g hg).1;omega)
     ·omega
     ·rw [HSN.out]
      have hne:∀ b,b<w3.heap.size→Value.ownBlock (.slice pr t cr) ≠ some b→Value.ownBlock (.slice p6 (t+1) c6) ≠ some b:=fun b hb hn=>by
       rcases HB6.out with h|h
       ·rw [h]
        exact hn
       ·rw [h]
        intro e
        have:=Option.some.inj e
        simp at this
        omega
      have hblk:∀ b,b<w3.heap.size→Value.ownBlock (.slice pr t cr) ≠ some b→w6.heap[b]?=w3.heap[b]?:=fun b hb hn=>by
       rw [HG6.out.block b (by simp;omega) (fun e=>hn e.symm)]
       exact Below.heap_alloc _ _ _ (by simpa using hb)
      refine RowOb.push (t:=t) (cl:=[.slice p1 n1 q1,.int .u8 d1]) (HROW.out.keep (by omega) (fun b hb hl=>?_) fun b hl hb=>⟨hb.1,hne b (by omega) hb.2⟩) HLT.out (fun o u ho hu=>?_) rfl (fun j u hu=>?_) (HO.out.keep (by omega) (fun b hb hl=>?_) fun b hl hb=>⟨?_,?_⟩)
      ·rw [hblk b (by omega) hb.2]
       exact HB3.out.block b hl
      ·show (xs ++ _)[o]?=some u
       rw [List.getElem?_append_left (List.getElem?_eq_some_iff.1 hu).1]
       exact hu
      ·show (xs ++ _)[t*2+j]?=some u
       have hxl:xs.length=t*2:=HOWN.out.1
       rw [List.getElem?_append_right (by omega),hxl,Nat.add_sub_cancel_left]
       exact hu
      ·refine hblk b hl (fun e=>?_)
       have:=HOWN.out.lt b e
       rcases hb with hb|hb
       ·simp at hb
        omega
       ·omega
      ·rcases hb with hb|hb
       ·exact Or.inr (by simp at hb;omega)
       ·exact Or.inl hb
      ·refine hne b hl (fun e=>?_)
       have:=HOWN.out.lt b e
       rcases hb with hb|hb
       ·simp at hb
        omega
       ·omega
    case measure=>simp [intOf];omega
   ·have hsn2:newAll 3 (ks.take (i+1))=newAll 3 (ks.take i):=by
     rw [hsn,if_neg (by
      rw [hnk]
      intro h
      rcases h with h|h
      ·omega
      ·exact hkk ((kindOf_eq (by decide) (by decide)).1 h.symm)),List.append_nil]
    have HSN:=Lib.hid hsn2
    have hk0:(kd.kind == 3)=false:=by simpa using hkk
    clear hmem d0 d1 d2 d3 hf hg' hbel hkd hsn hnk hsn2 HCE hkk
    generalize kd.dim=kdim at *
    generalize kd.kind=kkind at *
    go_wp2
    go_roundw
    case rel =>
     have hgr:=HGROW.out
     refine ⟨i+1,t,pr,cr,xs,rfl,by go_num,by omega,by omega,by rw [HSN.out];exact HLT.out,HBEL.out.alloc _,by simp;omega,HG1.out.alloc _,HG2.out.alloc _,own_kept HOWN.out (Bel.alloc1 _ _),?_⟩
     rw [HSN.out]
     exact HROW.out.keep (by simp) (fun b _ hl=>(Bel.alloc1 wr _).block b hl) fun b _ hb=>hb
    case measure=>simp [intOf];omega
  ·obtain rfl:i=m:=by omega
   have hall:ks.take i=ks:=List.take_of_length_le (by have:=HM.out;omega)
   rw [hall] at HLT HROW
   have hgr:=HGROW.out
   have HSL:Hid (ObSl (fun b=>(F b∧b<w.heap.size)∨w.heap.size+2≤b) wr 3 2 (.slice pr t cr) (newAll 3 ks)):=Lib.hid (own_obs HOWN.out (HROW.out.keep (Nat.le_refl _) (fun _ _ _=>rfl) fun b _ hb=>hb.1) HLT.out fun b hb=>Or.inr (HOWN.out.lt b hb).1)
   clear hall hbel
   by_cases ht0:t=0
   ·subst ht0
    have hnil:newAll 3 ks=[]:=List.length_eq_zero_iff.1 HLT.out
    have HR:Hid (newOf g=.mk 6 cd [] []):=Lib.hid (by rw [HNW.out,hnil];rfl)
    have HFC:Hid (∀ W,Bel wr W→Calls Tryz.prog 171 #[.agg #[.slice none 0 0,.int .u8 0],.int .u8 cd] W (IsOb (fun b=>W.heap.size≤b) W 6 (newOf g))):=Lib.hid fun W hW=>by
     have h:=multiPolygonForce_any (fun b=>W.heap.size≤b) [.slice none 0 0,.int .u8 0] (.mk 6 0 [] []) cd hct W (fun b hb=>hb) (.parts 6 3 2 0 none 0 [] (fun _=>[]) rfl (by decide) (Nat.zero_le _) (by decide) (by decide) (fun h=>absurd rfl h) (fun i g h=>by simp at h) (fun i g h=>by simp at h))
     have e:force cd (.mk 6 0 [] [])=newOf g:=by
      rw [HR.out]
      exact force_parts (s:=6) (by decide) (by decide) 0 cd []
     rw [e] at h
     exact h
    clear hnil
    go_wp2_with (first
     | (go_at_call 166;refine (HDO.out _).mono ?_;rintro e w' ⟨rfl,rfl⟩)
     | (go_at_call 171;(with_reducible refine (HFC.out _ (Bel.refl _)).mono ?_);rintro e w4 ⟨cs,rfl,ho,hb4⟩;have HO:=Lib.hid ho;obtain ⟨p9,n9,q9,d9,hcs9⟩:=ho.ofSl (c:=0) (e:=3) (k:=2) rfl;cases hcs9;have C2:=HG2.out.bel hb4;have HC2:=Lib.hid C2;obtain ⟨s2,t2,m2⟩:=C2.facts;have HB4:Hid (Bel w w4):=Lib.hid (HBEL.out.trans hb4);clear hb4 ho C2))
    refine post_ret (results_one rfl (resIs_agg (n:=2) (cs:=#[.slice p9 n9 q9,.int .u8 d9]) (by rfl) Tryz.underlying129 (by kernel_rfl) (T:=129) ?_ rfl)) ⟨_,rfl,HO.out.keep (by simp) (fun b hb hl=>?_) (fun b _ hb=>hF b (by omega)),?_⟩
    ·have HB:=HC2.out
     exact SL
    ·rw [Below.heap_setCell _ _ _ _ (by simp;omega),Below.heap_setCell _ _ _ _ (by simp;omega)]
    ·have HB:=HB4.out
     exact EL
   ·have htz:((t:Int) == 0)=false:=by simp;omega
    have hne:(newAll 3 ks).isEmpty=false:=by
     have:=HLT.out
     cases hq:newAll 3 ks with
     | nil=>rw [hq] at this;simp at this;omega
     | cons a r=>rfl
    have HR:Hid (newOf g=.mk 6 (common (newAll 3 ks)) [] ((newAll 3 ks).map (force (common (newAll 3 ks))))):=Lib.hid (by rw [HNW.out,hne];rfl)
    have HNC:Hid (Calls Tryz.prog 109 #[.slice pr t cr] wr (IsOb (fun b=>(F b∧b<w.heap.size)∨w.heap.size+2≤b) wr 6 (newOf g))):=Lib.hid (by
     rw [HR.out]
     exact newMultiPolygon_any _ pr t cr _ wr (fun b hb=>Or.inr (by omega)) HSL.out (by omega) (by omega))
    clear hne
    go_wp2_with (go_at_call 109;(with_reducible refine HNC.out.mono ?_);rintro e w4 ⟨cs,rfl,ho,hb4⟩;have HO:=Lib.hid ho;obtain ⟨p9,n9,q9,d9,hcs9⟩:=ho.ofSl (c:=0) (e:=3) (k:=2) rfl;cases hcs9;have C2:=HG2.out.bel hb4;have HC2:=Lib.hid C2;obtain ⟨s2,t2,m2⟩:=C2.facts;have HB4:Hid (Bel w w4):=Lib.hid (HBEL.out.trans hb4);clear hb4 ho C2)
    refine post_ret (results_one rfl (resIs_agg (n:=2) (cs:=#[.slice p9 n9 q9,.int .u8 d9]) (by rfl) Tryz.underlying129 (by kernel_rfl) (T:=129) ?_ rfl)) ⟨_,rfl,HO.out.keep (by simp) (fun b hb hl=>?_) (fun b _ hb=>?_),?_⟩
    ·have HB:=HC2.out
     exact SL
    ·rw [Below.heap_setCell _ _ _ _ (by simp;omega),Below.heap_setCell _ _ _ _ (by simp;omega)]
    ·rcases hb with hb|hb
     ·exact hb.1
     ·exact hF b (by omega)
    ·have HB:=HB4.out
     exact EL
end Go.Proofs.YtpipehenfcbjbaaGreatDoor
