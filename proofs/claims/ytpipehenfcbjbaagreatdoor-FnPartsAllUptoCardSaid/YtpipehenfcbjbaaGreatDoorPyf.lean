/-
 spec.EqualNums,spec.Alike: of the same data,no number a NaN,they say yes. No panic;what stood in memory has not turned.
-/
import Derived.Test.YtpipehenfcbjbaaGreatDoorPal
import Derived.Test.YtpipehenfcbjbaaGreatDoorPai
set_option linter.unusedVariables false
set_option linter.unusedSimpArgs false
namespace Go.Proofs.YtpipehenfcbjbaaGreatDoor
open Go.ChangeShapes Go.WideShapes Go.ChangeAt Go.RowKit
theorem order_selfR {x:Nat} (hx:nnB x=true):FloatKind.f64.format.order x x=some .eq:=by
 rw [order_keys hx hx]
 simp [compare,compareOfLessAndEq]
set_option maxHeartbeats 4000000 in
set_option maxRecDepth 100000 in
theorem eqNums_any {F G:Nat→Prop} (xs:List Nat) (hnn:∀ x ∈ xs,nnB x=true) (p:Option Addr) (n c:Nat) (p':Option Addr) (n' c':Nat) (w:World) (h1:FlSl F w (.slice p n c) xs) (h2:FlSl G w (.slice p' n' c') xs) (h31:xs.length≤1048576):Calls Tryz.prog 42 #[.slice p n c,.slice p' n' c'] w fun e w'=>e=.returned (.bool true)∧Bel w w':=by
 have hl1:xs.length=n:=h1.len.1
 have hl2:xs.length=n':=h2.len.1
 obtain rfl:n=n':=hl1.symm.trans hl2
 have HA:=Lib.hid h1
 have HB:=Lib.hid h2
 have HN:=Lib.hid hl1
 have HNN:=Lib.hid hnn
 clear h1 h2 hl2 hnn
 rw [hl1] at h31
 clear hl1
 go_enter Tryz.func42,Tryz.ntmps42
 go_wp2
 go_loopw [14] (fun iv wr=>∃ t:Nat,iv=.int .i64 t∧t≤n∧Bel w wr) (fun iv _=>n - (intOf iv).toNat)
 case atStart=>exact ⟨0,rfl,Nat.zero_le _,by exact EL⟩
 case round =>
  obtain ⟨t,rfl,ht,hbel⟩:=hrel
  have HBEL:=Lib.hid hbel
  by_cases htn:t<n
  ·obtain ⟨x,hx⟩:∃ x,xs[t]?=some x:=⟨_,List.getElem?_eq_getElem (by have:=HN.out;omega)⟩
   have he:=order_selfR (HNN.out x (List.mem_iff_getElem?.2 ⟨t,hx⟩))
   have hne:(FloatKind.f64.format.order x x != some .eq)=false:=by rw [he];rfl
   obtain ⟨_,_,hv1,-,-,q1⟩:=HA.out
   cases hv1
   obtain ⟨b1,o1,rfl,hb1,-,c1⟩:=q1 (by intro e;rw [e] at hx;simp at hx)
   obtain ⟨_,_,hv2,-,-,q2⟩:=HB.out
   cases hv2
   obtain ⟨b2,o2,rfl,hb2,-,c2⟩:=q2 (by intro e;rw [e] at hx;simp at hx)
   have D1:=cell_kept hbel (c1 t x hx)
   have D2:=cell_kept hbel (c2 t x hx)
   clear q1 q2 c1 c2 hx hbel
   go_wp2
   go_roundw
   case rel=>exact ⟨t+1,by go_num,by omega,by (have HB:=HBEL.out;exact EL)⟩
   case measure=>simp [intOf];omega
  ·obtain rfl:t=n:=by omega
   clear hbel
   go_wp2
   go_ret
   exact ⟨rfl,HBEL.out⟩
def AlikeOk (g:Gm):Prop:=∀ (F G:Nat→Prop) (pn:Option Addr) (nn cn:Nat) (pk:Option Addr) (nk ck:Nat) (pm:Option Addr) (nm cm:Nat) (pl:Option Addr) (nl cl:Nat) (w:World),FlSl F w (.slice pn nn cn) g.nums→GmSl F w (.slice pk nk ck) g.kids→FlSl G w (.slice pm nm cm) g.nums→GmSl G w (.slice pl nl cl) g.kids →
 Calls Tryz.prog 17 #[.agg #[.int .i64 g.kind,.int .i64 g.dim,.slice pn nn cn,.slice pk nk ck],.agg #[.int .i64 g.kind,.int .i64 g.dim,.slice pm nm cm,.slice pl nl cl]] w fun e w'=>e=.returned (.bool true)∧Bel w w'
set_option maxHeartbeats 8000000 in
set_option maxRecDepth 100000 in
theorem alike_ind:∀ (n:Nat) (g:Gm),g.size≤n→g.size≤1048576→NN g→AlikeOk g:=by
 intro n
 induction n with
 | zero=>exact fun g h=>absurd h (by have:=g.size_pos;omega)
 | succ n ih =>
  intro g hsz hbig hnn F G pn nn cn pk nk ck pm nm cm pl nl cl w hN hK hM hL
  obtain ⟨k,d,ns,ks⟩:=g
  have hn2:ns.length≤1048576:=by simp only [Gm.size] at hbig;omega
  have HEQ:Hid (∀ W,Bel w W→Calls Tryz.prog 42 #[.slice pn nn cn,.slice pm nm cm] W fun e w'=>e=.returned (.bool true)∧Bel W w'):=Lib.hid fun W hW=>eqNums_any ns hnn.nums pn nn cn pm nm cm W (FlSl.bel hN hW) (FlSl.bel hM hW) hn2
  obtain ⟨_,_,hve,hkl,hkc⟩:=hK.isSlice
  cases hve
  obtain ⟨_,_,hve,hll,hlc⟩:=hL.isSlice
  cases hve
  change ks.length≤ck at hkl
  change ks.length≤cl at hll
  show Calls Tryz.prog 17 #[.agg #[.int .i64 k,.int .i64 d,.slice pn nn cn,.slice pk ks.length ck],.agg #[.int .i64 k,.int .i64 d,.slice pm nm cm,.slice pl ks.length cl]] w _
  have HK:=Lib.hid (show GmSl F w (.slice pk ks.length ck) ks from hK)
  have HL:=Lib.hid (show GmSl G w (.slice pl ks.length cl) ks from hL)
  have HIH:Hid (∀ g ∈ ks,AlikeOk g):=Lib.hid fun g hg=>ih g (by
   have h2:=Gm.size_mem hg
   simp only [Gm.size] at hsz
   omega) (by
   have h2:=Gm.size_mem hg
   simp only [Gm.size] at hbig
   omega) (hnn.kid hg)
  have hn31:ks.length≤1048576:=by
   have:=Gm.len_sizes ks
   rw [Gm.size] at hbig
   omega
  clear ih hsz hbig hN hK hM hL hnn
  generalize hn:ks.length=n at *
  have HN:=Lib.hid hn
  clear hn
  go_enter Tryz.func17,Tryz.ntmps17
  go_wp2_with (go_at_call 42;(with_reducible refine (HEQ.out _ ?hb).mono ?_);(case hb=>exact EL);rintro e w1 ⟨rfl,hb1⟩;have HB1:Hid (Bel w w1):=Lib.hid ((show Bel w _ by exact EL).trans hb1);have C1:Blk w1 w.heap.size #[.int .i64 k,.int .i64 d,.slice pn nn cn,.slice pk n ck] 25:=Blk.bel (by exact KL) hb1;have C2:Blk w1 (w.heap.size+1) #[.int .i64 k,.int .i64 d,.slice pm nm cm,.slice pl n cl] 25:=Blk.bel (by exact KL) hb1;have HC1:=Lib.hid C1;have HC2:=Lib.hid C2;obtain ⟨r1,y1,l1⟩:=C1.facts;obtain ⟨r2,y2,l2⟩:=C2.facts;clear hb1 C1 C2)
  go_loopw [39] (fun iv wr=>∃ t:Nat,iv=.int .i64 t∧t≤n∧Bel w1 wr) (fun iv _=>n - (intOf iv).toNat)
  case atStart=>exact ⟨0,rfl,Nat.zero_le _,by exact EL⟩
  case round =>
   obtain ⟨t,rfl,ht,hbel⟩:=hrel
   have HBEL:=Lib.hid (HB1.out.trans hbel)
   have HX:=Lib.hid hbel
   have C2:=HC2.out.bel hbel
   have HD2:=Lib.hid C2
   obtain ⟨r3,y3,l3⟩:=C2.facts
   clear hbel C2
   by_cases htn:t<n
   ·obtain ⟨kd,hkd⟩:∃ kd,ks[t]?=some kd:=⟨_,List.getElem?_eq_getElem (by have:=HN.out;omega)⟩
    have HKD:=Lib.hid (HIH.out kd (List.mem_iff_getElem?.2 ⟨t,hkd⟩))
    obtain ⟨b,off,qn,mn,dn,qk,mk,dk,rfl,hlt,-,d0,d1,d2,d3,hf,hg⟩:=HK.out.at hkd
    obtain ⟨b',off',qm,mm,dm,ql,ml,dl,rfl,hlt',-,d0',d1',d2',d3',hf',hg'⟩:=HL.out.at hkd
    have hb:=HBEL.out
    have D0:=cell_kept hb d0
    have D1:=cell_kept hb d1
    have D2:=cell_kept hb d2
    have D3:=cell_kept hb d3
    have E0:=cell_kept hb d0'
    have E1:=cell_kept hb d1'
    have E2:=cell_kept hb d2'
    have E3:=cell_kept hb d3'
    have hbl:b<wr.heap.size:=Nat.lt_of_lt_of_le hlt hb.size
    have hbl':b'<wr.heap.size:=Nat.lt_of_lt_of_le hlt' hb.size
    have HC:Hid (∀ W,Bel w W→Calls Tryz.prog 17 #[.agg #[.int .i64 kd.kind,.int .i64 kd.dim,.slice qn mn dn,.slice qk mk dk],.agg #[.int .i64 kd.kind,.int .i64 kd.dim,.slice qm mm dm,.slice ql ml dl]] W fun e w'=>e=.returned (.bool true)∧Bel W w'):=Lib.hid fun W hW=>HKD.out F G qn mn dn qk mk dk qm mm dm ql ml dl W (hf.bel hW) (hg.bel hW) (hf'.bel hW) (hg'.bel hW)
    clear HKD d0 d1 d2 d3 d0' d1' d2' d3' hf hg hf' hg' hb hkd
    generalize kd.dim=kdim at *
    generalize kd.kind=kkind at *
    go_wp2
    go_region_law (go_simp;go_at_call 17;(with_reducible refine (HC.out _ ?hx).mono ?_);(case hx=>(have HB:=HBEL.out;exact EL));rintro e w4 ⟨rfl,hb4⟩;have HB4:Hid (Bel wr w4):=Lib.hid ((show Bel wr _ by exact EL).trans hb4);clear hb4)
    all_goals
     go_wp2
     go_roundw
     case rel=>exact ⟨t+1,by go_num,by omega,HX.out.trans HB4.out⟩
     case measure=>simp [intOf];omega
   ·obtain rfl:t=n:=by omega
    go_wp2
    go_ret
    exact ⟨rfl,HBEL.out⟩
theorem alike_any (g:Gm) (h:g.size≤1048576) (hnn:NN g):AlikeOk g:=alike_ind g.size g (Nat.le_refl _) h hnn
end Go.Proofs.YtpipehenfcbjbaaGreatDoor
