/-
 impl.geometries,impl.collection,impl.geometry: plain data made to geometries. No panic;what stood in memory has not turned.
-/
import Derived.Test.YtpipehenfcbjbaaGreatDoorPah
import Derived.Test.YtpipehenfcbjbaaGreatDoorPaa
import Derived.Deep.QuietTactic
import Derived.RegionTactic
import Derived.Laws.OwnMore
set_option linter.unusedVariables false
namespace Go.Proofs.YtpipehenfcbjbaaGreatDoor
open Go.ChangeShapes Go.WideShapes Go.ChangeAt Go.RowKit
def GeoMade (g:Gm):Prop:=∀ (F:Nat→Prop) (pn:Option Addr) (nn cn:Nat) (pk:Option Addr) (nk ck:Nat) (w:World),New F w→FlSl F w (.slice pn nn cn) g.nums→GmSl F w (.slice pk nk ck) g.kids →
  Calls Tryz.prog 39 #[.agg #[.int .i64 g.kind,.int .i64 g.dim,.slice pn nn cn,.slice pk nk ck]] w (IsOb F w 7 (newOf g))
theorem newAll_all:∀ l:List Gm,newAll (-1) l=l.map newOf
 | []=>rfl
 | a :: r=>by
  rw [newAll,if_pos (Or.inl (by decide)),newAll_all r,List.map_cons]
set_option maxHeartbeats 4000000 in
set_option maxRecDepth 100000 in
theorem geometries_any (F:Nat→Prop) (ks:List Gm) (pk:Option Addr) (m ck:Nat) (w:World) (hF:New F w) (hK:GmSl F w (.slice pk m ck) ks) (hm31:ks.length≤1048576) (hih:∀ k ∈ ks,GeoMade k):Calls Tryz.prog 105 #[.slice pk m ck] w (IsObs F w 7 2 m (ks.map newOf)):=by
 obtain ⟨_,_,hve,hkl,hkc⟩:=hK.isSlice
 cases hve
 have HK:=Lib.hid hK
 have HIH:=Lib.hid hih
 clear hK hih
 generalize hn:ks.length=n at *
 have HN:=Lib.hid hn
 clear hn
 obtain ⟨i0,hi,hz0,hz1,hz2⟩:=info_parts infoGe
 go_enter Tryz.func105,Tryz.ntmps105
 go_wp2_with (at_make;refine wpList_make_full _ rfl (.tmp 7) (.tmp 7) 84 rfl w.heap.size 64 i0 (.agg #[.int .i64 0,.nilIface]) 2 Tryz.underlying84 hi hz0 hz1 .i64 .i64 _ _ n rfl rfl rfl rfl ?b2 ?b3 ?b4 ?_;(case b2=>(rw [hz2];omega));(case b3=>(unfold maxLen;omega));(case b4=>simp);intro w1 hown hgrow;obtain ⟨arr0,hB0,hs0⟩:=hown.blk;have HW1:=Lib.hid (Bel.of_grown0 hgrow);have HP0:=Lib.hid hB0;have HS0:=Lib.hid hs0;clear hown hgrow hB0 hs0)
 go_loopw [11] (fun iv wr=>∃ (t:Nat) (arr:Array Value),iv=.int .i64 t∧t≤n∧Bel w wr∧Blk wr w.heap.size arr 64∧arr.size=n*2∧RowOb (fun b=>(F b∧b<w.heap.size)∨w.heap.size+1≤b) wr (fun o=>arr[o]?) 7 2 ((ks.take t).map newOf)) (fun iv _=>n - (intOf iv).toNat)
 case atStart=>exact ⟨0,arr0,rfl,Nat.zero_le _,HW1.out,HP0.out,HS0.out,fun i g hg=>by simp at hg⟩
 case round =>
  obtain ⟨t,arr,rfl,ht,hbel,hb3,harr,hrow⟩:=hrel
  have HBEL:=Lib.hid hbel
  have HG3:=Lib.hid hb3
  have HROW:=Lib.hid hrow
  have l3:=hb3.lt
  clear hrow hb3
  by_cases htn:t<n
  ·obtain ⟨kd,hkd⟩:∃ kd,ks[t]?=some kd:=⟨_,List.getElem?_eq_getElem (by have:=HN.out;omega)⟩
   have hmem:kd ∈ ks:=List.mem_iff_getElem?.2 ⟨t,hkd⟩
   obtain ⟨b,off,pn',nn',cn',pk',nk',ck',rfl,hlt,-,d0,d1,d2,d3,hf,hg'⟩:=HK.out.at hkd
   have D0:=cell_kept hbel d0
   have D1:=cell_kept hbel d1
   have D2:=cell_kept hbel d2
   have D3:=cell_kept hbel d3
   have hbl:b<wr.heap.size:=Nat.lt_of_lt_of_le hlt hbel.size
   have HKD:=Lib.hid hkd
   have HC:Hid (∀ W,Bel w W→Calls Tryz.prog 39 #[.agg #[.int .i64 kd.kind,.int .i64 kd.dim,.slice pn' nn' cn',.slice pk' nk' ck']] W (IsOb (fun b=>(F b∧b<w.heap.size)∨W.heap.size≤b) W 7 (newOf kd))):=Lib.hid fun W hW=>HIH.out kd hmem _ pn' nn' cn' pk' nk' ck' W (fun b hb=>Or.inr hb) ((hf.keep hW.size (fun b _ hl=>hW.block b hl) fun b hl hb=>Or.inl ⟨hb,hl⟩)) ((hg'.keep hW.size (fun b _ hl=>hW.block b hl) fun b hl hb=>Or.inl ⟨hb,hl⟩))
   clear hmem d0 d1 d2 d3 hf hg' hbel hkd
   generalize kd.dim=kdim at *
   generalize kd.kind=kkind at *
   go_wp2_with (go_at_call 39;(with_reducible refine (HC.out _ ?hb).mono ?_);(case hb=>exact HBEL.out.alloc _);rintro e w3 ⟨cs,rfl,ho,hb⟩;have HO:=Lib.hid ho;obtain ⟨s1,b1,cl1,hcs1,-⟩:=ho.gi;cases hcs1;have C3:=HG3.out.bel ((Bel.alloc1 _ _).trans hb);have HB3:Hid (Bel wr w3):=Lib.hid ((Bel.alloc1 _ _).trans hb);have HC3:=Lib.hid C3;obtain ⟨e0,k0⟩:∃ u,w3.cell? ⟨w.heap.size,t*2,none⟩=some u:=⟨arr[t*2],(C3.rules.1 _).trans (Array.getElem?_eq_getElem (by omega))⟩;obtain ⟨e1,k1⟩:∃ u,w3.cell? ⟨w.heap.size,t*2+1,none⟩=some u:=⟨arr[t*2+1],(C3.rules.1 _).trans (Array.getElem?_eq_getElem (by omega))⟩;have t3:=C3.rules.2;have m3:=C3.lt;have HSZ3:Hid (wr.heap.size+1≤w3.heap.size):=Lib.hid (by have:=hb.size;simp at this;exact this);clear hb C3 ho)
   go_roundw
   case rel =>
    have hs1:=HBEL.out.size
    have hs3:=HB3.out.size
    refine ⟨t+1,(arr.setIfInBounds (t*2) (.int .i64 s1)).setIfInBounds (t*2+1) (.iface (ptrT s1) (.pointer (some ⟨b1,0,none⟩))),by go_num,by omega,?_,?_,by simp [harr],?_⟩
    ·have HB:=HBEL.out.trans HB3.out
     exact EL
    ·exact (HC3.out.set _ _).set _ _
    ·have e1:(ks.take (t+1)).map newOf=(ks.take t).map newOf ++ [newOf kd]:=by
      rw [List.take_add_one,HKD.out]
      simp
     rw [e1]
     refine RowOb.push (t:=t) (cl:=[.int .i64 s1,.iface (ptrT s1) (.pointer (some ⟨b1,0,none⟩))]) (HROW.out.keep (by simp;omega) (fun b hb hl=>?_) fun b _ hb=>hb) (by rw [List.length_map,List.length_take];have:=HN.out;omega) (fun o u ho hu=>?_) rfl (fun j u hu=>?_) (HO.out.keep (by simp) (fun b hb hl=>?_) fun b _ hb=>?_)
     ·rw [Below.heap_setCell _ _ _ _ (by simp;omega),Below.heap_setCell _ _ _ _ (by simp;omega)]
      exact HB3.out.block b hl
     ·show (_:Array Value)[o]?=some u
      rw [Array.getElem?_setIfInBounds_ne (by omega),Array.getElem?_setIfInBounds_ne (by omega)]
      exact hu
     ·have hlt2:=(List.getElem?_eq_some_iff.1 hu).1
      simp at hlt2
      show (_:Array Value)[t*2+j]?=some u
      match j,hlt2 with
      | 0,_ =>
       simp at hu
       subst hu
       rw [Array.getElem?_setIfInBounds_ne (by omega)]
       exact Array.getElem?_setIfInBounds_self_of_lt (by omega)
      | 1,_ =>
       simp at hu
       subst hu
       exact Array.getElem?_setIfInBounds_self_of_lt (by (try simp only [Array.size_setIfInBounds]);omega)
     ·rw [Below.heap_setCell _ _ _ _ (by simp;simp at hb;omega),Below.heap_setCell _ _ _ _ (by simp;simp at hb;omega)]
     ·rcases hb with hb|hb
      ·exact Or.inl hb
      ·exact Or.inr (by simp at hb;omega)
   case measure=>simp [intOf];omega
  ·obtain rfl:t=n:=by omega
   have hfin:=HROW.out
   rw [List.take_of_length_le (by have:=HN.out;omega)] at hfin
   have HFIN:Hid (ObSl F wr 7 2 (.slice (some ⟨w.heap.size,0,none⟩) t t) (ks.map newOf)):=Lib.hid ⟨_,t,by rw [List.length_map,HN.out],Nat.le_of_eq (by rw [List.length_map,HN.out]),by omega,fun _=>⟨w.heap.size,0,rfl,l3,hF _ (Nat.le_refl _),(hfin.keep (Nat.le_refl _) (fun _ _ _=>rfl) fun b _ hb=>by
     rcases hb with hb|hb
     ·exact hb.1
     ·exact hF b (by omega)).cells fun o u ho=>by
     rw [Nat.zero_add]
     exact (HG3.out.rules.1 o).trans ho⟩⟩
   clear hfin
   go_wp2
   go_ret
   exact ⟨_,_,rfl,HFIN.out,HBEL.out⟩
set_option maxHeartbeats 4000000 in
set_option maxRecDepth 100000 in
theorem collectionOb_any (F:Nat→Prop) (g:Gm) (hk:kindOf g.kind=0) (hsz:g.size≤1048576) (pn:Option Addr) (nn cn:Nat) (pk:Option Addr) (nk ck:Nat) (w:World) (hF:New F w) (hK:GmSl F w (.slice pk nk ck) g.kids) (hih:∀ k ∈ g.kids,GeoMade k) :
  Calls Tryz.prog 94 #[.agg #[.int .i64 g.kind,.int .i64 g.dim,.slice pn nn cn,.slice pk nk ck]] w (IsOb F w 0 (newOf g)):=by
 have hnew:=newOf_parts g 0 hk (by decide) (by decide)
 have hko:kidOf ((0:Nat):Int)=-1:=by decide
 rw [hko,newAll_all] at hnew
 have HNEW:=Lib.hid hnew
 obtain ⟨_,_,hve,hkl,hkc⟩:=hK.isSlice
 cases hve
 have hszq:=g.size_eq
 have hlen:=Gm.len_sizes g.kids
 have hm31:g.kids.length≤1048576:=by omega
 have HDO:=Lib.hid (dimOf_any g.dim)
 have hct:=ct_le g.dim
 have HGS:Hid (∀ W,Bel w W→Calls Tryz.prog 105 #[.slice pk g.kids.length ck] W (IsObs (fun b=>(F b∧b<w.heap.size)∨W.heap.size≤b) W 7 2 g.kids.length (g.kids.map newOf))):=Lib.hid fun W hW=>geometries_any _ g.kids pk _ ck W (fun b hb=>Or.inr hb) (hK.keep hW.size (fun b _ hl=>hW.block b hl) fun b hl hb=>Or.inl ⟨hb,hl⟩) hm31 hih
 clear hK hih hnew hko hszq hlen hsz hk
 generalize ct g.dim=cd at *
 generalize g.dim=dim at *
 generalize g.kind=kind at *
 generalize hks:g.kids=ks at *
 generalize hm:ks.length=m at *
 have HM:=Lib.hid hm
 clear hm
 by_cases hm0:m=0
 ·subst hm0
  have hnil:ks=[]:=List.length_eq_zero_iff.1 HM.out
  have HR:Hid (newOf g=.mk 0 cd [] []):=Lib.hid (by rw [HNEW.out,hnil];rfl)
  have HFC:Hid (∀ W,Calls Tryz.prog 172 #[.agg #[.slice none 0 0,.int .u8 0],.int .u8 cd] W (IsOb (fun b=>W.heap.size≤b) W 0 (newOf g))):=Lib.hid fun W=>by
   have h:=collForce_any (fun b=>W.heap.size≤b) [.slice none 0 0,.int .u8 0] (.mk 0 0 [] []) cd hct W (fun b hb=>hb) (.parts 0 7 2 0 none 0 [] (fun _=>[]) rfl (by decide) (Nat.zero_le _) (by decide) (by decide) (fun h=>absurd rfl h) (fun i g h=>by simp at h) (fun i g h=>by simp at h)) (fun k hk=>by simp [Gm.kids] at hk)
   have e:force cd (.mk 0 0 [] [])=newOf g:=by
    rw [HR.out]
    exact force_parts (s:=0) (by decide) (by decide) 0 cd []
   rw [e] at h
   exact h
  clear hnil hks
  go_enter Tryz.func94,Tryz.ntmps94
  go_wp2_with (first
   | (go_at_call 166;refine (HDO.out _).mono ?_;rintro e w' ⟨rfl,rfl⟩)
   | (go_at_call 172;(with_reducible refine (HFC.out _).mono ?_);rintro e w4 ⟨cs,rfl,ho,hb4⟩;have HO:=Lib.hid ho;obtain ⟨p9,n9,q9,d9,hcs9⟩:=ho.ofSl (c:=0) (e:=7) (k:=2) rfl;cases hcs9;have C2:=(Blk.new' (w.alloc (.cells #[.int .i64 kind,.int .i64 dim,.slice pn nn cn,.slice pk 0 ck] 25)) #[.slice none 0 0,.int .u8 0] 86 (b:=w.heap.size+1) (by simp)).bel hb4;have HC2:=Lib.hid C2;obtain ⟨s2,t2,m2⟩:=C2.facts;have HB4:Hid (Bel w w4):=Lib.hid (((Bel.alloc1 w _).alloc _).trans hb4);clear hb4 ho C2))
  refine post_ret (results_one rfl (resIs_agg (n:=2) (cs:=#[.slice p9 n9 q9,.int .u8 d9]) (by rfl) Tryz.underlying86 (by kernel_rfl) (T:=86) ?_ rfl)) ⟨_,rfl,HO.out.keep (by simp) (fun b hb hl=>?_) (fun b _ hb=>hF b (by simp at hb;omega)),?_⟩
  ·have HB:=HC2.out
   exact SL
  ·rw [Below.heap_setCell _ _ _ _ (by simp;simp at hb;omega),Below.heap_setCell _ _ _ _ (by simp;simp at hb;omega)]
  ·have HB:=HB4.out
   exact EL
 ·have hmz:((m:Int) == 0)=false:=by simp;omega
  have hne:(ks.map newOf).isEmpty=false:=by
   have:=HM.out
   cases hq:ks with
   | nil=>rw [hq] at this;simp at this;omega
   | cons a r=>rfl
  have HR:Hid (newOf g=.mk 0 (common (ks.map newOf)) [] ((ks.map newOf).map (force (common (ks.map newOf))))):=Lib.hid (by rw [HNEW.out,hne];rfl)
  have HNC:Hid (∀ (F':Nat→Prop) (p:Option Addr) (cap:Nat) (W:World),New F' W→ObSl F' W 7 2 (.slice p m cap) (ks.map newOf)→Calls Tryz.prog 104 #[.slice p m cap] W (IsOb F' W 0 (newOf g))):=Lib.hid fun F' p cap W hF' hsl=>by
   rw [HR.out]
   exact newColl_any F' p m cap _ W hF' hsl (by omega) hm31
  clear hne hks
  go_enter Tryz.func94,Tryz.ntmps94
  go_wp2_with (first
   | (go_at_call 105;(with_reducible refine (HGS.out _ ?hb).mono ?_);(case hb=>exact EL);rintro e w3 ⟨p3,c3,rfl,ho3,hb3⟩;have HO3:=Lib.hid ho3;have C2:=(Blk.new' (w.alloc (.cells #[.int .i64 kind,.int .i64 dim,.slice pn nn cn,.slice pk m ck] 25)) #[.slice none 0 0,.int .u8 0] 86 (b:=w.heap.size+1) (by simp)).bel hb3;have HC2:=Lib.hid C2;have HB3:Hid (Bel w w3):=Lib.hid (((Bel.alloc1 w _).alloc _).trans hb3);have HSZ3:Hid (w.heap.size+2≤w3.heap.size):=Lib.hid (by have:=hb3.size;simp at this;omega);clear hb3 ho3 C2)
   | (go_at_call 104;(with_reducible refine (HNC.out (fun b=>(F b∧b<w.heap.size)∨w.heap.size+2≤b) _ _ _ ?hn ?ho).mono ?_);(case hn=>exact fun b hb=>Or.inr (by have:=HSZ3.out;omega));(case ho=>exact HO3.out.keep (Nat.le_refl _) (fun _ _ _=>rfl) (fun b _ hb=>by rcases hb with hb|hb;exact Or.inl hb;exact Or.inr (by simp at hb;omega)));rintro e w4 ⟨cs,rfl,ho,hb4⟩;have HO:=Lib.hid ho;obtain ⟨p9,n9,q9,d9,hcs9⟩:=ho.ofSl (c:=0) (e:=7) (k:=2) rfl;cases hcs9;have C2:=HC2.out.bel hb4;have HC4:=Lib.hid C2;obtain ⟨s2,t2,m2⟩:=C2.facts;have HB4:Hid (Bel w w4):=Lib.hid (HB3.out.trans hb4);clear hb4 ho C2))
  refine post_ret (results_one rfl (resIs_agg (n:=2) (cs:=#[.slice p9 n9 q9,.int .u8 d9]) (by rfl) Tryz.underlying86 (by kernel_rfl) (T:=86) ?_ rfl)) ⟨_,rfl,HO.out.keep (by simp) (fun b hb hl=>?_) (fun b _ hb=>?_),?_⟩
  ·have HB:=HC4.out
   exact SL
  ·rw [Below.heap_setCell _ _ _ _ (by simp;omega),Below.heap_setCell _ _ _ _ (by simp;omega)]
  ·rcases hb with hb|hb
   ·exact hb.1
   ·exact hF b (by omega)
  ·have HB:=HB4.out
   exact EL
set_option maxHeartbeats 8000000 in
set_option maxRecDepth 100000 in
theorem geometry_ind:∀ (n:Nat) (g:Gm),g.size≤n→g.size≤1048576→GeoMade g:=by
 intro n
 induction n with
 | zero=>exact fun g h=>absurd h (by have:=g.size_pos;omega)
 | succ n ih =>
  intro g hsz hbig F pn nn cn pk nk ck w hF hN hK
  have HIH:Hid (∀ k ∈ g.kids,GeoMade k):=Lib.hid fun k hk=>ih k (by
   have:=g.size_eq
   have:=Gm.size_mem hk
   omega) (by
   have:=g.size_eq
   have:=Gm.size_mem hk
   omega)
  have HFN:Hid (∀ W,Bel w W→FlSl (fun b=>W.heap.size≤b∨(F b∧b<w.heap.size)) W (.slice pn nn cn) g.nums):=Lib.hid fun W hW=>hN.keep hW.size (fun b _ hl=>hW.block b hl) fun b hl hb=>Or.inr ⟨hb,hl⟩
  have HFK:Hid (∀ W,Bel w W→GmSl (fun b=>W.heap.size≤b∨(F b∧b<w.heap.size)) W (.slice pk nk ck) g.kids):=Lib.hid fun W hW=>hK.keep hW.size (fun b _ hl=>hW.block b hl) fun b hl hb=>Or.inr ⟨hb,hl⟩
  clear ih hN hK hsz
  by_cases h6:1≤g.kind∧g.kind≤6
  ·have h7:g.kind=1∨g.kind=2∨g.kind=3∨g.kind=4∨g.kind=5∨g.kind=6:=by omega
   clear h6
   rcases h7 with hk|hk|hk|hk|hk|hk
   ·have HC:Hid (∀ W,Bel w W→Calls Tryz.prog 85 #[.agg #[.int .i64 1,.int .i64 g.dim,.slice pn nn cn,.slice pk nk ck]] W (IsOb (fun b=>W.heap.size≤b∨(F b∧b<w.heap.size)) W 1 (newOf g))):=Lib.hid fun W hW=>pointOb_any _ g hk hbig pn nn cn pk nk ck W (fun b hb=>Or.inl hb) (HFN.out W hW) (HFK.out W hW)
    rw [hk]
    clear HFN HFK HIH hk
    generalize g.dim=dim at *
    go_enter Tryz.func39,Tryz.ntmps39
    go_wp2_with (first
     | (go_at_call 85;(with_reducible refine (HC.out _ ?hb).mono ?_);(case hb=>exact EL);rintro e w2 ⟨cs2,rfl,ho2,hb2⟩;have HO2:=Lib.hid ho2;have HB2:Hid (Bel w w2):=Lib.hid (((Bel.alloc1 w _).alloc _).trans hb2);have B2:=(Blk.new' (w.alloc (.cells #[.int .i64 1,.int .i64 dim,.slice pn nn cn,.slice pk nk ck] 25)) #[.int .i64 0,.nilIface] 64 (b:=w.heap.size+1) (by simp)).bel hb2;have HP3:=Lib.hid B2;have HSZ2:Hid (w.heap.size+2≤w2.heap.size):=Lib.hid (by have:=hb2.size;simp at this;omega);clear ho2 hb2 B2)
     | (go_at_call 71;(with_reducible refine (asGeo_1 (fun b=>w.heap.size+2≤b∨(F b∧b<w.heap.size)) cs2 (newOf g) _ ?hn ?ho).mono ?_);(case hn=>exact fun b hb=>Or.inl (by have:=HSZ2.out;omega));(case ho=>exact HO2.out.keep (Nat.le_refl _) (fun _ _ _=>rfl) (fun b _ hb=>by rcases hb with hb|hb;exact Or.inl (by simp at hb;omega);exact Or.inr hb));rintro e w3 ⟨cs3,rfl,ho3,hb3⟩;have HO3:=Lib.hid ho3;obtain ⟨s1,b1,cl1,hcs1,-⟩:=ho3.gi;cases hcs1;have B2:=HP3.out.bel hb3;have HP4:=Lib.hid B2;obtain ⟨r2,z2,l2⟩:=B2.facts;have HB3:Hid (Bel w w3):=Lib.hid (HB2.out.trans hb3);clear ho3 hb3 B2))
    refine post_ret (results_one rfl (resIs_agg (n:=2) (cs:=#[.int .i64 s1,.iface (ptrT s1) (.pointer (some ⟨b1,0,none⟩))]) (by rfl) Tryz.underlying64 (by kernel_rfl) (T:=64) ?_ rfl)) ⟨_,rfl,HO3.out.keep (by simp) (fun b hb hl=>?_) (fun b _ hb=>?_),?_⟩
    ·have HB:=HP4.out
     exact SL
    ·rw [Below.heap_setCell _ _ _ _ (by simp;omega),Below.heap_setCell _ _ _ _ (by simp;omega)]
    ·rcases hb with hb|hb
     ·exact hF b (by omega)
     ·exact hb.1
    ·have HB:=HB3.out
     exact EL
   ·have HC:Hid (∀ W,Bel w W→Calls Tryz.prog 86 #[.agg #[.int .i64 2,.int .i64 g.dim,.slice pn nn cn,.slice pk nk ck]] W (IsOb (fun b=>W.heap.size≤b∨(F b∧b<w.heap.size)) W 2 (newOf g))):=Lib.hid fun W hW=>lineOb_any _ g hk hbig pn nn cn pk nk ck W (fun b hb=>Or.inl hb) (HFN.out W hW) (HFK.out W hW)
    rw [hk]
    clear HFN HFK HIH hk
    generalize g.dim=dim at *
    go_enter Tryz.func39,Tryz.ntmps39
    go_wp2_with (first
     | (go_at_call 86;(with_reducible refine (HC.out _ ?hb).mono ?_);(case hb=>exact EL);rintro e w2 ⟨cs2,rfl,ho2,hb2⟩;have HO2:=Lib.hid ho2;have HB2:Hid (Bel w w2):=Lib.hid (((Bel.alloc1 w _).alloc _).trans hb2);have B2:=(Blk.new' (w.alloc (.cells #[.int .i64 2,.int .i64 dim,.slice pn nn cn,.slice pk nk ck] 25)) #[.int .i64 0,.nilIface] 64 (b:=w.heap.size+1) (by simp)).bel hb2;have HP3:=Lib.hid B2;have HSZ2:Hid (w.heap.size+2≤w2.heap.size):=Lib.hid (by have:=hb2.size;simp at this;omega);clear ho2 hb2 B2)
     | (go_at_call 74;(with_reducible refine (asGeo_2 (fun b=>w.heap.size+2≤b∨(F b∧b<w.heap.size)) cs2 (newOf g) _ ?hn ?ho).mono ?_);(case hn=>exact fun b hb=>Or.inl (by have:=HSZ2.out;omega));(case ho=>exact HO2.out.keep (Nat.le_refl _) (fun _ _ _=>rfl) (fun b _ hb=>by rcases hb with hb|hb;exact Or.inl (by simp at hb;omega);exact Or.inr hb));rintro e w3 ⟨cs3,rfl,ho3,hb3⟩;have HO3:=Lib.hid ho3;obtain ⟨s1,b1,cl1,hcs1,-⟩:=ho3.gi;cases hcs1;have B2:=HP3.out.bel hb3;have HP4:=Lib.hid B2;obtain ⟨r2,z2,l2⟩:=B2.facts;have HB3:Hid (Bel w w3):=Lib.hid (HB2.out.trans hb3);clear ho3 hb3 B2))
    refine post_ret (results_one rfl (resIs_agg (n:=2) (cs:=#[.int .i64 s1,.iface (ptrT s1) (.pointer (some ⟨b1,0,none⟩))]) (by rfl) Tryz.underlying64 (by kernel_rfl) (T:=64) ?_ rfl)) ⟨_,rfl,HO3.out.keep (by simp) (fun b hb hl=>?_) (fun b _ hb=>?_),?_⟩
    ·have HB:=HP4.out
     exact SL
    ·rw [Below.heap_setCell _ _ _ _ (by simp;omega),Below.heap_setCell _ _ _ _ (by simp;omega)]
    ·rcases hb with hb|hb
     ·exact hF b (by omega)
     ·exact hb.1
    ·have HB:=HB3.out
     exact EL
   ·have HC:Hid (∀ W,Bel w W→Calls Tryz.prog 87 #[.agg #[.int .i64 3,.int .i64 g.dim,.slice pn nn cn,.slice pk nk ck]] W (IsOb (fun b=>W.heap.size≤b∨(F b∧b<w.heap.size)) W 3 (newOf g))):=Lib.hid fun W hW=>polygonOb_any _ g hk hbig pn nn cn pk nk ck W (fun b hb=>Or.inl hb) (HFN.out W hW) (HFK.out W hW)
    rw [hk]
    clear HFN HFK HIH hk
    generalize g.dim=dim at *
    go_enter Tryz.func39,Tryz.ntmps39
    go_wp2_with (first
     | (go_at_call 87;(with_reducible refine (HC.out _ ?hb).mono ?_);(case hb=>exact EL);rintro e w2 ⟨cs2,rfl,ho2,hb2⟩;have HO2:=Lib.hid ho2;have HB2:Hid (Bel w w2):=Lib.hid (((Bel.alloc1 w _).alloc _).trans hb2);have B2:=(Blk.new' (w.alloc (.cells #[.int .i64 3,.int .i64 dim,.slice pn nn cn,.slice pk nk ck] 25)) #[.int .i64 0,.nilIface] 64 (b:=w.heap.size+1) (by simp)).bel hb2;have HP3:=Lib.hid B2;have HSZ2:Hid (w.heap.size+2≤w2.heap.size):=Lib.hid (by have:=hb2.size;simp at this;omega);clear ho2 hb2 B2)
     | (go_at_call 82;(with_reducible refine (asGeo_3 (fun b=>w.heap.size+2≤b∨(F b∧b<w.heap.size)) cs2 (newOf g) _ ?hn ?ho).mono ?_);(case hn=>exact fun b hb=>Or.inl (by have:=HSZ2.out;omega));(case ho=>exact HO2.out.keep (Nat.le_refl _) (fun _ _ _=>rfl) (fun b _ hb=>by rcases hb with hb|hb;exact Or.inl (by simp at hb;omega);exact Or.inr hb));rintro e w3 ⟨cs3,rfl,ho3,hb3⟩;have HO3:=Lib.hid ho3;obtain ⟨s1,b1,cl1,hcs1,-⟩:=ho3.gi;cases hcs1;have B2:=HP3.out.bel hb3;have HP4:=Lib.hid B2;obtain ⟨r2,z2,l2⟩:=B2.facts;have HB3:Hid (Bel w w3):=Lib.hid (HB2.out.trans hb3);clear ho3 hb3 B2))
    refine post_ret (results_one rfl (resIs_agg (n:=2) (cs:=#[.int .i64 s1,.iface (ptrT s1) (.pointer (some ⟨b1,0,none⟩))]) (by rfl) Tryz.underlying64 (by kernel_rfl) (T:=64) ?_ rfl)) ⟨_,rfl,HO3.out.keep (by simp) (fun b hb hl=>?_) (fun b _ hb=>?_),?_⟩
    ·have HB:=HP4.out
     exact SL
    ·rw [Below.heap_setCell _ _ _ _ (by simp;omega),Below.heap_setCell _ _ _ _ (by simp;omega)]
    ·rcases hb with hb|hb
     ·exact hF b (by omega)
     ·exact hb.1
    ·have HB:=HB3.out
     exact EL
   ·have HC:Hid (∀ W,Bel w W→Calls Tryz.prog 88 #[.agg #[.int .i64 4,.int .i64 g.dim,.slice pn nn cn,.slice pk nk ck]] W (IsOb (fun b=>W.heap.size≤b∨(F b∧b<w.heap.size)) W 4 (newOf g))):=Lib.hid fun W hW=>multiPointOb_any _ g hk hbig pn nn cn pk nk ck W (fun b hb=>Or.inl hb) (HFN.out W hW) (HFK.out W hW)
    rw [hk]
    clear HFN HFK HIH hk
    generalize g.dim=dim at *
    go_enter Tryz.func39,Tryz.ntmps39
    go_wp2_with (first
     | (go_at_call 88;(with_reducible refine (HC.out _ ?hb).mono ?_);(case hb=>exact EL);rintro e w2 ⟨cs2,rfl,ho2,hb2⟩;have HO2:=Lib.hid ho2;have HB2:Hid (Bel w w2):=Lib.hid (((Bel.alloc1 w _).alloc _).trans hb2);have B2:=(Blk.new' (w.alloc (.cells #[.int .i64 4,.int .i64 dim,.slice pn nn cn,.slice pk nk ck] 25)) #[.int .i64 0,.nilIface] 64 (b:=w.heap.size+1) (by simp)).bel hb2;have HP3:=Lib.hid B2;have HSZ2:Hid (w.heap.size+2≤w2.heap.size):=Lib.hid (by have:=hb2.size;simp at this;omega);clear ho2 hb2 B2)
     | (go_at_call 89;(with_reducible refine (asGeo_4 (fun b=>w.heap.size+2≤b∨(F b∧b<w.heap.size)) cs2 (newOf g) _ ?hn ?ho).mono ?_);(case hn=>exact fun b hb=>Or.inl (by have:=HSZ2.out;omega));(case ho=>exact HO2.out.keep (Nat.le_refl _) (fun _ _ _=>rfl) (fun b _ hb=>by rcases hb with hb|hb;exact Or.inl (by simp at hb;omega);exact Or.inr hb));rintro e w3 ⟨cs3,rfl,ho3,hb3⟩;have HO3:=Lib.hid ho3;obtain ⟨s1,b1,cl1,hcs1,-⟩:=ho3.gi;cases hcs1;have B2:=HP3.out.bel hb3;have HP4:=Lib.hid B2;obtain ⟨r2,z2,l2⟩:=B2.facts;have HB3:Hid (Bel w w3):=Lib.hid (HB2.out.trans hb3);clear ho3 hb3 B2))
    refine post_ret (results_one rfl (resIs_agg (n:=2) (cs:=#[.int .i64 s1,.iface (ptrT s1) (.pointer (some ⟨b1,0,none⟩))]) (by rfl) Tryz.underlying64 (by kernel_rfl) (T:=64) ?_ rfl)) ⟨_,rfl,HO3.out.keep (by simp) (fun b hb hl=>?_) (fun b _ hb=>?_),?_⟩
    ·have HB:=HP4.out
     exact SL
    ·rw [Below.heap_setCell _ _ _ _ (by simp;omega),Below.heap_setCell _ _ _ _ (by simp;omega)]
    ·rcases hb with hb|hb
     ·exact hF b (by omega)
     ·exact hb.1
    ·have HB:=HB3.out
     exact EL
   ·have HC:Hid (∀ W,Bel w W→Calls Tryz.prog 90 #[.agg #[.int .i64 5,.int .i64 g.dim,.slice pn nn cn,.slice pk nk ck]] W (IsOb (fun b=>W.heap.size≤b∨(F b∧b<w.heap.size)) W 5 (newOf g))):=Lib.hid fun W hW=>multiLineOb_any _ g hk hbig pn nn cn pk nk ck W (fun b hb=>Or.inl hb) (HFN.out W hW) (HFK.out W hW)
    rw [hk]
    clear HFN HFK HIH hk
    generalize g.dim=dim at *
    go_enter Tryz.func39,Tryz.ntmps39
    go_wp2_with (first
     | (go_at_call 90;(with_reducible refine (HC.out _ ?hb).mono ?_);(case hb=>exact EL);rintro e w2 ⟨cs2,rfl,ho2,hb2⟩;have HO2:=Lib.hid ho2;have HB2:Hid (Bel w w2):=Lib.hid (((Bel.alloc1 w _).alloc _).trans hb2);have B2:=(Blk.new' (w.alloc (.cells #[.int .i64 5,.int .i64 dim,.slice pn nn cn,.slice pk nk ck] 25)) #[.int .i64 0,.nilIface] 64 (b:=w.heap.size+1) (by simp)).bel hb2;have HP3:=Lib.hid B2;have HSZ2:Hid (w.heap.size+2≤w2.heap.size):=Lib.hid (by have:=hb2.size;simp at this;omega);clear ho2 hb2 B2)
     | (go_at_call 91;(with_reducible refine (asGeo_5 (fun b=>w.heap.size+2≤b∨(F b∧b<w.heap.size)) cs2 (newOf g) _ ?hn ?ho).mono ?_);(case hn=>exact fun b hb=>Or.inl (by have:=HSZ2.out;omega));(case ho=>exact HO2.out.keep (Nat.le_refl _) (fun _ _ _=>rfl) (fun b _ hb=>by rcases hb with hb|hb;exact Or.inl (by simp at hb;omega);exact Or.inr hb));rintro e w3 ⟨cs3,rfl,ho3,hb3⟩;have HO3:=Lib.hid ho3;obtain ⟨s1,b1,cl1,hcs1,-⟩:=ho3.gi;cases hcs1;have B2:=HP3.out.bel hb3;have HP4:=Lib.hid B2;obtain ⟨r2,z2,l2⟩:=B2.facts;have HB3:Hid (Bel w w3):=Lib.hid (HB2.out.trans hb3);clear ho3 hb3 B2))
    refine post_ret (results_one rfl (resIs_agg (n:=2) (cs:=#[.int .i64 s1,.iface (ptrT s1) (.pointer (some ⟨b1,0,none⟩))]) (by rfl) Tryz.underlying64 (by kernel_rfl) (T:=64) ?_ rfl)) ⟨_,rfl,HO3.out.keep (by simp) (fun b hb hl=>?_) (fun b _ hb=>?_),?_⟩
    ·have HB:=HP4.out
     exact SL
    ·rw [Below.heap_setCell _ _ _ _ (by simp;omega),Below.heap_setCell _ _ _ _ (by simp;omega)]
    ·rcases hb with hb|hb
     ·exact hF b (by omega)
     ·exact hb.1
    ·have HB:=HB3.out
     exact EL
   ·have HC:Hid (∀ W,Bel w W→Calls Tryz.prog 92 #[.agg #[.int .i64 6,.int .i64 g.dim,.slice pn nn cn,.slice pk nk ck]] W (IsOb (fun b=>W.heap.size≤b∨(F b∧b<w.heap.size)) W 6 (newOf g))):=Lib.hid fun W hW=>multiPolygonOb_any _ g hk hbig pn nn cn pk nk ck W (fun b hb=>Or.inl hb) (HFN.out W hW) (HFK.out W hW)
    rw [hk]
    clear HFN HFK HIH hk
    generalize g.dim=dim at *
    go_enter Tryz.func39,Tryz.ntmps39
    go_wp2_with (first
     | (go_at_call 92;(with_reducible refine (HC.out _ ?hb).mono ?_);(case hb=>exact EL);rintro e w2 ⟨cs2,rfl,ho2,hb2⟩;have HO2:=Lib.hid ho2;have HB2:Hid (Bel w w2):=Lib.hid (((Bel.alloc1 w _).alloc _).trans hb2);have B2:=(Blk.new' (w.alloc (.cells #[.int .i64 6,.int .i64 dim,.slice pn nn cn,.slice pk nk ck] 25)) #[.int .i64 0,.nilIface] 64 (b:=w.heap.size+1) (by simp)).bel hb2;have HP3:=Lib.hid B2;have HSZ2:Hid (w.heap.size+2≤w2.heap.size):=Lib.hid (by have:=hb2.size;simp at this;omega);clear ho2 hb2 B2)
     | (go_at_call 93;(with_reducible refine (asGeo_6 (fun b=>w.heap.size+2≤b∨(F b∧b<w.heap.size)) cs2 (newOf g) _ ?hn ?ho).mono ?_);(case hn=>exact fun b hb=>Or.inl (by have:=HSZ2.out;omega));(case ho=>exact HO2.out.keep (Nat.le_refl _) (fun _ _ _=>rfl) (fun b _ hb=>by rcases hb with hb|hb;exact Or.inl (by simp at hb;omega);exact Or.inr hb));rintro e w3 ⟨cs3,rfl,ho3,hb3⟩;have HO3:=Lib.hid ho3;obtain ⟨s1,b1,cl1,hcs1,-⟩:=ho3.gi;cases hcs1;have B2:=HP3.out.bel hb3;have HP4:=Lib.hid B2;obtain ⟨r2,z2,l2⟩:=B2.facts;have HB3:Hid (Bel w w3):=Lib.hid (HB2.out.trans hb3);clear ho3 hb3 B2))
    refine post_ret (results_one rfl (resIs_agg (n:=2) (cs:=#[.int .i64 s1,.iface (ptrT s1) (.pointer (some ⟨b1,0,none⟩))]) (by rfl) Tryz.underlying64 (by kernel_rfl) (T:=64) ?_ rfl)) ⟨_,rfl,HO3.out.keep (by simp) (fun b hb hl=>?_) (fun b _ hb=>?_),?_⟩
    ·have HB:=HP4.out
     exact SL
    ·rw [Below.heap_setCell _ _ _ _ (by simp;omega),Below.heap_setCell _ _ _ _ (by simp;omega)]
    ·rcases hb with hb|hb
     ·exact hF b (by omega)
     ·exact hb.1
    ·have HB:=HB3.out
     exact EL
  ·have hk0:kindOf g.kind=0:=by unfold kindOf;split<;>omega
   have HC:Hid (∀ W,Bel w W→Calls Tryz.prog 94 #[.agg #[.int .i64 g.kind,.int .i64 g.dim,.slice pn nn cn,.slice pk nk ck]] W (IsOb (fun b=>W.heap.size≤b∨(F b∧b<w.heap.size)) W 0 (newOf g))):=Lib.hid fun W hW=>collectionOb_any _ g hk0 hbig pn nn cn pk nk ck W (fun b hb=>Or.inl hb) (HFK.out W hW) HIH.out
   have q1:(g.kind == 1)=false:=by simp;omega
   have q2:(g.kind == 2)=false:=by simp;omega
   have q3:(g.kind == 3)=false:=by simp;omega
   have q4:(g.kind == 4)=false:=by simp;omega
   have q5:(g.kind == 5)=false:=by simp;omega
   have q6:(g.kind == 6)=false:=by simp;omega
   clear HFN HFK HIH hk0 h6
   generalize g.dim=dim at *
   generalize g.kind=kind at *
   go_enter Tryz.func39,Tryz.ntmps39
   go_wp2_with (first
    | (go_at_call 94;(with_reducible refine (HC.out _ ?hb).mono ?_);(case hb=>exact EL);rintro e w2 ⟨cs2,rfl,ho2,hb2⟩;have HO2:=Lib.hid ho2;have HB2:Hid (Bel w w2):=Lib.hid (((Bel.alloc1 w _).alloc _).trans hb2);have B2:=(Blk.new' (w.alloc (.cells #[.int .i64 kind,.int .i64 dim,.slice pn nn cn,.slice pk nk ck] 25)) #[.int .i64 0,.nilIface] 64 (b:=w.heap.size+1) (by simp)).bel hb2;have HP3:=Lib.hid B2;have HSZ2:Hid (w.heap.size+2≤w2.heap.size):=Lib.hid (by have:=hb2.size;simp at this;omega);clear ho2 hb2 B2)
    | (go_at_call 95;(with_reducible refine (asGeo_0 (fun b=>w.heap.size+2≤b∨(F b∧b<w.heap.size)) cs2 (newOf g) _ ?hn ?ho).mono ?_);(case hn=>exact fun b hb=>Or.inl (by have:=HSZ2.out;omega));(case ho=>exact HO2.out.keep (Nat.le_refl _) (fun _ _ _=>rfl) (fun b _ hb=>by rcases hb with hb|hb;exact Or.inl (by simp at hb;omega);exact Or.inr hb));rintro e w3 ⟨cs3,rfl,ho3,hb3⟩;have HO3:=Lib.hid ho3;obtain ⟨s1,b1,cl1,hcs1,-⟩:=ho3.gi;cases hcs1;have B2:=HP3.out.bel hb3;have HP4:=Lib.hid B2;obtain ⟨r2,z2,l2⟩:=B2.facts;have HB3:Hid (Bel w w3):=Lib.hid (HB2.out.trans hb3);clear ho3 hb3 B2))
   refine post_ret (results_one rfl (resIs_agg (n:=2) (cs:=#[.int .i64 s1,.iface (ptrT s1) (.pointer (some ⟨b1,0,none⟩))]) (by rfl) Tryz.underlying64 (by kernel_rfl) (T:=64) ?_ rfl)) ⟨_,rfl,HO3.out.keep (by simp) (fun b hb hl=>?_) (fun b _ hb=>?_),?_⟩
   ·have HB:=HP4.out
    exact SL
   ·rw [Below.heap_setCell _ _ _ _ (by simp;omega),Below.heap_setCell _ _ _ _ (by simp;omega)]
   ·rcases hb with hb|hb
    ·exact hF b (by omega)
    ·exact hb.1
   ·have HB:=HB3.out
    exact EL
theorem geometry_any (g:Gm) (h:g.size≤1048576):GeoMade g:=geometry_ind g.size g (Nat.le_refl _) h
end Go.Proofs.YtpipehenfcbjbaaGreatDoor
set_option linter.unusedVariables false
namespace Go.Proofs.YtpipehenfcbjbaaGreatDoor
open Go.ChangeShapes Go.WideShapes Go.ChangeAt Go.RowKit
mutual
/-- A leaf without numbers, a polygon without rings, anything else without parts that are not empty. -/
def emptyOf:Gm→Bool
 | .mk k _ ns ks=>if k=3 then ks.isEmpty else emptyAll ks && ns.isEmpty
def emptyAll:List Gm→Bool
 | []=>true
 | g :: r=>emptyOf g && emptyAll r
end
theorem emptyAll_take {gs:List Gm} {t:Nat} {g:Gm} (h:gs[t]?=some g):emptyAll (gs.take (t+1))=(emptyAll (gs.take t) && emptyOf g):=by
 have key:∀ (l:List Gm) (a:Gm),emptyAll (l ++ [a])=(emptyAll l && emptyOf a):=fun l a=>by
  induction l with
  | nil=>simp [emptyAll]
  | cons x r ih=>simp only [List.cons_append,emptyAll,ih,Bool.and_assoc]
 rw [List.take_add_one,h]
 exact key _ _
theorem emptyAll_not {gs:List Gm} {t:Nat} {g:Gm} (h:gs[t]?=some g) (he:emptyOf g=false):emptyAll gs=false:=by
 induction gs generalizing t with
 | nil=>simp at h
 | cons x r ih =>
  cases t with
  | zero =>
   simp at h
   subst h
   simp [emptyAll,he]
  | succ t =>
   have:=ih (t:=t) (by simpa using h)
   simp [emptyAll,this]
theorem lineEmpty_any {F:Nat→Prop} {cs:List Value} {g:Gm} {w0:World} (h:Ob F w0 2 cs g) (w:World):Calls Tryz.prog 121 #[.agg cs.toArray] w fun e w'=>e=.returned (.bool (emptyOf g))∧Bel w w':=by
 obtain ⟨c,p,n,cap,xs,rfl,hc,rfl,hf,hw,hb⟩:=h.ln
 have hl:=hf.len
 have h0:=wd_bd c
 have he:emptyOf (.mk 2 c xs [])=decide ((n / wd c:Nat)=(0:Int)):=by
  simp only [emptyOf,emptyAll]
  rw [if_neg (by decide)]
  simp only [Bool.true_and]
  cases xs with
  | nil =>
   have:n=0:=by simpa using hl.1.symm
   subst this
   simp
  | cons a r =>
   have hp:0<n:=by have:=hl.1;simp at this;omega
   have:0<n / wd c:=by
    rcases Nat.eq_zero_or_pos (n / wd c) with q|q
    ·have:=Nat.div_add_mod n (wd c)
     rw [q,hw] at this
     omega
    ·exact q
   have h2:¬ ((n / wd c:Nat):Int)=0:=by omega
   rw [decide_eq_false h2]
   rfl
 rw [he]
 have HL:=Lib.hid (fun w=>length_any p n cap c hc (by omega) w)
 clear he hf hw hb h hl
 show Calls Tryz.prog 121 #[.agg #[.int .u8 c,.slice p n cap]] w _
 generalize n / wd c=q at *
 go_enter Tryz.func121,Tryz.ntmps121
 go_wp2_with (go_at_call 126;(with_reducible refine (HL.out _).mono ?_);rintro e w1 ⟨rfl,hb1⟩;have HB1:Hid (Bel w w1):=Lib.hid ((Bel.alloc1 w _).trans hb1);clear hb1)
 go_ret
 exact ⟨by first|rfl|(congr 2;first|rfl|(by_cases hq:q=0<;>simp [hq])),HB1.out⟩
theorem pointOb_empty {F:Nat→Prop} {cs:List Value} {g:Gm} {w0:World} (h:Ob F w0 1 cs g) (w:World):Calls Tryz.prog 120 #[.agg cs.toArray] w fun e w'=>e=.returned (.bool (emptyOf g))∧Bel w w':=by
 obtain ⟨x,y,z,m,c,full,rfl,hc,rfl⟩:=h.pt
 have he:emptyOf (.mk 1 c (if full then numsOfPl c ⟨x,y,z,m⟩ else []) [])=!full:=by
  simp only [emptyOf,emptyAll]
  rw [if_neg (by decide)]
  cases full
  ·rfl
  ·rfl
 rw [he]
 exact pointEmpty_any x y z m c full w
theorem polygonEmpty_any {F:Nat→Prop} {cs:List Value} {g:Gm} {w0:World} (h:Ob F w0 3 cs g) (w:World):Calls Tryz.prog 122 #[.agg cs.toArray] w fun e w'=>e=.returned (.bool (emptyOf g))∧Bel w w':=by
 obtain ⟨p,cap,c,gs,rfl,hc,rfl,_⟩:=h.sl (e:=2) (k:=2) rfl
 have he:emptyOf (.mk (3:Nat) c [] gs)=((gs.length:Int) == 0):=by
  simp only [emptyOf]
  rw [if_pos (show ((3:Nat):Int)=3 from rfl)]
  cases gs with
  | nil=>rfl
  | cons a r =>
   have:((((a :: r).length:Nat):Int) == 0)=false:=by simp;omega
   rw [this]
   rfl
 rw [he]
 show Calls Tryz.prog 122 #[.agg #[.slice p gs.length cap,.int .u8 c]] w _
 generalize gs.length=n at *
 go_enter Tryz.func122,Tryz.ntmps122
 go_wp2
 go_ret
 exact ⟨by first|rfl|(congr 2;first|rfl|(by_cases hq:n=0<;>simp [hq])),by exact EL⟩
def GeoEmpty (g:Gm):Prop:=∀ (F:Nat→Prop) (cs:List Value) (w:World),Ob F w 7 cs g→Calls Tryz.prog 47 #[.agg cs.toArray] w fun e w'=>e=.returned (.bool (emptyOf g))∧Bel w w'
set_option maxHeartbeats 4000000 in
set_option maxRecDepth 100000 in
theorem multiPointEmpty_any {F:Nat→Prop} {cs:List Value} {g:Gm} (w:World) (h:Ob F w 4 cs g):Calls Tryz.prog 123 #[.agg cs.toArray] w fun e w'=>e=.returned (.bool (emptyOf g))∧Bel w w':=by
 obtain ⟨p,cap,c,gs,rfl,hc,rfl,hn31,hsl⟩:=h.sl (e:=1) (k:=6) rfl
 have he:emptyOf (.mk (4:Nat) c [] gs)=emptyAll gs:=by
  simp only [emptyOf]
  rw [if_neg (by decide)]
  simp
 rw [he]
 have HSL:=Lib.hid hsl
 clear h hsl he
 show Calls Tryz.prog 123 #[.agg #[.slice p gs.length cap,.int .u8 c]] w _
 generalize hn:gs.length=n at *
 have HN:=Lib.hid hn
 clear hn
 go_enter Tryz.func123,Tryz.ntmps123
 go_wp2
 go_loopw [8] (fun iv wr=>∃ t:Nat,iv=.int .i64 t∧t≤n∧Bel w wr∧emptyAll (gs.take t)=true) (fun iv _=>n - (intOf iv).toNat)
 case atStart=>exact ⟨0,rfl,Nat.zero_le _,by exact EL,by simp [emptyAll]⟩
 case round =>
  obtain ⟨t,rfl,ht,hbel,hall⟩:=hrel
  have HBEL:=Lib.hid hbel
  have HALL:=Lib.hid hall
  by_cases htn:t<n
  ·obtain ⟨g,hg⟩:∃ g,gs[t]?=some g:=⟨_,List.getElem?_eq_getElem (by have:=HN.out;omega)⟩
   obtain ⟨_,_,hve,_,_,hq⟩:=HSL.out
   cases hve
   obtain ⟨b,off,rfl,hlt,-,hr⟩:=hq (by intro e;rw [e] at hg;simp at hg)
   obtain ⟨cl,hcl,hcell,hob⟩:=hr t g hg
   have HC:Hid (∀ W,Bel w W→Calls Tryz.prog 120 #[.agg cl.toArray] W fun e w'=>e=.returned (.bool (emptyOf g))∧Bel W w'):=Lib.hid fun W hW=>pointOb_empty (hob.bel hW) W
   obtain ⟨x0,y0,a0,m0,d0,f0,hcs0,-⟩:=hob.pt;cases hcs0
   have D0:=cell_kept hbel (hcell 0 (.float .f64 x0) rfl)
   have D1:=cell_kept hbel (hcell 1 (.float .f64 y0) rfl)
   have D2:=cell_kept hbel (hcell 2 (.float .f64 a0) rfl)
   have D3:=cell_kept hbel (hcell 3 (.float .f64 m0) rfl)
   have D4:=cell_kept hbel (hcell 4 (.int .u8 d0) rfl)
   have D5:=cell_kept hbel (hcell 5 (.bool f0) rfl)
   simp only [Nat.add_zero] at D0
   have E1:=D1
   rw [← Nat.add_assoc] at E1
   have E2:=D2
   rw [← Nat.add_assoc] at E2
   have E3:=D3
   rw [← Nat.add_assoc] at E3
   have E4:=D4
   rw [← Nat.add_assoc] at E4
   have E5:=D5
   rw [← Nat.add_assoc] at E5
   have hbl:b<wr.heap.size:=Nat.lt_of_lt_of_le hlt hbel.size
   have HTK:=Lib.hid (emptyAll_take hg)
   have HNT:Hid (emptyOf g=false→emptyAll gs=false):=Lib.hid (emptyAll_not hg)
   clear hq hr hcell hob hcl hbel hg hall
   generalize emptyOf g=eg at *
   cases eg
   ·have HR:=Lib.hid (HNT.out rfl)
    go_wp2_with (go_at_call 120;(with_reducible refine (HC.out _ ?hb).mono ?_);(case hb=>exact HBEL.out.alloc _);rintro e w3 ⟨rfl,hb⟩;have HB3:Hid (Bel wr w3):=Lib.hid ((Bel.alloc1 _ _).trans hb);clear hb)
    go_ret
    exact ⟨by rw [HR.out];rfl,HBEL.out.trans HB3.out⟩
   ·go_wp2_with (go_at_call 120;(with_reducible refine (HC.out _ ?hb).mono ?_);(case hb=>exact HBEL.out.alloc _);rintro e w3 ⟨rfl,hb⟩;have HB3:Hid (Bel wr w3):=Lib.hid ((Bel.alloc1 _ _).trans hb);clear hb)
    go_roundw
    case rel=>exact ⟨t+1,by go_num,by omega,HBEL.out.trans HB3.out,by rw [HTK.out,HALL.out];rfl⟩
    case measure=>simp [intOf];omega
  ·obtain rfl:t=n:=by omega
   have hx:gs.take t=gs:=List.take_of_length_le (by have:=HN.out;omega)
   rw [hx] at HALL
   clear hx hbel hall
   go_wp2
   go_ret
   exact ⟨by rw [HALL.out];rfl,HBEL.out⟩
set_option maxHeartbeats 4000000 in
set_option maxRecDepth 100000 in
theorem multiLineEmpty_any {F:Nat→Prop} {cs:List Value} {g:Gm} (w:World) (h:Ob F w 5 cs g):Calls Tryz.prog 124 #[.agg cs.toArray] w fun e w'=>e=.returned (.bool (emptyOf g))∧Bel w w':=by
 obtain ⟨p,cap,c,gs,rfl,hc,rfl,hn31,hsl⟩:=h.sl (e:=2) (k:=2) rfl
 have he:emptyOf (.mk (5:Nat) c [] gs)=emptyAll gs:=by
  simp only [emptyOf]
  rw [if_neg (by decide)]
  simp
 rw [he]
 have HSL:=Lib.hid hsl
 clear h hsl he
 show Calls Tryz.prog 124 #[.agg #[.slice p gs.length cap,.int .u8 c]] w _
 generalize hn:gs.length=n at *
 have HN:=Lib.hid hn
 clear hn
 go_enter Tryz.func124,Tryz.ntmps124
 go_wp2
 go_loopw [8] (fun iv wr=>∃ t:Nat,iv=.int .i64 t∧t≤n∧Bel w wr∧emptyAll (gs.take t)=true) (fun iv _=>n - (intOf iv).toNat)
 case atStart=>exact ⟨0,rfl,Nat.zero_le _,by exact EL,by simp [emptyAll]⟩
 case round =>
  obtain ⟨t,rfl,ht,hbel,hall⟩:=hrel
  have HBEL:=Lib.hid hbel
  have HALL:=Lib.hid hall
  by_cases htn:t<n
  ·obtain ⟨g,hg⟩:∃ g,gs[t]?=some g:=⟨_,List.getElem?_eq_getElem (by have:=HN.out;omega)⟩
   obtain ⟨_,_,hve,_,_,hq⟩:=HSL.out
   cases hve
   obtain ⟨b,off,rfl,hlt,-,hr⟩:=hq (by intro e;rw [e] at hg;simp at hg)
   obtain ⟨cl,hcl,hcell,hob⟩:=hr t g hg
   have HC:Hid (∀ W,Bel w W→Calls Tryz.prog 121 #[.agg cl.toArray] W fun e w'=>e=.returned (.bool (emptyOf g))∧Bel W w'):=Lib.hid fun W hW=>lineEmpty_any (hob.bel hW) W
   obtain ⟨d0,p0,n0,q0,xs0,hcs0,-⟩:=hob.ln;cases hcs0
   have D0:=cell_kept hbel (hcell 0 (.int .u8 d0) rfl)
   have D1:=cell_kept hbel (hcell 1 (.slice p0 n0 q0) rfl)
   simp only [Nat.add_zero] at D0
   have E1:=D1
   rw [← Nat.add_assoc] at E1
   have hbl:b<wr.heap.size:=Nat.lt_of_lt_of_le hlt hbel.size
   have HTK:=Lib.hid (emptyAll_take hg)
   have HNT:Hid (emptyOf g=false→emptyAll gs=false):=Lib.hid (emptyAll_not hg)
   clear hq hr hcell hob hcl hbel hg hall
   generalize emptyOf g=eg at *
   cases eg
   ·have HR:=Lib.hid (HNT.out rfl)
    go_wp2_with (go_at_call 121;(with_reducible refine (HC.out _ ?hb).mono ?_);(case hb=>exact HBEL.out.alloc _);rintro e w3 ⟨rfl,hb⟩;have HB3:Hid (Bel wr w3):=Lib.hid ((Bel.alloc1 _ _).trans hb);clear hb)
    go_ret
    exact ⟨by rw [HR.out];rfl,HBEL.out.trans HB3.out⟩
   ·go_wp2_with (go_at_call 121;(with_reducible refine (HC.out _ ?hb).mono ?_);(case hb=>exact HBEL.out.alloc _);rintro e w3 ⟨rfl,hb⟩;have HB3:Hid (Bel wr w3):=Lib.hid ((Bel.alloc1 _ _).trans hb);clear hb)
    go_roundw
    case rel=>exact ⟨t+1,by go_num,by omega,HBEL.out.trans HB3.out,by rw [HTK.out,HALL.out];rfl⟩
    case measure=>simp [intOf];omega
  ·obtain rfl:t=n:=by omega
   have hx:gs.take t=gs:=List.take_of_length_le (by have:=HN.out;omega)
   rw [hx] at HALL
   clear hx hbel hall
   go_wp2
   go_ret
   exact ⟨by rw [HALL.out];rfl,HBEL.out⟩
set_option maxHeartbeats 4000000 in
set_option maxRecDepth 100000 in
theorem multiPolygonEmpty_any {F:Nat→Prop} {cs:List Value} {g:Gm} (w:World) (h:Ob F w 6 cs g):Calls Tryz.prog 125 #[.agg cs.toArray] w fun e w'=>e=.returned (.bool (emptyOf g))∧Bel w w':=by
 obtain ⟨p,cap,c,gs,rfl,hc,rfl,hn31,hsl⟩:=h.sl (e:=3) (k:=2) rfl
 have he:emptyOf (.mk (6:Nat) c [] gs)=emptyAll gs:=by
  simp only [emptyOf]
  rw [if_neg (by decide)]
  simp
 rw [he]
 have HSL:=Lib.hid hsl
 clear h hsl he
 show Calls Tryz.prog 125 #[.agg #[.slice p gs.length cap,.int .u8 c]] w _
 generalize hn:gs.length=n at *
 have HN:=Lib.hid hn
 clear hn
 go_enter Tryz.func125,Tryz.ntmps125
 go_wp2
 go_loopw [8] (fun iv wr=>∃ t:Nat,iv=.int .i64 t∧t≤n∧Bel w wr∧emptyAll (gs.take t)=true) (fun iv _=>n - (intOf iv).toNat)
 case atStart=>exact ⟨0,rfl,Nat.zero_le _,by exact EL,by simp [emptyAll]⟩
 case round =>
  obtain ⟨t,rfl,ht,hbel,hall⟩:=hrel
  have HBEL:=Lib.hid hbel
  have HALL:=Lib.hid hall
  by_cases htn:t<n
  ·obtain ⟨g,hg⟩:∃ g,gs[t]?=some g:=⟨_,List.getElem?_eq_getElem (by have:=HN.out;omega)⟩
   obtain ⟨_,_,hve,_,_,hq⟩:=HSL.out
   cases hve
   obtain ⟨b,off,rfl,hlt,-,hr⟩:=hq (by intro e;rw [e] at hg;simp at hg)
   obtain ⟨cl,hcl,hcell,hob⟩:=hr t g hg
   have HC:Hid (∀ W,Bel w W→Calls Tryz.prog 122 #[.agg cl.toArray] W fun e w'=>e=.returned (.bool (emptyOf g))∧Bel W w'):=Lib.hid fun W hW=>polygonEmpty_any (hob.bel hW) W
   obtain ⟨p0,n0,q0,d0,hcs0⟩:=hob.ofSl (c:=0) (e:=2) (k:=2) rfl;cases hcs0
   have D0:=cell_kept hbel (hcell 0 (.slice p0 n0 q0) rfl)
   have D1:=cell_kept hbel (hcell 1 (.int .u8 d0) rfl)
   simp only [Nat.add_zero] at D0
   have E1:=D1
   rw [← Nat.add_assoc] at E1
   have hbl:b<wr.heap.size:=Nat.lt_of_lt_of_le hlt hbel.size
   have HTK:=Lib.hid (emptyAll_take hg)
   have HNT:Hid (emptyOf g=false→emptyAll gs=false):=Lib.hid (emptyAll_not hg)
   clear hq hr hcell hob hcl hbel hg hall
   generalize emptyOf g=eg at *
   cases eg
   ·have HR:=Lib.hid (HNT.out rfl)
    go_wp2_with (go_at_call 122;(with_reducible refine (HC.out _ ?hb).mono ?_);(case hb=>exact HBEL.out.alloc _);rintro e w3 ⟨rfl,hb⟩;have HB3:Hid (Bel wr w3):=Lib.hid ((Bel.alloc1 _ _).trans hb);clear hb)
    go_ret
    exact ⟨by rw [HR.out];rfl,HBEL.out.trans HB3.out⟩
   ·go_wp2_with (go_at_call 122;(with_reducible refine (HC.out _ ?hb).mono ?_);(case hb=>exact HBEL.out.alloc _);rintro e w3 ⟨rfl,hb⟩;have HB3:Hid (Bel wr w3):=Lib.hid ((Bel.alloc1 _ _).trans hb);clear hb)
    go_roundw
    case rel=>exact ⟨t+1,by go_num,by omega,HBEL.out.trans HB3.out,by rw [HTK.out,HALL.out];rfl⟩
    case measure=>simp [intOf];omega
  ·obtain rfl:t=n:=by omega
   have hx:gs.take t=gs:=List.take_of_length_le (by have:=HN.out;omega)
   rw [hx] at HALL
   clear hx hbel hall
   go_wp2
   go_ret
   exact ⟨by rw [HALL.out];rfl,HBEL.out⟩
set_option maxHeartbeats 4000000 in
set_option maxRecDepth 100000 in
theorem collEmpty_any {F:Nat→Prop} {cs:List Value} {g:Gm} (w:World) (h:Ob F w 0 cs g) (hih:∀ k ∈ g.kids,GeoEmpty k):Calls Tryz.prog 119 #[.agg cs.toArray] w fun e w'=>e=.returned (.bool (emptyOf g))∧Bel w w':=by
 obtain ⟨p,cap,c,gs,rfl,hc,rfl,hn31,hsl⟩:=h.sl (e:=7) (k:=2) rfl
 have HIH:Hid (∀ k ∈ gs,GeoEmpty k):=Lib.hid hih
 clear hih
 have he:emptyOf (.mk (0:Nat) c [] gs)=emptyAll gs:=by
  simp only [emptyOf]
  rw [if_neg (by decide)]
  simp
 rw [he]
 have HSL:=Lib.hid hsl
 clear h hsl he
 show Calls Tryz.prog 119 #[.agg #[.slice p gs.length cap,.int .u8 c]] w _
 generalize hn:gs.length=n at *
 have HN:=Lib.hid hn
 clear hn
 go_enter Tryz.func119,Tryz.ntmps119
 go_wp2
 go_loopw [8] (fun iv wr=>∃ t:Nat,iv=.int .i64 t∧t≤n∧Bel w wr∧emptyAll (gs.take t)=true) (fun iv _=>n - (intOf iv).toNat)
 case atStart=>exact ⟨0,rfl,Nat.zero_le _,by exact EL,by simp [emptyAll]⟩
 case round =>
  obtain ⟨t,rfl,ht,hbel,hall⟩:=hrel
  have HBEL:=Lib.hid hbel
  have HALL:=Lib.hid hall
  by_cases htn:t<n
  ·obtain ⟨g,hg⟩:∃ g,gs[t]?=some g:=⟨_,List.getElem?_eq_getElem (by have:=HN.out;omega)⟩
   obtain ⟨_,_,hve,_,_,hq⟩:=HSL.out
   cases hve
   obtain ⟨b,off,rfl,hlt,-,hr⟩:=hq (by intro e;rw [e] at hg;simp at hg)
   obtain ⟨cl,hcl,hcell,hob⟩:=hr t g hg
   have HC:Hid (∀ W,Bel w W→Calls Tryz.prog 47 #[.agg cl.toArray] W fun e w'=>e=.returned (.bool (emptyOf g))∧Bel W w'):=Lib.hid fun W hW=>HIH.out g (List.mem_iff_getElem?.2 ⟨t,hg⟩) F _ W (hob.bel hW)
   obtain ⟨s0,b0,cl0,hcs0,-⟩:=hob.gi;cases hcs0
   have D0:=cell_kept hbel (hcell 0 (.int .i64 s0) rfl)
   have D1:=cell_kept hbel (hcell 1 (.iface (ptrT s0) (.pointer (some ⟨b0,0,none⟩))) rfl)
   simp only [Nat.add_zero] at D0
   have E1:=D1
   rw [← Nat.add_assoc] at E1
   have hbl:b<wr.heap.size:=Nat.lt_of_lt_of_le hlt hbel.size
   have HTK:=Lib.hid (emptyAll_take hg)
   have HNT:Hid (emptyOf g=false→emptyAll gs=false):=Lib.hid (emptyAll_not hg)
   clear hq hr hcell hob hcl hbel hg hall
   generalize emptyOf g=eg at *
   cases eg
   ·have HR:=Lib.hid (HNT.out rfl)
    go_wp2_with (go_at_call 47;(with_reducible refine (HC.out _ ?hb).mono ?_);(case hb=>exact HBEL.out.alloc _);rintro e w3 ⟨rfl,hb⟩;have HB3:Hid (Bel wr w3):=Lib.hid ((Bel.alloc1 _ _).trans hb);clear hb)
    go_ret
    exact ⟨by rw [HR.out];rfl,HBEL.out.trans HB3.out⟩
   ·go_wp2_with (go_at_call 47;(with_reducible refine (HC.out _ ?hb).mono ?_);(case hb=>exact HBEL.out.alloc _);rintro e w3 ⟨rfl,hb⟩;have HB3:Hid (Bel wr w3):=Lib.hid ((Bel.alloc1 _ _).trans hb);clear hb)
    go_roundw
    case rel=>exact ⟨t+1,by go_num,by omega,HBEL.out.trans HB3.out,by rw [HTK.out,HALL.out];rfl⟩
    case measure=>simp [intOf];omega
  ·obtain rfl:t=n:=by omega
   have hx:gs.take t=gs:=List.take_of_length_le (by have:=HN.out;omega)
   rw [hx] at HALL
   clear hx hbel hall
   go_wp2
   go_ret
   exact ⟨by rw [HALL.out];rfl,HBEL.out⟩
set_option maxHeartbeats 8000000 in
set_option maxRecDepth 100000 in
theorem geoEmpty_ind:∀ (n:Nat) (g:Gm),g.size≤n→GeoEmpty g:=by
 intro n
 induction n with
 | zero=>exact fun g h=>absurd h (by have:=g.size_pos;omega)
 | succ n ih =>
  intro g hsz F cs w h
  obtain ⟨s,b,cl,rfl,hs6,hlt,hFb,hc,ho⟩:=h.gi
  clear h
  have h7:s=0∨s=1∨s=2∨s=3∨s=4∨s=5∨s=6:=by omega
  have HO:Hid (∀ W,Bel w W→Ob F W s cl g):=Lib.hid fun W hW=>ho.bel hW
  have HIH:Hid (∀ k ∈ g.kids,GeoEmpty k):=Lib.hid fun k hk=>ih k (by
   have:=g.size_eq
   have:=Gm.size_mem hk
   omega)
  clear ih hsz
  rcases h7 with rfl|rfl|rfl|rfl|rfl|rfl|rfl
  ·obtain ⟨p,cap,c,gs,hcs,-⟩:=ho.sl (e:=7) (k:=2) rfl
   subst hcs
   clear ho
   show Calls Tryz.prog 47 #[.agg #[.int .i64 0,.iface 170 (.pointer (some ⟨b,0,none⟩))]] w _
   have HM:Hid (∀ W,Bel w W→Calls Tryz.prog 83 #[.agg #[.int .i64 0,.iface 170 (.pointer (some ⟨b,0,none⟩))]] W fun e w'=>e=.returned (.agg #[.slice p gs.length cap,.int .u8 c])∧Bel W w'):=Lib.hid fun W hW=>mustAs_0 _ _ _ _ b W (cell_kept hW (hc 0 _ rfl)) (cell_kept hW (hc 1 _ rfl))
   have HC:Hid (∀ W,Bel w W→Calls Tryz.prog 119 #[.agg #[.slice p gs.length cap,.int .u8 c]] W fun e w'=>e=.returned (.bool (emptyOf g))∧Bel W w'):=Lib.hid fun W hW=>collEmpty_any W (HO.out W hW) HIH.out
   clear hc HO HIH
   generalize gs.length=n at *
   go_enter Tryz.func47,Tryz.ntmps47
   go_wp2_with (first
    | (go_at_call 83;(with_reducible refine (HM.out _ ?hb).mono ?_);(case hb=>exact EL);rintro e w1 ⟨rfl,hb1⟩;have HB1:Hid (Bel w w1):=Lib.hid ((show Bel w _ by exact EL).trans hb1);clear hb1)
    | (go_at_call 119;(with_reducible refine (HC.out _ HB1.out).mono ?_);rintro e w2 ⟨rfl,hb2⟩;have HB2:Hid (Bel w w2):=Lib.hid (HB1.out.trans hb2);clear hb2))
   go_ret
   exact ⟨rfl,HB2.out⟩
  ·obtain ⟨x,y,z,m,c,full,hcs,-⟩:=ho.pt
   subst hcs
   clear ho
   show Calls Tryz.prog 47 #[.agg #[.int .i64 1,.iface 164 (.pointer (some ⟨b,0,none⟩))]] w _
   have HM:Hid (∀ W,Bel w W→Calls Tryz.prog 97 #[.agg #[.int .i64 1,.iface 164 (.pointer (some ⟨b,0,none⟩))]] W fun e w'=>e=.returned (.agg #[.float .f64 x,.float .f64 y,.float .f64 z,.float .f64 m,.int .u8 c,.bool full])∧Bel W w'):=Lib.hid fun W hW=>mustAs_1 _ _ _ _ _ _ b W (cell_kept hW (hc 0 _ rfl)) (cell_kept hW (hc 1 _ rfl)) (cell_kept hW (hc 2 _ rfl)) (cell_kept hW (hc 3 _ rfl)) (cell_kept hW (hc 4 _ rfl)) (cell_kept hW (hc 5 _ rfl))
   have HC:Hid (∀ W,Bel w W→Calls Tryz.prog 120 #[.agg #[.float .f64 x,.float .f64 y,.float .f64 z,.float .f64 m,.int .u8 c,.bool full]] W fun e w'=>e=.returned (.bool (emptyOf g))∧Bel W w'):=Lib.hid fun W hW=>pointOb_empty (HO.out W hW) W
   clear hc HO HIH
   go_enter Tryz.func47,Tryz.ntmps47
   go_wp2_with (first
    | (go_at_call 97;(with_reducible refine (HM.out _ ?hb).mono ?_);(case hb=>exact EL);rintro e w1 ⟨rfl,hb1⟩;have HB1:Hid (Bel w w1):=Lib.hid ((show Bel w _ by exact EL).trans hb1);clear hb1)
    | (go_at_call 120;(with_reducible refine (HC.out _ HB1.out).mono ?_);rintro e w2 ⟨rfl,hb2⟩;have HB2:Hid (Bel w w2):=Lib.hid (HB1.out.trans hb2);clear hb2))
   go_ret
   exact ⟨rfl,HB2.out⟩
  ·obtain ⟨c,p,n,cap,xs,hcs,-⟩:=ho.ln
   subst hcs
   clear ho
   show Calls Tryz.prog 47 #[.agg #[.int .i64 2,.iface 162 (.pointer (some ⟨b,0,none⟩))]] w _
   have HM:Hid (∀ W,Bel w W→Calls Tryz.prog 67 #[.agg #[.int .i64 2,.iface 162 (.pointer (some ⟨b,0,none⟩))]] W fun e w'=>e=.returned (.agg #[.int .u8 c,.slice p n cap])∧Bel W w'):=Lib.hid fun W hW=>mustAs_2 _ _ _ _ b W (cell_kept hW (hc 0 _ rfl)) (cell_kept hW (hc 1 _ rfl))
   have HC:Hid (∀ W,Bel w W→Calls Tryz.prog 121 #[.agg #[.int .u8 c,.slice p n cap]] W fun e w'=>e=.returned (.bool (emptyOf g))∧Bel W w'):=Lib.hid fun W hW=>lineEmpty_any (HO.out W hW) W
   clear hc HO HIH
   go_enter Tryz.func47,Tryz.ntmps47
   go_wp2_with (first
    | (go_at_call 67;(with_reducible refine (HM.out _ ?hb).mono ?_);(case hb=>exact EL);rintro e w1 ⟨rfl,hb1⟩;have HB1:Hid (Bel w w1):=Lib.hid ((show Bel w _ by exact EL).trans hb1);clear hb1)
    | (go_at_call 121;(with_reducible refine (HC.out _ HB1.out).mono ?_);rintro e w2 ⟨rfl,hb2⟩;have HB2:Hid (Bel w w2):=Lib.hid (HB1.out.trans hb2);clear hb2))
   go_ret
   exact ⟨rfl,HB2.out⟩
  ·obtain ⟨p,cap,c,gs,hcs,-⟩:=ho.sl (e:=2) (k:=2) rfl
   subst hcs
   clear ho
   show Calls Tryz.prog 47 #[.agg #[.int .i64 3,.iface 165 (.pointer (some ⟨b,0,none⟩))]] w _
   have HM:Hid (∀ W,Bel w W→Calls Tryz.prog 72 #[.agg #[.int .i64 3,.iface 165 (.pointer (some ⟨b,0,none⟩))]] W fun e w'=>e=.returned (.agg #[.slice p gs.length cap,.int .u8 c])∧Bel W w'):=Lib.hid fun W hW=>mustAs_3 _ _ _ _ b W (cell_kept hW (hc 0 _ rfl)) (cell_kept hW (hc 1 _ rfl))
   have HC:Hid (∀ W,Bel w W→Calls Tryz.prog 122 #[.agg #[.slice p gs.length cap,.int .u8 c]] W fun e w'=>e=.returned (.bool (emptyOf g))∧Bel W w'):=Lib.hid fun W hW=>polygonEmpty_any (HO.out W hW) W
   clear hc HO HIH
   generalize gs.length=n at *
   go_enter Tryz.func47,Tryz.ntmps47
   go_wp2_with (first
    | (go_at_call 72;(with_reducible refine (HM.out _ ?hb).mono ?_);(case hb=>exact EL);rintro e w1 ⟨rfl,hb1⟩;have HB1:Hid (Bel w w1):=Lib.hid ((show Bel w _ by exact EL).trans hb1);clear hb1)
    | (go_at_call 122;(with_reducible refine (HC.out _ HB1.out).mono ?_);rintro e w2 ⟨rfl,hb2⟩;have HB2:Hid (Bel w w2):=Lib.hid (HB1.out.trans hb2);clear hb2))
   go_ret
   exact ⟨rfl,HB2.out⟩
  ·obtain ⟨p,cap,c,gs,hcs,-⟩:=ho.sl (e:=1) (k:=6) rfl
   subst hcs
   clear ho
   show Calls Tryz.prog 47 #[.agg #[.int .i64 4,.iface 167 (.pointer (some ⟨b,0,none⟩))]] w _
   have HM:Hid (∀ W,Bel w W→Calls Tryz.prog 76 #[.agg #[.int .i64 4,.iface 167 (.pointer (some ⟨b,0,none⟩))]] W fun e w'=>e=.returned (.agg #[.slice p gs.length cap,.int .u8 c])∧Bel W w'):=Lib.hid fun W hW=>mustAs_4 _ _ _ _ b W (cell_kept hW (hc 0 _ rfl)) (cell_kept hW (hc 1 _ rfl))
   have HC:Hid (∀ W,Bel w W→Calls Tryz.prog 123 #[.agg #[.slice p gs.length cap,.int .u8 c]] W fun e w'=>e=.returned (.bool (emptyOf g))∧Bel W w'):=Lib.hid fun W hW=>multiPointEmpty_any W (HO.out W hW)
   clear hc HO HIH
   generalize gs.length=n at *
   go_enter Tryz.func47,Tryz.ntmps47
   go_wp2_with (first
    | (go_at_call 76;(with_reducible refine (HM.out _ ?hb).mono ?_);(case hb=>exact EL);rintro e w1 ⟨rfl,hb1⟩;have HB1:Hid (Bel w w1):=Lib.hid ((show Bel w _ by exact EL).trans hb1);clear hb1)
    | (go_at_call 123;(with_reducible refine (HC.out _ HB1.out).mono ?_);rintro e w2 ⟨rfl,hb2⟩;have HB2:Hid (Bel w w2):=Lib.hid (HB1.out.trans hb2);clear hb2))
   go_ret
   exact ⟨rfl,HB2.out⟩
  ·obtain ⟨p,cap,c,gs,hcs,-⟩:=ho.sl (e:=2) (k:=2) rfl
   subst hcs
   clear ho
   show Calls Tryz.prog 47 #[.agg #[.int .i64 5,.iface 168 (.pointer (some ⟨b,0,none⟩))]] w _
   have HM:Hid (∀ W,Bel w W→Calls Tryz.prog 78 #[.agg #[.int .i64 5,.iface 168 (.pointer (some ⟨b,0,none⟩))]] W fun e w'=>e=.returned (.agg #[.slice p gs.length cap,.int .u8 c])∧Bel W w'):=Lib.hid fun W hW=>mustAs_5 _ _ _ _ b W (cell_kept hW (hc 0 _ rfl)) (cell_kept hW (hc 1 _ rfl))
   have HC:Hid (∀ W,Bel w W→Calls Tryz.prog 124 #[.agg #[.slice p gs.length cap,.int .u8 c]] W fun e w'=>e=.returned (.bool (emptyOf g))∧Bel W w'):=Lib.hid fun W hW=>multiLineEmpty_any W (HO.out W hW)
   clear hc HO HIH
   generalize gs.length=n at *
   go_enter Tryz.func47,Tryz.ntmps47
   go_wp2_with (first
    | (go_at_call 78;(with_reducible refine (HM.out _ ?hb).mono ?_);(case hb=>exact EL);rintro e w1 ⟨rfl,hb1⟩;have HB1:Hid (Bel w w1):=Lib.hid ((show Bel w _ by exact EL).trans hb1);clear hb1)
    | (go_at_call 124;(with_reducible refine (HC.out _ HB1.out).mono ?_);rintro e w2 ⟨rfl,hb2⟩;have HB2:Hid (Bel w w2):=Lib.hid (HB1.out.trans hb2);clear hb2))
   go_ret
   exact ⟨rfl,HB2.out⟩
  ·obtain ⟨p,cap,c,gs,hcs,-⟩:=ho.sl (e:=3) (k:=2) rfl
   subst hcs
   clear ho
   show Calls Tryz.prog 47 #[.agg #[.int .i64 6,.iface 169 (.pointer (some ⟨b,0,none⟩))]] w _
   have HM:Hid (∀ W,Bel w W→Calls Tryz.prog 80 #[.agg #[.int .i64 6,.iface 169 (.pointer (some ⟨b,0,none⟩))]] W fun e w'=>e=.returned (.agg #[.slice p gs.length cap,.int .u8 c])∧Bel W w'):=Lib.hid fun W hW=>mustAs_6 _ _ _ _ b W (cell_kept hW (hc 0 _ rfl)) (cell_kept hW (hc 1 _ rfl))
   have HC:Hid (∀ W,Bel w W→Calls Tryz.prog 125 #[.agg #[.slice p gs.length cap,.int .u8 c]] W fun e w'=>e=.returned (.bool (emptyOf g))∧Bel W w'):=Lib.hid fun W hW=>multiPolygonEmpty_any W (HO.out W hW)
   clear hc HO HIH
   generalize gs.length=n at *
   go_enter Tryz.func47,Tryz.ntmps47
   go_wp2_with (first
    | (go_at_call 80;(with_reducible refine (HM.out _ ?hb).mono ?_);(case hb=>exact EL);rintro e w1 ⟨rfl,hb1⟩;have HB1:Hid (Bel w w1):=Lib.hid ((show Bel w _ by exact EL).trans hb1);clear hb1)
    | (go_at_call 125;(with_reducible refine (HC.out _ HB1.out).mono ?_);rintro e w2 ⟨rfl,hb2⟩;have HB2:Hid (Bel w w2):=Lib.hid (HB1.out.trans hb2);clear hb2))
   go_ret
   exact ⟨rfl,HB2.out⟩
theorem geoEmpty_any (g:Gm):GeoEmpty g:=geoEmpty_ind g.size g (Nat.le_refl _)
end Go.Proofs.YtpipehenfcbjbaaGreatDoor
set_option linter.unusedVariables false
set_option linter.unusedSimpArgs false
namespace Go.Proofs.YtpipehenfcbjbaaGreatDoor
open Go.ChangeShapes Go.WideShapes Go.ChangeAt Go.RowKit Ieee
def ptEv (x y:Nat):Ev:=.bx (key x) (key y) (key x) (key y)
/-- The box around the first k places. -/
def evUp (c:Nat) (xs:List Nat):Nat→Ev
 | 0=>.no
 | k+1=>(evUp c xs k).join (ptEv (xs.getD (k*wd c) 0) (xs.getD (k*wd c+1) 0))
def evNums (c:Nat) (xs:List Nat):Ev:=evUp c xs (xs.length / wd c)
theorem ptEv_is {x y:Nat} (hx:nnB x=true) (hy:nnB y=true):EvW true x y x y (ptEv x y):=⟨rfl,⟨hx,hy,hx,hy⟩,rfl,rfl,rfl,rfl⟩
theorem evUp_one (c:Nat) (xs:List Nat):evUp c xs 1=ptEv (xs.getD 0 0) (xs.getD 1 0):=by
 simp [evUp,Ev.no_join]
set_option maxHeartbeats 4000000 in
set_option maxRecDepth 100000 in
theorem expandXY_any (x y:Nat) (hx:nnB x=true) (hy:nnB y=true) (w:World):Calls Tryz.prog 184 #[.agg #[.float .f64 0,.float .f64 0,.float .f64 0,.float .f64 0,.bool false],.agg #[.float .f64 x,.float .f64 y]] w (IsEnv (ptEv x y) w):=by
 have HE:=Lib.hid envEmpty_any
 have HW:=Lib.hid newEnv_any
 have HR:=Lib.hid (ptEv_is hx hy)
 clear hx hy
 generalize ptEv x y=uv at *
 go_enter Tryz.func184,Tryz.ntmps184
 go_wp2_with (first
  | (go_at_call 204;(with_reducible refine (HW.out _ _ _ _ _).mono ?_);rintro e w2 ⟨rfl,hb2⟩;have HB2:Hid (Bel w w2):=Lib.hid (HB1.out.trans hb2);have C2:=HC2.out.bel hb2;have HD2:=Lib.hid C2;obtain ⟨r3,y3,u3⟩:=C2.facts;clear hb2 C2)
  | (go_at_call 181;(with_reducible refine (HE.out _ _ _ _ _ _).mono ?_);rintro e w1 ⟨rfl,hb1⟩;have HB1:Hid (Bel w w1):=Lib.hid (by exact EL);have C1:Blk w1 (w.heap.size+1) #[.float .f64 x,.float .f64 y] 79:=Blk.bel (by exact KL) hb1;have C2:Blk w1 (w.heap.size+1+1) #[.float .f64 0,.float .f64 0,.float .f64 0,.float .f64 0,.bool false] 81:=Blk.bel (by exact KL) hb1;have HC2:=Lib.hid C2;obtain ⟨r1,y1,u1⟩:=C1.facts;obtain ⟨r2,y2,u2⟩:=C2.facts;clear hb1 C1 C2))
 refine post_ret (results_one rfl (resIs_agg (n:=5) (cs:=#[.float .f64 x,.float .f64 y,.float .f64 x,.float .f64 y,.bool true]) (by rfl) Tryz.underlying81 (by kernel_rfl) (T:=81) ?_ rfl)) (IsEnv.mk' HR.out ?_)
 ·have HB:=HD2.out
  exact SL
 ·have HB:=HB2.out
  exact EL
set_option maxHeartbeats 4000000 in
set_option maxRecDepth 100000 in
theorem seqEnv_any (F:Nat→Prop) (p:Option Addr) (n cap c:Nat) (xs:List Nat) (hc:c≤3) {w0:World} (h:FlSl F w0 (.slice p n cap) xs) (hw:n % wd c=0) (hb:n / wd c≤1048576) (hnn:∀ x ∈ xs,nnB x=true) (w:World) (hbl:Bel w0 w) :
  Calls Tryz.prog 185 #[.agg #[.int .u8 c,.slice p n cap]] w (IsEnv (evNums c xs) w):=by
 have hlen:=h.len.1
 have hcap:=h.len.2
 have hD:=wd_bd c
 by_cases h0:n=0
 ·subst h0
  have hxs:xs=[]:=List.length_eq_zero_iff.1 hlen
  subst hxs
  have HR:Hid (EvW false 0 0 0 0 (evNums c [])):=Lib.hid (by
   unfold evNums
   rw [List.length_nil,Nat.zero_div]
   exact ⟨rfl,rfl,rfl,rfl,rfl⟩)
  have HL:=Lib.hid (fun w=>length_any p 0 cap c hc (by omega) w)
  rw [Nat.zero_div] at HL
  generalize evNums c []=uv at *
  clear h hw hb hnn hlen hcap hD
  go_enter Tryz.func185,Tryz.ntmps185
  go_wp2_with (go_at_call 126;(with_reducible refine (HL.out _).mono ?_);rintro e w1 ⟨rfl,hb1⟩;have HB1:Hid (Bel w w1):=Lib.hid (by exact EL);have C2:Blk w1 (w.heap.size+1) #[.float .f64 0,.float .f64 0,.float .f64 0,.float .f64 0,.bool false] 81:=Blk.bel (by exact KL) hb1;have HC2:=Lib.hid C2;obtain ⟨r2,y2,u2⟩:=C2.facts;clear hb1 C2)
  refine post_ret (results_one rfl (resIs_agg (n:=5) (cs:=#[.float .f64 0,.float .f64 0,.float .f64 0,.float .f64 0,.bool false]) (by rfl) Tryz.underlying81 (by kernel_rfl) (T:=81) ?_ rfl)) (IsEnv.mk' HR.out ?_)
  ·have HB:=HC2.out
   exact SL
  ·have HB:=HB1.out
   exact EL
 ·obtain ⟨q,hq⟩:∃ q,n=q*wd c:=⟨n / wd c,(Nat.div_mul_cancel (Nat.dvd_of_mod_eq_zero hw)).symm⟩
  have hq1:n / wd c=q:=by
   rw [hq]
   exact Nat.mul_div_cancel _ (by omega)
  have hq0:0<q:=by
   rcases Nat.eq_zero_or_pos q with e|e
   ·subst e
    omega
   ·exact e
  have hn1:wd c≤n:=by
   rw [hq]
   exact Nat.le_mul_of_pos_left _ hq0
  have hn4:n≤4194304:=by
   have h1:q*wd c≤1048576*4:=Nat.mul_le_mul (by omega) hD.2
   omega
  obtain ⟨b,off,rfl,hlt,-,hcell⟩:=h.cells (by omega)
  obtain ⟨x0,hx0⟩:∃ x,xs[0]?=some x:=⟨_,List.getElem?_eq_getElem (by omega)⟩
  obtain ⟨y0,hy0⟩:∃ x,xs[1]?=some x:=⟨_,List.getElem?_eq_getElem (by omega)⟩
  have nx0:=hnn x0 (List.mem_iff_getElem?.2 ⟨0,hx0⟩)
  have ny0:=hnn y0 (List.mem_iff_getElem?.2 ⟨1,hy0⟩)
  have HG:Hid (∀ W,Bel w W→Calls Tryz.prog 207 #[.agg #[.int .u8 c,.slice (some ⟨b,off,none⟩) n cap],.int .i64 0] W fun e w'=>e=.returned (.agg #[.float .f64 x0,.float .f64 y0])∧Bel W w'):=Lib.hid fun W hW=>getXY_any F _ n cap c 0 xs hc W ((h.bel hbl).bel hW) (by omega) (by omega) x0 y0 (by simpa using hx0) (by simpa using hy0)
  have HL:=Lib.hid (fun w=>length_any (some ⟨b,off,none⟩) n cap c hc (by omega) w)
  rw [hq1] at HL
  have hne:((q:Int) == 0)=false:=by simp;omega
  have HD:=Lib.hid (dimension_any c hc)
  have HSUC:Hid (∀ k x y,xs[k*wd c]?=some x→xs[k*wd c+1]?=some y→evUp c xs (k+1)=(evUp c xs k).join (ptEv x y)):=Lib.hid fun k x y h1 h2=>by
   rw [evUp]
   simp [List.getD,h1,h2]
  have HUP:Hid (EvW true x0 y0 x0 y0 (evUp c xs 1)):=Lib.hid (by
   rw [evUp_one]
   simp only [List.getD,hx0,hy0,Option.getD_some]
   exact ptEv_is nx0 ny0)
  have HEND:Hid (evNums c xs=evUp c xs q):=Lib.hid (by
   unfold evNums
   rw [hlen,hq1])
  have HCE:Hid (∀ i x,xs[i]?=some x→w.cell? ⟨b,off+i,none⟩=some (.float .f64 x)):=Lib.hid fun i x hi=>cell_kept hbl (hcell i x hi)
  have hblt:b<w.heap.size:=Nat.lt_of_lt_of_le hlt hbl.size
  have HNN:=Lib.hid hnn
  have HXL:=Lib.hid hlen
  have HMI:=Lib.hid fun x y (h:nnB x=true)=>fastMin_any x y h
  have HMX:=Lib.hid fun x y (h:nnB x=true)=>fastMax_any x y h
  have HNE:=Lib.hid newEnv_any
  have HN:=Lib.hid hq
  have HQ0:=Lib.hid hq0
  have HQB:Hid (q≤1048576):=Lib.hid (by omega)
  obtain ⟨hD2,hD4⟩:=hD
  clear h hw hb hnn hlen hcell hx0 hy0 nx0 ny0 h0 hbl hq hq1 hq0
  generalize wd c=D at *
  generalize evUp c xs=eu at *
  generalize evNums c xs=uv at *
  go_enter Tryz.func185,Tryz.ntmps185
  go_wp2_with (first
   | (go_at_call 161;(with_reducible refine (HD.out _).mono ?_);rintro e w' ⟨rfl,rfl⟩)
   | (go_at_call 207;(with_reducible refine (HG.out _ HB1.out).mono ?_);rintro e w2 ⟨rfl,hb2⟩;have HB2:Hid (Bel w w2):=Lib.hid (HB1.out.trans hb2);have C1:=HC1.out.bel hb2;have C2:=HC2.out.bel hb2;have HD1:=Lib.hid C1;have HD2:=Lib.hid C2;obtain ⟨r3,y3,u3⟩:=C1.facts;clear hb2 C1 C2)
   | (go_at_call 126;(with_reducible refine (HL.out _).mono ?_);rintro e w1 ⟨rfl,hb1⟩;have HB1:Hid (Bel w w1):=Lib.hid (by exact EL);have C1:Blk w1 w.heap.size #[.int .u8 c,.slice (some ⟨b,off,none⟩) n cap] 109:=Blk.bel (by exact KL) hb1;have C2:Blk w1 (w.heap.size+1) #[.float .f64 0,.float .f64 0,.float .f64 0,.float .f64 0,.bool false] 81:=Blk.bel (by exact KL) hb1;have HC1:=Lib.hid C1;have HC2:=Lib.hid C2;obtain ⟨r1,z1,u1⟩:=C1.facts;clear hb1 C1 C2))
  go_region
  ·generalize hW3:World.drew (World.alloc (World.alloc (World.alloc w2 _) _) _)=w3 at *
   have hb3:Bel w2 w3:=by
    subst hW3
    exact EL
   have CA:Blk w3 (w2.heap.size+1) #[.float .f64 x0,.float .f64 y0] 79:=by
    subst hW3
    exact KL
   have CB:Blk w3 (w2.heap.size+1+1) #[.float .f64 x0,.float .f64 y0] 79:=by
    subst hW3
    exact KL
   have HB3:Hid (Bel w w3):=Lib.hid (HB2.out.trans hb3)
   have E1:=HD1.out.bel hb3
   have E2:=HD2.out.bel hb3
   have hsz2:w.heap.size+2≤w2.heap.size:=by
    have:=HD2.out.facts.2.2
    omega
   clear hW3 hb3
   generalize hB:w2.heap.size+1+1=B at *
   generalize hA:w2.heap.size+1=A at *
   have hA0:w.heap.size+1<A:=by omega
   have hB0:w.heap.size+1<B:=by omega
   have hAB:A ≠ B:=by omega
   clear hA hB hsz2
   have HE1:=Lib.hid E1
   have HE2:=Lib.hid E2
   obtain ⟨r4,y4,u4⟩:=E1.facts
   clear E1 E2
   clear r3 y3 u3 HC1 HC2 HD1 HD2
   have HP:=Lib.hid CA
   have HQ:=Lib.hid CB
   clear CA CB
   go_wp2_with (go_at_call 161;(with_reducible refine (HD.out _).mono ?_);rintro e w' ⟨rfl,rfl⟩)
   go_loopw [8,9,10] (fun iv xv yv wr=>∃ (k m1 m2 m3 m4:Nat),iv=.int .i64 (k*D:Nat)∧1≤k∧k≤q∧Bel w wr∧EvW true m1 m2 m3 m4 (eu k)∧Blk wr A #[.float .f64 m1,.float .f64 m2] 79∧Blk wr B #[.float .f64 m3,.float .f64 m4] 79∧Blk wr w.heap.size #[.int .u8 c,.slice (some ⟨b,off,none⟩) n cap] 109∧Blk wr (w.heap.size+1) #[.float .f64 0,.float .f64 0,.float .f64 0,.float .f64 0,.bool false] 81) (fun iv _ _ _=>n - (intOf iv).toNat)
   case atStart=>exact ⟨1,x0,y0,x0,y0,by rw [Nat.one_mul],Nat.le_refl _,HQ0.out,by have HB:=HB3.out;exact EL,HUP.out,by have HB:=HP.out;exact KL,by have HB:=HQ.out;exact KL,by have HB:=HE1.out;exact KL,by have HB:=HE2.out;exact KL⟩
   case round =>
    obtain ⟨k,m1,m2,m3,m4,rfl,hk1,hkq,hbel,hev,hbp,hbq,hb0,hb1⟩:=hrel
    have HBEL:=Lib.hid hbel
    have HG1:=Lib.hid hbp
    have HG2:=Lib.hid hbq
    have HG3:=Lib.hid hb0
    have HG4:=Lib.hid hb1
    obtain ⟨q1,v1,t1⟩:=hbp.facts
    obtain ⟨q2,v2,t2⟩:=hbq.facts
    obtain ⟨q3,v3,t3⟩:=hb0.facts
    have hbw:b<wr.heap.size:=Nat.lt_of_lt_of_le hblt hbel.size
    by_cases hkq':k<q
    ·have hK1:k*D+D≤n:=by
      rw [HN.out,← Nat.succ_mul]
      exact Nat.mul_le_mul_right _ (by omega)
     obtain ⟨x1,hx1⟩:∃ x,xs[k*D]?=some x:=⟨_,List.getElem?_eq_getElem (by have:=HXL.out;omega)⟩
     obtain ⟨y1,hy1⟩:∃ x,xs[k*D+1]?=some x:=⟨_,List.getElem?_eq_getElem (by have:=HXL.out;omega)⟩
     have nx:=HNN.out x1 (List.mem_iff_getElem?.2 ⟨_,hx1⟩)
     have ny:=HNN.out y1 (List.mem_iff_getElem?.2 ⟨_,hy1⟩)
     have D0:=cell_kept hbel (HCE.out _ _ hx1)
     have D1:=cell_kept hbel (HCE.out _ _ hy1)
     obtain ⟨n1,n2,n3,n4⟩:=hev.nn rfl
     have HS:Hid (EvW true (mnB m1 x1) (mnB m2 y1) (mxB m3 x1) (mxB m4 y1) (eu (k+1))):=Lib.hid (by
      rw [HSUC.out k x1 y1 hx1 hy1]
      exact hev.join (ptEv_is nx ny) rfl rfl)
     have HM1:=Lib.hid (HMI.out m1 x1 n1)
     have HM2:=Lib.hid (HMI.out m2 y1 n2)
     have HM3:=Lib.hid (HMX.out m3 x1 n3)
     have HM4:=Lib.hid (HMX.out m4 y1 n4)
     have HKD:Hid ((k+1)*D=k*D+D):=Lib.hid (Nat.succ_mul k D)
     generalize k*D=K at *
     generalize mnB m1 x1=z1 at *
     generalize mnB m2 y1=z2 at *
     generalize mxB m3 x1=z3 at *
     generalize mxB m4 y1=z4 at *
     clear hbel hev hbp hbq hb0 hb1 hx1 hy1 nx ny n1 n2 n3 n4 r4 y4 u4
     have hkn:K<n:=by omega
     have hkn1:K+1<n:=by omega
     have hbA:b ≠ A:=by omega
     have hbB:b ≠ B:=by omega
     go_wp2_with (first
      | (go_at_call 205;(with_reducible refine (HM1.out _).mono ?_);rintro e w' ⟨rfl,rfl⟩)
      | (go_at_call 205;(with_reducible refine (HM2.out _).mono ?_);rintro e w' ⟨rfl,rfl⟩)
      | (go_at_call 206;(with_reducible refine (HM3.out _).mono ?_);rintro e w' ⟨rfl,rfl⟩)
      | (go_at_call 206;(with_reducible refine (HM4.out _).mono ?_);rintro e w' ⟨rfl,rfl⟩))
     go_roundw
     case rel=>exact ⟨k+1,z1,z2,z3,z4,by (have:=HKD.out;go_num),by omega,by omega,by have HB:=HBEL.out;exact EL,HS.out,by have HB:=HG1.out;exact SL,by have HB:=HG2.out;exact SL,by have HB:=HG3.out;exact SL,by have HB:=HG4.out;exact SL⟩
     case measure=>simp [intOf];omega
    ·obtain rfl:k=q:=by omega
     have HS:Hid (EvW true m1 m2 m3 m4 uv):=Lib.hid (by rw [HEND.out];exact hev)
     have hkn:((k*D:Nat):Int)=(n:Int):=by rw [HN.out]
     clear hbel hev hbp hbq hb0 hb1 r4 y4 u4
     go_wp2_with (go_at_call 204;(with_reducible refine (HNE.out _ _ _ _ _).mono ?_);rintro e w5 ⟨rfl,hb5⟩;have HB5:Hid (Bel w w5):=Lib.hid (HBEL.out.trans hb5);have C4:=HG4.out.bel hb5;have HG5:=Lib.hid C4;obtain ⟨q5,v5,t5⟩:=C4.facts;clear hb5 C4)
     refine post_ret (results_one rfl (resIs_agg (n:=5) (cs:=#[.float .f64 m1,.float .f64 m2,.float .f64 m3,.float .f64 m4,.bool true]) (by rfl) Tryz.underlying81 (by kernel_rfl) (T:=81) ?_ rfl)) (IsEnv.mk' HS.out ?_)
     ·have HB:=HG5.out
      exact SL
     ·have HB:=HB5.out
      exact EL
  ·generalize hW3:World.drew (World.alloc (World.alloc (World.alloc w2 _) _) _)=w3 at *
   have hb3:Bel w2 w3:=by
    subst hW3
    exact EL
   have CA:Blk w3 (w2.heap.size+1) #[.float .f64 x0,.float .f64 y0] 79:=by
    subst hW3
    exact KL
   have CB:Blk w3 (w2.heap.size+1+1) #[.float .f64 x0,.float .f64 y0] 79:=by
    subst hW3
    exact KL
   have HB3:Hid (Bel w w3):=Lib.hid (HB2.out.trans hb3)
   have E1:=HD1.out.bel hb3
   have E2:=HD2.out.bel hb3
   have hsz2:w.heap.size+2≤w2.heap.size:=by
    have:=HD2.out.facts.2.2
    omega
   clear hW3 hb3
   generalize hB:w2.heap.size+1+1=B at *
   generalize hA:w2.heap.size+1=A at *
   have hA0:w.heap.size+1<A:=by omega
   have hB0:w.heap.size+1<B:=by omega
   have hAB:A ≠ B:=by omega
   clear hA hB hsz2
   have HE1:=Lib.hid E1
   have HE2:=Lib.hid E2
   obtain ⟨r4,y4,u4⟩:=E1.facts
   clear E1 E2
   clear r3 y3 u3 HC1 HC2 HD1 HD2
   have HP:=Lib.hid CB
   have HQ:=Lib.hid CA
   clear CA CB
   go_wp2_with (go_at_call 161;(with_reducible refine (HD.out _).mono ?_);rintro e w' ⟨rfl,rfl⟩)
   go_loopw [8,9,10] (fun iv xv yv wr=>∃ (k m1 m2 m3 m4:Nat),iv=.int .i64 (k*D:Nat)∧1≤k∧k≤q∧Bel w wr∧EvW true m1 m2 m3 m4 (eu k)∧Blk wr B #[.float .f64 m1,.float .f64 m2] 79∧Blk wr A #[.float .f64 m3,.float .f64 m4] 79∧Blk wr w.heap.size #[.int .u8 c,.slice (some ⟨b,off,none⟩) n cap] 109∧Blk wr (w.heap.size+1) #[.float .f64 0,.float .f64 0,.float .f64 0,.float .f64 0,.bool false] 81) (fun iv _ _ _=>n - (intOf iv).toNat)
   case atStart=>exact ⟨1,x0,y0,x0,y0,by rw [Nat.one_mul],Nat.le_refl _,HQ0.out,by have HB:=HB3.out;exact EL,HUP.out,by have HB:=HP.out;exact KL,by have HB:=HQ.out;exact KL,by have HB:=HE1.out;exact KL,by have HB:=HE2.out;exact KL⟩
   case round =>
    obtain ⟨k,m1,m2,m3,m4,rfl,hk1,hkq,hbel,hev,hbp,hbq,hb0,hb1⟩:=hrel
    have HBEL:=Lib.hid hbel
    have HG1:=Lib.hid hbp
    have HG2:=Lib.hid hbq
    have HG3:=Lib.hid hb0
    have HG4:=Lib.hid hb1
    obtain ⟨q1,v1,t1⟩:=hbp.facts
    obtain ⟨q2,v2,t2⟩:=hbq.facts
    obtain ⟨q3,v3,t3⟩:=hb0.facts
    have hbw:b<wr.heap.size:=Nat.lt_of_lt_of_le hblt hbel.size
    by_cases hkq':k<q
    ·have hK1:k*D+D≤n:=by
      rw [HN.out,← Nat.succ_mul]
      exact Nat.mul_le_mul_right _ (by omega)
     obtain ⟨x1,hx1⟩:∃ x,xs[k*D]?=some x:=⟨_,List.getElem?_eq_getElem (by have:=HXL.out;omega)⟩
     obtain ⟨y1,hy1⟩:∃ x,xs[k*D+1]?=some x:=⟨_,List.getElem?_eq_getElem (by have:=HXL.out;omega)⟩
     have nx:=HNN.out x1 (List.mem_iff_getElem?.2 ⟨_,hx1⟩)
     have ny:=HNN.out y1 (List.mem_iff_getElem?.2 ⟨_,hy1⟩)
     have D0:=cell_kept hbel (HCE.out _ _ hx1)
     have D1:=cell_kept hbel (HCE.out _ _ hy1)
     obtain ⟨n1,n2,n3,n4⟩:=hev.nn rfl
     have HS:Hid (EvW true (mnB m1 x1) (mnB m2 y1) (mxB m3 x1) (mxB m4 y1) (eu (k+1))):=Lib.hid (by
      rw [HSUC.out k x1 y1 hx1 hy1]
      exact hev.join (ptEv_is nx ny) rfl rfl)
     have HM1:=Lib.hid (HMI.out m1 x1 n1)
     have HM2:=Lib.hid (HMI.out m2 y1 n2)
     have HM3:=Lib.hid (HMX.out m3 x1 n3)
     have HM4:=Lib.hid (HMX.out m4 y1 n4)
     have HKD:Hid ((k+1)*D=k*D+D):=Lib.hid (Nat.succ_mul k D)
     generalize k*D=K at *
     generalize mnB m1 x1=z1 at *
     generalize mnB m2 y1=z2 at *
     generalize mxB m3 x1=z3 at *
     generalize mxB m4 y1=z4 at *
     clear hbel hev hbp hbq hb0 hb1 hx1 hy1 nx ny n1 n2 n3 n4 r4 y4 u4
     have hkn:K<n:=by omega
     have hkn1:K+1<n:=by omega
     have hbA:b ≠ A:=by omega
     have hbB:b ≠ B:=by omega
     go_wp2_with (first
      | (go_at_call 205;(with_reducible refine (HM1.out _).mono ?_);rintro e w' ⟨rfl,rfl⟩)
      | (go_at_call 205;(with_reducible refine (HM2.out _).mono ?_);rintro e w' ⟨rfl,rfl⟩)
      | (go_at_call 206;(with_reducible refine (HM3.out _).mono ?_);rintro e w' ⟨rfl,rfl⟩)
      | (go_at_call 206;(with_reducible refine (HM4.out _).mono ?_);rintro e w' ⟨rfl,rfl⟩))
     go_roundw
     case rel=>exact ⟨k+1,z1,z2,z3,z4,by (have:=HKD.out;go_num),by omega,by omega,by have HB:=HBEL.out;exact EL,HS.out,by have HB:=HG1.out;exact SL,by have HB:=HG2.out;exact SL,by have HB:=HG3.out;exact SL,by have HB:=HG4.out;exact SL⟩
     case measure=>simp [intOf];omega
    ·obtain rfl:k=q:=by omega
     have HS:Hid (EvW true m1 m2 m3 m4 uv):=Lib.hid (by rw [HEND.out];exact hev)
     have hkn:((k*D:Nat):Int)=(n:Int):=by rw [HN.out]
     clear hbel hev hbp hbq hb0 hb1 r4 y4 u4
     go_wp2_with (go_at_call 204;(with_reducible refine (HNE.out _ _ _ _ _).mono ?_);rintro e w5 ⟨rfl,hb5⟩;have HB5:Hid (Bel w w5):=Lib.hid (HBEL.out.trans hb5);have C4:=HG4.out.bel hb5;have HG5:=Lib.hid C4;obtain ⟨q5,v5,t5⟩:=C4.facts;clear hb5 C4)
     refine post_ret (results_one rfl (resIs_agg (n:=5) (cs:=#[.float .f64 m1,.float .f64 m2,.float .f64 m3,.float .f64 m4,.bool true]) (by rfl) Tryz.underlying81 (by kernel_rfl) (T:=81) ?_ rfl)) (IsEnv.mk' HS.out ?_)
     ·have HB:=HG5.out
      exact SL
     ·have HB:=HB5.out
      exact EL
end Go.Proofs.YtpipehenfcbjbaaGreatDoor
set_option linter.unusedVariables false
namespace Go.Proofs.YtpipehenfcbjbaaGreatDoor
open Go.ChangeShapes Go.WideShapes Go.ChangeAt Go.RowKit
mutual
def dimG:Gm→Int
 | .mk k _ _ ks=>if k=2∨k=5 then 1 else if k=3∨k=6 then 2 else dimAll ks
def dimAll:List Gm→Int
 | []=>0
 | g :: r=>max (dimG g) (dimAll r)
end
mutual
def highOf:Gm→Int
 | .mk k d ns ks=>if emptyOf (.mk k d ns ks)=true then 0 else if k=0 then highAll ks else dimG (.mk k d ns ks)
def highAll:List Gm→Int
 | []=>0
 | g :: r=>max (highOf g) (highAll r)
end
theorem dimAll_bd:∀ (ks:List Gm),(∀ k ∈ ks,0≤dimG k∧dimG k≤2)→0≤dimAll ks∧dimAll ks≤2
 | [],_=>by simp [dimAll]
 | g :: r,h=>by
  have h1:=dimAll_bd r fun k hk=>h k (by simp [hk])
  have h2:=h g (by simp)
  simp only [dimAll]
  omega
theorem dimG_bd:∀ (n:Nat) (g:Gm),g.size≤n→0≤dimG g∧dimG g≤2
 | 0,g,h=>absurd h (by have:=g.size_pos;omega)
 | n+1,.mk k d ns ks,h=>by
  have hk:=dimAll_bd ks fun g hg=>dimG_bd n g (by
   have:=Gm.size_mem hg
   simp only [Gm.size] at h
   omega)
  simp only [dimG]
  split
  ·omega
  ·split<;>omega
theorem dimAll_take {gs:List Gm} {t:Nat} {g:Gm} (h:gs[t]?=some g):dimAll (gs.take (t+1))=max (dimAll (gs.take t)) (dimG g):=by
 have key:∀ (l:List Gm) (a:Gm),dimAll (l ++ [a])=max (dimAll l) (dimG a):=fun l a=>by
  induction l with
  | nil =>
   have:=dimG_bd a.size a (Nat.le_refl _)
   simp only [List.nil_append,dimAll]
   omega
  | cons x r ih =>
   simp only [List.cons_append,dimAll,ih]
   omega
 rw [List.take_add_one,h]
 exact key _ _
theorem max_any (a b:Int) (w:World):Calls Tryz.prog 155 #[.int .i64 a,.int .i64 b] w fun e w'=>e=.returned (.int .i64 (max a b))∧w=w':=by
 by_cases h:b<a
 ·have hm:max a b=a:=by omega
  rw [hm]
  go_enter Tryz.func155,Tryz.ntmps155
  go_wp2
  go_ret
  exact ⟨rfl,rfl⟩
 ·have hm:max a b=b:=by omega
  rw [hm]
  go_enter Tryz.func155,Tryz.ntmps155
  go_wp2
  go_ret
  exact ⟨rfl,rfl⟩
theorem isColl_any (s:Int) (v:Value) (w:World):Calls Tryz.prog 153 #[.agg #[.int .i64 s,v]] w fun e w'=>e=.returned (.bool (s == 0))∧Bel w w':=by
 go_enter Tryz.func153,Tryz.ntmps153
 go_wp2
 go_ret
 exact ⟨rfl,by exact EL⟩
def dimKind (s:Nat):Int:=if s=2∨s=5 then 1 else if s=3∨s=6 then 2 else 0
set_option maxHeartbeats 2000000 in
theorem geoDim_any (s:Nat) (h1:1≤s) (h6:s≤6) (v:Value) (w:World):Calls Tryz.prog 46 #[.agg #[.int .i64 s,v]] w fun e w'=>e=.returned (.int .i64 (dimKind s))∧Bel w w':=by
 have h7:s=1∨s=2∨s=3∨s=4∨s=5∨s=6:=by omega
 rcases h7 with rfl|rfl|rfl|rfl|rfl|rfl
 all_goals
  go_enter Tryz.func46,Tryz.ntmps46
  go_wp2
  go_ret
  exact ⟨rfl,by exact EL⟩
theorem Ob.dimg {F:Nat→Prop} {w:World} {s:Nat} {cs:List Value} {g:Gm} (h:Ob F w s cs g) (h1:1≤s) (h6:s≤6):dimG g=dimKind s∧g.kind=s:=by
 refine ⟨?_,h.kind (by omega)⟩
 have h7:s=1∨s=2∨s=3∨s=4∨s=5∨s=6:=by omega
 rcases h7 with rfl|rfl|rfl|rfl|rfl|rfl
 ·obtain ⟨x,y,z,m,c,full,-,-,rfl⟩:=h.pt
  simp [dimG,dimKind,dimAll]
 ·obtain ⟨c,p,n,cap,xs,-,-,rfl,-⟩:=h.ln
  simp [dimG,dimKind]
 ·obtain ⟨p,cap,c,gs,-,-,rfl,-⟩:=h.sl (e:=2) (k:=2) rfl
  simp [dimG,dimKind]
 ·obtain ⟨p,cap,c,gs,-,-,rfl,-,hsl⟩:=h.sl (e:=1) (k:=6) rfl
  have hz:∀ k ∈ gs,dimG k=0:=fun k hk=>by
   obtain ⟨i,hi⟩:=List.mem_iff_getElem?.1 hk
   obtain ⟨_,_,_,_,_,hq⟩:=hsl
   obtain ⟨b,off,_,_,_,hr⟩:=hq (by intro e;rw [e] at hi;simp at hi)
   obtain ⟨cl,_,_,hob⟩:=hr i k hi
   obtain ⟨x,y,z,m,c,full,-,-,rfl⟩:=hob.pt
   simp [dimG,dimAll]
  have hall:∀ l:List Gm,(∀ k ∈ l,dimG k=0)→dimAll l=0:=fun l=>by
   induction l with
   | nil=>exact fun _=>rfl
   | cons a r ih =>
    intro h
    simp only [dimAll]
    rw [h a (by simp),ih fun k hk=>h k (by simp [hk])]
    rfl
  simp [dimG,dimKind,hall gs hz]
 ·obtain ⟨p,cap,c,gs,-,-,rfl,-⟩:=h.sl (e:=2) (k:=2) rfl
  simp [dimG,dimKind]
 ·obtain ⟨p,cap,c,gs,-,-,rfl,-⟩:=h.sl (e:=3) (k:=2) rfl
  simp [dimG,dimKind]
end Go.Proofs.YtpipehenfcbjbaaGreatDoor
set_option linter.unusedVariables false
namespace Go.Proofs.YtpipehenfcbjbaaGreatDoor
open Go.ChangeShapes Go.WideShapes Go.ChangeAt Go.RowKit
/-- All plain data that mean g: what holds of their four cells. -/
def GmArg (g:Gm) (P:Value→World→Prop):Prop:=∀ (F:Nat→Prop) (pn:Option Addr) (nn cn:Nat) (pk:Option Addr) (nk ck:Nat) (w:World),FlSl F w (.slice pn nn cn) g.nums→GmSl F w (.slice pk nk ck) g.kids →
  P (.agg #[.int .i64 g.kind,.int .i64 g.dim,.slice pn nn cn,.slice pk nk ck]) w
theorem GmArg.of {g:Gm} {P:Value→World→Prop} (h:GmArg g P) {F:Nat→Prop} {w W:World} {pn:Option Addr} {nn cn:Nat} {pk:Option Addr} {nk ck:Nat} (hf:FlSl F w (.slice pn nn cn) g.nums) (hg:GmSl F w (.slice pk nk ck) g.kids) (hb:Bel w W) :
  P (.agg #[.int .i64 g.kind,.int .i64 g.dim,.slice pn nn cn,.slice pk nk ck]) W:=h F pn nn cn pk nk ck W (hf.bel hb) (hg.bel hb)
def SpEmpty (g:Gm):Prop:=GmArg g fun v w=>Calls Tryz.prog 23 #[v] w fun e w'=>e=.returned (.bool (emptyOf g))∧Bel w w'
set_option maxHeartbeats 4000000 in
set_option maxRecDepth 100000 in
theorem spEmpty_ind:∀ (n:Nat) (g:Gm),g.size≤n→SpEmpty g:=by
 intro n
 induction n with
 | zero=>exact fun g h=>absurd h (by have:=g.size_pos;omega)
 | succ n ih =>
  intro g hsz F pn nn cn pk nk ck w hN hK
  obtain ⟨k,d,ns,ks⟩:=g
  obtain ⟨hnl,-,-⟩:=hN.len
  obtain ⟨_,_,hve,hkl,hkc⟩:=hK.isSlice
  cases hve
  change ks.length≤ck at hkl
  show Calls Tryz.prog 23 #[.agg #[.int .i64 k,.int .i64 d,.slice pn nn cn,.slice pk ks.length ck]] w _
  have HK:=Lib.hid (show GmSl F w (.slice pk ks.length ck) ks from hK)
  have hnl2:ns.length=nn:=hnl
  by_cases h3:k=3
  ·subst h3
   have he:emptyOf (.mk 3 d ns ks)=decide ((ks.length:Int)=0):=by
    rw [emptyOf,if_pos rfl]
    cases ks with
    | nil=>simp
    | cons a r =>
     have:¬ ((a :: r).length:Int)=0:=by simp;omega
     rw [decide_eq_false this]
     rfl
   rw [he]
   clear ih hsz hN hK HK he hnl hnl2 hkl
   generalize ks.length=n at *
   go_enter Tryz.func23,Tryz.ntmps23
   go_wp2
   go_ret
   exact ⟨by first|rfl|(congr 2;first|rfl|(by_cases hq:n=0<;>simp [hq])),by exact EL⟩
  ·have he:emptyOf (.mk k d ns ks)=(emptyAll ks && decide ((nn:Int)=0)):=by
    rw [emptyOf,if_neg h3]
    congr 1
    rw [← hnl2]
    cases ns with
    | nil=>simp
    | cons a r =>
     have:¬ ((a :: r).length:Int)=0:=by simp;omega
     rw [decide_eq_false this]
     rfl
   rw [he]
   have HIH:Hid (∀ g ∈ ks,SpEmpty g):=Lib.hid fun g hg=>ih g (by
    have h2:=Gm.size_mem hg
    simp only [Gm.size] at hsz
    omega)
   have q3:(k == 3)=false:=by simp;omega
   clear ih hsz hN hK he hnl hnl2
   generalize hn:ks.length=n at *
   have HN:=Lib.hid hn
   clear hn
   go_enter Tryz.func23,Tryz.ntmps23
   go_wp2
   go_loopw [15] (fun iv wr=>∃ t:Nat,iv=.int .i64 t∧t≤n∧Bel w wr∧emptyAll (ks.take t)=true∧Blk wr w.heap.size #[.int .i64 k,.int .i64 d,.slice pn nn cn,.slice pk n ck] 25) (fun iv _=>n - (intOf iv).toNat)
   case atStart=>exact ⟨0,rfl,Nat.zero_le _,by exact EL,by simp [emptyAll],by exact KL⟩
   case round =>
    obtain ⟨t,rfl,ht,hbel,hall,hb3⟩:=hrel
    have HBEL:=Lib.hid hbel
    have HALL:=Lib.hid hall
    have HG3:=Lib.hid hb3
    by_cases htn:t<n
    ·obtain ⟨kd,hkd⟩:∃ kd,ks[t]?=some kd:=⟨_,List.getElem?_eq_getElem (by have:=HN.out;omega)⟩
     have HKD:=Lib.hid (HIH.out kd (List.mem_iff_getElem?.2 ⟨t,hkd⟩))
     obtain ⟨b,off,pn',nn',cn',pk',nk',ck',rfl,hlt,-,d0,d1,d2,d3,hf,hg'⟩:=HK.out.at hkd
     have D0:=cell_kept hbel d0
     have D1:=cell_kept hbel d1
     have D2:=cell_kept hbel d2
     have D3:=cell_kept hbel d3
     have hbl:b<wr.heap.size:=Nat.lt_of_lt_of_le hlt hbel.size
     have HC:Hid (∀ W,Bel w W→Calls Tryz.prog 23 #[.agg #[.int .i64 kd.kind,.int .i64 kd.dim,.slice pn' nn' cn',.slice pk' nk' ck']] W fun e w'=>e=.returned (.bool (emptyOf kd))∧Bel W w'):=Lib.hid fun W hW=>GmArg.of HKD.out hf hg' hW
     have HTK:=Lib.hid (emptyAll_take hkd)
     have HNT:Hid (emptyOf kd=false→emptyAll ks=false):=Lib.hid (emptyAll_not hkd)
     clear HKD d0 d1 d2 d3 hf hg' hbel hkd hall hb3
     generalize kd.dim=kdim at *
     generalize kd.kind=kkind at *
     generalize emptyOf kd=eg at *
     cases eg
     ·have HR:=Lib.hid (HNT.out rfl)
      go_wp2_with (go_at_call 23;(with_reducible refine (HC.out _ ?hb).mono ?_);(case hb=>exact HBEL.out.alloc _);rintro e w3 ⟨rfl,hb⟩;have HB3:Hid (Bel wr w3):=Lib.hid ((Bel.alloc1 _ _).trans hb);clear hb)
      go_ret
      exact ⟨by rw [HR.out];rfl,HBEL.out.trans HB3.out⟩
     ·go_wp2_with (go_at_call 23;(with_reducible refine (HC.out _ ?hb).mono ?_);(case hb=>exact HBEL.out.alloc _);rintro e w3 ⟨rfl,hb⟩;have HB3:Hid (Bel wr w3):=Lib.hid ((Bel.alloc1 _ _).trans hb);have HP3:=Lib.hid (HG3.out.bel HB3.out);clear hb)
      go_roundw
      case rel=>exact ⟨t+1,by go_num,by omega,HBEL.out.trans HB3.out,by rw [HTK.out,HALL.out];rfl,HP3.out⟩
      case measure=>simp [intOf];omega
    ·obtain rfl:t=n:=by omega
     have hx:ks.take t=ks:=List.take_of_length_le (by have:=HN.out;omega)
     rw [hx] at HALL
     obtain ⟨r3,z3,l3⟩:=hb3.facts
     clear hx hbel hall
     go_wp2
     go_ret
     exact ⟨by rw [HALL.out];first|rfl|(congr 2;first|rfl|(by_cases hq:nn=0<;>simp [hq])),HBEL.out⟩
theorem spEmpty_any (g:Gm):SpEmpty g:=spEmpty_ind g.size g (Nat.le_refl _)
def SpDim (g:Gm):Prop:=GmArg g fun v w=>Calls Tryz.prog 22 #[v] w fun e w'=>e=.returned (.int .i64 (dimG g))∧Bel w w'
set_option maxHeartbeats 4000000 in
set_option maxRecDepth 100000 in
theorem spDim_ind:∀ (n:Nat) (g:Gm),g.size≤n→SpDim g:=by
 intro n
 induction n with
 | zero=>exact fun g h=>absurd h (by have:=g.size_pos;omega)
 | succ n ih =>
  intro g hsz F pn nn cn pk nk ck w hN hK
  obtain ⟨k,d,ns,ks⟩:=g
  obtain ⟨hnl,-,-⟩:=hN.len
  obtain ⟨_,_,hve,hkl,hkc⟩:=hK.isSlice
  cases hve
  change ks.length≤ck at hkl
  show Calls Tryz.prog 22 #[.agg #[.int .i64 k,.int .i64 d,.slice pn nn cn,.slice pk ks.length ck]] w _
  have HK:=Lib.hid (show GmSl F w (.slice pk ks.length ck) ks from hK)
  have hnl2:ns.length=nn:=hnl
  by_cases h6:k=2∨k=5∨k=3∨k=6
  ·clear ih hsz hN hK HK hnl hnl2 hkl
   generalize ks.length=n at *
   rcases h6 with rfl|rfl|rfl|rfl
   all_goals
    go_enter Tryz.func22,Tryz.ntmps22
    go_wp2
    go_ret
    exact ⟨by simp [dimG],by exact EL⟩
  ·have he:dimG (.mk k d ns ks)=dimAll ks:=by
    rw [dimG,if_neg (by omega),if_neg (by omega)]
   rw [he]
   have HIH:Hid (∀ g ∈ ks,SpDim g):=Lib.hid fun g hg=>ih g (by
    have h2:=Gm.size_mem hg
    simp only [Gm.size] at hsz
    omega)
   have q2:(k == 2)=false:=by simp;omega
   have q5:(k == 5)=false:=by simp;omega
   have q3:(k == 3)=false:=by simp;omega
   have q6:(k == 6)=false:=by simp;omega
   have HBD:Hid (∀ l:List Gm,0≤dimAll l∧dimAll l≤2):=Lib.hid fun l=>dimAll_bd l fun k _=>dimG_bd k.size k (Nat.le_refl _)
   clear ih hsz hN hK hnl hnl2
   generalize hn:ks.length=n at *
   have HN:=Lib.hid hn
   clear hn
   clear he h6
   go_enter Tryz.func22,Tryz.ntmps22
   go_wp2
   go_loopw [3,17] (fun dv iv wr=>∃ t:Nat,dv=.int .i64 (dimAll (ks.take t))∧iv=.int .i64 t∧t≤n∧Bel w wr) (fun _ iv _=>n - (intOf iv).toNat)
   case atStart=>exact ⟨0,by simp [dimAll],rfl,Nat.zero_le _,by exact EL⟩
   case round =>
    obtain ⟨t,rfl,rfl,ht,hbel⟩:=hrel
    have HBEL:=Lib.hid hbel
    by_cases htn:t<n
    ·obtain ⟨kd,hkd⟩:∃ kd,ks[t]?=some kd:=⟨_,List.getElem?_eq_getElem (by have:=HN.out;omega)⟩
     have HKD:=Lib.hid (HIH.out kd (List.mem_iff_getElem?.2 ⟨t,hkd⟩))
     obtain ⟨b,off,pn',nn',cn',pk',nk',ck',rfl,hlt,-,d0,d1,d2,d3,hf,hg'⟩:=HK.out.at hkd
     have D0:=cell_kept hbel d0
     have D1:=cell_kept hbel d1
     have D2:=cell_kept hbel d2
     have D3:=cell_kept hbel d3
     have hbl:b<wr.heap.size:=Nat.lt_of_lt_of_le hlt hbel.size
     have HC:Hid (∀ W,Bel w W→Calls Tryz.prog 22 #[.agg #[.int .i64 kd.kind,.int .i64 kd.dim,.slice pn' nn' cn',.slice pk' nk' ck']] W fun e w'=>e=.returned (.int .i64 (dimG kd))∧Bel W w'):=Lib.hid fun W hW=>GmArg.of HKD.out hf hg' hW
     have HTK:=Lib.hid (dimAll_take hkd)
     have hb1:=HBD.out (ks.take t)
     clear HKD d0 d1 d2 d3 hf hg' hbel hkd
     generalize kd.dim=kdim at *
     generalize kd.kind=kkind at *
     generalize dimG kd=hv at *
     generalize dimAll (ks.take t)=ha at *
     by_cases hmx:ha<hv
     ·have HMX:Hid (max ha hv=hv):=Lib.hid (by omega)
      go_wp2_with (go_at_call 22;(with_reducible refine (HC.out _ ?hb).mono ?_);(case hb=>exact HBEL.out.alloc _);rintro e w3 ⟨rfl,hb⟩;have HB3:Hid (Bel wr w3):=Lib.hid ((Bel.alloc1 _ _).trans hb);clear hb)
      go_roundw
      case rel=>exact ⟨t+1,by rw [HTK.out];(first|rfl|(rw [HMX.out])|(congr 1;omega)),by go_num,by omega,HBEL.out.trans HB3.out⟩
      case measure=>simp [intOf];omega
     ·have HMX:Hid (max ha hv=ha):=Lib.hid (by omega)
      go_wp2_with (go_at_call 22;(with_reducible refine (HC.out _ ?hb).mono ?_);(case hb=>exact HBEL.out.alloc _);rintro e w3 ⟨rfl,hb⟩;have HB3:Hid (Bel wr w3):=Lib.hid ((Bel.alloc1 _ _).trans hb);clear hb)
      go_roundw
      case rel=>exact ⟨t+1,by rw [HTK.out];(first|rfl|(rw [HMX.out])|(congr 1;omega)),by go_num,by omega,HBEL.out.trans HB3.out⟩
      case measure=>simp [intOf];omega
    ·obtain rfl:t=n:=by omega
     have hx:ks.take t=ks:=List.take_of_length_le (by have:=HN.out;omega)
     rw [hx]
     clear hx hbel
     go_wp2
     go_ret
     exact ⟨rfl,HBEL.out⟩
theorem spDim_any (g:Gm):SpDim g:=spDim_ind g.size g (Nat.le_refl _)
end Go.Proofs.YtpipehenfcbjbaaGreatDoor
set_option linter.unusedVariables false
namespace Go.Proofs.YtpipehenfcbjbaaGreatDoor
open Go.ChangeShapes Go.WideShapes Go.ChangeAt Go.RowKit
def IsBool (w:World) (e:Ending) (w':World):Prop:=∃ b:Bool,e=.returned (.bool b)∧Bel w w'
def IsB (b:Bool) (w:World) (e:Ending) (w':World):Prop:=e=.returned (.bool b)∧Bel w w'
theorem IsB.mk' {b c:Bool} {w w':World} (h:c=b) (hb:Bel w w'):IsB b w (.returned (.bool c)) w':=⟨by rw [h],hb⟩
def IsSmall (n:Nat) (m:Int) (w:World) (e:Ending) (w':World):Prop:=∃ v:Nat,e=.returned (.int .i64 v)∧v≤n∧((v:Int)≤m→v=n)∧Bel w w'
mutual
/-- No deeper than m parts within one another. -/
def deepOf:Gm→Int→Bool
 | .mk _ _ _ ks,m=>if m<0 then false else deepAll ks (m - 1)
def deepAll:List Gm→Int→Bool
 | [],_=>true
 | g :: r,m=>deepOf g m && deepAll r m
end
theorem deepAll_snoc (m:Int):∀ (l:List Gm) (a:Gm),deepAll (l ++ [a]) m=(deepAll l m && deepOf a m)
 | [],a=>by simp [deepAll]
 | x :: r,a=>by rw [List.cons_append,deepAll,deepAll,deepAll_snoc m r a,Bool.and_assoc]
theorem deepAll_take {ks:List Gm} {t:Nat} {g:Gm} (m:Int) (h:ks[t]?=some g):deepAll (ks.take (t+1)) m=(deepAll (ks.take t) m && deepOf g m):=by
 rw [List.take_add_one,h]
 exact deepAll_snoc m _ _
theorem deepAll_false {m:Int}:∀ {ks:List Gm} {t:Nat} {g:Gm},ks[t]?=some g→deepOf g m=false→deepAll ks m=false
 | [],t,g,h,_=>by simp at h
 | a :: r,0,g,h,hd=>by
  simp at h
  subst h
  rw [deepAll,hd]
  rfl
 | a :: r,t+1,g,h,hd=>by
  rw [deepAll,deepAll_false (ks:=r) (t:=t) (by simpa using h) hd,Bool.and_false]
theorem sizes_take:∀ (ks:List Gm) (t:Nat) (g:Gm),ks[t]?=some g→Gm.sizes (ks.take (t+1))=Gm.sizes (ks.take t)+g.size:=by
 have key:∀ (l:List Gm) (a:Gm),Gm.sizes (l ++ [a])=Gm.sizes l+a.size:=fun l a=>by
  induction l with
  | nil=>simp [Gm.sizes]
  | cons x r ih=>simp only [List.cons_append,Gm.sizes,ih];omega
 intro ks t g h
 rw [List.take_add_one,h]
 exact key _ _
theorem sizes_take_le:∀ (ks:List Gm) (t:Nat),Gm.sizes (ks.take t)≤Gm.sizes ks
 | [],t=>by simp [Gm.sizes]
 | a :: r,0=>by simp [Gm.sizes]
 | a :: r,t+1=>by
  have:=sizes_take_le r t
  simp only [List.take_succ_cons,Gm.sizes]
  omega
theorem fits_any (g:Gm):GmArg g fun v w=>Calls Tryz.prog 6 #[v] w (IsBool w):=by
 intro F pn nn cn pk nk ck w hN hK
 clear hN hK
 generalize g.kind=k
 generalize g.dim=d
 by_cases h1:nn > 2147483647
 ·go_enter Tryz.func6,Tryz.ntmps6
  go_wp2
  go_ret
  exact ⟨_,rfl,by exact EL⟩
 ·by_cases h2:nk > 2147483647
  ·go_enter Tryz.func6,Tryz.ntmps6
   go_wp2
   go_ret
   exact ⟨_,rfl,by exact EL⟩
  ·go_enter Tryz.func6,Tryz.ntmps6
   go_wp2
   go_ret
   exact ⟨_,rfl,by exact EL⟩
def PDeep (g:Gm):Prop:=∀ m:Int,m≤1000→GmArg g fun v w=>Calls Tryz.prog 18 #[v,.int .i64 m] w (IsB (deepOf g m) w)
set_option maxHeartbeats 4000000 in
set_option maxRecDepth 100000 in
theorem pDeep_ind:∀ (n:Nat) (g:Gm),g.size≤n→PDeep g:=by
 intro n
 induction n with
 | zero=>exact fun g h=>absurd h (by have:=g.size_pos;omega)
 | succ n ih =>
  intro g hsz m hm F pn nn cn pk nk ck w hN hK
  obtain ⟨k,d,ns,ks⟩:=g
  obtain ⟨hnl,-,-⟩:=hN.len
  obtain ⟨_,_,hve,hkl,hkc⟩:=hK.isSlice
  cases hve
  change ks.length≤ck at hkl
  show Calls Tryz.prog 18 #[.agg #[.int .i64 k,.int .i64 d,.slice pn nn cn,.slice pk ks.length ck],.int .i64 m] w _
  have HK:=Lib.hid (show GmSl F w (.slice pk ks.length ck) ks from hK)
  have hnl2:ns.length=nn:=hnl
  have HRE:Hid (deepOf (.mk k d ns ks) m=if m<0 then false else deepAll ks (m - 1)):=Lib.hid (by rw [deepOf])
  by_cases h0:m<0
  ·rw [HRE.out,if_pos h0]
   clear ih hsz hN hK HK hnl hnl2 hkl
   generalize ks.length=n at *
   go_enter Tryz.func18,Tryz.ntmps18
   go_wp2
   go_ret
   exact ⟨rfl,by exact EL⟩
  ·rw [HRE.out,if_neg h0]
   have HIH:Hid (∀ g ∈ ks,PDeep g):=Lib.hid fun g hg=>ih g (by
    have h2:=Gm.size_mem hg
    simp only [Gm.size] at hsz
    omega)
   clear ih hsz hN hK hnl hnl2
   generalize hn:ks.length=n at *
   have HN:=Lib.hid hn
   clear hn
   go_enter Tryz.func18,Tryz.ntmps18
   go_wp2
   go_loopw [12] (fun iv wr=>∃ t:Nat,iv=.int .i64 t∧t≤n∧deepAll (ks.take t) (m - 1)=true∧Bel w wr) (fun iv _=>n - (intOf iv).toNat)
   case atStart=>exact ⟨0,rfl,Nat.zero_le _,by simp [deepAll],by exact EL⟩
   case round =>
    obtain ⟨t,rfl,ht,hdt,hbel⟩:=hrel
    have HBEL:=Lib.hid hbel
    have HDT:=Lib.hid hdt
    clear hdt
    by_cases htn:t<n
    ·obtain ⟨kd,hkd⟩:∃ kd,ks[t]?=some kd:=⟨_,List.getElem?_eq_getElem (by have:=HN.out;omega)⟩
     have HKD:=Lib.hid (HIH.out kd (List.mem_iff_getElem?.2 ⟨t,hkd⟩))
     obtain ⟨b,off,pn',nn',cn',pk',nk',ck',rfl,hlt,-,d0,d1,d2,d3,hf,hg'⟩:=HK.out.at hkd
     have D0:=cell_kept hbel d0
     have D1:=cell_kept hbel d1
     have D2:=cell_kept hbel d2
     have D3:=cell_kept hbel d3
     have hbl:b<wr.heap.size:=Nat.lt_of_lt_of_le hlt hbel.size
     have HC:Hid (∀ (W:World),Bel w W→Calls Tryz.prog 18 #[.agg #[.int .i64 kd.kind,.int .i64 kd.dim,.slice pn' nn' cn',.slice pk' nk' ck'],.int .i64 (m - 1)] W (IsB (deepOf kd (m - 1)) W)):=Lib.hid fun W hW=>GmArg.of (HKD.out (m - 1) (by omega)) hf hg' hW
     have HTK:=Lib.hid (deepAll_take (m - 1) hkd)
     have HFA:=Lib.hid (fun (bd:Bool) (hb:bd=false) (h:deepOf kd (m - 1)=bd)=>deepAll_false hkd (h.trans hb))
     clear HKD d0 d1 d2 d3 hf hg' hbel hkd
     generalize kd.dim=kdim at *
     generalize kd.kind=kkind at *
     generalize hbd:deepOf kd (m - 1)=bd at *
     have HBD:=Lib.hid hbd
     clear hbd
     go_wp2_with (go_at_call 18;(with_reducible refine (HC.out _ ?hb).mono ?_);(case hb=>exact HBEL.out.alloc _);rintro e w3 ⟨rfl,hb⟩;have HB3:Hid (Bel wr w3):=Lib.hid ((Bel.alloc1 _ _).trans hb);clear hb;cases bd)
     ·go_ret
      exact IsB.mk' (HFA.out false rfl rfl).symm (HBEL.out.trans HB3.out)
     ·go_roundw
      case rel=>exact ⟨t+1,by go_num,by omega,by rw [HTK.out,HDT.out];rfl,HBEL.out.trans HB3.out⟩
      case measure=>simp [intOf];omega
    ·obtain rfl:t=n:=by omega
     clear hbel
     have hdt:=HDT.out
     rw [List.take_of_length_le (by have:=HN.out;omega)] at hdt
     have HDF:=Lib.hid hdt
     clear hdt
     go_wp2
     go_ret
     exact IsB.mk' HDF.out.symm HBEL.out
theorem pDeep_any (g:Gm):PDeep g:=pDeep_ind g.size g (Nat.le_refl _)
def SpWeight (g:Gm):Prop:=∀ m:Int,GmArg g fun v w=>Calls Tryz.prog 19 #[v,.int .i64 m] w (IsSmall g.size m w)
set_option maxHeartbeats 4000000 in
set_option maxRecDepth 100000 in
theorem spWeight_ind:∀ (n:Nat) (g:Gm),g.size≤n→g.size≤1048576→SpWeight g:=by
 intro n
 induction n with
 | zero=>exact fun g h _=>absurd h (by have:=g.size_pos;omega)
 | succ n ih =>
  intro g hsz hbig m F pn nn cn pk nk ck w hN hK
  obtain ⟨k,d,ns,ks⟩:=g
  obtain ⟨hnl,-,-⟩:=hN.len
  obtain ⟨_,_,hve,hkl,hkc⟩:=hK.isSlice
  cases hve
  change ks.length≤ck at hkl
  show Calls Tryz.prog 19 #[.agg #[.int .i64 k,.int .i64 d,.slice pn nn cn,.slice pk ks.length ck],.int .i64 m] w _
  have HK:=Lib.hid (show GmSl F w (.slice pk ks.length ck) ks from hK)
  have hnl2:ns.length=nn:=hnl
  have HSZ:Hid ((Gm.mk k d ns ks).size=nn+Gm.sizes ks+1):=Lib.hid (by rw [Gm.size,hnl2])
  have HBIG:Hid (nn+Gm.sizes ks+1≤1048576):=Lib.hid (by rw [← HSZ.out];exact hbig)
  have HIH:Hid (∀ g ∈ ks,SpWeight g):=Lib.hid fun g hg=>ih g (by
   have h2:=Gm.size_mem hg
   simp only [Gm.size] at hsz
   omega) (by
   have h2:=Gm.size_mem hg
   simp only [Gm.size] at hbig
   omega)
  rw [HSZ.out]
  have hnb:nn≤1048576:=by have:=HBIG.out;omega
  clear ih hsz hN hK hnl hnl2 HSZ hbig
  generalize hn:ks.length=n at *
  have HN:=Lib.hid hn
  clear hn
  go_enter Tryz.func19,Tryz.ntmps19
  go_wp2
  go_loopw [5,15] (fun dv iv wr=>∃ t v:Nat,dv=.int .i64 v∧v≤nn+Gm.sizes (ks.take t)+1∧((v:Int)≤m→v=nn+Gm.sizes (ks.take t)+1)∧iv=.int .i64 t∧t≤n∧Bel w wr) (fun _ iv _=>n - (intOf iv).toNat)
  case atStart=>exact ⟨0,nn+1,by first|rfl|go_num|(congr 1;omega),by omega,fun _=>by simp [Gm.sizes],rfl,Nat.zero_le _,by exact EL⟩
  case round =>
   obtain ⟨t,v,rfl,hv,hvx,rfl,ht,hbel⟩:=hrel
   have HVX:=Lib.hid hvx
   clear hvx
   have HBEL:=Lib.hid hbel
   have HV:=Lib.hid hv
   have HTL:=Lib.hid (sizes_take_le ks t)
   have hvb:v≤1048576:=by have:=HTL.out;have:=HBIG.out;omega
   clear hv
   by_cases htn:t<n
   ·obtain ⟨kd,hkd⟩:∃ kd,ks[t]?=some kd:=⟨_,List.getElem?_eq_getElem (by have:=HN.out;omega)⟩
    have HKD:=Lib.hid (HIH.out kd (List.mem_iff_getElem?.2 ⟨t,hkd⟩))
    obtain ⟨b,off,pn',nn',cn',pk',nk',ck',rfl,hlt,-,d0,d1,d2,d3,hf,hg'⟩:=HK.out.at hkd
    have D0:=cell_kept hbel d0
    have D1:=cell_kept hbel d1
    have D2:=cell_kept hbel d2
    have D3:=cell_kept hbel d3
    have hbl:b<wr.heap.size:=Nat.lt_of_lt_of_le hlt hbel.size
    have HC:Hid (∀ (m:Int) (W:World),Bel w W→Calls Tryz.prog 19 #[.agg #[.int .i64 kd.kind,.int .i64 kd.dim,.slice pn' nn' cn',.slice pk' nk' ck'],.int .i64 m] W (IsSmall kd.size m W)):=Lib.hid fun m W hW=>GmArg.of (HKD.out m) hf hg' hW
    have HTK:=Lib.hid (sizes_take ks t kd hkd)
    have HTL1:=Lib.hid (sizes_take_le ks (t+1))
    clear HKD d0 d1 d2 d3 hf hg' hbel hkd
    generalize kd.dim=kdim at *
    generalize kd.kind=kkind at *
    generalize kd.size=ksz at *
    by_cases hvm:m<(v:Int)
    ·go_wp2
     go_ret
     exact ⟨v,rfl,by have:=HV.out;have:=HTL.out;omega,fun h=>by omega,HBEL.out.alloc _⟩
    ·go_wp2_with (go_at_call 19;(with_reducible refine (HC.out _ _ ?hb).mono ?_);(case hb=>exact HBEL.out.alloc _);rintro e w3 ⟨v3,rfl,hv3,hx3,hb⟩;have HV3:=Lib.hid hv3;have HX3:=Lib.hid hx3;have hv3b:v3≤1048576:=(by have:=HTK.out;have:=HTL1.out;have:=HBIG.out;omega);have HB3:Hid (Bel wr w3):=Lib.hid ((Bel.alloc1 _ _).trans hb);clear hb hv3 hx3)
     go_roundw
     case rel=>exact ⟨t+1,v+v3,by go_num,by have:=HTK.out;have:=HV.out;have:=HV3.out;omega,fun h=>by (have h1:=HX3.out (by omega);have h2:=HVX.out (by omega);have:=HTK.out;omega),by go_num,by omega,HBEL.out.trans HB3.out⟩
     case measure=>simp [intOf];omega
   ·obtain rfl:t=n:=by omega
    clear hbel
    go_wp2
    go_ret
    exact ⟨v,rfl,by have:=HV.out;have:=HTL.out;omega,fun h=>by (have h2:=HVX.out h;rw [List.take_of_length_le (by have:=HN.out;omega)] at h2;exact h2),HBEL.out⟩
theorem spWeight_any (g:Gm) (h:g.size≤1048576):SpWeight g:=spWeight_ind g.size g (Nat.le_refl _) h
end Go.Proofs.YtpipehenfcbjbaaGreatDoor
set_option linter.unusedVariables false
namespace Go.Proofs.YtpipehenfcbjbaaGreatDoor
open Go.ChangeShapes Go.WideShapes Go.ChangeAt Go.RowKit
section
variable {P:Program} (w:World)
theorem run_append_zero (base:Nat) (t ty e:TypeId) (i:TypeInfo) (size:Nat) (ht:P.underlying t=some (.slice e)) (hi:P.info? e=some i)
  (v:Value) (n:Nat) (xs:List Value) (hown:w.ownsRow base e size v n xs) (p:Option Addr) (c:Nat) :
  (Builtin.append_ #[t,t] ty #[v,.slice p 0 c]).run P w=.ok v w:=by
 rcases hown.2 with ⟨rfl,rfl⟩|⟨g,cap,cur,rfl,_,_,hnc,_⟩
 ·cases p<;>simp [Builtin.append_,run_underlying ht,sizeOf,typeInfo,hi,Builtin.lenOf,Builtin.firstCells,loadCells,loadCellsFrom]
 ·cases p<;>simp [Builtin.append_,run_underlying ht,sizeOf,typeInfo,hi,Builtin.lenOf,Builtin.firstCells,hnc,storeCells,loadCells,loadCellsFrom]
/-- Append of a row that may be empty, in the order of the text. -/
theorem wpList_append_some {ops:Array Oper} {rest:List Oper} {o:Oper} {a:Act} {Q:Exit→Act→World→Prop} (hgd:o.guard=none) (s x:Operand) (t:TypeId)
  (ho:o.op=.call { callee:=.builtin .append,args:=#[s,x],argTypes:=#[t,t] })
  (base:Nat) (e:TypeId) (i:TypeInfo) (z:Value) (size bytes:Nat) (ht:P.underlying t=some (.slice e)) (hi:P.info? e=some i) (hz:i.zero=some z)
  (hsize:i.size=size) (hby:i.bytes=bytes) (hzs:z.cells.size=size) (hsz:0<size)
  (v:Value) (n:Nat) (xs:List Value) (hs:a.eval s=v) (hown:w.ownsRow base e size v n xs)
  (p:Option Addr) (m c:Nat) (news:List Value) (hx:a.eval x=.slice p m c) (hl:news.length=m*size) (hnews:0<m→∃ ad,p=some ad∧∀ j u,news[j]?=some u→w.cell? (ad.add j)=some u) (h1:∀ u ∈ news,u.oneCell'=true)
  (h63:n+m≤maxLen) (hbytes:(n+m)*bytes≤140737488355328) (hbase:base≤w.heap.size)
  (h:∀ v' w',w'.ownsRow base e size v' (n+m) (xs ++ news)→w.grownBy w' v.ownBlock→(v'.ownBlock=v.ownBlock∨v'.ownBlock=some w.heap.size)→wpList P ops Q rest (a.put o.dst v') w'):wpList P ops Q (o :: rest) a w:=by
 rcases Nat.eq_zero_or_pos m with rfl|hm
 ·have hn:news=[]:=List.length_eq_zero_iff.1 (by omega)
  subst hn
  refine wpList_plain hgd fun K hK=>?_
  have hr:=run_append_zero (P:=P) w base t o.type e i size ht hi v n xs hown p c
  unfold Oper.wp execOp
  simp only [ho,resolve,invoke,builtin,Sem.run_bind,Sem.run_pure,Result.andThen_ok,List.map_toArray,List.map_cons,List.map_nil,hs,hx,hr]
  exact hK _ _ (h v w (by simpa using hown) (World.grownBy.of_bel (Bel.refl w) _) (Or.inl rfl))
 ·obtain ⟨ad,rfl,hq⟩:=hnews hm
  exact wpList_append_row w hgd s x t ho base e i z size bytes ht hi hz hsize hby hzs hsz v n xs hs hown ad m c news hx hl hq h1 hm h63 hbytes hbase h
end
theorem FlSl.feed {F:Nat→Prop} {w:World} {p:Option Addr} {n c:Nat} {xs:List Nat} (h:FlSl F w (.slice p n c) xs) (hn:0<n):∃ ad,p=some ad∧∀ j u,(xs.map flv)[j]?=some u→w.cell? (ad.add j)=some u:=by
 have hl:=h.len.1
 have:=h.src (m:=n) (by rw [List.length_map,List.length_take];omega)
 rw [List.take_of_length_le (by omega)] at this
 exact this
mutual
/-- All numbers, in their order. -/
def allOf:Gm→List Nat
 | .mk _ _ ns ks=>ns ++ allOfs ks
def allOfs:List Gm→List Nat
 | []=>[]
 | g :: r=>allOf g ++ allOfs r
end
mutual
theorem allOf_len:∀ g:Gm,(allOf g).length≤g.size
 | .mk k d ns ks=>by
  have:=allOfs_len ks
  rw [allOf,Gm.size,List.length_append]
  omega
theorem allOfs_len:∀ l:List Gm,(allOfs l).length≤Gm.sizes l
 | []=>by rw [allOfs];simp
 | g :: r=>by
  have:=allOf_len g
  have:=allOfs_len r
  rw [allOfs,Gm.sizes,List.length_append]
  omega
end
theorem allOfs_snoc:∀ (l:List Gm) (a:Gm),allOfs (l ++ [a])=allOfs l ++ allOf a
 | [],a=>by simp [allOfs]
 | x :: r,a=>by rw [List.cons_append,allOfs,allOfs,allOfs_snoc r a,List.append_assoc]
theorem allOfs_take {ks:List Gm} {t:Nat} {g:Gm} (h:ks[t]?=some g):allOfs (ks.take (t+1))=allOfs (ks.take t) ++ allOf g:=by
 rw [List.take_add_one,h]
 exact allOfs_snoc _ _
def IsFls (F:Nat→Prop) (xs:List Nat) (n:Nat) (w:World) (e:Ending) (w':World):Prop:=∃ p m c,e=.returned (.slice p m c)∧FlSl F w' (.slice p m c) xs∧m≤n∧Bel w w'
def AllNumsOf (g:Gm):Prop:=∀ G:Nat→Prop,GmArg g fun v w=>New G w→Calls Tryz.prog 20 #[v] w (IsFls G (allOf g) g.size w)
set_option maxHeartbeats 4000000 in
set_option maxRecDepth 100000 in
theorem allNums_ind:∀ (n:Nat) (g:Gm),g.size≤n→g.size≤1048576→AllNumsOf g:=by
 intro n
 induction n with
 | zero=>exact fun g h _=>absurd h (by have:=g.size_pos;omega)
 | succ n ih =>
  intro g hsz hbig G F pn nn cn pk nk ck w hN hK hG
  obtain ⟨k,d,ns,ks⟩:=g
  obtain ⟨hnl,hncap,-⟩:=hN.len
  obtain ⟨_,_,hve,hkl,hkc⟩:=hK.isSlice
  cases hve
  change ks.length≤ck at hkl
  show Calls Tryz.prog 20 #[.agg #[.int .i64 k,.int .i64 d,.slice pn nn cn,.slice pk ks.length ck]] w _
  have HK:=Lib.hid (show GmSl F w (.slice pk ks.length ck) ks from hK)
  have HNS:=Lib.hid (show FlSl F w (.slice pn nn cn) ns from hN)
  have hnl2:ns.length=nn:=hnl
  have HNL:=Lib.hid hnl2
  have HSZ:Hid ((Gm.mk k d ns ks).size=nn+Gm.sizes ks+1):=Lib.hid (by rw [Gm.size,hnl2])
  have HBIG:Hid (nn+Gm.sizes ks+1≤1048576):=Lib.hid (by rw [← HSZ.out];exact hbig)
  have HIH:Hid (∀ g ∈ ks,AllNumsOf g):=Lib.hid fun g hg=>ih g (by
   have h2:=Gm.size_mem hg
   simp only [Gm.size] at hsz
   omega) (by
   have h2:=Gm.size_mem hg
   simp only [Gm.size] at hbig
   omega)
  rw [HSZ.out,allOf]
  have hnb:nn≤1048576:=by have:=HBIG.out;omega
  obtain ⟨i0,hi,hz0,hz1,hz2⟩:=info_parts infoF
  clear ih hsz hN hK hnl hnl2 HSZ hbig
  generalize hn:ks.length=n at *
  have HN:=Lib.hid hn
  clear hn
  have hown0:((w.alloc (.cells #[.int .i64 k,.int .i64 d,.slice pn nn cn,.slice pk n ck] 25)).alloc (.cells #[] 27)).ownsRow (w.heap.size+1) 27 1 (.slice (some ⟨w.heap.size+1,0,none⟩) 0 0) 0 ([].map flv):=by
   have:=World.ownsRow_lit (base:=w.heap.size+1) (e:=27) (size:=1) (w.alloc (.cells #[.int .i64 k,.int .i64 d,.slice pn nn cn,.slice pk n ck] 25)) #[] 0 (by simp) (by decide) rfl
   simpa using this
  have HOWN0:=Lib.hid hown0
  clear hown0
  go_enter Tryz.func20,Tryz.ntmps20
  go_wp2_with (at_builtin;(refine wpList_append_some _ rfl (.tmp 6) (.tmp 8) 22 rfl (w.heap.size+1) 27 i0 _ 1 8 Tryz.underlying22 hi hz0 hz1 hz2 rfl (by decide) (.slice (some ⟨w.heap.size+1,0,none⟩) 0 0) 0 _ rfl HOWN0.out pn nn cn (ns.map flv) rfl (by rw [List.length_map,HNL.out];omega) (HNS.out.bel (show Bel w _ by exact EL)).feed (flv_one ns) (by unfold maxLen;omega) (by omega) (by simp) ?_;intro v1 w1 ho1 hg1 hb1;simp only [Nat.zero_add,List.map_nil,List.nil_append] at ho1;obtain ⟨p1,c1,rfl⟩:=ho1.isSlice;have HO1:=Lib.hid ho1;have HB1:Hid (Bel w w1):=Lib.hid ((show Bel w _ by exact EL).of_row hg1 (fun g hg=>by have:=(HOWN0.out.lt g hg).1;omega));have B1:=((Blk.new w #[.int .i64 k,.int .i64 d,.slice pn nn cn,.slice pk n ck] 25).alloc (.cells #[] 27));have r1:∀ j,w1.cell? ⟨w.heap.size,j,none⟩=(#[Value.int .i64 k,.int .i64 d,.slice pn nn cn,.slice pk n ck])[j]?:=(fun j=>(World.cell?_of_block (w:=(w.alloc (.cells #[.int .i64 k,.int .i64 d,.slice pn nn cn,.slice pk n ck] 25)).alloc (.cells #[] 27)) (hg1.5 _ (by simp;omega) (fun e=>by simp [Value.ownBlock] at e))).trans (B1.rules.1 j));clear ho1 hg1 hb1 B1))
  go_loopw [3,13] (fun dv iv wr=>∃ (t m:Nat) (xs:List Nat),iv=.int .i64 t∧t≤n∧xs=ns ++ allOfs (ks.take t)∧Bel w wr∧List.length xs=m∧m≤nn+Gm.sizes (ks.take t)∧wr.ownsRow (w.heap.size+1) 27 1 dv m (xs.map flv)) (fun _ iv _=>n - (intOf iv).toNat)
  case atStart=>exact ⟨0,nn,ns,rfl,Nat.zero_le _,by simp [allOfs],HB1.out,HNL.out,by omega,HO1.out⟩
  case round =>
   obtain ⟨t,m,xs,rfl,ht,hxe,hbel,hxm,hm,hown⟩:=hrel
   have HXE:=Lib.hid hxe
   clear hxe
   have HBEL:=Lib.hid hbel
   have HOWN:=Lib.hid hown
   have HXM:=Lib.hid hxm
   have HM:=Lib.hid hm
   have HTL:=Lib.hid (sizes_take_le ks t)
   obtain ⟨pv,cv,rfl⟩:=hown.isSlice
   clear hm hxm hown
   by_cases htn:t<n
   ·obtain ⟨kd,hkd⟩:∃ kd,ks[t]?=some kd:=⟨_,List.getElem?_eq_getElem (by have:=HN.out;omega)⟩
    have HKD:=Lib.hid (HIH.out kd (List.mem_iff_getElem?.2 ⟨t,hkd⟩))
    obtain ⟨b,off,pn',nn',cn',pk',nk',ck',rfl,hlt,-,d0,d1,d2,d3,hf,hg'⟩:=HK.out.at hkd
    have D0:=cell_kept hbel d0
    have D1:=cell_kept hbel d1
    have D2:=cell_kept hbel d2
    have D3:=cell_kept hbel d3
    have hbl:b<wr.heap.size:=Nat.lt_of_lt_of_le hlt hbel.size
    have HC:Hid (∀ (W:World),Bel w W→Calls Tryz.prog 20 #[.agg #[.int .i64 kd.kind,.int .i64 kd.dim,.slice pn' nn' cn',.slice pk' nk' ck']] W (IsFls (fun _=>True) (allOf kd) kd.size W)):=Lib.hid fun W hW=>GmArg.of (HKD.out (fun _=>True)) hf hg' hW (New.any W)
    have HTK:=Lib.hid (sizes_take ks t kd hkd)
    have HAT:=Lib.hid (allOfs_take hkd)
    have HTL1:=Lib.hid (sizes_take_le ks (t+1))
    clear HKD d0 d1 d2 d3 hf hg' hbel hkd
    generalize kd.dim=kdim at *
    generalize kd.kind=kkind at *
    generalize kd.size=ksz at *
    generalize allOf kd=ys at *
    go_wp2_with (first
     | (go_at_call 20;(with_reducible refine (HC.out _ ?hb).mono ?_);(case hb=>exact HBEL.out.alloc _);rintro e w3 ⟨p3,m3,c3,rfl,hf3,hm3,hb⟩;have HF3:=Lib.hid hf3;have hyl:ys.length=m3:=hf3.len.1;have HYL:=Lib.hid hyl;have HM3:=Lib.hid hm3;have HB3:Hid (Bel wr w3):=Lib.hid ((Bel.alloc1 _ _).trans hb);have HSZ3:Hid (wr.heap.size+1≤w3.heap.size):=Lib.hid (by have:=hb.size;simp at this;omega);clear hb hm3 hf3 hyl)
     | (at_builtin;(refine wpList_append_some _ rfl (.tmp 17) (.tmp 19) 22 rfl (w.heap.size+1) 27 i0 _ 1 8 Tryz.underlying22 hi hz0 hz1 hz2 rfl (by decide) (.slice pv m cv) m _ rfl (own_kept HOWN.out HB3.out) p3 m3 c3 (ys.map flv) rfl (by rw [List.length_map,HYL.out];omega) HF3.out.feed (flv_one ys) (by unfold maxLen;have:=HTK.out;have:=HTL1.out;have:=HBIG.out;have:=HM.out;have:=HM3.out;omega) (by have:=HTK.out;have:=HTL1.out;have:=HBIG.out;have:=HM.out;have:=HM3.out;omega) (by have h1:=HBEL.out.size;have h2:=HSZ3.out;omega) ?_;intro v' w6 ho6 hg6 hb6;obtain ⟨p6,c6,rfl⟩:=ho6.isSlice;have HO6:=Lib.hid ho6;have HB6:Hid (Bel w w6):=Lib.hid ((HBEL.out.trans HB3.out).of_row hg6 (fun g hg=>by have:=(HOWN.out.lt g hg).1;omega));clear ho6 hg6 hb6)))
    go_roundw
    case rel=>exact ⟨t+1,m+m3,xs ++ ys,by go_num,by omega,by rw [HAT.out,HXE.out,List.append_assoc],HB6.out,by rw [List.length_append,HXM.out,HYL.out],by have:=HTK.out;have:=HM.out;have:=HM3.out;omega,by rw [List.map_append];exact HO6.out⟩
    case measure=>simp [intOf];omega
   ·obtain rfl:t=n:=by omega
    clear hbel
    have HXF:Hid (ns ++ allOfs ks=xs):=Lib.hid (by
     have:=HXE.out
     rw [List.take_of_length_le (by have:=HN.out;omega)] at this
     exact this.symm)
    go_wp2
    go_ret
    rw [HXF.out]
    exact ⟨_,_,_,rfl,FlSl.of_owns HOWN.out HXM.out (fun b hb=>hG b (by omega)),by have:=HM.out;have:=HTL.out;omega,HBEL.out⟩
theorem allNums_any (g:Gm) (h:g.size≤1048576):AllNumsOf g:=allNums_ind g.size g (Nat.le_refl _) h
end Go.Proofs.YtpipehenfcbjbaaGreatDoor
