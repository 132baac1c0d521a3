/-
 Good data: what spec.New makes;they are fixed by it. Plain.
-/
import Derived.Test.YtpipehenfcbjbaaGreatDoorPak
import Derived.Test.YtpipehenfcbjbaaGreatDoorPah
set_option linter.unusedVariables false
set_option linter.unusedSimpArgs false
namespace Go.Proofs.YtpipehenfcbjbaaGreatDoor
open Go.ChangeShapes Go.WideShapes Go.ChangeAt Go.RowKit
/-- Good data: what spec.New makes. -/
def leafB (k:Int):Prop:=k=1∨k=2
mutual
def Good (c:Nat):Gm→Prop
 | .mk k d ns ks=>d=c∧(0≤k∧k≤6)∧ns.length % wd c=0∧(k=1→ns.length≤wd c)∧(leafB k→ks=[])∧(¬ leafB k→ns=[])∧Goods c (kidOf k) ks
def Goods (c:Nat) (want:Int):List Gm→Prop
 | []=>True
 | g :: r=>(Good c g∧(want<0∨want=g.kind))∧Goods c want r
end
theorem Goods.mem {c:Nat} {want:Int}:∀ {l:List Gm} {g:Gm},Goods c want l→g ∈ l→Good c g∧(want<0∨want=g.kind)
 | [],g,_,h=>by simp at h
 | a :: r,g,h,hm=>by
  rw [Goods] at h
  rcases List.mem_cons.1 hm with rfl|k
  ·exact h.1
  ·exact Goods.mem h.2 k
theorem Goods.of {c:Nat} {want:Int}:∀ {l:List Gm},(∀ g ∈ l,Good c g∧(want<0∨want=g.kind))→Goods c want l
 | [],_=>by rw [Goods];trivial
 | a :: r,h=>by
  rw [Goods]
  exact ⟨h a (by simp),Goods.of fun g hg=>h g (by simp [hg])⟩
theorem Good.kid {c:Nat} {g k:Gm} (h:Good c g) (hk:k ∈ g.kids):Good c k:=by
 cases g with
 | mk kk d ns ks =>
  rw [Good] at h
  exact (Goods.mem h.2.2.2.2.2.2 hk).1
theorem Good.dim {c:Nat} {g:Gm} (h:Good c g):g.dim=c:=by
 cases g
 rw [Good] at h
 exact h.1
mutual
theorem force_good {c c':Nat} (hc:c≤3):∀ g:Gm,Good c' g→c'≤3→Good c (force c g)
 | .mk k d ns ks,h,h3=>by
  rw [Good] at h
  obtain ⟨rfl,hk,hm,h1,hl,hnl,hks⟩:=h
  have hw:=wd_bd c
  have hw':=wd_bd c'
  rw [force,Good,ct_nat h3]
  refine ⟨rfl,hk,by rw [forceN_len];exact Nat.mul_mod_left _ _,fun e=>?_,fun e=>?_,fun e=>?_,?_⟩
  ·have h2:=h1 e
   rw [forceN_len]
   have h4:ns.length / wd c'≤1:=by
    have:=Nat.div_le_div_right (c:=wd c') h2
    rw [Nat.div_self (by omega)] at this
    exact this
   calc ns.length / wd c'*wd c≤1*wd c:=Nat.mul_le_mul_right _ h4
    _=wd c:=Nat.one_mul _
  ·rw [hl e,forceAll]
  ·rw [hnl e]
   exact forceN_nil _ _
  ·exact forceAll_good hc ks hks h3
theorem forceAll_good {c c':Nat} {want:Int} (hc:c≤3):∀ l:List Gm,Goods c' want l→c'≤3→Goods c want (forceAll c l)
 | [],_,_=>by rw [forceAll,Goods];trivial
 | g :: r,h,h3=>by
  rw [Goods] at h
  have h1:=force_good hc g h.1.1 h3
  have h2:=forceAll_good (want:=want) hc r h.2 h3
  rw [forceAll,Goods]
  exact ⟨⟨h1,by rw [(force_kind c g).1];exact h.1.2⟩,h2⟩
end
theorem kindOf_bd (k:Int):0≤kindOf k∧kindOf k≤6:=by
 unfold kindOf
 split<;>omega
theorem newOf_good:∀ (n:Nat) (g:Gm),g.size≤n→∃ c,c≤3∧Good c (newOf g)
 | 0,g,h=>absurd h (by have:=g.size_pos;omega)
 | n+1,.mk k d ns ks,h=>by
  have hk:∀ g ∈ ks,∃ c,c≤3∧Good c (newOf g):=fun g hg=>newOf_good n g (by
   have h2:=Gm.size_mem hg
   simp only [Gm.size] at h
   omega)
  have hb:=kindOf_bd k
  have hw:=wd_bd (ct d)
  rw [newOf]
  split
  ·rename_i hl
   refine ⟨ct d,ct_le d,?_⟩
   rw [Good]
   have hle:(if kindOf k=1 then min (ns.length / wd (ct d)) 1 else ns.length / wd (ct d))*wd (ct d)≤ns.length:=by
    have h1:=Nat.div_mul_le_self ns.length (wd (ct d))
    split
    ·exact Nat.le_trans (Nat.mul_le_mul_right _ (Nat.min_le_left _ _)) h1
    ·exact h1
   refine ⟨rfl,hb,?_,fun e=>?_,fun _=>rfl,fun e=>absurd hl e,by rw [Goods];trivial⟩
   ·rw [List.length_take,Nat.min_eq_left hle]
    exact Nat.mul_mod_left _ _
   ·rw [List.length_take,Nat.min_eq_left hle,if_pos e]
    calc min (ns.length / wd (ct d)) 1*wd (ct d)≤1*wd (ct d):=Nat.mul_le_mul_right _ (Nat.min_le_right _ _)
     _=wd (ct d):=Nat.one_mul _
  ·rename_i hl
   split
   ·refine ⟨ct d,ct_le d,?_⟩
    rw [Good]
    exact ⟨rfl,hb,by simp,fun _=>by simp,fun _=>rfl,fun _=>rfl,by rw [Goods];trivial⟩
   ·have hcm:common (newAll (kidOf (kindOf k)) ks)≤3:=common_le _ 3 (by decide)
    refine ⟨_,hcm,?_⟩
    generalize common (newAll (kidOf (kindOf k)) ks)=cm at *
    rw [force,Good]
    refine ⟨rfl,hb,by rw [forceN_len];exact Nat.mul_mod_left _ _,fun e=>absurd (Or.inl e) hl,fun e=>absurd e hl,fun _=>forceN_nil _ _,?_⟩
    rw [forceAll_map]
    refine Goods.of fun x hx=>?_
    obtain ⟨y,hy,rfl⟩:=List.mem_map.1 hx
    have key:∀ (l:List Gm),(∀ g ∈ l,∃ c,c≤3∧Good c (newOf g))→∀ y ∈ newAll (kidOf (kindOf k)) l,(∃ c,c≤3∧Good c y)∧(kidOf (kindOf k)<0∨kidOf (kindOf k)=y.kind):=fun l=>by
     induction l with
     | nil=>intro _ y hy;simp [newAll] at hy
     | cons a r ih =>
      intro hall y hy
      rw [newAll] at hy
      split at hy
      ·rename_i hq
       rcases List.mem_cons.1 hy with rfl|hy
       ·exact ⟨hall a (by simp),hq⟩
       ·exact ih (fun g hg=>hall g (by simp [hg])) y hy
      ·exact ih (fun g hg=>hall g (by simp [hg])) y hy
    obtain ⟨⟨c',h3,hg⟩,hq⟩:=key ks hk y hy
    exact ⟨force_good hcm y hg h3,by rw [(force_kind cm y).1];exact hq⟩
mutual
theorem force_self {c:Nat} (hc:c≤3):∀ g:Gm,Good c g→force c g=g
 | .mk k d ns ks,h=>by
  rw [Good] at h
  obtain ⟨rfl,-,hm,-,-,-,hks⟩:=h
  rw [force,ct_nat hc,forceN_self hc ns hm,forceAll_self hc ks hks]
theorem forceAll_self {c:Nat} {want:Int} (hc:c≤3):∀ l:List Gm,Goods c want l→forceAll c l=l
 | [],_=>rfl
 | g :: r,h=>by
  rw [Goods] at h
  have h1:=force_self hc g h.1.1
  have h2:=forceAll_self hc r h.2
  rw [forceAll,h1,h2]
end
theorem common_good {c:Nat} (hc:c≤3) {l:List Gm} (h:∀ g ∈ l,g.dim=c) (hn:l ≠ []):common l=c:=by
 have key:∀ (l:List Gm),(∀ g ∈ l,g.dim=c)→l.foldl (fun a g=>a &&& g.dim.toNat) c=c:=fun l=>by
  induction l with
  | nil=>intro _;rfl
  | cons a r ih =>
   intro hall
   rw [List.foldl_cons,hall a (by simp)]
   have:c &&& ((c:Int).toNat)=c:=by rw [Int.toNat_natCast,Nat.and_self]
   rw [this]
   exact ih fun g hg=>hall g (by simp [hg])
 cases l with
 | nil=>exact absurd rfl hn
 | cons a r =>
  unfold common
  rw [List.foldl_cons,h a (by simp)]
  have:3 &&& ((c:Int).toNat)=c:=by
   rw [Int.toNat_natCast]
   have h4:c=0∨c=1∨c=2∨c=3:=by omega
   rcases h4 with rfl|rfl|rfl|rfl<;>decide
  rw [this]
  exact key r fun g hg=>h g (by simp [hg])
theorem newOf_fixed {c:Nat} (hc:c≤3):∀ (n:Nat) (g:Gm),g.size≤n→Good c g→newOf g=g
 | 0,g,h,_=>absurd h (by have:=g.size_pos;omega)
 | n+1,.mk k d ns ks,h,hg=>by
  have hg2:=hg
  rw [Good] at hg
  obtain ⟨rfl,hk,hm,h1,hl,hnl,hks⟩:=hg
  have hkd:kindOf k=k:=by unfold kindOf;rw [if_pos hk]
  have hw:=wd_bd c
  have hall:newAll (kidOf k) ks=ks:=by
   have key:∀ (l:List Gm),(∀ g ∈ l,newOf g=g∧(kidOf k<0∨kidOf k=g.kind))→newAll (kidOf k) l=l:=fun l=>by
    induction l with
    | nil=>intro _;rfl
    | cons a r ih =>
     intro hx
     obtain ⟨e1,e2⟩:=hx a (by simp)
     rw [newAll,e1,if_pos e2,ih fun g hg=>hx g (by simp [hg])]
   exact key ks fun g hg=>⟨newOf_fixed hc n g (by
    have h2:=Gm.size_mem hg
    simp only [Gm.size] at h
    omega) (hks.mem hg).1,(hks.mem hg).2⟩
  rw [newOf,hkd,hall,ct_nat hc]
  have hd:=Nat.div_mul_cancel (Nat.dvd_of_mod_eq_zero hm)
  split
  ·rename_i hq
   rw [hl hq]
   by_cases e:k=1
   ·have h2:=h1 e
    have h4:ns.length / wd c≤1:=by
     have:=Nat.div_le_div_right (c:=wd c) h2
     rw [Nat.div_self (by omega)] at this
     exact this
    rw [if_pos e,Nat.min_eq_left h4,hd,List.take_length]
   ·rw [if_neg e,hd,List.take_length]
  ·rename_i hq
   rw [hnl hq]
   cases ks with
   | nil=>rfl
   | cons a r =>
    rw [if_neg (by simp),common_good hc (fun g hg=>(hks.mem hg).1.dim) (by simp)]
    rw [hnl hq] at hg2
    exact force_self hc _ hg2
end Go.Proofs.YtpipehenfcbjbaaGreatDoor
