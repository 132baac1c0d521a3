/-
 Geometries of the package in memory,and the geometry that is made of any plain data,in plain Lean. No condition.
-/
import Derived.Test.YtpipehenfcbjbaaGreatDoorPab
set_option linter.unusedVariables false
namespace Go.Proofs.YtpipehenfcbjbaaGreatDoor
open Go.ChangeShapes Go.WideShapes Go.ChangeAt Go.RowKit
/-- A place's numbers under a type. -/
def numsOfPl (c:Nat) (p:Pl):List Nat:=[p.x,p.y] ++ (if c % 2=1 then [p.z] else []) ++ (if c / 2 % 2=1 then [p.m] else [])
theorem numsOfPl_len (c:Nat) (p:Pl):(numsOfPl c p).length=wd c:=by
 unfold numsOfPl wd
 by_cases h1:c % 2=1<;>by_cases h2:c / 2 % 2=1<;>simp [h1,h2]<;>omega
/-- Numbers under another type. -/
def forceN (c c':Nat) (xs:List Nat):List Nat:=(plsOf c xs).flatMap (numsOfPl c')
theorem flatMap_len (c:Nat):∀ (l:List Pl),(l.flatMap (numsOfPl c)).length=l.length*wd c
 | []=>by simp
 | p :: r=>by
  rw [List.flatMap_cons,List.length_append,numsOfPl_len,flatMap_len c r,List.length_cons,Nat.add_mul,Nat.one_mul,Nat.add_comm]
theorem forceN_len (c c':Nat) (xs:List Nat):(forceN c c' xs).length=xs.length / wd c*wd c':=by
 unfold forceN
 rw [flatMap_len,plsOf_len]
theorem getD_drop (xs:List Nat) (n j:Nat):xs.getD (n+j) 0=(xs.drop n).getD j 0:=by simp [List.getD,List.getElem?_drop]
theorem numsOfPl_at {c:Nat} (hc:c≤3) (xs:List Nat) (i:Nat) (h:i*wd c+wd c≤xs.length):numsOfPl c (plAt c xs i)=(xs.drop (i*wd c)).take (wd c):=by
 have hl:wd c≤(xs.drop (i*wd c)).length:=by rw [List.length_drop];omega
 have h4:c=0∨c=1∨c=2∨c=3:=by omega
 unfold numsOfPl plAt
 simp only
 rcases h4 with rfl|rfl|rfl|rfl
 ·have hw:wd 0=2:=by decide
  rw [hw] at hl ⊢
  have e0:=getD_drop xs (i*2) 0
  have e1:=getD_drop xs (i*2) 1
  rw [Nat.add_zero] at e0
  rw [e0,e1]
  generalize xs.drop (i*2)=l at *
  match l,hl with
  | a :: b :: r,_=>simp
 ·have hw:wd 1=3:=by decide
  rw [hw] at hl ⊢
  have e0:=getD_drop xs (i*3) 0
  have e1:=getD_drop xs (i*3) 1
  have e2:=getD_drop xs (i*3) 2
  rw [Nat.add_zero] at e0
  rw [e0,e1,e2]
  generalize xs.drop (i*3)=l at *
  match l,hl with
  | a :: b :: d :: r,_=>simp
 ·have hw:wd 2=3:=by decide
  rw [hw] at hl ⊢
  have e0:=getD_drop xs (i*3) 0
  have e1:=getD_drop xs (i*3) 1
  have e2:=getD_drop xs (i*3) 2
  have e3:i*3+3 - 1=i*3+2:=by omega
  rw [Nat.add_zero] at e0
  rw [e0,e1,e3,e2]
  generalize xs.drop (i*3)=l at *
  match l,hl with
  | a :: b :: d :: r,_=>simp
 ·have hw:wd 3=4:=by decide
  rw [hw] at hl ⊢
  have e0:=getD_drop xs (i*4) 0
  have e1:=getD_drop xs (i*4) 1
  have e2:=getD_drop xs (i*4) 2
  have e4:=getD_drop xs (i*4) 3
  have e3:i*4+4 - 1=i*4+3:=by omega
  rw [Nat.add_zero] at e0
  rw [e0,e1,e2,e3,e4]
  generalize xs.drop (i*4)=l at *
  match l,hl with
  | a :: b :: d :: f :: r,_=>simp
theorem pls_nums {c:Nat} (hc:c≤3) (xs:List Nat):∀ q:Nat,q*wd c≤xs.length→((List.range q).map (plAt c xs)).flatMap (numsOfPl c)=xs.take (q*wd c)
 | 0,_=>by simp
 | q+1,h=>by
  have e:(q+1)*wd c=q*wd c+wd c:=by rw [Nat.add_mul,Nat.one_mul]
  rw [e] at h ⊢
  rw [List.range_succ,List.map_append,List.flatMap_append,pls_nums hc xs q (by omega),List.take_add]
  congr 1
  rw [List.map_cons,List.map_nil,List.flatMap_cons,List.flatMap_nil,List.append_nil]
  exact numsOfPl_at hc xs q h
theorem forceN_whole {c:Nat} (hc:c≤3) (xs:List Nat):forceN c c xs=xs.take (xs.length / wd c*wd c):=pls_nums hc xs _ (Nat.div_mul_le_self _ _)
theorem forceN_self {c:Nat} (hc:c≤3) (xs:List Nat) (hw:xs.length % wd c=0):forceN c c xs=xs:=by
 rw [forceN_whole hc,Nat.div_mul_cancel (Nat.dvd_of_mod_eq_zero hw),List.take_length]
/-- What a point, a line, a row of parts, a geometry holds: 0 to 6 as the kinds are numbered, 7 a geometry of any kind; and its parts, with their cells. -/
def partOf:Nat→Option (Nat × Nat)
 | 0=>some (7,2)
 | 3=>some (2,2)
 | 4=>some (1,6)
 | 5=>some (2,2)
 | 6=>some (3,2)
 | _=>none
def ptrT:Nat→TypeId
 | 0=>170
 | 1=>164
 | 2=>162
 | 3=>165
 | 4=>167
 | 5=>168
 | _=>169
inductive Ob (F:Nat→Prop) (w:World):Nat→List Value→Gm→Prop
 | point (x y z m c:Nat) (full:Bool) (hc:c≤3):Ob F w 1 [.float .f64 x,.float .f64 y,.float .f64 z,.float .f64 m,.int .u8 c,.bool full] (.mk 1 c (if full then numsOfPl c ⟨x,y,z,m⟩ else []) [])
 | line (c:Nat) (p:Option Addr) (n cap:Nat) (xs:List Nat) (hc:c≤3) (h:FlSl F w (.slice p n cap) xs) (hw:n % wd c=0) (hb:n / wd c≤1048576):Ob F w 2 [.int .u8 c,.slice p n cap] (.mk 2 c xs [])
 | parts (s e k c:Nat) (p:Option Addr) (cap:Nat) (gs:List Gm) (cs:Nat→List Value) (he:partOf s=some (e,k)) (hc:c≤3) (hl:gs.length≤cap) (hcap:cap≤9223372036854775807) (hb:gs.length≤1048576)
   (h0:gs ≠ []→∃ b off,p=some ⟨b,off,none⟩∧b<w.heap.size∧F b∧∀ (i:Nat) (g:Gm),gs[i]?=some g→∀ (j:Nat) (u:Value),(cs i)[j]?=some u→w.cell? ⟨b,off+i*k+j,none⟩=some u)
   (hk:∀ (i:Nat) (g:Gm),gs[i]?=some g→(cs i).length=k) (h1:∀ (i:Nat) (g:Gm),gs[i]?=some g→Ob F w e (cs i) g):Ob F w s [.slice p gs.length cap,.int .u8 c] (.mk s c [] gs)
 | geo (s b:Nat) (cs:List Value) (g:Gm) (hs:s≤6) (hb:b<w.heap.size) (hF:F b) (hc:∀ (j:Nat) (u:Value),cs[j]?=some u→w.cell? ⟨b,j,none⟩=some u) (h:Ob F w s cs g):Ob F w 7 [.int .i64 s,.iface (ptrT s) (.pointer (some ⟨b,0,none⟩))] g
theorem FlSl.keep {F G:Nat→Prop} {w w':World} {v:Value} {xs:List Nat} (h:FlSl F w v xs) (hs:w.heap.size≤w'.heap.size) (hk:∀ b,F b→b<w.heap.size→w'.heap[b]?=w.heap[b]?) (hG:∀ b,b<w.heap.size→F b→G b):FlSl G w' v xs:=by
 obtain ⟨p,cap,hv,hl,hc,h⟩:=h
 refine ⟨p,cap,hv,hl,hc,fun hn=>?_⟩
 obtain ⟨b,off,hp,hlt,hF,hq⟩:=h hn
 exact ⟨b,off,hp,by omega,hG b hlt hF,fun i x hi=>(World.cell?_of_block (w:=w) (hk b hF hlt)).trans (hq i x hi)⟩
theorem Ob.keep {F G:Nat→Prop} {w w':World} {s:Nat} {cs:List Value} {g:Gm} (h:Ob F w s cs g) (hs:w.heap.size≤w'.heap.size) (hk:∀ b,F b→b<w.heap.size→w'.heap[b]?=w.heap[b]?) (hG:∀ b,b<w.heap.size→F b→G b):Ob G w' s cs g:=by
 induction h with
 | point x y z m c full hc=>exact .point x y z m c full hc
 | line c p n cap xs hc h hw hb=>exact .line c p n cap xs hc (h.keep hs hk hG) hw hb
 | parts s e k c p cap gs cs he hc hl hcap hb h0 hkk h1 ih =>
  refine .parts s e k c p cap gs cs he hc hl hcap hb (fun hn=>?_) hkk ih
  obtain ⟨b,off,hp,hlt,hF,hq⟩:=h0 hn
  exact ⟨b,off,hp,by omega,hG b hlt hF,fun i g hi j u hu=>(World.cell?_of_block (w:=w) (hk b hF hlt)).trans (hq i g hi j u hu)⟩
 | geo s b cs g hs' hb hF hc h ih =>
  exact .geo s b cs g hs' (by omega) (hG b hb hF) (fun j u hu=>(World.cell?_of_block (w:=w) (hk b hF hb)).trans (hc j u hu)) ih
theorem Ob.bel {F:Nat→Prop} {w w':World} {s:Nat} {cs:List Value} {g:Gm} (h:Ob F w s cs g) (hb:Bel w w'):Ob F w' s cs g:=h.keep hb.size (fun b _ hl=>hb.block b hl) fun _ _ h=>h
theorem Ob.mono {F G:Nat→Prop} {w:World} {s:Nat} {cs:List Value} {g:Gm} (h:Ob F w s cs g) (hFG:∀ b,b<w.heap.size→F b→G b):Ob G w s cs g:=h.keep (Nat.le_refl _) (fun _ _ _=>rfl) hFG
theorem Ob.loc {F:Nat→Prop} {w:World} {s:Nat} {cs:List Value} {g:Gm} (h:Ob F w s cs g) (k:Nat):Ob (Loc F w.heap.size k) w s cs g:=h.mono fun _ hl hF=>⟨hF,Or.inl hl⟩
theorem Ob.out {F:Nat→Prop} {w:World} {s:Nat} {cs:List Value} {g:Gm} {m k:Nat} (h:Ob (Loc F m k) w s cs g):Ob F w s cs g:=h.mono fun _ _ hF=>hF.1
theorem Ob.set {F:Nat→Prop} {w:World} {s:Nat} {cs:List Value} {g:Gm} (h:Ob F w s cs g) {b:Nat} (hb:¬ F b) (o:Nat) (u:Value):Ob F (w.setCell ⟨b,o,none⟩ u) s cs g :=
 h.keep (by simp) (fun d hd _=>Below.heap_setCell _ _ _ _ (fun e=>by
  have e':d=b:=e
  exact hb (e'▸hd))) fun _ _ h=>h
/-- The dimension of an object is its type. -/
theorem Ob.dim {F:Nat→Prop} {w:World} {s:Nat} {cs:List Value} {g:Gm} (h:Ob F w s cs g):∃ c:Nat,c≤3∧g.dim=c:=by
 induction h with
 | point x y z m c full hc=>exact ⟨c,hc,rfl⟩
 | line c p n cap xs hc h hw hb=>exact ⟨c,hc,rfl⟩
 | parts s e k c p cap gs cs he hc hl hcap hb h0 hkk h1 ih=>exact ⟨c,hc,rfl⟩
 | geo s b cs g hs' hb hF hc h ih=>exact ih
theorem Ob.kind {F:Nat→Prop} {w:World} {s:Nat} {cs:List Value} {g:Gm} (h:Ob F w s cs g) (h7:s ≠ 7):g.kind=s:=by
 cases h with
 | point x y z m c full hc=>rfl
 | line c p n cap xs hc h hw hb=>rfl
 | parts s e k c p cap gs cs he hc hl hcap hb h0 hkk h1=>rfl
 | geo s b cs g hs' hb hF hc h=>exact absurd rfl h7

/-! ### The geometry that is made of any plain data -/
mutual
def force (c:Nat):Gm→Gm
 | .mk k d ns ks=>.mk k c (forceN (ct d) c ns) (forceAll c ks)
def forceAll (c:Nat):List Gm→List Gm
 | []=>[]
 | g :: r=>force c g :: forceAll c r
end
theorem forceAll_map (c:Nat):∀ l:List Gm,forceAll c l=l.map (force c)
 | []=>rfl
 | g :: r=>by rw [forceAll,List.map_cons,forceAll_map c r]
def kidOf (k:Int):Int:=if k=4 then 1 else if k=3∨k=5 then 2 else if k=6 then 3 else -1
def kindOf (k:Int):Int:=if 0≤k∧k≤6 then k else 0
/-- The type that all have in common. -/
def common (gs:List Gm):Nat:=gs.foldl (fun a g=>a &&& g.dim.toNat) 3
mutual
def newOf:Gm→Gm
 | .mk k d ns ks =>
  if kindOf k=1∨kindOf k=2 then .mk (kindOf k) (ct d) (ns.take ((if kindOf k=1 then min (ns.length / wd (ct d)) 1 else ns.length / wd (ct d))*wd (ct d))) []
  else if (newAll (kidOf (kindOf k)) ks).isEmpty then .mk (kindOf k) (ct d) [] []
  else force (common (newAll (kidOf (kindOf k)) ks)) (.mk (kindOf k) (ct d) [] (newAll (kidOf (kindOf k)) ks))
def newAll (want:Int):List Gm→List Gm
 | []=>[]
 | g :: r=>if want<0∨want=(newOf g).kind then newOf g :: newAll want r else newAll want r
end
end Go.Proofs.YtpipehenfcbjbaaGreatDoor
