/-
 DumpRings: the rings in a row of their own. No panic;what stood in memory has not turned.
-/
import Derived.Test.YtpipehenfcbjbaaGreatDoorPyb
import Derived.Laws.CopyOwn
set_option linter.unusedVariables false
set_option linter.unusedSimpArgs false
namespace Go.Proofs.YtpipehenfcbjbaaGreatDoor
open Go.ChangeShapes Go.WideShapes Go.ChangeAt Go.RowKit
/-- The cells of a row of objects, as a list. -/
theorem row_list {F:Nat→Prop} {w:World} {b off e k:Nat} {gs:List Gm} (h:RowOb F w (fun o=>w.cell? ⟨b,off+o,none⟩) e k gs):∃ cs:List Value,cs.length=gs.length*k∧(∀ j u,cs[j]?=some u→w.cell? ⟨b,off+j,none⟩=some u)∧RowOb F w (fun o=>cs[o]?) e k gs:=by
 have hk:∀ i j,i<gs.length→j<k→∃ u,w.cell? ⟨b,off+(i*k+j),none⟩=some u:=fun i j hi hj=>by
  obtain ⟨cl,hl,hc,-⟩:=h i gs[i] (List.getElem?_eq_getElem hi)
  exact ⟨cl[j],hc j _ (List.getElem?_eq_getElem (by omega))⟩
 have hx:∀ o,o<gs.length*k→∃ u,w.cell? ⟨b,off+o,none⟩=some u:=fun o ho=>by
  have hk0:0<k:=by
   rcases Nat.eq_zero_or_pos k with e|e
   ·rw [e] at ho;omega
   ·exact e
  have h1:=hk (o / k) (o % k) ((Nat.div_lt_iff_lt_mul hk0).2 ho) (Nat.mod_lt _ hk0)
  rw [Nat.div_add_mod'] at h1
  exact h1
 refine ⟨(List.range (gs.length*k)).map fun o=>(w.cell? ⟨b,off+o,none⟩).getD (.bool false),by simp,fun j u hj=>?_,fun i g hg=>?_⟩
 ·rw [List.getElem?_map] at hj
  by_cases hl:j<gs.length*k
  ·rw [List.getElem?_range hl] at hj
   obtain ⟨v,hv⟩:=hx j hl
   simp only [Option.map_some,hv,Option.getD_some,Option.some.injEq] at hj
   rw [hv,hj]
  ·rw [List.getElem?_eq_none (by simp;omega)] at hj
   simp at hj
 ·obtain ⟨cl,hl,hc,ho⟩:=h i g hg
  refine ⟨cl,hl,fun j u hj=>?_,ho⟩
  have hjk:j<k:=by rw [← hl];exact (List.getElem?_eq_some_iff.1 hj).1
  have hi:i<gs.length:=(List.getElem?_eq_some_iff.1 hg).1
  have hlt:i*k+j<gs.length*k:=by
   have:(i+1)*k≤gs.length*k:=Nat.mul_le_mul_right _ hi
   rw [Nat.add_mul,Nat.one_mul] at this
   omega
  show ((List.range (gs.length*k)).map fun o=>(w.cell? ⟨b,off+o,none⟩).getD (.bool false))[i*k+j]?=some u
  have h9:w.cell? ⟨b,off+(i*k+j),none⟩=some u:=hc j u hj
  rw [List.getElem?_map,List.getElem?_range hlt,Option.map_some,h9,Option.getD_some]
/-- The cells of rings are one cell each. -/
theorem ring_ones {F:Nat→Prop} {w:World} {cs:List Value} {gs:List Gm} (h:RowOb F w (fun o=>cs[o]?) 2 2 gs) (hl:cs.length=gs.length*2):∀ u ∈ cs,u.oneCell'=true:=fun u hu=>by
 obtain ⟨o,ho⟩:=List.mem_iff_getElem?.1 hu
 have hlt:=(List.getElem?_eq_some_iff.1 ho).1
 obtain ⟨cl,h2,hc,hob⟩:=h (o / 2) gs[o / 2] (List.getElem?_eq_getElem (by omega))
 obtain ⟨c,p,n,cap,xs,rfl,-⟩:=hob.ln
 have h0:cs[o / 2*2+0]?=some (.int .u8 c):=hc 0 _ rfl
 have h1:cs[o / 2*2+1]?=some (.slice p n cap):=hc 1 _ rfl
 have hm:o=o / 2*2∨o=o / 2*2+1:=by omega
 rcases hm with e|e
 ·rw [Nat.add_zero,← e] at h0
  rw [h0] at ho
  cases ho
  rfl
 ·rw [← e] at h1
  rw [h1] at ho
  cases ho
  rfl
theorem ObSl.belR {F:Nat→Prop} {w w':World} {e k:Nat} {v:Value} {gs:List Gm} (h:ObSl F w e k v gs) (hb:Bel w w'):ObSl F w' e k v gs:=by
 obtain ⟨p,cap,hv,h1,h2,hq⟩:=h
 refine ⟨p,cap,hv,h1,h2,fun hn=>?_⟩
 obtain ⟨b,off,hp,hlt,hF,hr⟩:=hq hn
 refine ⟨b,off,hp,Nat.lt_of_lt_of_le hlt hb.size,hF,fun i g hg=>?_⟩
 obtain ⟨cl,hl,hc,ho⟩:=hr i g hg
 exact ⟨cl,hl,fun j u hj=>cell_kept hb (hc j u hj),ho.bel hb⟩
/-- copy of a whole row into a row of the same length, of elements of k cells. -/
theorem wpList_copy_all {P:Program} {w:World} {ops:Array Oper} {rest:List Oper} {o:Oper} {a:Act} {Q:Exit→Act→World→Prop} (hgd:o.guard=none) (d s:Operand) (dT sT:TypeId)
  (ho:o.op=.call { callee:=.builtin .copy,args:=#[d,s],argTypes:=#[dT,sT] }) (elem:TypeId) (hu:P.underlying dT=some (.slice elem)) (k:Nat) (hsz:(P.info? elem).map (·.size)=some k)
  (n g dCap sCap:Nat) (sp:Option Addr) (hd:a.eval d=.slice (some ⟨g,0,none⟩) n dCap) (hs:a.eval s=.slice sp n sCap)
  (cur:Array Value) (t:TypeId) (hg:w.heap[g]?=some (.cells cur t (0,0))) (cs:List Value) (hn:cs.length=n*k) (hc:cur.size=n*k)
  (hsrc:0<n→∃ ad,sp=some ad∧∀ j v,cs[j]?=some v→w.cell? (ad.add j)=some v) (h1:∀ v ∈ cs,v.oneCell'=true) (B:Nat) (w0:World) (hb:Below B w0 w) (hBg:B≤g)
  (h:∀ w',Hid (w'.heap[g]?=some (.cells cs.toArray t (0,0)))→Below B w0 w'→wpList P ops Q rest (a.put o.dst (goInt n)) w'):wpList P ops Q (o :: rest) a w:=by
 refine wpList_plain hgd fun K hK=>?_
 rcases Nat.eq_zero_or_pos n with h0|h0
 ·subst h0
  have hcs:cs=[]:=List.length_eq_zero_iff.1 (by omega)
  have hcu:cur=#[]:=Array.size_eq_zero_iff.1 (by omega)
  subst hcs
  subst hcu
  have hl:∀ (x:Addr),(loadCells x 0).run P w=.ok #[] w:=fun x=>by simpa using run_loadCells_list (P:=P) w x [] (by simp)
  have hrun:(Builtin.copy_ #[dT,sT] o.type #[.slice (some ⟨g,0,none⟩) 0 dCap,.slice sp 0 sCap]).run P w=.ok (goInt 0) w:=by
   cases hq:P.info? elem with
   | none=>simp [hq] at hsz
   | some i=>cases sp<;>simp [Builtin.copy_,run_underlying hu,Builtin.lenOf,Builtin.firstCells,sizeOf,typeInfo,hq,storeCells,hl]
  unfold Oper.wp
  simp [execOp,ho,resolve,invoke,builtin,hd,hs,hrun,Result.andThen]
  exact hK _ _ (h w hg hb)
 ·obtain ⟨ad,rfl,hq2⟩:=hsrc h0
  have hl:=run_loadCells_list (P:=P) w ad cs hq2
  have hst:=run_storeCells_at P g 0 t cs 0 cur w hg (by omega) h1
  have hrow:(cur.toList.take (0+0) ++ cs ++ cur.toList.drop (0+0+cs.length)).toArray=cs.toArray:=by
   rw [List.drop_eq_nil_of_le (by rw [Array.length_toList];omega)]
   simp
  rw [hrow] at hst
  have hrun:(Builtin.copy_ #[dT,sT] o.type #[.slice (some ⟨g,0,none⟩) n dCap,.slice (some ad) n sCap]).run P w=.ok (goInt n) (w.setRow g cs.toArray):=by
   cases hq:P.info? elem with
   | none=>simp [hq] at hsz
   | some i =>
    have hi:i.size=k:=by simpa [hq] using hsz
    simp [Builtin.copy_,run_underlying hu,Builtin.lenOf,Builtin.firstCells,sizeOf,typeInfo,hq,hi,← hn,hl,hst]
  unfold Oper.wp
  simp [execOp,ho,resolve,invoke,builtin,hd,hs,hrun,Result.andThen]
  exact hK _ _ (h _ (setRow_heap w g _ _ t _ hg) (below_setRow hb hBg _))
theorem infoLs:(Tryz.prog.info? 111).map (fun i=>(i.zero,i.size,i.bytes))=some (some (.agg #[.int .u8 0,.slice none 0 0]),2,32):=by kernel_rfl
theorem infoLs1:(Tryz.prog.info? 111).map (·.size)=some 2:=by kernel_rfl
def IsRings (F:Nat→Prop) (n:Nat) (gs:List Gm) (w:World) (e:Ending) (w':World):Prop:=∃ p,e=.returned (.slice p n n)∧ObSl F w' 2 2 (.slice p n n) gs∧Bel w w'
set_option maxHeartbeats 4000000 in
set_option maxRecDepth 100000 in
theorem dumpRings_any {F:Nat→Prop} {cs:List Value} {g:Gm} {w0:World} (h:Ob F w0 3 cs g) (w:World) (hw:Bel w0 w):Calls Tryz.prog 177 #[.agg cs.toArray] w (IsRings (fun b=>F b∨w.heap.size≤b) g.kids.length g.kids w):=by
 obtain ⟨p,cap,c,gs,rfl,hc,rfl,hn31,hsl⟩:=h.sl (e:=2) (k:=2) rfl
 have hsl:=hsl.belR hw
 show Calls Tryz.prog 177 #[.agg #[.slice p gs.length cap,.int .u8 c]] w (IsRings (fun b=>F b∨w.heap.size≤b) gs.length gs w)
 obtain ⟨_,_,hve,hl1,hl2,hq⟩:=hsl
 cases hve
 obtain ⟨cs0,hcl,hcc,hro⟩:∃ cs:List Value,cs.length=gs.length*2∧(0<gs.length→∃ ad,p=some ad∧∀ j u,cs[j]?=some u→w.cell? (ad.add j)=some u)∧RowOb F w (fun o=>cs[o]?) 2 2 gs:=by
  cases gs with
  | nil=>exact ⟨[],rfl,fun h=>by simp at h,fun i g hg=>by simp at hg⟩
  | cons a r =>
   obtain ⟨b,off,rfl,-,-,hr⟩:=hq (by simp)
   obtain ⟨cs,h1,h2,h3⟩:=row_list hr
   exact ⟨cs,h1,fun _=>⟨_,rfl,fun j u hj=>by
    have h9:=h2 j u hj
    simp only [Addr.add]
    split
    ·rename_i e
     subst e
     simpa using h9
    ·exact h9⟩,h3⟩
 have HONE:=Lib.hid (ring_ones hro hcl)
 have HCL:=Lib.hid hcl
 have HCC:=Lib.hid hcc
 have HRO:=Lib.hid hro
 clear h hq hcc hro hcl hw
 generalize hn:gs.length=n at *
 have HN:=Lib.hid hn
 clear hn
 obtain ⟨i0,hi,hz0,hz1,hz2⟩:=info_parts infoLs
 go_enter Tryz.func177,Tryz.ntmps177
 go_wp2_with (first
  | (at_make;refine wpList_make_full _ rfl (.tmp 6) (.tmp 6) 89 rfl w.heap.size 111 i0 (.agg #[.int .u8 0,.slice none 0 0]) 2 Tryz.underlying89 hi hz0 hz1 .i64 .i64 _ _ n rfl rfl rfl rfl ?b2 ?b3 ?b4 ?_;(case b2=>(rw [hz2];omega));(case b3=>(unfold maxLen;omega));(case b4=>simp);intro w1 hown hgrow;obtain ⟨cs1,hB0,hs0⟩:=hown.blk;rw [show (w.alloc (Obj.cells #[.slice p n cap,.int .u8 c] 91)).heap.size=w.heap.size+1 by simp] at hB0;have HB0:=Lib.hid hB0;have HS0:=Lib.hid hs0;have HW1:Hid (Bel (w.alloc (Obj.cells #[.slice p n cap,.int .u8 c] 91)) w1):=Lib.hid (Bel.of_grown0 hgrow);have B1:=(Blk.new w #[.slice p n cap,.int .u8 c] 91).bel HW1.out;obtain ⟨r1,z1,l1⟩:=B1.facts;clear hown hgrow hB0 hs0 B1)
  | (with_reducible refine wpList_copy_all rfl (.tmp 8) (.tmp 10) 89 89 rfl 111 Tryz.underlying89 2 infoLs1 n (w.heap.size+1) n cap p rfl rfl cs1 111 ?g1 cs0 HCL.out ?g4 ?g3 HONE.out (w.heap.size+1) w1 (Below.refl _ _) (Nat.le_refl _) ?_;(case g1=>(have:=HB0.out;unfold Blk at this;exact this));(case g3=>exact fun h0=>(HCC.out h0).imp fun ad h=>⟨h.1,fun j u hj=>cell_kept ((Bel.alloc1 _ _).trans HW1.out) (h.2 j u hj)⟩);(case g4=>exact HS0.out);intro w2 hg2 hb2;have HG2:=Lib.hid hg2.out;have HB2:=Lib.hid hb2;clear hg2 hb2))
 go_ret
 have hB2:Blk w2 (w.heap.size+1) cs0.toArray 111:=by
  exact HG2.out
 have hbel:Bel w w2:=((Bel.alloc1 w _).trans HW1.out).below HB2.out (by omega)
 refine ⟨_,rfl,?_,hbel⟩
 obtain ⟨hf,-,hlt⟩:=hB2.facts
 have hn:=HN.out
 subst hn
 refine ⟨some ⟨w.heap.size+1,0,none⟩,gs.length,by simp,Nat.le_refl _,by omega,fun _=>⟨w.heap.size+1,0,rfl,hlt,Or.inr (by omega),fun i g hg=>?_⟩⟩
 obtain ⟨cl,h1,h2,h3⟩:=HRO.out i g hg
 refine ⟨cl,h1,fun j u hj=>?_,h3.keep hbel.size (fun b _ hl=>hbel.block b hl) fun b _ hb=>Or.inl hb⟩
 have h4:=h2 j u hj
 show w2.cell? ⟨w.heap.size+1,0+(i*2+j),none⟩=some u
 rw [Nat.zero_add,hf]
 simpa using h4
end Go.Proofs.YtpipehenfcbjbaaGreatDoor
