/-
 impl.Look: what a geometry tells of itself.
-/
import Derived.Test.YtpipehenfcbjbaaGreatDoorPas
import Derived.Test.YtpipehenfcbjbaaGreatDoorPat
import Derived.Test.YtpipehenfcbjbaaGreatDoorPau
import Derived.Test.YtpipehenfcbjbaaGreatDoorPaa
import Derived.Test.YtpipehenfcbjbaaGreatDoorPab
import Derived.Test.YtpipehenfcbjbaaGreatDoorPal
import Derived.Test.YtpipehenfcbjbaaGreatDoorPak
import Derived.Lib.SlBytesConst
import Derived.Laws.BytesString
set_option linter.unusedVariables false
namespace Go.Proofs.YtpipehenfcbjbaaGreatDoor
theorem look_any (F:Nat→Prop) (g:Gm) (hsz:g.size≤1048576) (hsn:(newOf g).size≤1048576) (hnn:NN (newOf g)) {c0:Nat} (hu:Uni c0 (newOf g)) (pn:Option Addr) (nn cn:Nat) (pk:Option Addr) (nk ck:Nat) (w:World) (ht:Tab w) (hF:New F w) (hN:FlSl F w (.slice pn nn cn) g.nums) (hK:GmSl F w (.slice pk nk ck) g.kids) :
  Calls Tryz.prog 21 #[.agg #[.int .i64 g.kind,.int .i64 g.dim,.slice pn nn cn,.slice pk nk ck]] w (IsSight (newOf g) w):=by
 by_cases h0:(newOf g).kind=0
 ·exact look_0 F g hsz hsn h0 hnn hu pn nn cn pk nk ck w ht hF hN hK
 ·by_cases h3:(newOf g).kind=3
  ·exact look_3 F g hsz hsn h3 hnn hu pn nn cn pk nk ck w ht hF hN hK
  ·exact look_e F g hsz hsn ⟨h0,h3⟩ hnn hu pn nn cn pk nk ck w ht hF hN hK
end Go.Proofs.YtpipehenfcbjbaaGreatDoor
set_option linter.unusedVariables false
namespace Go.Proofs.YtpipehenfcbjbaaGreatDoor
open Go.ChangeShapes Go.WideShapes Go.ChangeAt Go.RowKit
end Go.Proofs.YtpipehenfcbjbaaGreatDoor
set_option linter.unusedVariables false
namespace Go.Proofs.YtpipehenfcbjbaaGreatDoor
open Go.ChangeShapes Go.WideShapes Go.ChangeAt Go.RowKit
theorem bits_run (x:Nat) (w:World):(callFunc 157 #[.float .f64 x]).run Tryz.prog w=.ok (.value (.int .u64 x)) w:=by
 rw [run_callFunc_extern (e:=Extern.MathFloatBits.float64bits) Tryz.func157 (by kernel_rfl) (by kernel_rfl) (by kernel_rfl) (by kernel_rfl) #[.float .f64 x] w]
 rfl
theorem frombits_run (x:Nat) (w:World):(callFunc 156 #[.int .u64 (x:Int)]).run Tryz.prog w=.ok (.value (.float .f64 x)) w:=by
 rw [run_callFunc_extern (e:=Extern.MathFloatBits.float64frombits) Tryz.func156 (by kernel_rfl) (by kernel_rfl) (by kernel_rfl) (by kernel_rfl) #[.int .u64 (x:Int)] w]
 rfl
theorem trunc_run (x:Nat) (hx:finB x=true) (w:World):(callFunc 158 #[.float .f64 x]).run Tryz.prog w=.ok (.value (.float .f64 (truncW x))) w:=by
 rw [run_callFunc_extern (e:=Extern.MathFloor.toIntegral "math.archTrunc" .zero) Tryz.func158 (by kernel_rfl) (by kernel_rfl) (by kernel_rfl) (by kernel_rfl) #[.float .f64 x] w]
 unfold finB at hx
 unfold truncW
 have e:FloatKind.f64.decode x=Ieee.Format.read Ieee.double x:=rfl
 cases hd:Ieee.Format.read Ieee.double x with
 | nan s m =>
  rw [hd] at hx
  cases hx
 | infinity s =>
  rw [hd] at hx
  cases hx
 | number s m i =>
  have e2:FloatKind.f64.decode x=.number s m i:=e.trans hd
  show (Sem.run _ (Extern.MathFloor.toIntegral.match_1 (fun _=>Sem Value) (FloatKind.f64.decode x) (fun s t=>_) (fun d=>_)) w).andThen _=_
  rw [e2]
  rfl
theorem abs_any (x:Nat) (hx:x<18446744073709551616) (w:World):Calls Tryz.prog 65 #[.float .f64 x] w fun e w'=>e=.returned (.float .f64 (absB x))∧w=w':=by
 have h1:=fun w=>bits_run x w
 have h2:=fun w=>frombits_run (absB x) w
 have h3:=u64_clear x hx
 clear hx
 generalize absB x=a at *
 go_enter Tryz.func65,Tryz.ntmps65
 go_wp2
 go_ret
 exact ⟨rfl,rfl⟩
theorem trunc_any (x:Nat) (hx:finB x=true) (w:World):Calls Tryz.prog 66 #[.float .f64 x] w fun e w'=>e=.returned (.float .f64 (truncW x))∧w=w':=by
 have h1:=fun w=>trunc_run x hx w
 clear hx
 generalize truncW x=a at *
 go_enter Tryz.func66,Tryz.ntmps66
 go_wp2
 go_ret
 exact ⟨rfl,rfl⟩
/-! ### Blocks from B on, as they stood -/
def Abv (B:Nat) (w w':World):Prop:=∀ b,B≤b→b<w.heap.size→w'.heap[b]?=w.heap[b]?
theorem Abv.refl (B:Nat) (w:World):Abv B w w:=fun _ _ _=>rfl
theorem Abv.bel {B:Nat} {w w1 w2:World} (h:Abv B w w1) (hs:w.heap.size≤w1.heap.size) (hb:Bel w1 w2):Abv B w w2:=fun b h1 h2=>(hb.block b (by omega)).trans (h b h1 h2)
theorem Abv.set {B:Nat} {w w1:World} (h:Abv B w w1) {a:Addr} (v:Value) (hg:a.block<B):Abv B w (w1.setCell a v):=fun b hb hl=>(Below.heap_setCell w1 a v b (by omega)).trans (h b hb hl)
theorem Abv.grown {B:Nat} {w w1 w2:World} {r:Option Nat} (h:Abv B w w1) (hs:w.heap.size≤w1.heap.size) (hg:w1.grownBy w2 r) (hr:∀ g,r=some g→w.heap.size≤g):Abv B w w2:=fun b h1 h2=>(hg.block b (by omega) (fun e=>by have:=hr b e.symm;omega)).trans (h b h1 h2)

/-! ### Places of whole numbers -/
def rowX (ps:List (Int × Int)):List Value:=ps.flatMap fun q=>[.int .i64 q.1,.int .i64 q.2]
theorem rowX_snoc (ps:List (Int × Int)) (q:Int × Int):rowX (ps ++ [q])=rowX ps ++ [.int .i64 q.1,.int .i64 q.2]:=by simp [rowX]
theorem rowX_at:∀ (ps:List (Int × Int)) (i:Nat) (q:Int × Int),ps[i]?=some q→(rowX ps)[i*2]?=some (.int .i64 q.1)∧(rowX ps)[i*2+1]?=some (.int .i64 q.2)
 | [],i,r,h=>by simp at h
 | y :: t,0,r,h=>by
  simp at h
  subst h
  simp [rowX]
 | y :: t,i+1,r,h=>by
  have ih:=rowX_at t i r (by simpa using h)
  have e:rowX (y :: t)=[.int .i64 y.1,.int .i64 y.2] ++ rowX t:=rfl
  have up:∀ j,(rowX (y :: t))[(i+1)*2+j]?=(rowX t)[i*2+j]?:=fun j=>by
   rw [e,List.getElem?_append_right (by simp;omega)]
   congr 1
   simp
   omega
  have up0:=up 0
  rw [Nat.add_zero,Nat.add_zero] at up0
  rw [up0,up 1]
  exact ih
/-- A slice of places of whole numbers. -/
def XySl (F:Nat→Prop) (w:World) (v:Value) (ps:List (Int × Int)):Prop :=
 ∃ p cap,v=.slice p ps.length cap∧ps.length≤cap∧cap≤9223372036854775807 ∧
  (ps ≠ []→∃ b off,p=some ⟨b,off,none⟩∧b<w.heap.size∧F b∧∀ (i:Nat) (q:Int × Int),ps[i]?=some q→w.cell? ⟨b,off+i*2,none⟩=some (.int .i64 q.1)∧w.cell? ⟨b,off+i*2+1,none⟩=some (.int .i64 q.2))
theorem XySl.of_owns {F:Nat→Prop} {w:World} {base n:Nat} {v:Value} {ps:List (Int × Int)} (h:w.ownsRow base 103 2 v n (rowX ps)) (hn:ps.length=n) (hF:∀ b,base≤b→F b):XySl F w v ps:=by
 subst hn
 have hc:=fun (g:Nat) (hg:v.ownBlock=some g)=>h.cells hg
 rcases h.2 with ⟨rfl,h0⟩|⟨g,cap,cur,rfl,hb,hg,h1,h2,_⟩
 ·exact ⟨none,0,by rw [h0],by omega,by omega,fun hn=>absurd (List.length_eq_zero_iff.1 h0) hn⟩
 ·refine ⟨_,cap,rfl,h1,by unfold maxLen at h2;omega,fun _=>⟨g,0,rfl,(Array.getElem?_eq_some_iff.1 hg).1,hF g hb,fun i r hr=>?_⟩⟩
  have up:∀ {o u},(rowX ps)[o]?=some u→w.cell? ⟨g,0+o,none⟩=some u:=fun {o u} ho'=>by
   have:=hc g rfl o u ho'
   rw [add_none] at this
   rw [Nat.zero_add]
   exact this
  obtain ⟨a0,a1⟩:=rowX_at ps i r hr
  exact ⟨up a0,up a1⟩
theorem XySl.keep {F G:Nat→Prop} {w w':World} {v:Value} {ps:List (Int × Int)} (h:XySl F w v ps) (hs:w.heap.size≤w'.heap.size) (hk:∀ b,F b→b<w.heap.size→w'.heap[b]?=w.heap[b]?) (hG:∀ b,b<w.heap.size→F b→G b):XySl G w' v ps:=by
 obtain ⟨p,cap,hv,hl,hc,h⟩:=h
 refine ⟨p,cap,hv,hl,hc,fun hn=>?_⟩
 obtain ⟨b,off,hp,hlt,hF,hq⟩:=h hn
 exact ⟨b,off,hp,by omega,hG b hlt hF,fun i q hi=>⟨(World.cell?_of_block (w:=w) (hk b hF hlt)).trans (hq i q hi).1,(World.cell?_of_block (w:=w) (hk b hF hlt)).trans (hq i q hi).2⟩⟩
theorem XySl.bel {F:Nat→Prop} {w w':World} {v:Value} {ps:List (Int × Int)} (h:XySl F w v ps) (hb:Bel w w'):XySl F w' v ps:=h.keep hb.size (fun b _ hl=>hb.block b hl) fun _ _ h=>h
theorem infoX:(Tryz.prog.info? 103).map (fun i=>(i.zero,i.size,i.bytes))=some (some (.agg #[.int .i64 0,.int .i64 0]),2,16):=by kernel_rfl
theorem infoS:(Tryz.prog.info? 58).map (fun i=>(i.zero,i.size,i.bytes))=some (some (.agg #[.int .i64 0,.slice none 0 0,.slice none 0 0]),3,56):=by kernel_rfl
/-- A place's floats stand for whole numbers. -/
def PtIs (q:Pl) (p:Int × Int):Prop:=Is q.x (p.1:Rat)∧Is q.y (p.2:Rat)∧(-1048576≤p.1∧p.1≤1048576)∧-1048576≤p.2∧p.2≤1048576
def PtsAre (c:Nat) (xs:List Nat) (ps:List (Int × Int)):Prop:=ps.length=xs.length / wd c∧∀ (i:Nat) (p:Int × Int) (q:Pl),ps[i]?=some p→(plsOf c xs)[i]?=some q→PtIs q p
/-- A place of whole numbers from -2^20 to 2^20, as the code asks for it. -/
def plB (q:Pl):Bool:=leB (absB q.x) 4697254411347427328 && (leB (absB q.y) 4697254411347427328 && (eqB q.x (truncW q.x) && eqB q.y (truncW q.y)))
mutual
def shB:Gm→Bool
 | .mk _ d ns ks=>(plsOf (ct d) ns).all plB && shAll ks
def shAll:List Gm→Bool
 | []=>true
 | g :: r=>shB g && shAll r
end
theorem shB_of (g:Gm):shB g=((plsOf (ct g.dim) g.nums).all plB && shAll g.kids):=by
 cases g
 rw [shB]
 rfl
theorem shAll_take:∀ {ks:List Gm} {t:Nat} {g:Gm},ks[t]?=some g→shAll (ks.take (t+1))=(shAll (ks.take t) && shB g)
 | [],t,g,h=>by simp at h
 | a :: r,0,g,h=>by
  simp at h
  subst h
  simp [shAll]
 | a :: r,t+1,g,h=>by
  rw [List.take_succ_cons,List.take_succ_cons,shAll,shAll,shAll_take (ks:=r) (by simpa using h),Bool.and_assoc]
theorem shAll_false:∀ {ks:List Gm} {t:Nat} {g:Gm},ks[t]?=some g→shB g=false→shAll ks=false
 | [],t,g,h,_=>by simp at h
 | a :: r,0,g,h,k=>by
  simp at h
  subst h
  rw [shAll,k,Bool.false_and]
 | a :: r,t+1,g,h,k=>by
  rw [shAll,shAll_false (ks:=r) (by simpa using h) k,Bool.and_false]
theorem allP_take {f:Pl→Bool} {ps:List Pl} {t:Nat} {q:Pl} (h:ps[t]?=some q):(ps.take (t+1)).all f=((ps.take t).all f && f q):=by
 rw [List.take_add_one,h]
 simp
theorem allP_false {f:Pl→Bool} {ps:List Pl} {t:Nat} {q:Pl} (h:ps[t]?=some q) (k:f q=false):ps.all f=false:=by
 rw [List.all_eq_false]
 exact ⟨q,List.mem_iff_getElem?.2 ⟨t,h⟩,by rw [k];simp⟩
mutual
/-- All places, those of the parts too, are whole ones from -2^20 to 2^20. -/
def Shp:Gm→Prop
 | .mk _ d ns ks=>(∃ ps,PtsAre (ct d) ns ps)∧Shps ks
def Shps:List Gm→Prop
 | []=>True
 | g :: r=>Shp g∧Shps r
end
theorem Shp.of {g:Gm} {ps:List (Int × Int)} (h:PtsAre (ct g.dim) g.nums ps) (k:Shps g.kids):Shp g:=by
 cases g
 rw [Shp]
 exact ⟨⟨ps,h⟩,k⟩
theorem Shps.take:∀ {ks:List Gm} {t:Nat} {g:Gm},ks[t]?=some g→Shps (ks.take t)→Shp g→Shps (ks.take (t+1))
 | [],t,g,h,_,_=>by simp at h
 | a :: r,0,g,h,_,k=>by
  simp at h
  subst h
  rw [List.take_succ_cons,Shps]
  exact ⟨k,by rw [List.take_zero,Shps];trivial⟩
 | a :: r,t+1,g,h,h2,k=>by
  rw [List.take_succ_cons,Shps] at h2 ⊢
  exact ⟨h2.1,Shps.take (by simpa using h) h2.2 k⟩
def IsShape (w:World) (g:Gm) (e:Ending) (w':World):Prop:=∃ ok kind pp np cp pk nk ck,e=.returned (.tuple #[.agg #[.int .i64 kind,.slice pp np cp,.slice pk nk ck],.bool ok])∧Bel w w' ∧
 (ok=true→kind=g.kind∧(∃ ps,XySl (fun b=>w.heap.size≤b) w' (.slice pp np cp) ps∧PtsAre (ct g.dim) g.nums ps)∧Shp g)∧(ok=false→pp=none∧np=0∧cp=0)∧ok=shB g
theorem fl_most:floatOfInt .f64 1048576=4697254411347427328:=by kernel_rfl
theorem place_ways (x y:Nat):(leB (absB x) 4697254411347427328=false∨(leB (absB x) 4697254411347427328=true∧leB (absB y) 4697254411347427328=false)∨(leB (absB x) 4697254411347427328=true∧leB (absB y) 4697254411347427328=true∧eqB x (truncW x)=false)∨(leB (absB x) 4697254411347427328=true∧leB (absB y) 4697254411347427328=true∧eqB x (truncW x)=true∧eqB y (truncW y)=false)) ∨
  (leB (absB x) 4697254411347427328=true∧leB (absB y) 4697254411347427328=true∧eqB x (truncW x)=true∧eqB y (truncW y)=true):=by
 cases leB (absB x) 4697254411347427328<;>cases leB (absB y) 4697254411347427328<;>cases eqB x (truncW x)<;>cases eqB y (truncW y)<;>simp
theorem conv_whole {x:Nat} {n:Int} (h:(FloatKind.f64.decode x).toInt .zero=some n) (h1:-1048576≤n) (h2:n≤1048576) (w:World):(convert 27 3 (.float .f64 x)).run Tryz.prog w=.ok (.int .i64 n) w:=by
 refine run_convert_float_int w 27 3 .f64 .i64 x n (by rw [Tryz.underlying27];rfl) Tryz.underlying3 ?_
 unfold floatToIntVal
 rw [h]
 have:IntKind.i64.min=-9223372036854775808:=by decide
 have:IntKind.i64.max=9223372036854775807:=by decide
 exact if_pos ⟨by omega,by omega⟩
end Go.Proofs.YtpipehenfcbjbaaGreatDoor
set_option linter.unusedVariables false
namespace Go.Proofs.YtpipehenfcbjbaaGreatDoor
open Go.ChangeShapes Go.WideShapes Go.ChangeAt Go.RowKit
/-- All numbers, those of the parts too, are words. -/
def N64 (g:Gm):Prop:=∀ x ∈ allOf g,x<18446744073709551616
theorem N64.nums {g:Gm} (h:N64 g):∀ x ∈ g.nums,x<18446744073709551616:=fun x hx=>by
 cases g with
 | mk k d ns ks=>exact h x (by rw [allOf];exact List.mem_append.2 (Or.inl hx))
theorem N64.kid {g k:Gm} (h:N64 g) (hk:k ∈ g.kids):N64 k:=fun x hx=>by
 cases g with
 | mk kk d ns ks=>exact h x (by rw [allOf];exact List.mem_append.2 (Or.inr (allOfs_mem hk hx)))
mutual
theorem N64.of_ok:∀ (g:Gm),g.Ok→N64 g
 | .mk k d ns ks,h,x,hx=>by
  rw [Gm.Ok] at h
  rw [allOf] at hx
  rcases List.mem_append.1 hx with hx|hx
  ·exact h.2.2.1 x hx
  ·exact N64s.of_ok ks h.2.2.2 x hx
theorem N64s.of_ok:∀ (l:List Gm),Gm.Oks l→∀ x ∈ allOfs l,x<18446744073709551616
 | [],_,x,hx=>by rw [allOfs] at hx;simp at hx
 | g :: r,h,x,hx=>by
  rw [Gm.Oks] at h
  rw [allOfs] at hx
  rcases List.mem_append.1 hx with hx|hx
  ·exact N64.of_ok g h.1 x hx
  ·exact N64s.of_ok r h.2 x hx
end
set_option maxHeartbeats 8000000 in
set_option maxRecDepth 100000 in
theorem shapeOf_any:∀ (n:Nat) (g:Gm),g.size≤n→N64 g→g.size≤1048576→∀ (F:Nat→Prop) (w:World) (pn:Option Addr) (nn cn:Nat) (pk:Option Addr) (nk ck:Nat),FlSl F w (.slice pn nn cn) g.nums→GmSl F w (.slice pk nk ck) g.kids →
  Calls Tryz.prog 35 #[.agg #[.int .i64 g.kind,.int .i64 g.dim,.slice pn nn cn,.slice pk nk ck],.int .i64 1048576] w (IsShape w g):=by
 intro n
 induction n with
 | zero=>exact fun g h=>absurd h (by have:=g.size_pos;omega)
 | succ n ih =>
  intro g hsz hok hbig F w pn nn cn pk nk ck hN hK
  have IH:=Lib.hid ih
  have HN:=Lib.hid hN
  have HK:=Lib.hid hK
  have hfl:=fl_most
  obtain ⟨i0,hi,hz0,hz1,hz2⟩:=info_parts infoX
  obtain ⟨j0,hj',hy0,hy1,hy2⟩:=info_parts infoS
  have hnl:=hN.len.1
  obtain ⟨_,_,hke,hkl,hkc⟩:=hK.isSlice
  cases hke
  have hszq:=g.size_eq
  have HSZ:=Lib.hid hszq
  have HKL:=Lib.hid (Gm.len_sizes g.kids)
  have HKS:Hid (∀ k ∈ g.kids,k.size≤n∧k.size≤1048576):=Lib.hid fun k hk=>by
   have:=Gm.size_mem hk
   omega
  have HOKN:Hid (∀ x ∈ g.nums,x<18446744073709551616):=Lib.hid hok.nums
  have HOKK:Hid (∀ k ∈ g.kids,N64 k):=Lib.hid fun k hk=>hok.kid hk
  have h31:g.nums.length≤2147483647:=by omega
  have hk31:g.kids.length≤1048576:=by have:=HKL.out;omega
  have H31:=Lib.hid h31
  clear ih hN hK hszq hok hsz hbig
  have HPL:Hid (∀ (W:World),Bel w W→Calls Tryz.prog 33 #[.slice pn nn cn,.int .i64 g.dim] W (IsPls (fun b=>W.heap.size≤b) W (plsOf (ct g.dim) g.nums))):=Lib.hid fun W hW=>places_any _ F _ _ _ W (fun b h=>h) (HN.out.bel hW) H31.out
  clear h31
  generalize hkk:g.kind=kind at *
  generalize hdd:g.dim=dim at *
  generalize hns:g.nums=nums at *
  generalize hks:g.kids=kids at *
  have HKK:=Lib.hid hkk
  have HDD:=Lib.hid hdd
  have HNS:=Lib.hid hns
  have HKQ:=Lib.hid hks
  have HSB0:Hid (shB g=((plsOf (ct dim) nums).all plB && shAll kids)):=Lib.hid (by rw [shB_of,hdd,hns,hks])
  clear hkk hdd hns hks
  generalize hnk:kids.length=m at *
  have HM:=Lib.hid hnk
  clear hnk
  go_enter Tryz.func35,Tryz.ntmps35
  go_wp2_with (first
   | (go_at_call 33;(with_reducible refine (HPL.out _ ?hb).mono ?_);(case hb=>exact EL);rintro e w1 ⟨v1,rfl,hp,hb1⟩;have B1:=((Blk.new w #[.int .i64 kind,.int .i64 dim,.slice pn nn cn,.slice pk m ck] 25).alloc (.cells #[.int .i64 kind,.slice none 0 0,.slice none 0 0] 58)).bel hb1;have B2:=(Blk.new' (w.alloc (.cells #[.int .i64 kind,.int .i64 dim,.slice pn nn cn,.slice pk m ck] 25)) #[.int .i64 kind,.slice none 0 0,.slice none 0 0] 58 (b:=w.heap.size+1) (by simp)).bel hb1;have HB1:Hid (Bel w w1):=Lib.hid ((show Bel w _ by exact EL).trans hb1);obtain ⟨r1,z1,l1⟩:=B1.facts;obtain ⟨r2,z2,l2⟩:=B2.facts;have HBG:=Lib.hid B1;have HBS:=Lib.hid B2;obtain ⟨pp,cp,rfl,hpl,hpc,hcs⟩:=hp;have HCS:=Lib.hid hcs;clear hb1 B1 B2 hcs))
  generalize hpls:plsOf (ct dim) nums=pls at *
  have HPLS:=Lib.hid hpls
  have HSB:Hid (shB g=(pls.all plB && shAll kids)):=Lib.hid HSB0.out
  clear HSB0
  have hq31:pls.length≤2147483647:=by
   rw [← hpls,plsOf_len]
   have:=Nat.div_le_self nums.length (wd (ct dim))
   have:=H31.out
   omega
  have HXW:Hid (∀ q ∈ pls,q.x<18446744073709551616∧q.y<18446744073709551616):=Lib.hid (by
   rw [← hpls]
   intro q hq
   unfold plsOf at hq
   obtain ⟨j,hj,rfl⟩:=List.mem_map.1 hq
   have hb:∀ i,nums.getD i 0<18446744073709551616:=fun i=>by
    rcases Nat.lt_or_ge i nums.length with h|h
    ·have e:nums.getD i 0=nums[i]:=by simp [List.getD,h]
     rw [e]
     exact HOKN.out _ (List.getElem_mem h)
    ·have e:nums.getD i 0=0:=by simp [List.getD,h]
     rw [e]
     decide
   exact ⟨hb _,hb _⟩)
  clear hpls
  generalize hql:pls.length=ql at *
  have HQL:=Lib.hid hql
  clear hql
  go_loopw [23] (fun iv wr=>∃ (k:Nat) (po:Option Addr) (co:Nat) (ps:List (Int × Int)),iv=.int .i64 k∧k≤ql∧ps.length=k∧Bel w wr∧w1.heap.size≤wr.heap.size∧Abv (w.heap.size+2) w1 wr∧Blk wr w.heap.size #[.int .i64 kind,.int .i64 dim,.slice pn nn cn,.slice pk m ck] 25∧Blk wr (w.heap.size+1) #[.int .i64 kind,.slice po k co,.slice none 0 0] 58∧wr.ownsRow w1.heap.size 103 2 (.slice po k co) k (rowX ps)∧(∀ (i:Nat) (p:Int × Int) (q:Pl),ps[i]?=some p→pls[i]?=some q→PtIs q p)∧(pls.take k).all plB=true) (fun iv _=>ql - (intOf iv).toNat)
  case atStart=>exact ⟨0,none,0,[],rfl,Nat.zero_le _,rfl,HB1.out,Nat.le_refl _,Abv.refl _ _,HBG.out,HBS.out,World.ownsRow_nil _ _ _ _,(fun i p q h=>by simp at h),by simp⟩
  case round =>
   obtain ⟨k,po,co,ps,rfl,hk,hpsl,hbel,hgrow,habv,hbg,hbs,hown,hall,hpb⟩:=hrel
   have HPB:=Lib.hid hpb
   clear hpb
   have HBEL:=Lib.hid hbel
   have HGROW:=Lib.hid hgrow
   have HABV:=Lib.hid habv
   have HBG2:=Lib.hid hbg
   have HBS2:=Lib.hid hbs
   have HOWN:=Lib.hid hown
   have HALL:=Lib.hid hall
   have HPSL:=Lib.hid hpsl
   obtain ⟨s1,t1,m1⟩:=hbg.facts
   obtain ⟨s2,t2,m2⟩:=hbs.facts
   clear r1 z1 l1 r2 z2 hbel habv hbg hbs hown hall hpsl
   by_cases hkq:k<ql
   ·have hlx:=HQL.out
    obtain ⟨b,off,rfl,hlt,hF2,hcs⟩:=HCS.out (by intro e;rw [e] at hlx;simp at hlx;omega)
    obtain ⟨q,hq⟩:∃ q,pls[k]?=some q:=⟨_,List.getElem?_eq_getElem (by omega)⟩
    obtain ⟨d0,d1,d2,d3⟩:=hcs k q hq
    have hF3:w.heap.size+2≤b:=by simpa using hF2
    have hkeep:wr.heap[b]?=w1.heap[b]?:=HABV.out b hF3 hlt
    have D0:=(World.cell?_of_block (w:=w1) (w':=wr) hkeep).trans d0
    have D1:=(World.cell?_of_block (w:=w1) (w':=wr) hkeep).trans d1
    have D2:=(World.cell?_of_block (w:=w1) (w':=wr) hkeep).trans d2
    have D3:=(World.cell?_of_block (w:=w1) (w':=wr) hkeep).trans d3
    have hbl:b<wr.heap.size:=by omega
    have HQ:=Lib.hid hq
    obtain ⟨hx64,hy64⟩:=HXW.out q (List.mem_iff_getElem?.2 ⟨k,hq⟩)
    have hways:=place_ways q.x q.y
    have HPQ:Hid (plB q=(leB (absB q.x) 4697254411347427328 && (leB (absB q.y) 4697254411347427328 && (eqB q.x (truncW q.x) && eqB q.y (truncW q.y))))):=Lib.hid rfl
    have HPT:Hid (leB (absB q.x) 4697254411347427328=true→leB (absB q.y) 4697254411347427328=true→eqB q.x (truncW q.x)=true→eqB q.y (truncW q.y)=true→∃ p:Int × Int,PtIs q p∧(∀ w,(convert 27 3 (.float .f64 q.x)).run Tryz.prog w=.ok (.int .i64 p.1) w)∧∀ w,(convert 27 3 (.float .f64 q.y)).run Tryz.prog w=.ok (.int .i64 p.2) w):=Lib.hid fun h1 h2 h3 h4=>by
     obtain ⟨a,a1,a2,a3,a4⟩:=wholeA_is h1 h3
     obtain ⟨b,b1,b2,b3,b4⟩:=wholeA_is h2 h4
     exact ⟨(a,b),⟨a1,b1,⟨a2,a3⟩,b2,b3⟩,fun w=>conv_whole a4 a2 a3 w,fun w=>conv_whole b4 b2 b3 w⟩
    have HFX:Hid (leB (absB q.x) 4697254411347427328=true→finB q.x=true):=Lib.hid fun h=>by
     obtain ⟨r,hr,_⟩:=is_abs hi_is h
     exact hr.finB
    have HFY:Hid (leB (absB q.y) 4697254411347427328=true→finB q.y=true):=Lib.hid fun h=>by
     obtain ⟨r,hr,_⟩:=is_abs hi_is h
     exact hr.finB
    have HAX:=Lib.hid fun w=>abs_any q.x hx64 w
    have HAY:=Lib.hid fun w=>abs_any q.y hy64 w
    have HTX:Hid (leB (absB q.x) 4697254411347427328=true→∀ w,Calls Tryz.prog 66 #[.float .f64 q.x] w fun e w'=>e=.returned (.float .f64 (truncW q.x))∧w=w'):=Lib.hid fun h w=>trunc_any q.x (HFX.out h) w
    have HTY:Hid (leB (absB q.y) 4697254411347427328=true→∀ w,Calls Tryz.prog 66 #[.float .f64 q.y] w fun e w'=>e=.returned (.float .f64 (truncW q.y))∧w=w'):=Lib.hid fun h w=>trunc_any q.y (HFY.out h) w
    clear hlx hF2 hF3 hkeep hcs hq d0 d1 d2 d3 hx64 hy64 HFX HFY
    generalize q.x=x at *
    generalize q.y=y at *
    generalize q.z=z at *
    generalize q.m=zm at *
    generalize absB x=ax at *
    generalize absB y=ay at *
    generalize truncW x=tx at *
    generalize truncW y=ty at *
    rcases hways with hbad|⟨k1,k2,k3,k4⟩
    ·rcases hbad with k1|⟨k1,k2⟩|⟨k1,k2,k3⟩|⟨k1,k2,k3,k4⟩
     ·have HFA:Hid (pls.all plB=false):=Lib.hid (allP_false HQ.out (by rw [HPQ.out,k1];rfl))
      clear HPT HTX HTY
      unfold leB at k1
      go_wp2
      go_quiet (fail)
      go_wp2_with (first
        | (go_at_call 65;(first|((with_reducible refine (HAX.out _).mono ?_);rintro e w' ⟨rfl,rfl⟩)|((with_reducible refine (HAY.out _).mono ?_);rintro e w' ⟨rfl,rfl⟩)))
        | (go_at_call 66;(first|((with_reducible refine (HTX2.out _).mono ?_);rintro e w' ⟨rfl,rfl⟩)|((with_reducible refine (HTY2.out _).mono ?_);rintro e w' ⟨rfl,rfl⟩))))
      refine post_ret (results_two rfl (resIs_agg (n:=3) (cs:=#[.int .i64 0,.slice none 0 0,.slice none 0 0]) (by rfl) Tryz.underlying58 (by kernel_rfl) (T:=58) ?_ rfl) (resIs_tmp rfl)) ⟨false,0,none,0,0,none,0,0,rfl,?_,(fun h=>by cases h),(fun _=>⟨rfl,rfl,rfl⟩),by rw [HSB.out,HFA.out];rfl⟩
      ·have HB:=HBS2.out
       exact SL
      ·have HB:=HBEL.out
       exact EL
     ·have HFA:Hid (pls.all plB=false):=Lib.hid (allP_false HQ.out (by rw [HPQ.out,k1,k2];rfl))
      clear HPT HTX HTY
      unfold leB at k1
      unfold leB at k2
      go_wp2
      go_quiet (fail)
      go_wp2_with (first
        | (go_at_call 65;(first|((with_reducible refine (HAX.out _).mono ?_);rintro e w' ⟨rfl,rfl⟩)|((with_reducible refine (HAY.out _).mono ?_);rintro e w' ⟨rfl,rfl⟩)))
        | (go_at_call 66;(first|((with_reducible refine (HTX2.out _).mono ?_);rintro e w' ⟨rfl,rfl⟩)|((with_reducible refine (HTY2.out _).mono ?_);rintro e w' ⟨rfl,rfl⟩))))
      refine post_ret (results_two rfl (resIs_agg (n:=3) (cs:=#[.int .i64 0,.slice none 0 0,.slice none 0 0]) (by rfl) Tryz.underlying58 (by kernel_rfl) (T:=58) ?_ rfl) (resIs_tmp rfl)) ⟨false,0,none,0,0,none,0,0,rfl,?_,(fun h=>by cases h),(fun _=>⟨rfl,rfl,rfl⟩),by rw [HSB.out,HFA.out];rfl⟩
      ·have HB:=HBS2.out
       exact SL
      ·have HB:=HBEL.out
       exact EL
     ·have HFA:Hid (pls.all plB=false):=Lib.hid (allP_false HQ.out (by rw [HPQ.out,k1,k2,k3];rfl))
      have HTX2:=Lib.hid (HTX.out k1)
      clear HPT HTX HTY
      unfold leB at k1
      unfold leB at k2
      unfold eqB at k3
      have k3':(FloatKind.f64.format.order x tx != some Ordering.eq)=true:=by simp only [bne,k3,Bool.not_false]
      go_wp2
      go_quiet (fail)
      go_wp2_with (first
        | (go_at_call 65;(first|((with_reducible refine (HAX.out _).mono ?_);rintro e w' ⟨rfl,rfl⟩)|((with_reducible refine (HAY.out _).mono ?_);rintro e w' ⟨rfl,rfl⟩)))
        | (go_at_call 66;(first|((with_reducible refine (HTX2.out _).mono ?_);rintro e w' ⟨rfl,rfl⟩)|((with_reducible refine (HTY2.out _).mono ?_);rintro e w' ⟨rfl,rfl⟩))))
      refine post_ret (results_two rfl (resIs_agg (n:=3) (cs:=#[.int .i64 0,.slice none 0 0,.slice none 0 0]) (by rfl) Tryz.underlying58 (by kernel_rfl) (T:=58) ?_ rfl) (resIs_tmp rfl)) ⟨false,0,none,0,0,none,0,0,rfl,?_,(fun h=>by cases h),(fun _=>⟨rfl,rfl,rfl⟩),by rw [HSB.out,HFA.out];rfl⟩
      ·have HB:=HBS2.out
       exact SL
      ·have HB:=HBEL.out
       exact EL
     ·have HFA:Hid (pls.all plB=false):=Lib.hid (allP_false HQ.out (by rw [HPQ.out,k1,k2,k3,k4];rfl))
      have HTX2:=Lib.hid (HTX.out k1)
      have HTY2:=Lib.hid (HTY.out k2)
      clear HPT HTX HTY
      unfold leB at k1
      unfold leB at k2
      unfold eqB at k3
      unfold eqB at k4
      have k3':(FloatKind.f64.format.order x tx != some Ordering.eq)=false:=by simp only [bne,k3,Bool.not_true]
      have k4':(FloatKind.f64.format.order y ty != some Ordering.eq)=true:=by simp only [bne,k4,Bool.not_false]
      go_wp2
      go_quiet (fail)
      go_wp2_with (first
        | (go_at_call 65;(first|((with_reducible refine (HAX.out _).mono ?_);rintro e w' ⟨rfl,rfl⟩)|((with_reducible refine (HAY.out _).mono ?_);rintro e w' ⟨rfl,rfl⟩)))
        | (go_at_call 66;(first|((with_reducible refine (HTX2.out _).mono ?_);rintro e w' ⟨rfl,rfl⟩)|((with_reducible refine (HTY2.out _).mono ?_);rintro e w' ⟨rfl,rfl⟩))))
      refine post_ret (results_two rfl (resIs_agg (n:=3) (cs:=#[.int .i64 0,.slice none 0 0,.slice none 0 0]) (by rfl) Tryz.underlying58 (by kernel_rfl) (T:=58) ?_ rfl) (resIs_tmp rfl)) ⟨false,0,none,0,0,none,0,0,rfl,?_,(fun h=>by cases h),(fun _=>⟨rfl,rfl,rfl⟩),by rw [HSB.out,HFA.out];rfl⟩
      ·have HB:=HBS2.out
       exact SL
      ·have HB:=HBEL.out
       exact EL
    ·obtain ⟨p,hpt,cx,cy⟩:=HPT.out k1 k2 k3 k4
     have HPTI:=Lib.hid hpt
     have HPN:Hid ((pls.take (k+1)).all plB=true):=Lib.hid (by rw [allP_take HQ.out,HPB.out,HPQ.out,k1,k2,k3,k4];rfl)
     have HTX2:=Lib.hid (HTX.out k1)
     have HTY2:=Lib.hid (HTY.out k2)
     clear HPT HTX HTY hpt
     unfold leB at k1
     unfold leB at k2
     unfold eqB at k3
     unfold eqB at k4
     have k3':(FloatKind.f64.format.order x tx != some Ordering.eq)=false:=by simp only [bne,k3,Bool.not_true]
     have k4':(FloatKind.f64.format.order y ty != some Ordering.eq)=false:=by simp only [bne,k4,Bool.not_true]
     go_wp2
     go_quiet (fail)
     go_wp2_with (first
       | (go_at_call 65;(first|((with_reducible refine (HAX.out _).mono ?_);rintro e w' ⟨rfl,rfl⟩)|((with_reducible refine (HAY.out _).mono ?_);rintro e w' ⟨rfl,rfl⟩)))
       | (go_at_call 66;(first|((with_reducible refine (HTX2.out _).mono ?_);rintro e w' ⟨rfl,rfl⟩)|((with_reducible refine (HTY2.out _).mono ?_);rintro e w' ⟨rfl,rfl⟩)))
       | (at_builtin;refine wpList_append_row _ rfl (.tmp 58) (.tmp 64) 55 rfl w1.heap.size 103 i0 _ 2 16 Tryz.underlying55 hi hz0 hz1 hz2 rfl (by decide) (.slice po k co) k (rowX ps) rfl (own_kept HOWN.out (show Bel wr _ by exact EL)) ⟨wr.heap.size+1,0,none⟩ 1 1 [.int .i64 p.1,.int .i64 p.2] rfl rfl (blk_arr (cs:=#[.int .i64 p.1,.int .i64 p.2]) (t:=103) (by exact KL)) (by simp [Value.oneCell']) (by decide) (by unfold maxLen;omega) (by omega) (by have:=HGROW.out;simp;omega) ?_;intro v' w6 ho6 hg6 hb6;obtain ⟨p6,c6,rfl⟩:=ho6.isSlice;have HO6:=Lib.hid ho6;have HG6:=Lib.hid hg6;have C1:=grownBy_blk hg6 (show Blk _ w.heap.size #[.int .i64 kind,.int .i64 dim,.slice pn nn cn,.slice pk m ck] 25 by (have HB:=HBG2.out;exact KL)) (HOWN.out.ne_of_lt (by omega));have C2:=grownBy_blk hg6 (show Blk _ (w.heap.size+1) #[.int .i64 kind,.slice po k co,.slice none 0 0] 58 by (have HB:=HBS2.out;exact KL)) (HOWN.out.ne_of_lt (by omega));have HC1:=Lib.hid C1;have HC2:=Lib.hid C2;obtain ⟨e1,e2,e3⟩:=C2.facts;clear ho6 hg6 hb6 C1 C2))
     go_roundw
     case rel =>
      have hs6:=HG6.out.size
      simp at hs6
      refine ⟨k+1,p6,c6,ps ++ [p],by go_num,by omega,by simp [HPSL.out],?_,?_,?_,HC1.out.other (by simp) _,(HC2.out.set 1 _).cast (by simp),?_,?_,HPN.out⟩
      ·exact ((show Bel w _ from (HBEL.out.trans (show Bel wr _ by exact EL))).of_row HG6.out (fun g hg=>by have:=(HOWN.out.lt g hg).1;have:=HB1.out.size;omega)).setCell (by simp) _
      ·simp
       have:=HGROW.out
       omega
      ·exact (((HABV.out.bel HGROW.out (show Bel wr _ by exact EL)).grown (by have:=HGROW.out;simp;omega) HG6.out (fun g hg=>(HOWN.out.lt g hg).1))).set _ (by simp)
      ·rw [rowX_snoc]
       exact HO6.out.kept (grownBy_set _ _ _ _) (HO6.out.ne_of_lt' (by omega))
      ·intro i p' q' hp' hq'
       rcases Nat.lt_or_ge i ps.length with e|e
       ·rw [List.getElem?_append_left e] at hp'
        exact HALL.out i p' q' hp' hq'
       ·rw [List.getElem?_append_right e] at hp'
        have hlt2:=(List.getElem?_eq_some_iff.1 hp').1
        simp at hlt2
        have hik:i=k:=by have:=HPSL.out;omega
        subst hik
        obtain rfl:=Option.some.inj (HQ.out.symm.trans hq')
        rw [HPSL.out,Nat.sub_self] at hp'
        simp at hp'
        subst hp'
        exact HPTI.out
     case measure=>simp [intOf];omega
   ·obtain rfl:k=ql:=by omega
    have HPF:Hid (pls.all plB=true):=Lib.hid (by have:=HPB.out;rw [List.take_of_length_le (by have:=HQL.out;omega)] at this;exact this)
    have HPS:=Lib.hid (XySl.of_owns (F:=fun b=>w1.heap.size≤b) HOWN.out HPSL.out (fun b h=>h))
    have HPA:Hid (PtsAre (ct dim) nums ps):=Lib.hid ⟨by rw [HPSL.out,← HQL.out,← HPLS.out,plsOf_len],by rw [HPLS.out];exact HALL.out⟩
    obtain ⟨w2,hw2⟩:∃ w2,w2=wr:=⟨_,rfl⟩
    subst hw2
    clear HALL HXW
    go_wp2
    go_loopw [71] (fun iv wr=>∃ (j:Nat) (pj:Option Addr) (cj:Nat) (xs:List Value),iv=.int .i64 j∧j≤m∧Bel w wr∧w2.heap.size≤wr.heap.size∧Abv (w.heap.size+2) w2 wr∧Blk wr w.heap.size #[.int .i64 kind,.int .i64 dim,.slice pn nn cn,.slice pk m ck] 25∧Blk wr (w.heap.size+1) #[.int .i64 kind,.slice po k co,.slice pj j cj] 58∧wr.ownsRow w2.heap.size 58 3 (.slice pj j cj) j xs∧Shps (kids.take j)∧shAll (kids.take j)=true) (fun iv _=>m - (intOf iv).toNat)
    case atStart=>exact ⟨0,none,0,[],rfl,Nat.zero_le _,HBEL.out,Nat.le_refl _,Abv.refl _ _,HBG2.out,HBS2.out,World.ownsRow_nil _ _ _ _,(by rw [List.take_zero,Shps];trivial),by rw [List.take_zero,shAll]⟩
    case round =>
     obtain ⟨j,pj,cj,xs,rfl,hj,hbel,hgrow2,habv,hbg,hbs,hown,hshp,hsa⟩:=hrel
     have HSHP:=Lib.hid hshp
     have HSA:=Lib.hid hsa
     clear hshp hsa
     have HBEL4:=Lib.hid hbel
     have HGROW4:=Lib.hid hgrow2
     have HABV4:=Lib.hid habv
     have HBG4:=Lib.hid hbg
     have HBS4:=Lib.hid hbs
     have HOWN4:=Lib.hid hown
     obtain ⟨r1,z1,l1⟩:=hbg.facts
     obtain ⟨r2,z2,l2⟩:=hbs.facts
     clear s1 t1 m1 s2 t2 habv hbg hbs hown
     by_cases hjm:j<m
     ·obtain ⟨kid,hkid⟩:∃ kid,kids[j]?=some kid:=⟨_,List.getElem?_eq_getElem (by have:=HM.out;omega)⟩
      have hmem:kid ∈ kids:=List.mem_iff_getElem?.2 ⟨j,hkid⟩
      obtain ⟨b,off,pn',nn',cn',pk',nk',ck',rfl,hlt,-,d0,d1,d2,d3,hf,hg'⟩:=HK.out.at hkid
      have D0:=cell_kept hbel d0
      have D1:=cell_kept hbel d1
      have D2:=cell_kept hbel d2
      have D3:=cell_kept hbel d3
      have hbl:b<wr.heap.size:=Nat.lt_of_lt_of_le hlt hbel.size
      have HIH:Hid (∀ W,Bel w W→Calls Tryz.prog 35 #[.agg #[.int .i64 kid.kind,.int .i64 kid.dim,.slice pn' nn' cn',.slice pk' nk' ck'],.int .i64 1048576] W (IsShape W kid)):=Lib.hid fun W hW=>IH.out kid (HKS.out kid hmem).1 (HOKK.out kid hmem) (HKS.out kid hmem).2 F W pn' nn' cn' pk' nk' ck' (hf.bel hW) (hg'.bel hW)
      have HSN:Hid (Shp kid→Shps (kids.take (j+1))):=Lib.hid fun h=>Shps.take hkid HSHP.out h
      have HKT:Hid (shAll (kids.take (j+1))=(shAll (kids.take j) && shB kid)):=Lib.hid (shAll_take hkid)
      have HKF:Hid (shB kid=false→shAll kids=false):=Lib.hid (shAll_false hkid)
      clear hkid hmem d0 d1 d2 d3 hf hg' hbel
      generalize hkd:kid.kind=kd at *
      generalize hdm:kid.dim=dm at *
      clear hkd hdm
      go_wp2_with (first
       | (go_at_call 35;(with_reducible refine (HIH.out _ ?hb).mono ?_);(case hb=>exact HBEL4.out.alloc _);rintro e w3 ⟨ok,kq,pp',np',cp',pq',nq',cq',rfl,hb3,hres⟩;have HB3:Hid (Bel wr w3):=Lib.hid ((Bel.alloc1 wr _).trans hb3);have C1:=HBG4.out.bel HB3.out;have C2:=HBS4.out.bel HB3.out;have HC1:=Lib.hid C1;have HC2:=Lib.hid C2;obtain ⟨x1,y1,v1⟩:=C1.facts;obtain ⟨x2,y2,v2⟩:=C2.facts;have HRES:=Lib.hid hres.1;have HREB:=Lib.hid hres.2.2;clear hb3 hres C1 C2;cases ok)
       | (at_builtin;refine wpList_append_row _ rfl (.tmp 85) (.tmp 87) 56 rfl w2.heap.size 58 j0 _ 3 56 Tryz.underlying56 hj' hy0 hy1 hy2 rfl (by decide) (.slice pj j cj) j xs rfl (own_kept HOWN4.out (show Bel wr _ by (have HB:=HB3.out;exact EL))) ⟨w3.heap.size+1,0,none⟩ 1 1 [.int .i64 kq,.slice pp' np' cp',.slice pq' nq' cq'] rfl rfl (blk_arr (cs:=#[.int .i64 kq,.slice pp' np' cp',.slice pq' nq' cq']) (t:=58) (by exact KL)) (by simp [Value.oneCell']) (by decide) (by unfold maxLen;omega) (by omega) (by have:=HGROW4.out;have:=HB3.out.size;simp;omega) ?_;intro v' w6 ho6 hg6 hb6;obtain ⟨p6,c6,rfl⟩:=ho6.isSlice;have HO6:=Lib.hid ho6;have HG6:=Lib.hid hg6;have E1:=grownBy_blk hg6 (show Blk _ w.heap.size #[.int .i64 kind,.int .i64 dim,.slice pn nn cn,.slice (some ⟨b,off,none⟩) m ck] 25 by (have HB:=HC1.out;exact KL)) (HOWN4.out.ne_of_lt (by omega));have E2:=grownBy_blk hg6 (show Blk _ (w.heap.size+1) #[.int .i64 kind,.slice po k co,.slice pj j cj] 58 by (have HB:=HC2.out;exact KL)) (HOWN4.out.ne_of_lt (by omega));have HE1:=Lib.hid E1;have HE2:=Lib.hid E2;obtain ⟨e1,e2,e3⟩:=E2.facts;clear ho6 hg6 hb6 E1 E2))
      ·refine post_ret (results_two rfl (resIs_agg (n:=3) (cs:=#[.int .i64 0,.slice none 0 0,.slice none 0 0]) (by rfl) Tryz.underlying58 (by kernel_rfl) (T:=58) ?_ rfl) (resIs_tmp rfl)) ⟨false,0,none,0,0,none,0,0,rfl,?_,(fun h=>by cases h),(fun _=>⟨rfl,rfl,rfl⟩),by rw [HSB.out,HKF.out HREB.out.symm,Bool.and_false]⟩
       ·have HB:=HC2.out
        exact SL
       ·have HB:=HBEL4.out.trans HB3.out
        exact EL
      ·go_roundw
       case rel =>
        have hs6:=HG6.out.size
        have hs3:=HB3.out.size
        have hgr:=HGROW4.out
        simp at hs6
        refine ⟨j+1,p6,c6,xs ++ [.int .i64 kq,.slice pp' np' cp',.slice pq' nq' cq'],by go_num,by omega,?_,?_,?_,HE1.out.other (by simp) _,(HE2.out.set 2 _).cast (by simp),?_,?_,by rw [HKT.out,HSA.out,← HREB.out];rfl⟩
        ·exact ((show Bel w _ from (HBEL4.out.trans (show Bel wr _ by (have HB:=HB3.out;exact EL)))).of_row HG6.out (fun g hg=>by have:=(HOWN4.out.lt g hg).1;have:=HB1.out.size;have:=HGROW.out;omega)).setCell (by simp) _
        ·simp
         omega
        ·exact (((HABV4.out.bel HGROW4.out (show Bel wr _ by (have HB:=HB3.out;exact EL))).grown (by simp;omega) HG6.out (fun g hg=>(HOWN4.out.lt g hg).1))).set _ (by simp)
        ·exact HO6.out.kept (grownBy_set _ _ _ _) (HO6.out.ne_of_lt' (by omega))
        ·exact HSN.out (HRES.out (by simp)).2.2
       case measure=>simp [intOf];omega
     ·obtain rfl:j=m:=by omega
      have hsl:XySl (fun b=>w.heap.size+2≤b) wr (.slice po k co) ps:=HPS.out.keep HGROW4.out (fun b hb hl=>HABV4.out b (by omega) hl) (fun b _ hb=>by omega)
      have HSL:=Lib.hid hsl
      clear hsl
      go_wp2
      refine post_ret (results_two rfl (resIs_agg (n:=3) (cs:=#[.int .i64 kind,.slice po k co,.slice pj j cj]) (by rfl) Tryz.underlying58 (by kernel_rfl) (T:=58) ?_ rfl) (resIs_tmp rfl)) ⟨true,kind,po,k,co,pj,j,cj,rfl,?_,(fun _=>⟨HKK.out.symm,⟨ps,?_,?_⟩,?_⟩),(fun h=>by cases h),by rw [HSB.out,HPF.out];have:=HSA.out;rw [List.take_of_length_le (by have:=HM.out;omega)] at this;rw [this];rfl⟩
      ·have HB:=HBS4.out
       exact SL
      ·have HB:=HBEL4.out
       exact EL
      ·exact HSL.out.keep (by simp) (fun b hb hl=>by rw [Below.heap_setCell _ _ _ _ (by simp;omega),Below.heap_setCell _ _ _ _ (by simp;omega),Below.heap_setCell _ _ _ _ (by simp;omega)]) (fun b _ hb=>by omega)
      ·rw [HDD.out,HNS.out]
       exact HPA.out
      ·refine Shp.of (ps:=ps) (by rw [HDD.out,HNS.out];exact HPA.out) ?_
       rw [HKQ.out,← List.take_of_length_le (l:=kids) (i:=j) (by have:=HM.out;omega)]
       exact HSHP.out
end Go.Proofs.YtpipehenfcbjbaaGreatDoor
set_option linter.unusedVariables false
set_option linter.unusedSimpArgs false
namespace Go.Proofs.YtpipehenfcbjbaaGreatDoor
theorem getD_in (xs:List Nat) (i:Nat):xs.getD i 0 ∈ xs∨xs.getD i 0=0:=by
 rcases Nat.lt_or_ge i xs.length with h|h
 ·rw [List.getD_eq_getElem?_getD,List.getElem?_eq_getElem h]
  exact Or.inl (List.getElem_mem h)
 ·rw [List.getD_eq_getElem?_getD,List.getElem?_eq_none h]
  exact Or.inr rfl
theorem forceN_in {c c':Nat} {xs:List Nat} {x:Nat} (h:x ∈ forceN c c' xs):x ∈ xs∨x=0:=by
 unfold forceN plsOf at h
 rw [List.mem_flatMap] at h
 obtain ⟨p,hp,hx⟩:=h
 rw [List.mem_map] at hp
 obtain ⟨k,-,rfl⟩:=hp
 have h1:=getD_in xs (k*wd c)
 have h2:=getD_in xs (k*wd c+1)
 have h3:=getD_in xs (k*wd c+2)
 have h4:=getD_in xs (k*wd c+wd c - 1)
 have hz:(plAt c xs k).z ∈ xs∨(plAt c xs k).z=0:=by
  show (if c % 2=1 then xs.getD (k*wd c+2) 0 else 0) ∈ xs∨(if c % 2=1 then xs.getD (k*wd c+2) 0 else 0)=0
  split
  ·exact h3
  ·exact Or.inr rfl
 have hm:(plAt c xs k).m ∈ xs∨(plAt c xs k).m=0:=by
  show (if c / 2 % 2=1 then xs.getD (k*wd c+wd c - 1) 0 else 0) ∈ xs∨(if c / 2 % 2=1 then xs.getD (k*wd c+wd c - 1) 0 else 0)=0
  split
  ·exact h4
  ·exact Or.inr rfl
 unfold numsOfPl at hx
 rcases List.mem_append.1 hx with hx|hx
 ·rcases List.mem_append.1 hx with hx|hx
  ·rcases List.mem_cons.1 hx with rfl|hx
   ·exact h1
   ·obtain rfl:x=_:=by simpa using hx
    exact h2
  ·split at hx
   ·obtain rfl:x=_:=by simpa using hx
    exact hz
   ·simp at hx
 ·split at hx
  ·obtain rfl:x=_:=by simpa using hx
   exact hm
  ·simp at hx
mutual
theorem force_in (c:Nat):∀ (g:Gm) (x:Nat),x ∈ allOf (force c g)→x ∈ allOf g∨x=0
 | .mk k d ns ks,x,h=>by
  rw [force,allOf] at h
  rw [allOf]
  rcases List.mem_append.1 h with h|h
  ·rcases forceN_in h with h|h
   ·exact Or.inl (List.mem_append.2 (Or.inl h))
   ·exact Or.inr h
  ·rcases forceAll_in c ks x h with h|h
   ·exact Or.inl (List.mem_append.2 (Or.inr h))
   ·exact Or.inr h
theorem forceAll_in (c:Nat):∀ (l:List Gm) (x:Nat),x ∈ allOfs (forceAll c l)→x ∈ allOfs l∨x=0
 | [],x,h=>by rw [forceAll] at h;exact Or.inl h
 | g :: r,x,h=>by
  rw [forceAll,allOfs] at h
  rw [allOfs]
  rcases List.mem_append.1 h with h|h
  ·rcases force_in c g x h with h|h
   ·exact Or.inl (List.mem_append.2 (Or.inl h))
   ·exact Or.inr h
  ·rcases forceAll_in c r x h with h|h
   ·exact Or.inl (List.mem_append.2 (Or.inr h))
   ·exact Or.inr h
end
theorem newAll_in (want:Int):∀ (l:List Gm),(∀ g ∈ l,∀ x,x ∈ allOf (newOf g)→x ∈ allOf g∨x=0)→∀ x,x ∈ allOfs (newAll want l)→x ∈ allOfs l∨x=0
 | [],_,x,h=>by rw [newAll] at h;exact Or.inl h
 | g :: r,hg,x,h=>by
  rw [newAll] at h
  rw [allOfs]
  have ih:=newAll_in want r (fun y hy=>hg y (List.mem_cons_of_mem _ hy)) x
  split at h
  ·rw [allOfs] at h
   rcases List.mem_append.1 h with h|h
   ·rcases hg g (by simp) x h with h|h
    ·exact Or.inl (List.mem_append.2 (Or.inl h))
    ·exact Or.inr h
   ·rcases ih h with h|h
    ·exact Or.inl (List.mem_append.2 (Or.inr h))
    ·exact Or.inr h
  ·rcases ih h with h|h
   ·exact Or.inl (List.mem_append.2 (Or.inr h))
   ·exact Or.inr h
theorem newOf_in:∀ (n:Nat) (g:Gm),g.size≤n→∀ x,x ∈ allOf (newOf g)→x ∈ allOf g∨x=0
 | 0,g,h=>absurd h (by have:=g.size_pos;omega)
 | n+1,.mk k d ns ks,h=>fun x hx=>by
  have hk:∀ g ∈ ks,∀ x,x ∈ allOf (newOf g)→x ∈ allOf g∨x=0:=fun g hg=>newOf_in n g (by
   have h2:=Gm.size_mem hg
   simp only [Gm.size] at h
   omega)
  rw [newOf] at hx
  rw [allOf]
  split at hx
  ·rw [allOf,allOfs,List.append_nil] at hx
   exact Or.inl (List.mem_append.2 (Or.inl (List.mem_of_mem_take hx)))
  ·split at hx
   ·rw [allOf,allOfs] at hx
    simp at hx
   ·rcases force_in _ _ x hx with hx|hx
    ·rw [allOf,List.nil_append] at hx
     rcases newAll_in _ ks hk x hx with h|h
     ·exact Or.inl (List.mem_append.2 (Or.inr h))
     ·exact Or.inr h
    ·exact Or.inr hx
theorem nnB_zero:nnB 0=true:=by decide +kernel
theorem nn_newOf {g:Gm} (h:kAnyOf g=true):NN (newOf g):=fun x hx=>by
 rcases newOf_in g.size g (Nat.le_refl _) x hx with hx|rfl
 ·unfold kAnyOf at h
  rw [Bool.and_eq_true,Bool.and_eq_true,List.all_eq_true] at h
  have:=h.2.2 x hx
  unfold nanB at this
  refine nnB_of_order ?_
  cases hc:(FloatKind.f64.format.order x x != some .eq) with
  | false=>rfl
  | true=>rw [hc] at this;simp at this
 ·exact nnB_zero
end Go.Proofs.YtpipehenfcbjbaaGreatDoor
set_option linter.unusedVariables false
namespace Go.Proofs.YtpipehenfcbjbaaGreatDoor
open Go.ChangeShapes Go.WideShapes Go.ChangeAt Go.RowKit
set_option maxRecDepth 100000 in
theorem open_geom2 {H:Type} {enc:TypeId × Value→H} {w:World} {base b0:Nat} {sp:Nat→Bool} {held:Bool} {r:Reach} {v:Value} {d:DataW H} {p:List MemPlace}
  (h:∃ fuel,DataW.trod enc Tryz.prog w base sp held fuel 25 v.cells.toList=some (d,p)) (hv:Value.okWide Tryz.prog w r b0 25 v) :
  ∃ g:Gm,g.size≤Rows.uptoBulk d∧N64 g∧∃ pn nn cn pk nk ck,v=.agg #[.int .i64 g.kind,.int .i64 g.dim,.slice pn nn cn,.slice pk nk ck]∧FlSl (fun _=>True) w (.slice pn nn cn) g.nums∧GmSl (fun _=>True) w (.slice pk nk ck) g.kids:=by
 obtain ⟨k0,k1,k2,k3,y0,y1,y2,y3,n,rfl,hd,hp,t0,t1,t2,t3⟩:=Go.Joins.open_agg4 Tryz.underlying25 (by kernel_rfl) cGeom hv h
 obtain ⟨n0,g0,_,r0⟩:=DataW.trod_int Tryz.underlying3 t0
 obtain ⟨n1,g1,_,r1⟩:=DataW.trod_int Tryz.underlying3 t1
 simp at g0 g1
 subst g0 g1
 obtain ⟨xs,f1,f2,f3⟩:=open_floats t2
 obtain ⟨ks,q1,q2,q3⟩:=open_geoms _ _ k3 y3 (Nat.le_refl _) t3
 obtain ⟨pn,nn,cn,rfl⟩:=f1.isSlice
 obtain ⟨pk,ck,rfl,_⟩:=q1.isSlice
 refine ⟨.mk n0 n1 xs ks,?_,N64.of_ok _ ?_,pn,nn,cn,pk,_,ck,rfl,f1,q1⟩
 ·rw [hd]
  have:=bulk_pos y0.1
  have:=bulk_pos y1.1
  simp only [Gm.size,Rows.uptoBulk,Rows.uptoBulkAll]
  omega
 ·simp only [Gm.Ok]
  exact ⟨wf_range r0,wf_range r1,f2,q2⟩
theorem n64_newOf {g:Gm} (h:N64 g):N64 (newOf g):=fun x hx=>by
 rcases newOf_in g.size g (Nat.le_refl _) x hx with hx|rfl
 ·exact h x hx
 ·decide
/-- The kind and the type of what is made are a kind and a type. -/
theorem newOf_kd (g:Gm):∃ s c:Nat,s≤6∧c≤3∧(newOf g).kind=s∧(newOf g).dim=c:=by
 obtain ⟨c,hc,hd,-⟩:=newOf_uni g
 cases g with
 | mk k d ns ks =>
  have hk:∃ s:Nat,s≤6∧kindOf k=s:=by
   unfold kindOf
   split
   ·exact ⟨k.toNat,by omega,by omega⟩
   ·exact ⟨0,by omega,rfl⟩
  obtain ⟨s,hs,hks⟩:=hk
  refine ⟨s,c,hs,hc,?_,hd⟩
  rw [← hks,newOf]
  split
  ·rfl
  ·split
   ·rfl
   ·rfl
theorem evW_eq {f g:Bool} {a b c d p q r s:Nat} {e:Ev} (h:EvW f a b c d e) (k:EvW g p q r s e):f=g∧FloatKind.f64.format.order a p=some .eq∧FloatKind.f64.format.order b q=some .eq∧FloatKind.f64.format.order c r=some .eq∧FloatKind.f64.format.order d s=some .eq:=by
 have key:∀ {x y:Nat},nnB x=true→nnB y=true→key x=key y→FloatKind.f64.format.order x y=some .eq:=fun hx hy h=>by
  rw [order_keys hx hy,h]
  simp [compare,compareOfLessAndEq]
 cases e with
 | no =>
  obtain ⟨rfl,rfl,rfl,rfl,rfl⟩:=h
  obtain ⟨rfl,rfl,rfl,rfl,rfl⟩:=k
  have h0:FloatKind.f64.format.order 0 0=some .eq:=by decide +kernel
  exact ⟨rfl,h0,h0,h0,h0⟩
 | bx =>
  obtain ⟨rfl,⟨h1,h2,h3,h4⟩,e1,e2,e3,e4⟩:=h
  obtain ⟨rfl,⟨k1,k2,k3,k4⟩,f1,f2,f3,f4⟩:=k
  exact ⟨rfl,key h1 k1 (e1.trans f1.symm),key h2 k2 (e2.trans f2.symm),key h3 k3 (e3.trans f3.symm),key h4 k4 (e4.trans f4.symm)⟩
end Go.Proofs.YtpipehenfcbjbaaGreatDoor
set_option linter.unusedVariables false
set_option linter.unusedSimpArgs false
namespace Go.Proofs.YtpipehenfcbjbaaGreatDoor
open Go.ChangeShapes Go.WideShapes Go.ChangeAt Go.RowKit
def IsStr (w:World) (e:Ending) (w':World):Prop:=∃ s,e=.returned (.string s)∧s.size≤8388608∧Bel w w'
theorem byte_str (W:World) (x:Int):(convert 157 9 (.slice (some ⟨W.heap.size,0,none⟩) 1 1)).run Tryz.prog (W.alloc (.cells #[.int .u8 x] 5))=.ok (.string (ByteArray.empty.push (UInt8.ofNat x.toNat))) (W.alloc (.cells #[.int .u8 x] 5)):=by
 rw [run_convert_bytes_string _ 157 9 5 _ _ _ Tryz.underlying157 Tryz.underlying5 Tryz.underlying9]
 rw [run_bytesToString _ _ _ _ [x] ?_]
 ·rfl
 ·have B:=Blk.new W #[.int .u8 x] 5
  obtain ⟨r,z,u⟩:=B.facts
  simp [loadCells,loadCellsFrom,r,go_sem]
set_option maxRecDepth 100000 in
theorem count10_any (n:Nat) (hn:n≤4194304) (w:World):Calls Tryz.prog 61 #[.int .i64 n] w fun e w'=>∃ s,e=.returned (.string s)∧s.size≤4194305∧Bel w w':=by
 have kb:=byte_str
 have hq:∀ k:Nat,(((k / 10:Nat):Nat):Int)=(k:Int) / 10:=fun k=>by omega
 go_enter Tryz.func61,Tryz.ntmps61
 go_wp2
 go_loopw [0,3] (fun iv sv wr=>∃ (k:Nat) (s:ByteArray),iv=.int .i64 k∧k≤n∧sv=.string s∧s.size+k≤n+1∧Bel w wr) (fun iv _ _=>(intOf iv).toNat)
 case atStart=>exact ⟨n / 10,_,by rw [hq],by omega,rfl,by simp [ByteArray.size_push];omega,by exact EL⟩
 case round =>
  obtain ⟨k,s,rfl,hk,rfl,hs,hbel⟩:=hrel
  have HBEL:=Lib.hid hbel
  by_cases h0:0<k
  ·clear hbel
   have hS0:(9223372036854775807<1+s.size)=False:=eq_false (by omega)
   have hS1:(9223372036854775807<0+1+s.size)=False:=eq_false (by omega)
   go_wp2
   go_roundw
   case rel=>exact ⟨k / 10,_,by rw [hq],by omega,rfl,by simp [ByteArray.size_push];omega,by (have HB:=HBEL.out;exact EL)⟩
   case measure=>simp [intOf];omega
  ·go_wp2
   go_ret
   exact ⟨_,rfl,by omega,HBEL.out⟩
set_option maxRecDepth 100000 in
theorem counted_any (n:Nat) (hn:n≤4194304) (a b:ByteArray) (ha:a.size≤100) (hb:b.size≤100) (w:World):Calls Tryz.prog 60 #[.int .i64 n,.string a,.string b] w (IsStr w):=by
 have HC:=Lib.hid (count10_any n hn)
 by_cases h1:n=1
 ·have h1':((n:Nat):Int)=1:=by omega
  have hS0:(9223372036854775807<2+a.size)=False:=eq_false (by omega)
  go_enter Tryz.func60,Tryz.ntmps60
  go_wp2
  go_ret
  exact ⟨_,rfl,by have h2:(ByteArray.mk #[49,32]).size=2:=rfl;simp only [ByteArray.size_append,h2];omega,by exact EL⟩
 ·go_enter Tryz.func60,Tryz.ntmps60
  go_wp2_with (go_at_call 61;(with_reducible refine (HC.out _).mono ?_);rintro e w1 ⟨s,rfl,hs,hb1⟩;have hS0:(9223372036854775807<s.size+1)=False:=eq_false (by omega);have hS1:(9223372036854775807<s.size+1+b.size)=False:=eq_false (by omega))
  go_ret
  exact ⟨_,rfl,by have h2:(ByteArray.mk #[32]).size=1:=rfl;simp only [ByteArray.size_append,h2];omega,by exact EL⟩

/-! ### wider -/
/-- The lesser and the greater one, as the built-in functions take them. -/
def mnF (x y:Nat):Nat:=match FloatKind.f64.format.order x y with
 | some .lt=>x
 | some .gt=>y
 | _=>if (FloatKind.f64.decode x).neg then x else y
def mxF (x y:Nat):Nat:=match FloatKind.f64.format.order x y with
 | some .lt=>y
 | some .gt=>x
 | _=>if (FloatKind.f64.decode x).neg then y else x
theorem order_cases {x y:Nat} (hx:nnB x=true) (hy:nnB y=true):(FloatKind.f64.format.order x y=some .lt∧key x<key y)∨(FloatKind.f64.format.order x y=some .eq∧key x=key y)∨(FloatKind.f64.format.order x y=some .gt∧key y<key x):=by
 rw [order_keys hx hy]
 simp only [compare,compareOfLessAndEq]
 by_cases h:key x<key y
 ·simp [h]
 ·by_cases h2:key x=key y
  ·simp [h,h2]
  ·have:key y<key x:=by omega
   simp [h,h2,this]
theorem mnF_key {x y:Nat} (hx:nnB x=true) (hy:nnB y=true):nnB (mnF x y)=true∧key (mnF x y)=min (key x) (key y):=by
 unfold mnF
 rcases order_cases hx hy with ⟨h,k⟩|⟨h,k⟩|⟨h,k⟩<;>rw [h]
 ·exact ⟨hx,by show key x=_;omega⟩
 ·show nnB (if (FloatKind.f64.decode x).neg then x else y)=true∧key (if (FloatKind.f64.decode x).neg then x else y)=_
  split
  ·exact ⟨hx,by omega⟩
  ·exact ⟨hy,by omega⟩
 ·exact ⟨hy,by show key y=_;omega⟩
theorem mxF_key {x y:Nat} (hx:nnB x=true) (hy:nnB y=true):nnB (mxF x y)=true∧key (mxF x y)=max (key x) (key y):=by
 unfold mxF
 rcases order_cases hx hy with ⟨h,k⟩|⟨h,k⟩|⟨h,k⟩<;>rw [h]
 ·exact ⟨hy,by show key y=_;omega⟩
 ·show nnB (if (FloatKind.f64.decode x).neg then y else x)=true∧key (if (FloatKind.f64.decode x).neg then y else x)=_
  split
  ·exact ⟨hy,by omega⟩
  ·exact ⟨hx,by omega⟩
 ·exact ⟨hx,by show key x=_;omega⟩
theorem run_mnF {x y:Nat} (hx:nnB x=true) (hy:nnB y=true) (ts:Array TypeId) (t:TypeId) (w:World):(Builtin.min_ ts t #[.float .f64 x,.float .f64 y]).run Tryz.prog w=.ok (.float .f64 (mnF x y)) w:=by
 unfold mnF
 rcases order_cases hx hy with ⟨h,k⟩|⟨h,k⟩|⟨h,k⟩<;>simp [Builtin.min_,Builtin.min2,h]
theorem run_mxF {x y:Nat} (hx:nnB x=true) (hy:nnB y=true) (ts:Array TypeId) (t:TypeId) (w:World):(Builtin.max_ ts t #[.float .f64 x,.float .f64 y]).run Tryz.prog w=.ok (.float .f64 (mxF x y)) w:=by
 unfold mxF
 rcases order_cases hx hy with ⟨h,k⟩|⟨h,k⟩|⟨h,k⟩<;>simp [Builtin.max_,Builtin.max2,h]
theorem EvW.joinF {f g:Bool} {a b c d p q r s:Nat} {e e':Ev} (h:EvW f a b c d e) (k:EvW g p q r s e') (hf:f=true) (hg:g=true):EvW true (mnF a p) (mnF b q) (mxF c r) (mxF d s) (e.join e'):=by
 subst hf hg
 cases e with
 | no=>exact absurd h.1 (by decide)
 | bx u1 u2 u3 u4 =>
  cases e' with
  | no=>exact absurd k.1 (by decide)
  | bx v1 v2 v3 v4 =>
   obtain ⟨-,⟨h1,h2,h3,h4⟩,rfl,rfl,rfl,rfl⟩:=h
   obtain ⟨-,⟨k1,k2,k3,k4⟩,rfl,rfl,rfl,rfl⟩:=k
   have m1:=mnF_key h1 k1
   have m2:=mnF_key h2 k2
   have m3:=mxF_key h3 k3
   have m4:=mxF_key h4 k4
   exact ⟨rfl,⟨m1.1,m2.1,m3.1,m4.1⟩,m1.2,m2.2,m3.2,m4.2⟩
theorem IsPlainEnv.mk' {v:Ev} {w w':World} {f:Bool} {a b c d:Nat} (h:EvW f a b c d v) (hb:Bel w w'):IsPlainEnv v w (.returned (.agg #[.bool f,.float .f64 a,.float .f64 b,.float .f64 c,.float .f64 d])) w':=⟨f,a,b,c,d,rfl,h,hb⟩
set_option maxHeartbeats 4000000 in
set_option maxRecDepth 100000 in
theorem wider_any {f g:Bool} {a b c d p q r s:Nat} {u v:Ev} (hu:EvW f a b c d u) (hv:EvW g p q r s v) (w:World):Calls Tryz.prog 59 #[.agg #[.bool f,.float .f64 a,.float .f64 b,.float .f64 c,.float .f64 d],.agg #[.bool g,.float .f64 p,.float .f64 q,.float .f64 r,.float .f64 s]] w (IsPlainEnv (u.join v) w):=by
 cases f
 ·have HR:Hid (EvW g p q r s (u.join v)):=Lib.hid (by rw [hu.off rfl,Ev.no_join];exact hv)
  clear hu hv
  generalize u.join v=uv at *
  go_enter Tryz.func59,Tryz.ntmps59
  go_wp2
  refine post_ret (results_one rfl (resIs_agg (n:=5) (cs:=#[.bool g,.float .f64 p,.float .f64 q,.float .f64 r,.float .f64 s]) (by rfl) Tryz.underlying31 (by kernel_rfl) (T:=31) ?_ rfl)) (IsPlainEnv.mk' HR.out ?_)
  ·exact SL
  ·exact EL
 ·cases g
  ·have HR:Hid (EvW true a b c d (u.join v)):=Lib.hid (by rw [hv.off rfl,Ev.join_no];exact hu)
   clear hu hv
   generalize u.join v=uv at *
   go_enter Tryz.func59,Tryz.ntmps59
   go_wp2
   refine post_ret (results_one rfl (resIs_agg (n:=5) (cs:=#[.bool true,.float .f64 a,.float .f64 b,.float .f64 c,.float .f64 d]) (by rfl) Tryz.underlying31 (by kernel_rfl) (T:=31) ?_ rfl)) (IsPlainEnv.mk' HR.out ?_)
   ·exact SL
   ·exact EL
  ·have HR:Hid (EvW true (mnF a p) (mnF b q) (mxF c r) (mxF d s) (u.join v)):=Lib.hid (hu.joinF hv rfl rfl)
   obtain ⟨n1,n2,n3,n4⟩:=hu.nn rfl
   obtain ⟨k1,k2,k3,k4⟩:=hv.nn rfl
   have m1:=run_mnF n1 k1
   have m2:=run_mnF n2 k2
   have m3:=run_mxF n3 k3
   have m4:=run_mxF n4 k4
   clear hu hv n1 n2 n3 n4 k1 k2 k3 k4
   generalize u.join v=uv at *
   generalize mnF a p=z1 at *
   generalize mnF b q=z2 at *
   generalize mxF c r=z3 at *
   generalize mxF d s=z4 at *
   go_enter Tryz.func59,Tryz.ntmps59
   go_wp2
   refine post_ret (results_one rfl (resIs_agg (n:=5) (cs:=#[.bool true,.float .f64 z1,.float .f64 z2,.float .f64 z3,.float .f64 z4]) (by rfl) Tryz.underlying31 (by kernel_rfl) (T:=31) ?_ rfl)) (IsPlainEnv.mk' HR.out ?_)
   ·exact SL
   ·exact EL
end Go.Proofs.YtpipehenfcbjbaaGreatDoor
