/-
 Sequence.Get,CoordinatesType.Is3D,IsMeasured. No panic;what stood in memory has not turned.
-/
import Derived.Test.YtpipehenfcbjbaaGreatDoorPab
set_option linter.unusedVariables false
namespace Go.Proofs.YtpipehenfcbjbaaGreatDoor
open Go.ChangeShapes Go.WideShapes Go.ChangeAt Go.RowKit
theorem is3D_any (c:Nat) (hc:c≤3) (w:World):Calls Tryz.prog 174 #[.int .u8 c] w fun e w'=>e=.returned (.bool (decide (c % 2=1)))∧w=w':=by
 have h4:c=0∨c=1∨c=2∨c=3:=by omega
 rcases h4 with rfl|rfl|rfl|rfl
 all_goals
  go_enter Tryz.func174,Tryz.ntmps174
  go_wp2
  go_ret
  exact ⟨rfl,rfl⟩
theorem isMeasured_any (c:Nat) (hc:c≤3) (w:World):Calls Tryz.prog 175 #[.int .u8 c] w fun e w'=>e=.returned (.bool (decide (c / 2 % 2=1)))∧w=w':=by
 have h4:c=0∨c=1∨c=2∨c=3:=by omega
 rcases h4 with rfl|rfl|rfl|rfl
 all_goals
  go_enter Tryz.func175,Tryz.ntmps175
  go_wp2
  go_ret
  exact ⟨rfl,rfl⟩
theorem seqType_any (c:Int) (p:Option Addr) (n cap:Nat) (w:World):Calls Tryz.prog 180 #[.agg #[.int .u8 c,.slice p n cap]] w fun e w'=>e=.returned (.int .u8 c)∧Bel w w':=by
 go_enter Tryz.func180,Tryz.ntmps180
 go_wp2
 go_ret
 exact ⟨rfl,by exact EL⟩
set_option maxHeartbeats 2000000 in
set_option maxRecDepth 100000 in
theorem get_0 {F:Nat→Prop} (p:Option Addr) (n cap i:Nat) (xs:List Nat) (w:World) (h:FlSl F w (.slice p n cap) xs) (hi:i<n / 2) (h31:n≤2147483647) :
  Calls Tryz.prog 69 #[.agg #[.int .u8 0,.slice p n cap],.int .i64 i] w fun e w'=>e=.returned (.agg #[.float .f64 (plAt 0 xs i).x,.float .f64 (plAt 0 xs i).y,.float .f64 (plAt 0 xs i).z,.float .f64 (plAt 0 xs i).m,.int .u8 0])∧Bel w w':=by
 have hin:i*2+2≤n:=by
  have:=Nat.div_mul_le_self n 2
  have:=Nat.mul_le_mul_right 2 hi
  omega
 have hl:=h.len
 have hlx:=hl.1
 have hd:=fun w=>dimension_any 0 (by decide) w
 have hq:wd 0=2:=by decide
 rw [hq] at hd
 have HD:=Lib.hid hd
 obtain ⟨b,off,rfl,hlt,-,hcs⟩:=h.cells (by omega)
 obtain ⟨x0,hx0⟩:∃ x,xs[i*2]?=some x:=⟨_,List.getElem?_eq_getElem (by omega)⟩
 have D0:=hcs _ _ hx0
 obtain ⟨x1,hx1⟩:∃ x,xs[i*2+1]?=some x:=⟨_,List.getElem?_eq_getElem (by omega)⟩
 have D1:=hcs _ _ hx1
 have E1:=D1
 rw [← Nat.add_assoc] at E1
 have hpl:plAt 0 xs i=⟨x0,x1,0,0⟩:=by
  unfold plAt
  rw [hq]
  simp [hx0,hx1]
 rw [hpl]
 clear hpl hl hlx h hcs hd hq hx0 hx1 hi
 generalize hj:i*2=j at *
 have w1e:((i:Int)*2)=(j:Int):=by omega
 clear hj
 go_enter Tryz.func69,Tryz.ntmps69
 go_wp2_with (go_at_call 161;refine (HD.out _).mono ?_;rintro e w' ⟨rfl,rfl⟩)
 generalize hW:World.alloc (World.alloc w _) _=w2 at *
 have B1:Blk w2 w.heap.size #[.int .u8 0,.slice (some ⟨b,off,none⟩) n cap] 109:=by
  subst hW
  exact (Blk.new w _ _).alloc _
 have B2:Blk w2 (w.heap.size+1) #[.float .f64 0,.float .f64 0,.float .f64 0,.float .f64 0,.int .u8 0] 105:=by
  subst hW
  exact Blk.new' _ _ _ (by simp)
 have HB:Bel w w2:=by
  subst hW
  exact (Bel.alloc1 w _).alloc _
 obtain ⟨r1,z1,l1⟩:=B1.facts
 obtain ⟨r2,z2,l2⟩:=B2.facts
 have G0:=cell_kept HB D0
 have G1:=cell_kept HB D1
 have H1:=cell_kept HB E1
 have hb2:b<w2.heap.size:=Nat.lt_of_lt_of_le hlt HB.size
 clear hW
 go_region
 all_goals
  go_wp2
  refine post_ret (results_one rfl (resIs_agg (n:=5) (cs:=#[.float .f64 x0,.float .f64 x1,.float .f64 0,.float .f64 0,.int .u8 0]) (by rfl) Tryz.underlying105 (by kernel_rfl) (T:=105) ?_ rfl)) ⟨rfl,?_⟩
  ·exact SL
  ·exact EL
set_option maxHeartbeats 2000000 in
set_option maxRecDepth 100000 in
theorem get_1 {F:Nat→Prop} (p:Option Addr) (n cap i:Nat) (xs:List Nat) (w:World) (h:FlSl F w (.slice p n cap) xs) (hi:i<n / 3) (h31:n≤2147483647) :
  Calls Tryz.prog 69 #[.agg #[.int .u8 1,.slice p n cap],.int .i64 i] w fun e w'=>e=.returned (.agg #[.float .f64 (plAt 1 xs i).x,.float .f64 (plAt 1 xs i).y,.float .f64 (plAt 1 xs i).z,.float .f64 (plAt 1 xs i).m,.int .u8 1])∧Bel w w':=by
 have hin:i*3+3≤n:=by
  have:=Nat.div_mul_le_self n 3
  have:=Nat.mul_le_mul_right 3 hi
  omega
 have hl:=h.len
 have hlx:=hl.1
 have hd:=fun w=>dimension_any 1 (by decide) w
 have hq:wd 1=3:=by decide
 rw [hq] at hd
 have HD:=Lib.hid hd
 obtain ⟨b,off,rfl,hlt,-,hcs⟩:=h.cells (by omega)
 obtain ⟨x0,hx0⟩:∃ x,xs[i*3]?=some x:=⟨_,List.getElem?_eq_getElem (by omega)⟩
 have D0:=hcs _ _ hx0
 obtain ⟨x1,hx1⟩:∃ x,xs[i*3+1]?=some x:=⟨_,List.getElem?_eq_getElem (by omega)⟩
 have D1:=hcs _ _ hx1
 have E1:=D1
 rw [← Nat.add_assoc] at E1
 obtain ⟨x2,hx2⟩:∃ x,xs[i*3+2]?=some x:=⟨_,List.getElem?_eq_getElem (by omega)⟩
 have D2:=hcs _ _ hx2
 have E2:=D2
 rw [← Nat.add_assoc] at E2
 have hpl:plAt 1 xs i=⟨x0,x1,x2,0⟩:=by
  unfold plAt
  rw [hq]
  simp [hx0,hx1,hx2]
 rw [hpl]
 clear hpl hl hlx h hcs hd hq hx0 hx1 hx2 hi
 generalize hj:i*3=j at *
 have w1e:((i:Int)*3)=(j:Int):=by omega
 clear hj
 go_enter Tryz.func69,Tryz.ntmps69
 go_wp2_with (go_at_call 161;refine (HD.out _).mono ?_;rintro e w' ⟨rfl,rfl⟩)
 generalize hW:World.alloc (World.alloc w _) _=w2 at *
 have B1:Blk w2 w.heap.size #[.int .u8 1,.slice (some ⟨b,off,none⟩) n cap] 109:=by
  subst hW
  exact (Blk.new w _ _).alloc _
 have B2:Blk w2 (w.heap.size+1) #[.float .f64 0,.float .f64 0,.float .f64 0,.float .f64 0,.int .u8 0] 105:=by
  subst hW
  exact Blk.new' _ _ _ (by simp)
 have HB:Bel w w2:=by
  subst hW
  exact (Bel.alloc1 w _).alloc _
 obtain ⟨r1,z1,l1⟩:=B1.facts
 obtain ⟨r2,z2,l2⟩:=B2.facts
 have G0:=cell_kept HB D0
 have G1:=cell_kept HB D1
 have G2:=cell_kept HB D2
 have H1:=cell_kept HB E1
 have H2:=cell_kept HB E2
 have hb2:b<w2.heap.size:=Nat.lt_of_lt_of_le hlt HB.size
 clear hW
 go_region
 all_goals
  go_wp2
  refine post_ret (results_one rfl (resIs_agg (n:=5) (cs:=#[.float .f64 x0,.float .f64 x1,.float .f64 x2,.float .f64 0,.int .u8 1]) (by rfl) Tryz.underlying105 (by kernel_rfl) (T:=105) ?_ rfl)) ⟨rfl,?_⟩
  ·exact SL
  ·exact EL
set_option maxHeartbeats 2000000 in
set_option maxRecDepth 100000 in
theorem get_2 {F:Nat→Prop} (p:Option Addr) (n cap i:Nat) (xs:List Nat) (w:World) (h:FlSl F w (.slice p n cap) xs) (hi:i<n / 3) (h31:n≤2147483647) :
  Calls Tryz.prog 69 #[.agg #[.int .u8 2,.slice p n cap],.int .i64 i] w fun e w'=>e=.returned (.agg #[.float .f64 (plAt 2 xs i).x,.float .f64 (plAt 2 xs i).y,.float .f64 (plAt 2 xs i).z,.float .f64 (plAt 2 xs i).m,.int .u8 2])∧Bel w w':=by
 have hin:i*3+3≤n:=by
  have:=Nat.div_mul_le_self n 3
  have:=Nat.mul_le_mul_right 3 hi
  omega
 have hl:=h.len
 have hlx:=hl.1
 have hd:=fun w=>dimension_any 2 (by decide) w
 have hq:wd 2=3:=by decide
 rw [hq] at hd
 have HD:=Lib.hid hd
 obtain ⟨b,off,rfl,hlt,-,hcs⟩:=h.cells (by omega)
 obtain ⟨x0,hx0⟩:∃ x,xs[i*3]?=some x:=⟨_,List.getElem?_eq_getElem (by omega)⟩
 have D0:=hcs _ _ hx0
 obtain ⟨x1,hx1⟩:∃ x,xs[i*3+1]?=some x:=⟨_,List.getElem?_eq_getElem (by omega)⟩
 have D1:=hcs _ _ hx1
 have E1:=D1
 rw [← Nat.add_assoc] at E1
 obtain ⟨x2,hx2⟩:∃ x,xs[i*3+2]?=some x:=⟨_,List.getElem?_eq_getElem (by omega)⟩
 have D2:=hcs _ _ hx2
 have E2:=D2
 rw [← Nat.add_assoc] at E2
 have hpl:plAt 2 xs i=⟨x0,x1,0,x2⟩:=by
  unfold plAt
  rw [hq]
  simp [hx0,hx1,hx2]
 rw [hpl]
 clear hpl hl hlx h hcs hd hq hx0 hx1 hx2 hi
 generalize hj:i*3=j at *
 have w1e:((i:Int)*3)=(j:Int):=by omega
 clear hj
 go_enter Tryz.func69,Tryz.ntmps69
 go_wp2_with (go_at_call 161;refine (HD.out _).mono ?_;rintro e w' ⟨rfl,rfl⟩)
 generalize hW:World.alloc (World.alloc w _) _=w2 at *
 have B1:Blk w2 w.heap.size #[.int .u8 2,.slice (some ⟨b,off,none⟩) n cap] 109:=by
  subst hW
  exact (Blk.new w _ _).alloc _
 have B2:Blk w2 (w.heap.size+1) #[.float .f64 0,.float .f64 0,.float .f64 0,.float .f64 0,.int .u8 0] 105:=by
  subst hW
  exact Blk.new' _ _ _ (by simp)
 have HB:Bel w w2:=by
  subst hW
  exact (Bel.alloc1 w _).alloc _
 obtain ⟨r1,z1,l1⟩:=B1.facts
 obtain ⟨r2,z2,l2⟩:=B2.facts
 have G0:=cell_kept HB D0
 have G1:=cell_kept HB D1
 have G2:=cell_kept HB D2
 have H1:=cell_kept HB E1
 have H2:=cell_kept HB E2
 have hb2:b<w2.heap.size:=Nat.lt_of_lt_of_le hlt HB.size
 clear hW
 go_region
 all_goals
  go_wp2
  refine post_ret (results_one rfl (resIs_agg (n:=5) (cs:=#[.float .f64 x0,.float .f64 x1,.float .f64 0,.float .f64 x2,.int .u8 2]) (by rfl) Tryz.underlying105 (by kernel_rfl) (T:=105) ?_ rfl)) ⟨rfl,?_⟩
  ·exact SL
  ·exact EL
set_option maxHeartbeats 2000000 in
set_option maxRecDepth 100000 in
theorem get_3 {F:Nat→Prop} (p:Option Addr) (n cap i:Nat) (xs:List Nat) (w:World) (h:FlSl F w (.slice p n cap) xs) (hi:i<n / 4) (h31:n≤2147483647) :
  Calls Tryz.prog 69 #[.agg #[.int .u8 3,.slice p n cap],.int .i64 i] w fun e w'=>e=.returned (.agg #[.float .f64 (plAt 3 xs i).x,.float .f64 (plAt 3 xs i).y,.float .f64 (plAt 3 xs i).z,.float .f64 (plAt 3 xs i).m,.int .u8 3])∧Bel w w':=by
 have hin:i*4+4≤n:=by
  have:=Nat.div_mul_le_self n 4
  have:=Nat.mul_le_mul_right 4 hi
  omega
 have hl:=h.len
 have hlx:=hl.1
 have hd:=fun w=>dimension_any 3 (by decide) w
 have hq:wd 3=4:=by decide
 rw [hq] at hd
 have HD:=Lib.hid hd
 obtain ⟨b,off,rfl,hlt,-,hcs⟩:=h.cells (by omega)
 obtain ⟨x0,hx0⟩:∃ x,xs[i*4]?=some x:=⟨_,List.getElem?_eq_getElem (by omega)⟩
 have D0:=hcs _ _ hx0
 obtain ⟨x1,hx1⟩:∃ x,xs[i*4+1]?=some x:=⟨_,List.getElem?_eq_getElem (by omega)⟩
 have D1:=hcs _ _ hx1
 have E1:=D1
 rw [← Nat.add_assoc] at E1
 obtain ⟨x2,hx2⟩:∃ x,xs[i*4+2]?=some x:=⟨_,List.getElem?_eq_getElem (by omega)⟩
 have D2:=hcs _ _ hx2
 have E2:=D2
 rw [← Nat.add_assoc] at E2
 obtain ⟨x3,hx3⟩:∃ x,xs[i*4+3]?=some x:=⟨_,List.getElem?_eq_getElem (by omega)⟩
 have D3:=hcs _ _ hx3
 have E3:=D3
 rw [← Nat.add_assoc] at E3
 have hpl:plAt 3 xs i=⟨x0,x1,x2,x3⟩:=by
  unfold plAt
  rw [hq]
  simp [hx0,hx1,hx2,hx3]
 rw [hpl]
 clear hpl hl hlx h hcs hd hq hx0 hx1 hx2 hx3 hi
 generalize hj:i*4=j at *
 have w1e:((i:Int)*4)=(j:Int):=by omega
 clear hj
 go_enter Tryz.func69,Tryz.ntmps69
 go_wp2_with (go_at_call 161;refine (HD.out _).mono ?_;rintro e w' ⟨rfl,rfl⟩)
 generalize hW:World.alloc (World.alloc w _) _=w2 at *
 have B1:Blk w2 w.heap.size #[.int .u8 3,.slice (some ⟨b,off,none⟩) n cap] 109:=by
  subst hW
  exact (Blk.new w _ _).alloc _
 have B2:Blk w2 (w.heap.size+1) #[.float .f64 0,.float .f64 0,.float .f64 0,.float .f64 0,.int .u8 0] 105:=by
  subst hW
  exact Blk.new' _ _ _ (by simp)
 have HB:Bel w w2:=by
  subst hW
  exact (Bel.alloc1 w _).alloc _
 obtain ⟨r1,z1,l1⟩:=B1.facts
 obtain ⟨r2,z2,l2⟩:=B2.facts
 have G0:=cell_kept HB D0
 have G1:=cell_kept HB D1
 have G2:=cell_kept HB D2
 have G3:=cell_kept HB D3
 have H1:=cell_kept HB E1
 have H2:=cell_kept HB E2
 have H3:=cell_kept HB E3
 have hb2:b<w2.heap.size:=Nat.lt_of_lt_of_le hlt HB.size
 clear hW
 go_region
 all_goals
  go_wp2
  refine post_ret (results_one rfl (resIs_agg (n:=5) (cs:=#[.float .f64 x0,.float .f64 x1,.float .f64 x2,.float .f64 x3,.int .u8 3]) (by rfl) Tryz.underlying105 (by kernel_rfl) (T:=105) ?_ rfl)) ⟨rfl,?_⟩
  ·exact SL
  ·exact EL
theorem get_any {F:Nat→Prop} (p:Option Addr) (n cap i c:Nat) (xs:List Nat) (hc:c≤3) (w:World) (h:FlSl F w (.slice p n cap) xs) (hi:i<n / wd c) (h31:n≤2147483647) :
  Calls Tryz.prog 69 #[.agg #[.int .u8 c,.slice p n cap],.int .i64 i] w fun e w'=>e=.returned (.agg #[.float .f64 (plAt c xs i).x,.float .f64 (plAt c xs i).y,.float .f64 (plAt c xs i).z,.float .f64 (plAt c xs i).m,.int .u8 c])∧Bel w w':=by
 have h4:c=0∨c=1∨c=2∨c=3:=by omega
 rcases h4 with rfl|rfl|rfl|rfl
 ·exact get_0 p n cap i xs w h hi h31
 ·exact get_1 p n cap i xs w h hi h31
 ·exact get_2 p n cap i xs w h hi h31
 ·exact get_3 p n cap i xs w h hi h31
end Go.Proofs.YtpipehenfcbjbaaGreatDoor
