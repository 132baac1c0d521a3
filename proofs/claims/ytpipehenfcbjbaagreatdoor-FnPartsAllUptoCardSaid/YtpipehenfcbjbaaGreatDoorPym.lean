/-
 laws.kSee: impl.Look's answer,and a point of two numbers looks as one.
-/
import Derived.Test.YtpipehenfcbjbaaGreatDoorPav
import Derived.Test.YtpipehenfcbjbaaGreatDoorPar
import Derived.BigRegion
set_option linter.unusedVariables false
set_option linter.unusedSimpArgs false
namespace Go.Proofs.YtpipehenfcbjbaaGreatDoor
open Go.ChangeShapes Go.WideShapes Go.ChangeAt Go.RowKit
theorem infoSight:(Tryz.prog.info? 33).map (·.size)=some 16:=by kernel_rfl
/-- The point of 1 and 2. -/
abbrev onePt:Gm:=.mk 1 0 [4607182418800017408,4611686018427387904] []
theorem one_new:newOf onePt=onePt:=by rfl
set_option maxHeartbeats 8000000 in
set_option maxRecDepth 100000 in
theorem lookOne_any (b:Nat) (w:World) (ht:Tab w) (hb:Blk w b #[.float .f64 4607182418800017408,.float .f64 4611686018427387904] 27):Calls Tryz.prog 21 #[.agg #[.int .i64 1,.int .i64 0,.slice (some ⟨b,0,none⟩) 2 2,.slice none 0 0]] w fun e w'=>∃ (z1 z2 z5 z6:Int) (o3 o7 o12 o13:Bool) (o8 o9 o10 o11:Nat) (o14 o15:ByteArray),e=.returned (.tuple #[.agg #[.int .i64 1,.int .i64 z1,.int .i64 z2,.bool o3,.int .i64 1,.int .i64 z5,.int .i64 z6,.bool o7,.float .f64 o8,.float .f64 o9,.float .f64 o10,.float .f64 o11,.bool o12,.bool o13,.string o14,.string o15],.bool true])∧Bel w w':=by
 have hnn:NN (newOf onePt):=by
  rw [one_new]
  intro x hx
  have:x=4607182418800017408∨x=4611686018427387904:=by simpa [allOf,allOfs] using hx
  rcases this with rfl|rfl<;>decide +kernel
 have hu:Uni 0 (newOf onePt):=by
  rw [one_new,Uni]
  exact ⟨rfl,by rw [UniAll];trivial⟩
 refine (look_any (fun _=>True) onePt (by decide) (by rw [one_new];decide) hnn hu (some ⟨b,0,none⟩) 2 2 none 0 0 w ht (New.any w) (FlSl.of_blk (t:=27) hb rfl (by decide) trivial) (GmSl.nil _ _)).mono ?_
 rintro e w' ⟨f,a,bb,c,d,cw,ccw,rfl,-,-,hbel⟩
 rw [one_new]
 exact ⟨_,_,_,_,_,_,_,_,_,_,_,_,_,_,rfl,hbel⟩
set_option maxHeartbeats 8000000 in
set_option maxRecDepth 100000 in
theorem kSee_any (g:Gm) (hsz:g.size≤1048576) (hnn:NN (newOf g)):GmArg g fun v w=>Tab w→Calls Tryz.prog 8 #[v] w (IsSight (newOf g) w):=by
 intro F pn nn cn pk nk ck w hN hK ht
 have hsn:(newOf g).size≤1048576:=Nat.le_trans (newOf_size g.size g (Nat.le_refl _)) hsz
 obtain ⟨c0,-,-,hu⟩:=newOf_uni g
 have HLK:Hid (∀ W,Bel w W→Calls Tryz.prog 21 #[.agg #[.int .i64 g.kind,.int .i64 g.dim,.slice pn nn cn,.slice pk nk ck]] W (IsSight (newOf g) W)):=Lib.hid fun W hW=>look_any (fun _=>True) g hsz hsn hnn hu pn nn cn pk nk ck W (ht.bel hW) (New.any W) ((hN.bel hW).mono fun _ _ _=>trivial) ((hK.bel hW).mono fun _ _ _=>trivial)
 have HT:Hid (∀ W,Bel w W→Tab W):=Lib.hid fun W hW=>ht.bel hW
 clear hN hK ht hsn hu hnn hsz
 generalize g.kind=kind at *
 generalize g.dim=dim at *
 generalize newOf g=g' at *
 obtain ⟨k0,hk0⟩:∃ k,k=g'.kind:=⟨_,rfl⟩
 obtain ⟨k1,hk1⟩:∃ k:Int,k=(g'.dim.toNat:Int):=⟨_,rfl⟩
 obtain ⟨k2,hk2⟩:∃ k,k=dimG g':=⟨_,rfl⟩
 obtain ⟨k3,hk3⟩:∃ k,k=emptyOf g':=⟨_,rfl⟩
 obtain ⟨k4,hk4⟩:∃ k:Int,k=(partsG g':Int):=⟨_,rfl⟩
 obtain ⟨k5,hk5⟩:∃ k:Int,k=if g'.kind=0 then (totG g':Int) else 0:=⟨_,rfl⟩
 obtain ⟨k6,hk6⟩:∃ k:Int,k=if g'.kind=3 then ((g'.kids.length - 1:Nat):Int) else 0:=⟨_,rfl⟩
 obtain ⟨sm,hsm⟩:∃ k,k=sumG g':=⟨_,rfl⟩
 have HX:Hid (∀ (W:World) (e:Ending) (w':World),IsSight g' W e w'↔∃ (f:Bool) (a b c d:Nat) (cw ccw:Bool),e=.returned (.tuple #[.agg #[.int .i64 k0,.int .i64 k1,.int .i64 k2,.bool k3,.int .i64 k4,.int .i64 k5,.int .i64 k6,.bool f,.float .f64 a,.float .f64 b,.float .f64 c,.float .f64 d,.bool cw,.bool ccw,.string sm,.string sm],.bool true])∧EvW f a b c d (evOf g')∧(WholeG g'→cw=cwG ltZ g'∧ccw=cwG gtZ g')∧Bel W w'):=Lib.hid fun W e w'=>by
  unfold IsSight
  rw [← hk5,← hk6,← hk0,← hk1,← hk2,← hk3,← hk4,← hsm]
 clear hk0 hk1 hk2 hk3 hk4 hk5 hk6 hsm
 refine Calls.mono ?_ fun e w' h=>(HX.out w e w').2 h
 have HLK2:Hid (∀ W,Bel w W→Calls Tryz.prog 21 #[.agg #[.int .i64 kind,.int .i64 dim,.slice pn nn cn,.slice pk nk ck]] W fun e w'=>∃ (f:Bool) (a b c d:Nat) (cw ccw:Bool),e=.returned (.tuple #[.agg #[.int .i64 k0,.int .i64 k1,.int .i64 k2,.bool k3,.int .i64 k4,.int .i64 k5,.int .i64 k6,.bool f,.float .f64 a,.float .f64 b,.float .f64 c,.float .f64 d,.bool cw,.bool ccw,.string sm,.string sm],.bool true])∧EvW f a b c d (evOf g')∧(WholeG g'→cw=cwG ltZ g'∧ccw=cwG gtZ g')∧Bel W w'):=Lib.hid fun W hW=>(HLK.out W hW).mono fun e w' h=>(HX.out W e w').1 h
 have HO:=Lib.hid lookOne_any
 clear HLK HX
 go_enter Tryz.func8,Tryz.ntmps8
 go_wp2_with (first
  | (go_at_call 21;(with_reducible refine (HO.out _ _ (HT.out _ ?hb) ?hbl).mono ?_);(case hb=>(with_reducible exact (bel16 _ _ _ _ _ _ _ _ _ _ _ _ _ _ _ _ HB0.out (by omega)).alloc _));(case hbl=>(with_reducible exact Blk.new' _ _ _ (by simp)));rintro e w2 ⟨z1,z2,z5,z6,o3,o7,o12,o13,o8,o9,o10,o11,o14,o15,rfl,hb2⟩;have HB2:Hid (Bel w w2):=Lib.hid (Bel.trans (by with_reducible exact (bel16 _ _ _ _ _ _ _ _ _ _ _ _ _ _ _ _ HB0.out (by omega)).alloc _) hb2);have D2:Blk w2 (w.heap.size+1) #[.int .i64 k0,.int .i64 k1,.int .i64 k2,.bool k3,.int .i64 k4,.int .i64 k5,.int .i64 k6,.bool f,.float .f64 a,.float .f64 b,.float .f64 c,.float .f64 d,.bool cw,.bool ccw,.string sm,.string sm] 33:=Blk.bel (by with_reducible exact (blk16 _ _ _ _ _ _ _ _ _ _ _ _ _ _ _ _ HD0.out).alloc _) hb2;have HE2:=Lib.hid D2;obtain ⟨r2,y2,u2⟩:=D2.facts;clear hb2 D2)
  | (go_at_call 21;(with_reducible refine (HLK2.out _ ?hb).mono ?_);(case hb=>exact EL);rintro e w1 ⟨f,a,b,c,d,cw,ccw,rfl,hev,hcw,hb1⟩;have HEV:=Lib.hid hev;have HCW:=Lib.hid hcw;have HB0:Hid (Bel w w1):=Lib.hid ((show Bel w _ by exact EL).trans hb1);have D0:Blk w1 (w.heap.size+1) #[.int .i64 0,.int .i64 0,.int .i64 0,.bool false,.int .i64 0,.int .i64 0,.int .i64 0,.bool false,.float .f64 0,.float .f64 0,.float .f64 0,.float .f64 0,.bool false,.bool false,.string ⟨#[]⟩,.string ⟨#[]⟩] 33:=Blk.bel (by exact KL) hb1;have HD0:=Lib.hid D0;obtain ⟨r1,y1,u1⟩:=D0.facts;clear hb1 hev hcw D0))
 generalize hW3:World.alloc w2 _=w3
 have E2:Blk w3 (w.heap.size+1) #[.int .i64 k0,.int .i64 k1,.int .i64 k2,.bool k3,.int .i64 k4,.int .i64 k5,.int .i64 k6,.bool f,.float .f64 a,.float .f64 b,.float .f64 c,.float .f64 d,.bool cw,.bool ccw,.string sm,.string sm] 33:=by
  rw [← hW3]
  with_reducible exact HE2.out.alloc _
 have E4:Blk w3 w2.heap.size #[.int .i64 1,.int .i64 z1,.int .i64 z2,.bool o3,.int .i64 1,.int .i64 z5,.int .i64 z6,.bool o7,.float .f64 o8,.float .f64 o9,.float .f64 o10,.float .f64 o11,.bool o12,.bool o13,.string o14,.string o15] 33:=by
  rw [← hW3]
  with_reducible exact Blk.new _ _ _
 have HB3:Hid (Bel w w3):=Lib.hid (by
  rw [← hW3]
  with_reducible exact HB2.out.alloc _)
 have HE3:=Lib.hid E2
 obtain ⟨j1,j2,j3⟩:=E2.facts
 obtain ⟨j4,j5,j6⟩:=E4.facts
 have hn1:w2.heap.size ≠ w.heap.size+1:=by omega
 have hn2:w.heap.size+1 ≠ w2.heap.size:=by omega
 clear E2 E4 hW3 r1 y1 u1 r2 y2 u2
 go_region
 all_goals go_wp2
 all_goals
  generalize hW7:World.setCell _ ⟨_,15,none⟩ _=w7
  have C2:Blk w7 (w.heap.size+1) #[.int .i64 k0,.int .i64 k1,.int .i64 k2,.bool k3,.int .i64 k4,.int .i64 k5,.int .i64 k6,.bool f,.float .f64 a,.float .f64 b,.float .f64 c,.float .f64 d,.bool cw,.bool ccw,.string sm,.string sm] 33:=by
   rw [← hW7]
   with_reducible exact blk16 _ _ _ _ _ _ _ _ _ _ _ _ _ _ _ _ (by (have HB:=HE3.out;exact KL))
  have HB7:Hid (Bel w w7):=Lib.hid (by
   rw [← hW7]
   with_reducible exact bel16 _ _ _ _ _ _ _ _ _ _ _ _ _ _ _ _ (by (have HB:=HB3.out;exact EL)) (by omega))
  clear hW7
  refine post_ret (results_two rfl (resIs_agg (n:=16) (cs:=#[.int .i64 k0,.int .i64 k1,.int .i64 k2,.bool k3,.int .i64 k4,.int .i64 k5,.int .i64 k6,.bool f,.float .f64 a,.float .f64 b,.float .f64 c,.float .f64 d,.bool cw,.bool ccw,.string sm,.string sm]) (by rfl) Tryz.underlying33 infoSight (T:=33) (by first|exact C2|exact C2.drew) rfl) (resIs_tmp rfl)) ⟨f,a,b,c,d,cw,ccw,rfl,HEV.out,HCW.out,by first|exact HB7.out|exact HB7.out.drew⟩
end Go.Proofs.YtpipehenfcbjbaaGreatDoor
