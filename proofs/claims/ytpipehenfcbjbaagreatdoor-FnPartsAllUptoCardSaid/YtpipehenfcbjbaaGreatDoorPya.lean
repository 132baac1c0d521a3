/-
 impl.plainPoint: a point as plain data. No panic;what stood in memory has not turned.
-/
import Derived.Test.YtpipehenfcbjbaaGreatDoorPaj
import Derived.Test.YtpipehenfcbjbaaGreatDoorPai
set_option linter.unusedVariables false
set_option linter.unusedSimpArgs false
namespace Go.Proofs.YtpipehenfcbjbaaGreatDoor
open Go.ChangeShapes Go.WideShapes Go.ChangeAt Go.RowKit
theorem ptCoords_any (x y z m c:Nat) (full:Bool) (w:World):Calls Tryz.prog 173 #[.agg #[.float .f64 x,.float .f64 y,.float .f64 z,.float .f64 m,.int .u8 c,.bool full]] w fun e w'=>e=.returned (.tuple #[.agg #[.float .f64 x,.float .f64 y,.float .f64 z,.float .f64 m,.int .u8 c],.bool full])∧Bel w w':=by
 go_enter Tryz.func173,Tryz.ntmps173
 go_wp2
 go_region
 all_goals
  go_wp2
  refine post_ret (results_two rfl (resIs_agg (n:=5) (cs:=#[.float .f64 x,.float .f64 y,.float .f64 z,.float .f64 m,.int .u8 c]) (by rfl) Tryz.underlying105 (by kernel_rfl) (T:=105) ?_ rfl) (resIs_tmp (by rfl))) ⟨rfl,?_⟩
  ·exact SL
  ·exact EL
set_option maxHeartbeats 4000000 in
set_option maxRecDepth 100000 in
theorem plainPoint_no (G:Nat→Prop) (x y z m c:Nat) (hc:c≤3) (w:World) (hG:New G w):Calls Tryz.prog 96 #[.agg #[.float .f64 x,.float .f64 y,.float .f64 z,.float .f64 m,.int .u8 c,.bool false]] w (IsGm G (.mk 1 c [] []) w):=by
 have HTY:=Lib.hid (pointType_any x y z m c false)
 have HCO:=Lib.hid (ptCoords_any x y z m c false)
 have hcv:IntKind.i64.wrap (c:Int)=(c:Int):=by
  rw [IntKind.wrap_i64]
  omega
 go_enter Tryz.func96,Tryz.ntmps96
 go_wp2_with (first
  | (go_at_call 173;(with_reducible refine (HCO.out _).mono ?_);rintro e w2 ⟨rfl,hb2⟩;have HB2:Hid (Bel w w2):=Lib.hid ((show Bel w _ by (have HB:=HB1.out;exact EL)).trans hb2);have C3:Blk w2 w1.heap.size #[.int .i64 1,.int .i64 c,.slice none 0 0,.slice none 0 0] 25:=Blk.bel (by exact KL) hb2;have HQ3:=Lib.hid C3;obtain ⟨r3,y3,l3⟩:=C3.facts;have D2:Blk w2 (w.heap.size+1) #[.int .i64 0,.int .i64 0,.slice none 0 0,.slice none 0 0] 25:=Blk.bel (by (have HB:=HQ1.out;exact KL)) hb2;have HQ2:=Lib.hid D2;obtain ⟨r4,y4,l4⟩:=D2.facts;clear hb2 C3 D2)
  | (go_at_call 111;(with_reducible refine (HTY.out _).mono ?_);rintro e w1 ⟨rfl,hb1⟩;have HB1:Hid (Bel w w1):=Lib.hid ((show Bel w _ by exact EL).trans hb1);have C1:Blk w1 w.heap.size #[.float .f64 x,.float .f64 y,.float .f64 z,.float .f64 m,.int .u8 c,.bool false] 107:=Blk.bel (by exact KL) hb1;obtain ⟨r1,y1,l1⟩:=C1.facts;have HQ1:Hid (Blk w1 (w.heap.size+1) #[.int .i64 0,.int .i64 0,.slice none 0 0,.slice none 0 0] 25):=Lib.hid (Blk.bel (by exact KL) hb1);clear hb1 C1))
 refine post_ret (results_one rfl (resIs_agg (n:=4) (cs:=#[.int .i64 1,.int .i64 c,.slice none 0 0,.slice none 0 0]) (by rfl) Tryz.underlying25 (by kernel_rfl) (T:=25) ?_ rfl)) ⟨_,_,_,_,_,_,rfl,FlSl.nil _ _,GmSl.nil _ _,?_⟩
 ·have HB:=HQ2.out
  exact SL
 ·have HB:=HB2.out
  exact EL
set_option maxHeartbeats 4000000 in
set_option maxRecDepth 100000 in
theorem plainPoint_0 (G:Nat→Prop) (x y z m c:Nat) (hc:c≤3) (ha:decide (c % 2=1)=false) (hb:decide (c / 2 % 2=1)=false) (w:World) (hG:New G w):Calls Tryz.prog 96 #[.agg #[.float .f64 x,.float .f64 y,.float .f64 z,.float .f64 m,.int .u8 c,.bool true]] w (IsGm G (.mk 1 c [x,y] []) w):=by
 have HTY:=Lib.hid (pointType_any x y z m c true)
 have HCO:=Lib.hid (ptCoords_any x y z m c true)
 have H3D:Hid (∀ W,Calls Tryz.prog 174 #[.int .u8 c] W fun e w'=>e=.returned (.bool false)∧W=w'):=Lib.hid fun W=>by
  have:=is3D_any c hc W
  rw [ha] at this
  exact this
 have HME:Hid (∀ W,Calls Tryz.prog 175 #[.int .u8 c] W fun e w'=>e=.returned (.bool false)∧W=w'):=Lib.hid fun W=>by
  have:=isMeasured_any c hc W
  rw [hb] at this
  exact this
 have hcv:IntKind.i64.wrap (c:Int)=(c:Int):=by
  rw [IntKind.wrap_i64]
  omega
 clear ha hb
 obtain ⟨i0,hi,hz0,hz1,hz2⟩:=info_parts infoF
 go_enter Tryz.func96,Tryz.ntmps96
 go_wp2_with (first
  | (at_builtin;(refine wpList_append_row _ rfl (.tmp 19) (.tmp 26) 22 rfl (w2.heap.size+1) 27 i0 _ 1 8 Tryz.underlying22 hi hz0 hz1 hz2 rfl (by decide) (.slice none 0 0) 0 _ rfl (World.ownsRow_nil _ _ _ _) ⟨w2.heap.size+1,0,none⟩ 2 2 [.float .f64 x,.float .f64 y] rfl rfl (blk_arr (cs:=#[.float .f64 x,.float .f64 y]) (t:=27) (by exact KL)) (by simp [Value.oneCell']) (by decide) (by unfold maxLen;omega) (by omega) (by simp) ?_;intro v1 w6 ho hg hb;obtain ⟨p1,c1,rfl⟩:=ho.isSlice;have E3:=(show Blk _ w1.heap.size #[.int .i64 1,.int .i64 c,.slice none 0 0,.slice none 0 0] 25 by (have HB:=HQ3.out;exact KL)).grown hg (fun e=>by simp [Value.ownBlock] at e);have E4:=(show Blk _ w2.heap.size #[.float .f64 x,.float .f64 y,.float .f64 z,.float .f64 m,.int .u8 c] 105 by (have HB:=HQ4.out;exact KL)).grown hg (fun e=>by simp [Value.ownBlock] at e);have E2:=(show Blk _ (w.heap.size+1) #[.int .i64 0,.int .i64 0,.slice none 0 0,.slice none 0 0] 25 by (have HB:=HQ2.out;exact KL)).grown hg (fun e=>by simp [Value.ownBlock] at e);obtain ⟨e3a,e3b,e3c⟩:=E3.facts;obtain ⟨e4a,e4b,e4c⟩:=E4.facts;obtain ⟨e2a,e2b,e2c⟩:=E2.facts;have HS1:Hid ((w2.heap.size+1)≤w6.heap.size):=Lib.hid (by have:=hg.4;have:=HLT.out;simp at *;omega);have HB1:Hid (Bel w (w6.setCell ⟨w1.heap.size,2,none⟩ (.slice p1 (0+2) c1))):=Lib.hid (Bel.setCellR (by have:=HLT.out;show w.heap.size≤w1.heap.size;omega) ((show Bel w _ by (have HB:=HBB2.out;exact EL)).of_row hg (fun g hg=>by simp [Value.ownBlock] at hg)));have HO1:Hid ((w6.setCell ⟨w1.heap.size,2,none⟩ (.slice p1 (0+2) c1)).ownsRow (w2.heap.size+1) 27 1 (.slice p1 (0+2) c1) (0+2) _):=Lib.hid (ho.kept (grownBy_set _ _ _ _) (ho.ne_of_lt' (by have:=HLT.out;have:=HL2.out;omega)));have HE31:Hid (Blk (w6.setCell ⟨w1.heap.size,2,none⟩ (.slice p1 (0+2) c1)) w1.heap.size #[.int .i64 1,.int .i64 c,.slice p1 (0+2) c1,.slice none 0 0] 25):=Lib.hid (Blk.cast (E3.set 2 _) (by rfl));have HE41:Hid (Blk (w6.setCell ⟨w1.heap.size,2,none⟩ (.slice p1 (0+2) c1)) w2.heap.size #[.float .f64 x,.float .f64 y,.float .f64 z,.float .f64 m,.int .u8 c] 105):=Lib.hid (Blk.otherR (by have:=HL2.out;show w2.heap.size ≠ w1.heap.size;omega) E4);have HE21:Hid (Blk (w6.setCell ⟨w1.heap.size,2,none⟩ (.slice p1 (0+2) c1)) (w.heap.size+1) #[.int .i64 0,.int .i64 0,.slice none 0 0,.slice none 0 0] 25):=Lib.hid (Blk.otherR (by have:=HLT.out;show w.heap.size+1 ≠ w1.heap.size;omega) E2);clear ho hg hb E3 E4 E2))
  | (go_at_call 174;(with_reducible refine (H3D.out _).mono ?_);rintro e w' ⟨rfl,rfl⟩)
  | (go_at_call 175;(with_reducible refine (HME.out _).mono ?_);rintro e w' ⟨rfl,rfl⟩)
  | (go_at_call 173;(with_reducible refine (HCO.out _).mono ?_);rintro e w2 ⟨rfl,hb2⟩;have HBB2:Hid (Bel w w2):=Lib.hid ((show Bel w _ by (have HB:=HB1.out;exact EL)).trans hb2);have C3:Blk w2 w1.heap.size #[.int .i64 1,.int .i64 c,.slice none 0 0,.slice none 0 0] 25:=Blk.bel (by exact KL) hb2;have HQ3:=Lib.hid C3;obtain ⟨r3,y3,l3⟩:=C3.facts;have HQ2:Hid (Blk w2 (w.heap.size+1) #[.int .i64 0,.int .i64 0,.slice none 0 0,.slice none 0 0] 25):=Lib.hid (Blk.bel (by (have HB:=HQ1.out;exact KL)) hb2);have HL2:Hid (w1.heap.size<w2.heap.size):=Lib.hid l3;have hn1:w2.heap.size ≠ w1.heap.size:=Nat.ne_of_gt HL2.out;have hn2:w1.heap.size ≠ w2.heap.size:=Nat.ne_of_lt HL2.out;have hn3:w.heap.size+1 ≠ w1.heap.size:=Nat.ne_of_lt HLT.out;have hn4:w1.heap.size ≠ w.heap.size+1:=Nat.ne_of_gt HLT.out;have HQ4:Hid (Blk (w2.alloc (.cells #[.float .f64 x,.float .f64 y,.float .f64 z,.float .f64 m,.int .u8 c] 105)) w2.heap.size #[.float .f64 x,.float .f64 y,.float .f64 z,.float .f64 m,.int .u8 c] 105):=Lib.hid (Blk.new _ _ _);clear hb2 C3)
  | (go_at_call 111;(with_reducible refine (HTY.out _).mono ?_);rintro e w1 ⟨rfl,hb1⟩;have HB1:Hid (Bel w w1):=Lib.hid ((show Bel w _ by exact EL).trans hb1);have C1:Blk w1 w.heap.size #[.float .f64 x,.float .f64 y,.float .f64 z,.float .f64 m,.int .u8 c,.bool true] 107:=Blk.bel (by exact KL) hb1;obtain ⟨r1,y1,l1⟩:=C1.facts;have HLT:Hid (w.heap.size+1<w1.heap.size):=Lib.hid (by have:=hb1.size;simp at this;omega);have HQ1:Hid (Blk w1 (w.heap.size+1) #[.int .i64 0,.int .i64 0,.slice none 0 0,.slice none 0 0] 25):=Lib.hid (Blk.bel (by exact KL) hb1);clear hb1 C1))
 refine post_ret (results_one rfl (resIs_agg (n:=4) (cs:=#[.int .i64 1,.int .i64 c,.slice p1 (0+2) c1,.slice none 0 0]) (by rfl) Tryz.underlying25 (by kernel_rfl) (T:=25) ?_ rfl)) ⟨_,_,_,_,_,_,rfl,?_,GmSl.nil _ _,?_⟩
 ·have HB:=HE21.out
  exact SL
 ·have h1:=HL2.out
  have h2:=HLT.out
  have hf:=FlSl.of_owns (F:=fun b=>w2.heap.size+1≤b) (xs:=[x,y]) HO1.out rfl (fun b hb=>hb)
  refine hf.keep (by simp) (fun b hb hl=>?_) (fun b _ hb=>hG b (by omega))
  repeat rw [Below.heap_setCell _ _ _ _ (by simp;omega)]
 ·have HB:=HB1.out
  exact EL
set_option maxHeartbeats 4000000 in
set_option maxRecDepth 100000 in
theorem plainPoint_1 (G:Nat→Prop) (x y z m c:Nat) (hc:c≤3) (ha:decide (c % 2=1)=true) (hb:decide (c / 2 % 2=1)=false) (w:World) (hG:New G w):Calls Tryz.prog 96 #[.agg #[.float .f64 x,.float .f64 y,.float .f64 z,.float .f64 m,.int .u8 c,.bool true]] w (IsGm G (.mk 1 c [x,y,z] []) w):=by
 have HTY:=Lib.hid (pointType_any x y z m c true)
 have HCO:=Lib.hid (ptCoords_any x y z m c true)
 have H3D:Hid (∀ W,Calls Tryz.prog 174 #[.int .u8 c] W fun e w'=>e=.returned (.bool true)∧W=w'):=Lib.hid fun W=>by
  have:=is3D_any c hc W
  rw [ha] at this
  exact this
 have HME:Hid (∀ W,Calls Tryz.prog 175 #[.int .u8 c] W fun e w'=>e=.returned (.bool false)∧W=w'):=Lib.hid fun W=>by
  have:=isMeasured_any c hc W
  rw [hb] at this
  exact this
 have hcv:IntKind.i64.wrap (c:Int)=(c:Int):=by
  rw [IntKind.wrap_i64]
  omega
 clear ha hb
 obtain ⟨i0,hi,hz0,hz1,hz2⟩:=info_parts infoF
 go_enter Tryz.func96,Tryz.ntmps96
 go_wp2_with (first
  | (at_builtin;(refine wpList_append_row _ rfl (.tmp 33) (.tmp 36) 22 rfl (w2.heap.size+1) 27 i0 _ 1 8 Tryz.underlying22 hi hz0 hz1 hz2 rfl (by decide) (.slice p1 (0+2) c1) (0+2) _ rfl (own_kept HO1.out (Bel.alloc1 _ _)) ⟨w6.heap.size,0,none⟩ 1 1 [.float .f64 z] rfl rfl (blk_arr (cs:=#[.float .f64 z]) (t:=27) (by exact KL)) (by simp [Value.oneCell']) (by decide) (by unfold maxLen;omega) (by omega) (by have:=HS1.out;simp;omega) ?_;intro v2 w7 ho hg hb;obtain ⟨p2,c2,rfl⟩:=ho.isSlice;have E3:=(show Blk _ w1.heap.size #[.int .i64 1,.int .i64 c,.slice p1 (0+2) c1,.slice none 0 0] 25 by (have HB:=HE31.out;exact KL)).grown hg (fun e=>by have:=(HO1.out.lt _ e).1;have:=HLT.out;have:=HL2.out;omega);have E4:=(show Blk _ w2.heap.size #[.float .f64 x,.float .f64 y,.float .f64 z,.float .f64 m,.int .u8 c] 105 by (have HB:=HE41.out;exact KL)).grown hg (fun e=>by have:=(HO1.out.lt _ e).1;have:=HLT.out;have:=HL2.out;omega);have E2:=(show Blk _ (w.heap.size+1) #[.int .i64 0,.int .i64 0,.slice none 0 0,.slice none 0 0] 25 by (have HB:=HE21.out;exact KL)).grown hg (fun e=>by have:=(HO1.out.lt _ e).1;have:=HLT.out;have:=HL2.out;omega);obtain ⟨e3a,e3b,e3c⟩:=E3.facts;obtain ⟨e4a,e4b,e4c⟩:=E4.facts;obtain ⟨e2a,e2b,e2c⟩:=E2.facts;have HS2:Hid ((w2.heap.size+1)≤w7.heap.size):=Lib.hid (by have:=hg.4;have:=HS1.out;simp at *;omega);have HB2:Hid (Bel w (w7.setCell ⟨w1.heap.size,2,none⟩ (.slice p2 ((0+2)+1) c2))):=Lib.hid (Bel.setCellR (by have:=HLT.out;show w.heap.size≤w1.heap.size;omega) ((show Bel w _ by (have HB:=HB1.out;exact EL)).of_row hg (fun g hg=>by have:=(HO1.out.lt g hg).1;have:=HLT.out;have:=HL2.out;omega)));have HO2:Hid ((w7.setCell ⟨w1.heap.size,2,none⟩ (.slice p2 ((0+2)+1) c2)).ownsRow (w2.heap.size+1) 27 1 (.slice p2 ((0+2)+1) c2) ((0+2)+1) _):=Lib.hid (ho.kept (grownBy_set _ _ _ _) (ho.ne_of_lt' (by have:=HLT.out;have:=HL2.out;omega)));have HE32:Hid (Blk (w7.setCell ⟨w1.heap.size,2,none⟩ (.slice p2 ((0+2)+1) c2)) w1.heap.size #[.int .i64 1,.int .i64 c,.slice p2 ((0+2)+1) c2,.slice none 0 0] 25):=Lib.hid (Blk.cast (E3.set 2 _) (by rfl));have HE42:Hid (Blk (w7.setCell ⟨w1.heap.size,2,none⟩ (.slice p2 ((0+2)+1) c2)) w2.heap.size #[.float .f64 x,.float .f64 y,.float .f64 z,.float .f64 m,.int .u8 c] 105):=Lib.hid (Blk.otherR (by have:=HL2.out;show w2.heap.size ≠ w1.heap.size;omega) E4);have HE22:Hid (Blk (w7.setCell ⟨w1.heap.size,2,none⟩ (.slice p2 ((0+2)+1) c2)) (w.heap.size+1) #[.int .i64 0,.int .i64 0,.slice none 0 0,.slice none 0 0] 25):=Lib.hid (Blk.otherR (by have:=HLT.out;show w.heap.size+1 ≠ w1.heap.size;omega) E2);clear ho hg hb E3 E4 E2))
  | (at_builtin;(refine wpList_append_row _ rfl (.tmp 19) (.tmp 26) 22 rfl (w2.heap.size+1) 27 i0 _ 1 8 Tryz.underlying22 hi hz0 hz1 hz2 rfl (by decide) (.slice none 0 0) 0 _ rfl (World.ownsRow_nil _ _ _ _) ⟨w2.heap.size+1,0,none⟩ 2 2 [.float .f64 x,.float .f64 y] rfl rfl (blk_arr (cs:=#[.float .f64 x,.float .f64 y]) (t:=27) (by exact KL)) (by simp [Value.oneCell']) (by decide) (by unfold maxLen;omega) (by omega) (by simp) ?_;intro v1 w6 ho hg hb;obtain ⟨p1,c1,rfl⟩:=ho.isSlice;have E3:=(show Blk _ w1.heap.size #[.int .i64 1,.int .i64 c,.slice none 0 0,.slice none 0 0] 25 by (have HB:=HQ3.out;exact KL)).grown hg (fun e=>by simp [Value.ownBlock] at e);have E4:=(show Blk _ w2.heap.size #[.float .f64 x,.float .f64 y,.float .f64 z,.float .f64 m,.int .u8 c] 105 by (have HB:=HQ4.out;exact KL)).grown hg (fun e=>by simp [Value.ownBlock] at e);have E2:=(show Blk _ (w.heap.size+1) #[.int .i64 0,.int .i64 0,.slice none 0 0,.slice none 0 0] 25 by (have HB:=HQ2.out;exact KL)).grown hg (fun e=>by simp [Value.ownBlock] at e);obtain ⟨e3a,e3b,e3c⟩:=E3.facts;obtain ⟨e4a,e4b,e4c⟩:=E4.facts;obtain ⟨e2a,e2b,e2c⟩:=E2.facts;have HS1:Hid ((w2.heap.size+1)≤w6.heap.size):=Lib.hid (by have:=hg.4;have:=HLT.out;simp at *;omega);have HB1:Hid (Bel w (w6.setCell ⟨w1.heap.size,2,none⟩ (.slice p1 (0+2) c1))):=Lib.hid (Bel.setCellR (by have:=HLT.out;show w.heap.size≤w1.heap.size;omega) ((show Bel w _ by (have HB:=HBB2.out;exact EL)).of_row hg (fun g hg=>by simp [Value.ownBlock] at hg)));have HO1:Hid ((w6.setCell ⟨w1.heap.size,2,none⟩ (.slice p1 (0+2) c1)).ownsRow (w2.heap.size+1) 27 1 (.slice p1 (0+2) c1) (0+2) _):=Lib.hid (ho.kept (grownBy_set _ _ _ _) (ho.ne_of_lt' (by have:=HLT.out;have:=HL2.out;omega)));have HE31:Hid (Blk (w6.setCell ⟨w1.heap.size,2,none⟩ (.slice p1 (0+2) c1)) w1.heap.size #[.int .i64 1,.int .i64 c,.slice p1 (0+2) c1,.slice none 0 0] 25):=Lib.hid (Blk.cast (E3.set 2 _) (by rfl));have HE41:Hid (Blk (w6.setCell ⟨w1.heap.size,2,none⟩ (.slice p1 (0+2) c1)) w2.heap.size #[.float .f64 x,.float .f64 y,.float .f64 z,.float .f64 m,.int .u8 c] 105):=Lib.hid (Blk.otherR (by have:=HL2.out;show w2.heap.size ≠ w1.heap.size;omega) E4);have HE21:Hid (Blk (w6.setCell ⟨w1.heap.size,2,none⟩ (.slice p1 (0+2) c1)) (w.heap.size+1) #[.int .i64 0,.int .i64 0,.slice none 0 0,.slice none 0 0] 25):=Lib.hid (Blk.otherR (by have:=HLT.out;show w.heap.size+1 ≠ w1.heap.size;omega) E2);clear ho hg hb E3 E4 E2))
  | (go_at_call 174;(with_reducible refine (H3D.out _).mono ?_);rintro e w' ⟨rfl,rfl⟩)
  | (go_at_call 175;(with_reducible refine (HME.out _).mono ?_);rintro e w' ⟨rfl,rfl⟩)
  | (go_at_call 173;(with_reducible refine (HCO.out _).mono ?_);rintro e w2 ⟨rfl,hb2⟩;have HBB2:Hid (Bel w w2):=Lib.hid ((show Bel w _ by (have HB:=HB1.out;exact EL)).trans hb2);have C3:Blk w2 w1.heap.size #[.int .i64 1,.int .i64 c,.slice none 0 0,.slice none 0 0] 25:=Blk.bel (by exact KL) hb2;have HQ3:=Lib.hid C3;obtain ⟨r3,y3,l3⟩:=C3.facts;have HQ2:Hid (Blk w2 (w.heap.size+1) #[.int .i64 0,.int .i64 0,.slice none 0 0,.slice none 0 0] 25):=Lib.hid (Blk.bel (by (have HB:=HQ1.out;exact KL)) hb2);have HL2:Hid (w1.heap.size<w2.heap.size):=Lib.hid l3;have hn1:w2.heap.size ≠ w1.heap.size:=Nat.ne_of_gt HL2.out;have hn2:w1.heap.size ≠ w2.heap.size:=Nat.ne_of_lt HL2.out;have hn3:w.heap.size+1 ≠ w1.heap.size:=Nat.ne_of_lt HLT.out;have hn4:w1.heap.size ≠ w.heap.size+1:=Nat.ne_of_gt HLT.out;have HQ4:Hid (Blk (w2.alloc (.cells #[.float .f64 x,.float .f64 y,.float .f64 z,.float .f64 m,.int .u8 c] 105)) w2.heap.size #[.float .f64 x,.float .f64 y,.float .f64 z,.float .f64 m,.int .u8 c] 105):=Lib.hid (Blk.new _ _ _);clear hb2 C3)
  | (go_at_call 111;(with_reducible refine (HTY.out _).mono ?_);rintro e w1 ⟨rfl,hb1⟩;have HB1:Hid (Bel w w1):=Lib.hid ((show Bel w _ by exact EL).trans hb1);have C1:Blk w1 w.heap.size #[.float .f64 x,.float .f64 y,.float .f64 z,.float .f64 m,.int .u8 c,.bool true] 107:=Blk.bel (by exact KL) hb1;obtain ⟨r1,y1,l1⟩:=C1.facts;have HLT:Hid (w.heap.size+1<w1.heap.size):=Lib.hid (by have:=hb1.size;simp at this;omega);have HQ1:Hid (Blk w1 (w.heap.size+1) #[.int .i64 0,.int .i64 0,.slice none 0 0,.slice none 0 0] 25):=Lib.hid (Blk.bel (by exact KL) hb1);clear hb1 C1))
 refine post_ret (results_one rfl (resIs_agg (n:=4) (cs:=#[.int .i64 1,.int .i64 c,.slice p2 ((0+2)+1) c2,.slice none 0 0]) (by rfl) Tryz.underlying25 (by kernel_rfl) (T:=25) ?_ rfl)) ⟨_,_,_,_,_,_,rfl,?_,GmSl.nil _ _,?_⟩
 ·have HB:=HE22.out
  exact SL
 ·have h1:=HL2.out
  have h2:=HLT.out
  have hf:=FlSl.of_owns (F:=fun b=>w2.heap.size+1≤b) (xs:=[x,y,z]) HO2.out rfl (fun b hb=>hb)
  refine hf.keep (by simp) (fun b hb hl=>?_) (fun b _ hb=>hG b (by omega))
  repeat rw [Below.heap_setCell _ _ _ _ (by simp;omega)]
 ·have HB:=HB2.out
  exact EL
set_option maxHeartbeats 4000000 in
set_option maxRecDepth 100000 in
theorem plainPoint_2 (G:Nat→Prop) (x y z m c:Nat) (hc:c≤3) (ha:decide (c % 2=1)=false) (hb:decide (c / 2 % 2=1)=true) (w:World) (hG:New G w):Calls Tryz.prog 96 #[.agg #[.float .f64 x,.float .f64 y,.float .f64 z,.float .f64 m,.int .u8 c,.bool true]] w (IsGm G (.mk 1 c [x,y,m] []) w):=by
 have HTY:=Lib.hid (pointType_any x y z m c true)
 have HCO:=Lib.hid (ptCoords_any x y z m c true)
 have H3D:Hid (∀ W,Calls Tryz.prog 174 #[.int .u8 c] W fun e w'=>e=.returned (.bool false)∧W=w'):=Lib.hid fun W=>by
  have:=is3D_any c hc W
  rw [ha] at this
  exact this
 have HME:Hid (∀ W,Calls Tryz.prog 175 #[.int .u8 c] W fun e w'=>e=.returned (.bool true)∧W=w'):=Lib.hid fun W=>by
  have:=isMeasured_any c hc W
  rw [hb] at this
  exact this
 have hcv:IntKind.i64.wrap (c:Int)=(c:Int):=by
  rw [IntKind.wrap_i64]
  omega
 clear ha hb
 obtain ⟨i0,hi,hz0,hz1,hz2⟩:=info_parts infoF
 go_enter Tryz.func96,Tryz.ntmps96
 go_wp2_with (first
  | (at_builtin;(refine wpList_append_row _ rfl (.tmp 43) (.tmp 46) 22 rfl (w2.heap.size+1) 27 i0 _ 1 8 Tryz.underlying22 hi hz0 hz1 hz2 rfl (by decide) (.slice p1 (0+2) c1) (0+2) _ rfl (own_kept HO1.out (Bel.alloc1 _ _)) ⟨w6.heap.size,0,none⟩ 1 1 [.float .f64 m] rfl rfl (blk_arr (cs:=#[.float .f64 m]) (t:=27) (by exact KL)) (by simp [Value.oneCell']) (by decide) (by unfold maxLen;omega) (by omega) (by have:=HS1.out;simp;omega) ?_;intro v2 w7 ho hg hb;obtain ⟨p2,c2,rfl⟩:=ho.isSlice;have E3:=(show Blk _ w1.heap.size #[.int .i64 1,.int .i64 c,.slice p1 (0+2) c1,.slice none 0 0] 25 by (have HB:=HE31.out;exact KL)).grown hg (fun e=>by have:=(HO1.out.lt _ e).1;have:=HLT.out;have:=HL2.out;omega);have E4:=(show Blk _ w2.heap.size #[.float .f64 x,.float .f64 y,.float .f64 z,.float .f64 m,.int .u8 c] 105 by (have HB:=HE41.out;exact KL)).grown hg (fun e=>by have:=(HO1.out.lt _ e).1;have:=HLT.out;have:=HL2.out;omega);have E2:=(show Blk _ (w.heap.size+1) #[.int .i64 0,.int .i64 0,.slice none 0 0,.slice none 0 0] 25 by (have HB:=HE21.out;exact KL)).grown hg (fun e=>by have:=(HO1.out.lt _ e).1;have:=HLT.out;have:=HL2.out;omega);obtain ⟨e3a,e3b,e3c⟩:=E3.facts;obtain ⟨e4a,e4b,e4c⟩:=E4.facts;obtain ⟨e2a,e2b,e2c⟩:=E2.facts;have HS2:Hid ((w2.heap.size+1)≤w7.heap.size):=Lib.hid (by have:=hg.4;have:=HS1.out;simp at *;omega);have HB2:Hid (Bel w (w7.setCell ⟨w1.heap.size,2,none⟩ (.slice p2 ((0+2)+1) c2))):=Lib.hid (Bel.setCellR (by have:=HLT.out;show w.heap.size≤w1.heap.size;omega) ((show Bel w _ by (have HB:=HB1.out;exact EL)).of_row hg (fun g hg=>by have:=(HO1.out.lt g hg).1;have:=HLT.out;have:=HL2.out;omega)));have HO2:Hid ((w7.setCell ⟨w1.heap.size,2,none⟩ (.slice p2 ((0+2)+1) c2)).ownsRow (w2.heap.size+1) 27 1 (.slice p2 ((0+2)+1) c2) ((0+2)+1) _):=Lib.hid (ho.kept (grownBy_set _ _ _ _) (ho.ne_of_lt' (by have:=HLT.out;have:=HL2.out;omega)));have HE32:Hid (Blk (w7.setCell ⟨w1.heap.size,2,none⟩ (.slice p2 ((0+2)+1) c2)) w1.heap.size #[.int .i64 1,.int .i64 c,.slice p2 ((0+2)+1) c2,.slice none 0 0] 25):=Lib.hid (Blk.cast (E3.set 2 _) (by rfl));have HE42:Hid (Blk (w7.setCell ⟨w1.heap.size,2,none⟩ (.slice p2 ((0+2)+1) c2)) w2.heap.size #[.float .f64 x,.float .f64 y,.float .f64 z,.float .f64 m,.int .u8 c] 105):=Lib.hid (Blk.otherR (by have:=HL2.out;show w2.heap.size ≠ w1.heap.size;omega) E4);have HE22:Hid (Blk (w7.setCell ⟨w1.heap.size,2,none⟩ (.slice p2 ((0+2)+1) c2)) (w.heap.size+1) #[.int .i64 0,.int .i64 0,.slice none 0 0,.slice none 0 0] 25):=Lib.hid (Blk.otherR (by have:=HLT.out;show w.heap.size+1 ≠ w1.heap.size;omega) E2);clear ho hg hb E3 E4 E2))
  | (at_builtin;(refine wpList_append_row _ rfl (.tmp 19) (.tmp 26) 22 rfl (w2.heap.size+1) 27 i0 _ 1 8 Tryz.underlying22 hi hz0 hz1 hz2 rfl (by decide) (.slice none 0 0) 0 _ rfl (World.ownsRow_nil _ _ _ _) ⟨w2.heap.size+1,0,none⟩ 2 2 [.float .f64 x,.float .f64 y] rfl rfl (blk_arr (cs:=#[.float .f64 x,.float .f64 y]) (t:=27) (by exact KL)) (by simp [Value.oneCell']) (by decide) (by unfold maxLen;omega) (by omega) (by simp) ?_;intro v1 w6 ho hg hb;obtain ⟨p1,c1,rfl⟩:=ho.isSlice;have E3:=(show Blk _ w1.heap.size #[.int .i64 1,.int .i64 c,.slice none 0 0,.slice none 0 0] 25 by (have HB:=HQ3.out;exact KL)).grown hg (fun e=>by simp [Value.ownBlock] at e);have E4:=(show Blk _ w2.heap.size #[.float .f64 x,.float .f64 y,.float .f64 z,.float .f64 m,.int .u8 c] 105 by (have HB:=HQ4.out;exact KL)).grown hg (fun e=>by simp [Value.ownBlock] at e);have E2:=(show Blk _ (w.heap.size+1) #[.int .i64 0,.int .i64 0,.slice none 0 0,.slice none 0 0] 25 by (have HB:=HQ2.out;exact KL)).grown hg (fun e=>by simp [Value.ownBlock] at e);obtain ⟨e3a,e3b,e3c⟩:=E3.facts;obtain ⟨e4a,e4b,e4c⟩:=E4.facts;obtain ⟨e2a,e2b,e2c⟩:=E2.facts;have HS1:Hid ((w2.heap.size+1)≤w6.heap.size):=Lib.hid (by have:=hg.4;have:=HLT.out;simp at *;omega);have HB1:Hid (Bel w (w6.setCell ⟨w1.heap.size,2,none⟩ (.slice p1 (0+2) c1))):=Lib.hid (Bel.setCellR (by have:=HLT.out;show w.heap.size≤w1.heap.size;omega) ((show Bel w _ by (have HB:=HBB2.out;exact EL)).of_row hg (fun g hg=>by simp [Value.ownBlock] at hg)));have HO1:Hid ((w6.setCell ⟨w1.heap.size,2,none⟩ (.slice p1 (0+2) c1)).ownsRow (w2.heap.size+1) 27 1 (.slice p1 (0+2) c1) (0+2) _):=Lib.hid (ho.kept (grownBy_set _ _ _ _) (ho.ne_of_lt' (by have:=HLT.out;have:=HL2.out;omega)));have HE31:Hid (Blk (w6.setCell ⟨w1.heap.size,2,none⟩ (.slice p1 (0+2) c1)) w1.heap.size #[.int .i64 1,.int .i64 c,.slice p1 (0+2) c1,.slice none 0 0] 25):=Lib.hid (Blk.cast (E3.set 2 _) (by rfl));have HE41:Hid (Blk (w6.setCell ⟨w1.heap.size,2,none⟩ (.slice p1 (0+2) c1)) w2.heap.size #[.float .f64 x,.float .f64 y,.float .f64 z,.float .f64 m,.int .u8 c] 105):=Lib.hid (Blk.otherR (by have:=HL2.out;show w2.heap.size ≠ w1.heap.size;omega) E4);have HE21:Hid (Blk (w6.setCell ⟨w1.heap.size,2,none⟩ (.slice p1 (0+2) c1)) (w.heap.size+1) #[.int .i64 0,.int .i64 0,.slice none 0 0,.slice none 0 0] 25):=Lib.hid (Blk.otherR (by have:=HLT.out;show w.heap.size+1 ≠ w1.heap.size;omega) E2);clear ho hg hb E3 E4 E2))
  | (go_at_call 174;(with_reducible refine (H3D.out _).mono ?_);rintro e w' ⟨rfl,rfl⟩)
  | (go_at_call 175;(with_reducible refine (HME.out _).mono ?_);rintro e w' ⟨rfl,rfl⟩)
  | (go_at_call 173;(with_reducible refine (HCO.out _).mono ?_);rintro e w2 ⟨rfl,hb2⟩;have HBB2:Hid (Bel w w2):=Lib.hid ((show Bel w _ by (have HB:=HB1.out;exact EL)).trans hb2);have C3:Blk w2 w1.heap.size #[.int .i64 1,.int .i64 c,.slice none 0 0,.slice none 0 0] 25:=Blk.bel (by exact KL) hb2;have HQ3:=Lib.hid C3;obtain ⟨r3,y3,l3⟩:=C3.facts;have HQ2:Hid (Blk w2 (w.heap.size+1) #[.int .i64 0,.int .i64 0,.slice none 0 0,.slice none 0 0] 25):=Lib.hid (Blk.bel (by (have HB:=HQ1.out;exact KL)) hb2);have HL2:Hid (w1.heap.size<w2.heap.size):=Lib.hid l3;have hn1:w2.heap.size ≠ w1.heap.size:=Nat.ne_of_gt HL2.out;have hn2:w1.heap.size ≠ w2.heap.size:=Nat.ne_of_lt HL2.out;have hn3:w.heap.size+1 ≠ w1.heap.size:=Nat.ne_of_lt HLT.out;have hn4:w1.heap.size ≠ w.heap.size+1:=Nat.ne_of_gt HLT.out;have HQ4:Hid (Blk (w2.alloc (.cells #[.float .f64 x,.float .f64 y,.float .f64 z,.float .f64 m,.int .u8 c] 105)) w2.heap.size #[.float .f64 x,.float .f64 y,.float .f64 z,.float .f64 m,.int .u8 c] 105):=Lib.hid (Blk.new _ _ _);clear hb2 C3)
  | (go_at_call 111;(with_reducible refine (HTY.out _).mono ?_);rintro e w1 ⟨rfl,hb1⟩;have HB1:Hid (Bel w w1):=Lib.hid ((show Bel w _ by exact EL).trans hb1);have C1:Blk w1 w.heap.size #[.float .f64 x,.float .f64 y,.float .f64 z,.float .f64 m,.int .u8 c,.bool true] 107:=Blk.bel (by exact KL) hb1;obtain ⟨r1,y1,l1⟩:=C1.facts;have HLT:Hid (w.heap.size+1<w1.heap.size):=Lib.hid (by have:=hb1.size;simp at this;omega);have HQ1:Hid (Blk w1 (w.heap.size+1) #[.int .i64 0,.int .i64 0,.slice none 0 0,.slice none 0 0] 25):=Lib.hid (Blk.bel (by exact KL) hb1);clear hb1 C1))
 refine post_ret (results_one rfl (resIs_agg (n:=4) (cs:=#[.int .i64 1,.int .i64 c,.slice p2 ((0+2)+1) c2,.slice none 0 0]) (by rfl) Tryz.underlying25 (by kernel_rfl) (T:=25) ?_ rfl)) ⟨_,_,_,_,_,_,rfl,?_,GmSl.nil _ _,?_⟩
 ·have HB:=HE22.out
  exact SL
 ·have h1:=HL2.out
  have h2:=HLT.out
  have hf:=FlSl.of_owns (F:=fun b=>w2.heap.size+1≤b) (xs:=[x,y,m]) HO2.out rfl (fun b hb=>hb)
  refine hf.keep (by simp) (fun b hb hl=>?_) (fun b _ hb=>hG b (by omega))
  repeat rw [Below.heap_setCell _ _ _ _ (by simp;omega)]
 ·have HB:=HB2.out
  exact EL
set_option maxHeartbeats 4000000 in
set_option maxRecDepth 100000 in
theorem plainPoint_3 (G:Nat→Prop) (x y z m c:Nat) (hc:c≤3) (ha:decide (c % 2=1)=true) (hb:decide (c / 2 % 2=1)=true) (w:World) (hG:New G w):Calls Tryz.prog 96 #[.agg #[.float .f64 x,.float .f64 y,.float .f64 z,.float .f64 m,.int .u8 c,.bool true]] w (IsGm G (.mk 1 c [x,y,z,m] []) w):=by
 have HTY:=Lib.hid (pointType_any x y z m c true)
 have HCO:=Lib.hid (ptCoords_any x y z m c true)
 have H3D:Hid (∀ W,Calls Tryz.prog 174 #[.int .u8 c] W fun e w'=>e=.returned (.bool true)∧W=w'):=Lib.hid fun W=>by
  have:=is3D_any c hc W
  rw [ha] at this
  exact this
 have HME:Hid (∀ W,Calls Tryz.prog 175 #[.int .u8 c] W fun e w'=>e=.returned (.bool true)∧W=w'):=Lib.hid fun W=>by
  have:=isMeasured_any c hc W
  rw [hb] at this
  exact this
 have hcv:IntKind.i64.wrap (c:Int)=(c:Int):=by
  rw [IntKind.wrap_i64]
  omega
 clear ha hb
 obtain ⟨i0,hi,hz0,hz1,hz2⟩:=info_parts infoF
 go_enter Tryz.func96,Tryz.ntmps96
 go_wp2_with (first
  | (at_builtin;(refine wpList_append_row _ rfl (.tmp 43) (.tmp 46) 22 rfl (w2.heap.size+1) 27 i0 _ 1 8 Tryz.underlying22 hi hz0 hz1 hz2 rfl (by decide) (.slice p2 ((0+2)+1) c2) ((0+2)+1) _ rfl (own_kept HO2.out (Bel.alloc1 _ _)) ⟨w7.heap.size,0,none⟩ 1 1 [.float .f64 m] rfl rfl (blk_arr (cs:=#[.float .f64 m]) (t:=27) (by exact KL)) (by simp [Value.oneCell']) (by decide) (by unfold maxLen;omega) (by omega) (by have:=HS2.out;simp;omega) ?_;intro v3 w8 ho hg hb;obtain ⟨p3,c3,rfl⟩:=ho.isSlice;have E3:=(show Blk _ w1.heap.size #[.int .i64 1,.int .i64 c,.slice p2 ((0+2)+1) c2,.slice none 0 0] 25 by (have HB:=HE32.out;exact KL)).grown hg (fun e=>by have:=(HO2.out.lt _ e).1;have:=HLT.out;have:=HL2.out;omega);have E4:=(show Blk _ w2.heap.size #[.float .f64 x,.float .f64 y,.float .f64 z,.float .f64 m,.int .u8 c] 105 by (have HB:=HE42.out;exact KL)).grown hg (fun e=>by have:=(HO2.out.lt _ e).1;have:=HLT.out;have:=HL2.out;omega);have E2:=(show Blk _ (w.heap.size+1) #[.int .i64 0,.int .i64 0,.slice none 0 0,.slice none 0 0] 25 by (have HB:=HE22.out;exact KL)).grown hg (fun e=>by have:=(HO2.out.lt _ e).1;have:=HLT.out;have:=HL2.out;omega);obtain ⟨e3a,e3b,e3c⟩:=E3.facts;obtain ⟨e4a,e4b,e4c⟩:=E4.facts;obtain ⟨e2a,e2b,e2c⟩:=E2.facts;have HS3:Hid ((w2.heap.size+1)≤w8.heap.size):=Lib.hid (by have:=hg.4;have:=HS2.out;simp at *;omega);have HB3:Hid (Bel w (w8.setCell ⟨w1.heap.size,2,none⟩ (.slice p3 (((0+2)+1)+1) c3))):=Lib.hid (Bel.setCellR (by have:=HLT.out;show w.heap.size≤w1.heap.size;omega) ((show Bel w _ by (have HB:=HB2.out;exact EL)).of_row hg (fun g hg=>by have:=(HO2.out.lt g hg).1;have:=HLT.out;have:=HL2.out;omega)));have HO3:Hid ((w8.setCell ⟨w1.heap.size,2,none⟩ (.slice p3 (((0+2)+1)+1) c3)).ownsRow (w2.heap.size+1) 27 1 (.slice p3 (((0+2)+1)+1) c3) (((0+2)+1)+1) _):=Lib.hid (ho.kept (grownBy_set _ _ _ _) (ho.ne_of_lt' (by have:=HLT.out;have:=HL2.out;omega)));have HE33:Hid (Blk (w8.setCell ⟨w1.heap.size,2,none⟩ (.slice p3 (((0+2)+1)+1) c3)) w1.heap.size #[.int .i64 1,.int .i64 c,.slice p3 (((0+2)+1)+1) c3,.slice none 0 0] 25):=Lib.hid (Blk.cast (E3.set 2 _) (by rfl));have HE43:Hid (Blk (w8.setCell ⟨w1.heap.size,2,none⟩ (.slice p3 (((0+2)+1)+1) c3)) w2.heap.size #[.float .f64 x,.float .f64 y,.float .f64 z,.float .f64 m,.int .u8 c] 105):=Lib.hid (Blk.otherR (by have:=HL2.out;show w2.heap.size ≠ w1.heap.size;omega) E4);have HE23:Hid (Blk (w8.setCell ⟨w1.heap.size,2,none⟩ (.slice p3 (((0+2)+1)+1) c3)) (w.heap.size+1) #[.int .i64 0,.int .i64 0,.slice none 0 0,.slice none 0 0] 25):=Lib.hid (Blk.otherR (by have:=HLT.out;show w.heap.size+1 ≠ w1.heap.size;omega) E2);clear ho hg hb E3 E4 E2))
  | (at_builtin;(refine wpList_append_row _ rfl (.tmp 33) (.tmp 36) 22 rfl (w2.heap.size+1) 27 i0 _ 1 8 Tryz.underlying22 hi hz0 hz1 hz2 rfl (by decide) (.slice p1 (0+2) c1) (0+2) _ rfl (own_kept HO1.out (Bel.alloc1 _ _)) ⟨w6.heap.size,0,none⟩ 1 1 [.float .f64 z] rfl rfl (blk_arr (cs:=#[.float .f64 z]) (t:=27) (by exact KL)) (by simp [Value.oneCell']) (by decide) (by unfold maxLen;omega) (by omega) (by have:=HS1.out;simp;omega) ?_;intro v2 w7 ho hg hb;obtain ⟨p2,c2,rfl⟩:=ho.isSlice;have E3:=(show Blk _ w1.heap.size #[.int .i64 1,.int .i64 c,.slice p1 (0+2) c1,.slice none 0 0] 25 by (have HB:=HE31.out;exact KL)).grown hg (fun e=>by have:=(HO1.out.lt _ e).1;have:=HLT.out;have:=HL2.out;omega);have E4:=(show Blk _ w2.heap.size #[.float .f64 x,.float .f64 y,.float .f64 z,.float .f64 m,.int .u8 c] 105 by (have HB:=HE41.out;exact KL)).grown hg (fun e=>by have:=(HO1.out.lt _ e).1;have:=HLT.out;have:=HL2.out;omega);have E2:=(show Blk _ (w.heap.size+1) #[.int .i64 0,.int .i64 0,.slice none 0 0,.slice none 0 0] 25 by (have HB:=HE21.out;exact KL)).grown hg (fun e=>by have:=(HO1.out.lt _ e).1;have:=HLT.out;have:=HL2.out;omega);obtain ⟨e3a,e3b,e3c⟩:=E3.facts;obtain ⟨e4a,e4b,e4c⟩:=E4.facts;obtain ⟨e2a,e2b,e2c⟩:=E2.facts;have HS2:Hid ((w2.heap.size+1)≤w7.heap.size):=Lib.hid (by have:=hg.4;have:=HS1.out;simp at *;omega);have HB2:Hid (Bel w (w7.setCell ⟨w1.heap.size,2,none⟩ (.slice p2 ((0+2)+1) c2))):=Lib.hid (Bel.setCellR (by have:=HLT.out;show w.heap.size≤w1.heap.size;omega) ((show Bel w _ by (have HB:=HB1.out;exact EL)).of_row hg (fun g hg=>by have:=(HO1.out.lt g hg).1;have:=HLT.out;have:=HL2.out;omega)));have HO2:Hid ((w7.setCell ⟨w1.heap.size,2,none⟩ (.slice p2 ((0+2)+1) c2)).ownsRow (w2.heap.size+1) 27 1 (.slice p2 ((0+2)+1) c2) ((0+2)+1) _):=Lib.hid (ho.kept (grownBy_set _ _ _ _) (ho.ne_of_lt' (by have:=HLT.out;have:=HL2.out;omega)));have HE32:Hid (Blk (w7.setCell ⟨w1.heap.size,2,none⟩ (.slice p2 ((0+2)+1) c2)) w1.heap.size #[.int .i64 1,.int .i64 c,.slice p2 ((0+2)+1) c2,.slice none 0 0] 25):=Lib.hid (Blk.cast (E3.set 2 _) (by rfl));have HE42:Hid (Blk (w7.setCell ⟨w1.heap.size,2,none⟩ (.slice p2 ((0+2)+1) c2)) w2.heap.size #[.float .f64 x,.float .f64 y,.float .f64 z,.float .f64 m,.int .u8 c] 105):=Lib.hid (Blk.otherR (by have:=HL2.out;show w2.heap.size ≠ w1.heap.size;omega) E4);have HE22:Hid (Blk (w7.setCell ⟨w1.heap.size,2,none⟩ (.slice p2 ((0+2)+1) c2)) (w.heap.size+1) #[.int .i64 0,.int .i64 0,.slice none 0 0,.slice none 0 0] 25):=Lib.hid (Blk.otherR (by have:=HLT.out;show w.heap.size+1 ≠ w1.heap.size;omega) E2);clear ho hg hb E3 E4 E2))
  | (at_builtin;(refine wpList_append_row _ rfl (.tmp 19) (.tmp 26) 22 rfl (w2.heap.size+1) 27 i0 _ 1 8 Tryz.underlying22 hi hz0 hz1 hz2 rfl (by decide) (.slice none 0 0) 0 _ rfl (World.ownsRow_nil _ _ _ _) ⟨w2.heap.size+1,0,none⟩ 2 2 [.float .f64 x,.float .f64 y] rfl rfl (blk_arr (cs:=#[.float .f64 x,.float .f64 y]) (t:=27) (by exact KL)) (by simp [Value.oneCell']) (by decide) (by unfold maxLen;omega) (by omega) (by simp) ?_;intro v1 w6 ho hg hb;obtain ⟨p1,c1,rfl⟩:=ho.isSlice;have E3:=(show Blk _ w1.heap.size #[.int .i64 1,.int .i64 c,.slice none 0 0,.slice none 0 0] 25 by (have HB:=HQ3.out;exact KL)).grown hg (fun e=>by simp [Value.ownBlock] at e);have E4:=(show Blk _ w2.heap.size #[.float .f64 x,.float .f64 y,.float .f64 z,.float .f64 m,.int .u8 c] 105 by (have HB:=HQ4.out;exact KL)).grown hg (fun e=>by simp [Value.ownBlock] at e);have E2:=(show Blk _ (w.heap.size+1) #[.int .i64 0,.int .i64 0,.slice none 0 0,.slice none 0 0] 25 by (have HB:=HQ2.out;exact KL)).grown hg (fun e=>by simp [Value.ownBlock] at e);obtain ⟨e3a,e3b,e3c⟩:=E3.facts;obtain ⟨e4a,e4b,e4c⟩:=E4.facts;obtain ⟨e2a,e2b,e2c⟩:=E2.facts;have HS1:Hid ((w2.heap.size+1)≤w6.heap.size):=Lib.hid (by have:=hg.4;have:=HLT.out;simp at *;omega);have HB1:Hid (Bel w (w6.setCell ⟨w1.heap.size,2,none⟩ (.slice p1 (0+2) c1))):=Lib.hid (Bel.setCellR (by have:=HLT.out;show w.heap.size≤w1.heap.size;omega) ((show Bel w _ by (have HB:=HBB2.out;exact EL)).of_row hg (fun g hg=>by simp [Value.ownBlock] at hg)));have HO1:Hid ((w6.setCell ⟨w1.heap.size,2,none⟩ (.slice p1 (0+2) c1)).ownsRow (w2.heap.size+1) 27 1 (.slice p1 (0+2) c1) (0+2) _):=Lib.hid (ho.kept (grownBy_set _ _ _ _) (ho.ne_of_lt' (by have:=HLT.out;have:=HL2.out;omega)));have HE31:Hid (Blk (w6.setCell ⟨w1.heap.size,2,none⟩ (.slice p1 (0+2) c1)) w1.heap.size #[.int .i64 1,.int .i64 c,.slice p1 (0+2) c1,.slice none 0 0] 25):=Lib.hid (Blk.cast (E3.set 2 _) (by rfl));have HE41:Hid (Blk (w6.setCell ⟨w1.heap.size,2,none⟩ (.slice p1 (0+2) c1)) w2.heap.size #[.float .f64 x,.float .f64 y,.float .f64 z,.float .f64 m,.int .u8 c] 105):=Lib.hid (Blk.otherR (by have:=HL2.out;show w2.heap.size ≠ w1.heap.size;omega) E4);have HE21:Hid (Blk (w6.setCell ⟨w1.heap.size,2,none⟩ (.slice p1 (0+2) c1)) (w.heap.size+1) #[.int .i64 0,.int .i64 0,.slice none 0 0,.slice none 0 0] 25):=Lib.hid (Blk.otherR (by have:=HLT.out;show w.heap.size+1 ≠ w1.heap.size;omega) E2);clear ho hg hb E3 E4 E2))
  | (go_at_call 174;(with_reducible refine (H3D.out _).mono ?_);rintro e w' ⟨rfl,rfl⟩)
  | (go_at_call 175;(with_reducible refine (HME.out _).mono ?_);rintro e w' ⟨rfl,rfl⟩)
  | (go_at_call 173;(with_reducible refine (HCO.out _).mono ?_);rintro e w2 ⟨rfl,hb2⟩;have HBB2:Hid (Bel w w2):=Lib.hid ((show Bel w _ by (have HB:=HB1.out;exact EL)).trans hb2);have C3:Blk w2 w1.heap.size #[.int .i64 1,.int .i64 c,.slice none 0 0,.slice none 0 0] 25:=Blk.bel (by exact KL) hb2;have HQ3:=Lib.hid C3;obtain ⟨r3,y3,l3⟩:=C3.facts;have HQ2:Hid (Blk w2 (w.heap.size+1) #[.int .i64 0,.int .i64 0,.slice none 0 0,.slice none 0 0] 25):=Lib.hid (Blk.bel (by (have HB:=HQ1.out;exact KL)) hb2);have HL2:Hid (w1.heap.size<w2.heap.size):=Lib.hid l3;have hn1:w2.heap.size ≠ w1.heap.size:=Nat.ne_of_gt HL2.out;have hn2:w1.heap.size ≠ w2.heap.size:=Nat.ne_of_lt HL2.out;have hn3:w.heap.size+1 ≠ w1.heap.size:=Nat.ne_of_lt HLT.out;have hn4:w1.heap.size ≠ w.heap.size+1:=Nat.ne_of_gt HLT.out;have HQ4:Hid (Blk (w2.alloc (.cells #[.float .f64 x,.float .f64 y,.float .f64 z,.float .f64 m,.int .u8 c] 105)) w2.heap.size #[.float .f64 x,.float .f64 y,.float .f64 z,.float .f64 m,.int .u8 c] 105):=Lib.hid (Blk.new _ _ _);clear hb2 C3)
  | (go_at_call 111;(with_reducible refine (HTY.out _).mono ?_);rintro e w1 ⟨rfl,hb1⟩;have HB1:Hid (Bel w w1):=Lib.hid ((show Bel w _ by exact EL).trans hb1);have C1:Blk w1 w.heap.size #[.float .f64 x,.float .f64 y,.float .f64 z,.float .f64 m,.int .u8 c,.bool true] 107:=Blk.bel (by exact KL) hb1;obtain ⟨r1,y1,l1⟩:=C1.facts;have HLT:Hid (w.heap.size+1<w1.heap.size):=Lib.hid (by have:=hb1.size;simp at this;omega);have HQ1:Hid (Blk w1 (w.heap.size+1) #[.int .i64 0,.int .i64 0,.slice none 0 0,.slice none 0 0] 25):=Lib.hid (Blk.bel (by exact KL) hb1);clear hb1 C1))
 refine post_ret (results_one rfl (resIs_agg (n:=4) (cs:=#[.int .i64 1,.int .i64 c,.slice p3 (((0+2)+1)+1) c3,.slice none 0 0]) (by rfl) Tryz.underlying25 (by kernel_rfl) (T:=25) ?_ rfl)) ⟨_,_,_,_,_,_,rfl,?_,GmSl.nil _ _,?_⟩
 ·have HB:=HE23.out
  exact SL
 ·have h1:=HL2.out
  have h2:=HLT.out
  have hf:=FlSl.of_owns (F:=fun b=>w2.heap.size+1≤b) (xs:=[x,y,z,m]) HO3.out rfl (fun b hb=>hb)
  refine hf.keep (by simp) (fun b hb hl=>?_) (fun b _ hb=>hG b (by omega))
  repeat rw [Below.heap_setCell _ _ _ _ (by simp;omega)]
 ·have HB:=HB3.out
  exact EL
def PlainOk (s:Nat) (f:Nat) (g:Gm):Prop:=∀ (F G:Nat→Prop) (cs:List Value) (w:World),New G w→Ob F w s cs g→Calls Tryz.prog f #[.agg cs.toArray] w (IsGm G g w)
theorem plainPoint_any (g:Gm):PlainOk 1 96 g:=fun F G cs w hG h=>by
 obtain ⟨x,y,z,m,c,full,rfl,hc,rfl⟩:=h.pt
 cases full with
 | false=>exact plainPoint_no G x y z m c hc w hG
 | true =>
  show Calls Tryz.prog 96 #[.agg #[.float .f64 x,.float .f64 y,.float .f64 z,.float .f64 m,.int .u8 c,.bool true]] w (IsGm G (.mk 1 c (numsOfPl c ⟨x,y,z,m⟩) []) w)
  unfold numsOfPl
  by_cases h1:c % 2=1<;>by_cases h2:c / 2 % 2=1
  ·rw [if_pos h1,if_pos h2]
   exact plainPoint_3 G x y z m c hc (decide_eq_true h1) (decide_eq_true h2) w hG
  ·rw [if_pos h1,if_neg h2]
   exact plainPoint_1 G x y z m c hc (decide_eq_true h1) (decide_eq_false h2) w hG
  ·rw [if_neg h1,if_pos h2]
   exact plainPoint_2 G x y z m c hc (decide_eq_false h1) (decide_eq_true h2) w hG
  ·rw [if_neg h1,if_neg h2]
   exact plainPoint_0 G x y z m c hc (decide_eq_false h1) (decide_eq_false h2) w hG
end Go.Proofs.YtpipehenfcbjbaaGreatDoor
