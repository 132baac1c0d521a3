/-
 Kinds and numbers of parts. No panic;what stood in memory has not turned.
-/
import Derived.Test.YtpipehenfcbjbaaGreatDoorPal
import Derived.Test.YtpipehenfcbjbaaGreatDoorPaa
import GoSem.Extern.MathDim
import GoSem.Extern.MathFloor
import Derived.OwnWalk
set_option linter.unusedVariables false
set_option linter.unusedSimpArgs false
namespace Go.Proofs.YtpipehenfcbjbaaGreatDoor
open Go.ChangeShapes Go.WideShapes Go.ChangeAt Go.RowKit Ieee
theorem type_0 (p:Option Addr) (n cap c:Nat) (w:World):Calls Tryz.prog 188 #[.agg #[.slice p n cap,.int .u8 c]] w fun e w'=>e=.returned (.int .i64 0)∧Bel w w':=by
 go_enter Tryz.func188,Tryz.ntmps188
 go_wp2
 go_ret
 exact ⟨rfl,by exact EL⟩
theorem type_1 (x y z m c:Nat) (full:Bool) (w:World):Calls Tryz.prog 191 #[.agg #[.float .f64 x,.float .f64 y,.float .f64 z,.float .f64 m,.int .u8 c,.bool full]] w fun e w'=>e=.returned (.int .i64 1)∧Bel w w':=by
 go_enter Tryz.func191,Tryz.ntmps191
 go_wp2
 go_ret
 exact ⟨rfl,by exact EL⟩
theorem type_2 (c:Nat) (p:Option Addr) (n cap:Nat) (w:World):Calls Tryz.prog 192 #[.agg #[.int .u8 c,.slice p n cap]] w fun e w'=>e=.returned (.int .i64 2)∧Bel w w':=by
 go_enter Tryz.func192,Tryz.ntmps192
 go_wp2
 go_ret
 exact ⟨rfl,by exact EL⟩
theorem type_3 (p:Option Addr) (n cap c:Nat) (w:World):Calls Tryz.prog 194 #[.agg #[.slice p n cap,.int .u8 c]] w fun e w'=>e=.returned (.int .i64 3)∧Bel w w':=by
 go_enter Tryz.func194,Tryz.ntmps194
 go_wp2
 go_ret
 exact ⟨rfl,by exact EL⟩
theorem type_4 (p:Option Addr) (n cap c:Nat) (w:World):Calls Tryz.prog 195 #[.agg #[.slice p n cap,.int .u8 c]] w fun e w'=>e=.returned (.int .i64 4)∧Bel w w':=by
 go_enter Tryz.func195,Tryz.ntmps195
 go_wp2
 go_ret
 exact ⟨rfl,by exact EL⟩
theorem type_5 (p:Option Addr) (n cap c:Nat) (w:World):Calls Tryz.prog 197 #[.agg #[.slice p n cap,.int .u8 c]] w fun e w'=>e=.returned (.int .i64 5)∧Bel w w':=by
 go_enter Tryz.func197,Tryz.ntmps197
 go_wp2
 go_ret
 exact ⟨rfl,by exact EL⟩
theorem type_6 (p:Option Addr) (n cap c:Nat) (w:World):Calls Tryz.prog 199 #[.agg #[.slice p n cap,.int .u8 c]] w fun e w'=>e=.returned (.int .i64 6)∧Bel w w':=by
 go_enter Tryz.func199,Tryz.ntmps199
 go_wp2
 go_ret
 exact ⟨rfl,by exact EL⟩
theorem geoKind_any (s:Int) (v:Value) (w:World):Calls Tryz.prog 44 #[.agg #[.int .i64 s,v]] w fun e w'=>e=.returned (.int .i64 s)∧Bel w w':=by
 go_enter Tryz.func44,Tryz.ntmps44
 go_wp2
 go_ret
 exact ⟨rfl,by exact EL⟩
theorem isPoly_any (s:Int) (v:Value) (w:World):Calls Tryz.prog 154 #[.agg #[.int .i64 s,v]] w fun e w'=>e=.returned (.bool (s == 3))∧Bel w w':=by
 go_enter Tryz.func154,Tryz.ntmps154
 go_wp2
 go_ret
 exact ⟨rfl,by exact EL⟩
theorem num_0 (p:Option Addr) (n cap c:Nat) (w:World):Calls Tryz.prog 131 #[.agg #[.slice p n cap,.int .u8 c]] w fun e w'=>e=.returned (.int .i64 n)∧Bel w w':=by
 go_enter Tryz.func131,Tryz.ntmps131
 go_wp2
 go_ret
 exact ⟨rfl,by exact EL⟩
theorem num_4 (p:Option Addr) (n cap c:Nat) (w:World):Calls Tryz.prog 128 #[.agg #[.slice p n cap,.int .u8 c]] w fun e w'=>e=.returned (.int .i64 n)∧Bel w w':=by
 go_enter Tryz.func128,Tryz.ntmps128
 go_wp2
 go_ret
 exact ⟨rfl,by exact EL⟩
theorem num_5 (p:Option Addr) (n cap c:Nat) (w:World):Calls Tryz.prog 129 #[.agg #[.slice p n cap,.int .u8 c]] w fun e w'=>e=.returned (.int .i64 n)∧Bel w w':=by
 go_enter Tryz.func129,Tryz.ntmps129
 go_wp2
 go_ret
 exact ⟨rfl,by exact EL⟩
theorem num_6 (p:Option Addr) (n cap c:Nat) (w:World):Calls Tryz.prog 130 #[.agg #[.slice p n cap,.int .u8 c]] w fun e w'=>e=.returned (.int .i64 n)∧Bel w w':=by
 go_enter Tryz.func130,Tryz.ntmps130
 go_wp2
 go_ret
 exact ⟨rfl,by exact EL⟩
theorem lineCoords_any (c:Nat) (p:Option Addr) (n cap:Nat) (w:World):Calls Tryz.prog 68 #[.agg #[.int .u8 c,.slice p n cap]] w fun e w'=>e=.returned (.agg #[.int .u8 c,.slice p n cap])∧Bel w w':=by
 go_enter Tryz.func68,Tryz.ntmps68
 go_wp2
 refine post_ret (results_one rfl (resIs_agg (n:=2) (cs:=#[.int .u8 c,.slice p n cap]) (by rfl) Tryz.underlying109 (by kernel_rfl) (T:=109) ?_ rfl)) ⟨rfl,?_⟩
 ·exact SL
 ·exact EL
theorem numInner_any (p:Option Addr) (n cap c:Nat) (hn:n≤1048576) (w:World):Calls Tryz.prog 58 #[.agg #[.slice p n cap,.int .u8 c]] w fun e w'=>e=.returned (.int .i64 (n - 1:Nat))∧Bel w w':=by
 have HM:=Lib.hid max_any
 have hmx:max (0:Int) ((n:Int) - 1)=((n - 1:Nat):Int):=by omega
 go_enter Tryz.func58,Tryz.ntmps58
 go_wp2_with (go_at_call 155;(with_reducible refine (HM.out _ _ _).mono ?_);rintro e w' ⟨rfl,rfl⟩;rw [hmx])
 go_ret
 exact ⟨rfl,by exact EL⟩
theorem numRings_any {F:Nat→Prop} {cs:List Value} {g:Gm} {w0:World} (h:Ob F w0 3 cs g) (w:World):Calls Tryz.prog 127 #[.agg cs.toArray] w fun e w'=>e=.returned (.int .i64 g.kids.length)∧Bel w w':=by
 have HEM:Hid (∀ W,Calls Tryz.prog 122 #[.agg cs.toArray] W fun e w'=>e=.returned (.bool (emptyOf g))∧Bel W w'):=Lib.hid (polygonEmpty_any h)
 obtain ⟨p,cap,c,gs,rfl,hc,rfl,hn31,hsl⟩:=h.sl (e:=2) (k:=2) rfl
 change Hid (∀ W,Calls Tryz.prog 122 #[.agg #[.slice p gs.length cap,.int .u8 c]] W _) at HEM
 have HNI:=Lib.hid (numInner_any p gs.length cap c hn31)
 show Calls Tryz.prog 127 #[.agg #[.slice p gs.length cap,.int .u8 c]] w fun e w'=>e=.returned (.int .i64 gs.length)∧Bel w w'
 clear h hsl
 cases gs with
 | nil =>
  have he:emptyOf (.mk (3:Nat) c [] [])=true:=by
   simp [emptyOf]
  rw [he] at HEM
  change Hid (∀ W,Calls Tryz.prog 122 #[.agg #[.slice p 0 cap,.int .u8 c]] W _) at HEM
  clear HNI
  show Calls Tryz.prog 127 #[.agg #[.slice p 0 cap,.int .u8 c]] w fun e w'=>e=.returned (.int .i64 0)∧Bel w w'
  go_enter Tryz.func127,Tryz.ntmps127
  go_wp2_with (go_at_call 122;(with_reducible refine (HEM.out _).mono ?_);rintro e w1 ⟨rfl,hb1⟩;have HB1:Hid (Bel w w1):=Lib.hid ((show Bel w _ by exact EL).trans hb1);clear hb1)
  go_ret
  exact ⟨rfl,HB1.out⟩
 | cons r rs =>
  have he:emptyOf (.mk (3:Nat) c [] (r :: rs))=false:=by
   simp [emptyOf]
  rw [he] at HEM
  have hl:0<(r :: rs).length:=by simp
  generalize (r :: rs).length=n at *
  obtain ⟨m,rfl⟩:∃ m,n=m+1:=⟨n - 1,by omega⟩
  rw [Nat.add_sub_cancel] at HNI
  generalize hm1:m+1=m1 at *
  have HM1:=Lib.hid hm1
  clear hm1 he hl
  have hmb:m≤1048576:=by have:=HM1.out;omega
  go_enter Tryz.func127,Tryz.ntmps127
  go_wp2_with (first
   | (go_at_call 58;(with_reducible refine (HNI.out _).mono ?_);rintro e w2 ⟨rfl,hb2⟩;have HB2:Hid (Bel w w2):=Lib.hid (HB1.out.trans hb2);clear hb2)
   | (go_at_call 122;(with_reducible refine (HEM.out _).mono ?_);rintro e w1 ⟨rfl,hb1⟩;have HB1:Hid (Bel w w1):=Lib.hid ((show Bel w _ by exact EL).trans hb1);have C1:Blk w1 w.heap.size #[.slice p m1 cap,.int .u8 c] 91:=Blk.bel (by exact KL) hb1;obtain ⟨r2,y2,u2⟩:=C1.facts;clear hb1 C1))
  go_ret
  refine ⟨?_,HB2.out⟩
  have hs:(1:Int)+(m:Int)=(m1:Int):=by have:=HM1.out;omega
  rw [hs]
  rfl
theorem asPolygon_no (s:Nat) (v:Value) (hs:s ≠ 3) (w:World):Calls Tryz.prog 57 #[.agg #[.int .i64 s,v]] w fun e w'=>e=.returned (.tuple #[.agg #[.slice none 0 0,.int .u8 0],.bool false])∧Bel w w':=by
 have HI:Hid (∀ W,Calls Tryz.prog 154 #[.agg #[.int .i64 s,v]] W fun e w'=>e=.returned (.bool false)∧Bel W w'):=Lib.hid fun W=>by
  have:=isPoly_any s v W
  have hb:((s:Int) == 3)=false:=by simp;omega
  rw [hb] at this
  exact this
 go_enter Tryz.func57,Tryz.ntmps57
 go_wp2_with (go_at_call 154;(with_reducible refine (HI.out _).mono ?_);rintro e w1 ⟨rfl,hb1⟩;have HB1:Hid (Bel w w1):=Lib.hid ((show Bel w _ by exact EL).trans hb1);have C2:Blk w1 (w.heap.size+1) #[.slice none 0 0,.int .u8 0] 91:=Blk.bel (by exact KL) hb1;have HC2:=Lib.hid C2;obtain ⟨r2,y2,u2⟩:=C2.facts;clear hb1 C2)
 refine post_ret (results_two rfl (resIs_agg (n:=2) (cs:=#[.slice none 0 0,.int .u8 0]) (by rfl) Tryz.underlying91 (by kernel_rfl) (T:=91) ?_ rfl) (resIs_tmp (by rfl))) ⟨rfl,?_⟩
 ·have HB:=HC2.out
  exact SL
 ·have HB:=HB1.out
  exact EL
theorem asPolygon_yes (p:Option Addr) (n cap c b:Nat) (w:World) (h0:w.cell? ⟨b,0,none⟩=some (.slice p n cap)) (h1:w.cell? ⟨b,1,none⟩=some (.int .u8 c)):Calls Tryz.prog 57 #[.agg #[.int .i64 3,.iface 165 (.pointer (some ⟨b,0,none⟩))]] w fun e w'=>e=.returned (.tuple #[.agg #[.slice p n cap,.int .u8 c],.bool true])∧Bel w w':=by
 have HI:=Lib.hid (isPoly_any 3 (.iface 165 (.pointer (some ⟨b,0,none⟩))))
 have HM:Hid (∀ W,Bel w W→Calls Tryz.prog 72 #[.agg #[.int .i64 3,.iface 165 (.pointer (some ⟨b,0,none⟩))]] W fun e w'=>e=.returned (.agg #[.slice p n cap,.int .u8 c])∧Bel W w'):=Lib.hid fun W hW=>mustAs_3 p n cap c b W (cell_kept hW h0) (cell_kept hW h1)
 clear h0 h1
 go_enter Tryz.func57,Tryz.ntmps57
 go_wp2_with (first
  | (go_at_call 72;(with_reducible refine (HM.out _ ?hb).mono ?_);(case hb=>(have HB:=HB1.out;exact EL));rintro e w2 ⟨rfl,hb2⟩;have HB2:Hid (Bel w w2):=Lib.hid ((show Bel w _ by (have HB:=HB1.out;exact EL)).trans hb2);have C2:=HC2.out.bel hb2;have HD2:=Lib.hid C2;obtain ⟨r3,y3,u3⟩:=C2.facts;clear hb2 C2)
  | (go_at_call 154;(with_reducible refine (HI.out _).mono ?_);rintro e w1 ⟨rfl,hb1⟩;have HB1:Hid (Bel w w1):=Lib.hid ((show Bel w _ by exact EL).trans hb1);have C1:Blk w1 w.heap.size #[.int .i64 3,.iface 165 (.pointer (some ⟨b,0,none⟩))] 64:=Blk.bel (by exact KL) hb1;have C2:Blk w1 (w.heap.size+1) #[.slice none 0 0,.int .u8 0] 91:=Blk.bel (by exact KL) hb1;have HC2:=Lib.hid C2;obtain ⟨r2,y2,u2⟩:=C1.facts;clear hb1 C1 C2))
 refine post_ret (results_two rfl (resIs_agg (n:=2) (cs:=#[.slice p n cap,.int .u8 c]) (by rfl) Tryz.underlying91 (by kernel_rfl) (T:=91) ?_ rfl) (resIs_tmp (by rfl))) ⟨rfl,?_⟩
 ·have HB:=HD2.out
  exact SL
 ·have HB:=HB2.out
  exact EL
theorem asGeometryCollection_no (s:Nat) (v:Value) (hs:s ≠ 0) (w:World):Calls Tryz.prog 55 #[.agg #[.int .i64 s,v]] w fun e w'=>e=.returned (.tuple #[.agg #[.slice none 0 0,.int .u8 0],.bool false])∧Bel w w':=by
 have HI:Hid (∀ W,Calls Tryz.prog 153 #[.agg #[.int .i64 s,v]] W fun e w'=>e=.returned (.bool false)∧Bel W w'):=Lib.hid fun W=>by
  have:=isColl_any s v W
  have hb:((s:Int) == 0)=false:=by simp;omega
  rw [hb] at this
  exact this
 go_enter Tryz.func55,Tryz.ntmps55
 go_wp2_with (go_at_call 153;(with_reducible refine (HI.out _).mono ?_);rintro e w1 ⟨rfl,hb1⟩;have HB1:Hid (Bel w w1):=Lib.hid ((show Bel w _ by exact EL).trans hb1);have C2:Blk w1 (w.heap.size+1) #[.slice none 0 0,.int .u8 0] 86:=Blk.bel (by exact KL) hb1;have HC2:=Lib.hid C2;obtain ⟨r2,y2,u2⟩:=C2.facts;clear hb1 C2)
 refine post_ret (results_two rfl (resIs_agg (n:=2) (cs:=#[.slice none 0 0,.int .u8 0]) (by rfl) Tryz.underlying86 (by kernel_rfl) (T:=86) ?_ rfl) (resIs_tmp (by rfl))) ⟨rfl,?_⟩
 ·have HB:=HC2.out
  exact SL
 ·have HB:=HB1.out
  exact EL
theorem asGeometryCollection_yes (p:Option Addr) (n cap c b:Nat) (w:World) (h0:w.cell? ⟨b,0,none⟩=some (.slice p n cap)) (h1:w.cell? ⟨b,1,none⟩=some (.int .u8 c)):Calls Tryz.prog 55 #[.agg #[.int .i64 0,.iface 170 (.pointer (some ⟨b,0,none⟩))]] w fun e w'=>e=.returned (.tuple #[.agg #[.slice p n cap,.int .u8 c],.bool true])∧Bel w w':=by
 have HI:=Lib.hid (isColl_any 0 (.iface 170 (.pointer (some ⟨b,0,none⟩))))
 have HM:Hid (∀ W,Bel w W→Calls Tryz.prog 83 #[.agg #[.int .i64 0,.iface 170 (.pointer (some ⟨b,0,none⟩))]] W fun e w'=>e=.returned (.agg #[.slice p n cap,.int .u8 c])∧Bel W w'):=Lib.hid fun W hW=>mustAs_0 p n cap c b W (cell_kept hW h0) (cell_kept hW h1)
 clear h0 h1
 go_enter Tryz.func55,Tryz.ntmps55
 go_wp2_with (first
  | (go_at_call 83;(with_reducible refine (HM.out _ ?hb).mono ?_);(case hb=>(have HB:=HB1.out;exact EL));rintro e w2 ⟨rfl,hb2⟩;have HB2:Hid (Bel w w2):=Lib.hid ((show Bel w _ by (have HB:=HB1.out;exact EL)).trans hb2);have C2:=HC2.out.bel hb2;have HD2:=Lib.hid C2;obtain ⟨r3,y3,u3⟩:=C2.facts;clear hb2 C2)
  | (go_at_call 153;(with_reducible refine (HI.out _).mono ?_);rintro e w1 ⟨rfl,hb1⟩;have HB1:Hid (Bel w w1):=Lib.hid ((show Bel w _ by exact EL).trans hb1);have C1:Blk w1 w.heap.size #[.int .i64 0,.iface 170 (.pointer (some ⟨b,0,none⟩))] 64:=Blk.bel (by exact KL) hb1;have C2:Blk w1 (w.heap.size+1) #[.slice none 0 0,.int .u8 0] 86:=Blk.bel (by exact KL) hb1;have HC2:=Lib.hid C2;obtain ⟨r2,y2,u2⟩:=C1.facts;clear hb1 C1 C2))
 refine post_ret (results_two rfl (resIs_agg (n:=2) (cs:=#[.slice p n cap,.int .u8 c]) (by rfl) Tryz.underlying86 (by kernel_rfl) (T:=86) ?_ rfl) (resIs_tmp (by rfl))) ⟨rfl,?_⟩
 ·have HB:=HD2.out
  exact SL
 ·have HB:=HB2.out
  exact EL
/-- How many parts. -/
def partsG (g:Gm):Nat:=if g.kind=1∨g.kind=2 then g.nums.length / wd (ct g.dim) else g.kids.length
end Go.Proofs.YtpipehenfcbjbaaGreatDoor
set_option linter.unusedVariables false
set_option linter.unusedSimpArgs false
namespace Go.Proofs.YtpipehenfcbjbaaGreatDoor
open Go.ChangeShapes Go.WideShapes Go.ChangeAt Go.RowKit Ieee
theorem partsG_mk (k d:Int) (ns:List Nat) (ks:List Gm):partsG (.mk k d ns ks)=if k=1∨k=2 then ns.length / wd (ct d) else ks.length:=rfl
set_option maxHeartbeats 8000000 in
set_option maxRecDepth 100000 in
theorem partsOf_any (F:Nat→Prop) (cs:List Value) (g:Gm) (w:World) (h:Ob F w 7 cs g):Calls Tryz.prog 48 #[.agg cs.toArray] w fun e w'=>e=.returned (.int .i64 (partsG g))∧Bel w w':=by
 have HEM:Hid (∀ W,Bel w W→Calls Tryz.prog 47 #[.agg cs.toArray] W fun e w'=>e=.returned (.bool (emptyOf g))∧Bel W w'):=Lib.hid fun W hW=>geoEmpty_any g F cs W (h.bel hW)
 obtain ⟨s,b,cl,rfl,hs6,hlt,hFb,hc,ho⟩:=h.gi
 clear h
 have HK:=Lib.hid geoKind_any
 have h7:s=0∨s=1∨s=2∨s=3∨s=4∨s=5∨s=6:=by omega
 rcases h7 with rfl|rfl|rfl|rfl|rfl|rfl|rfl
 ·obtain ⟨p,cap,c,gs,hcs,hc3,hge,hn31,-⟩:=ho.sl (e:=7) (k:=2) rfl
  subst hcs
  have HO:Hid (∀ W,Bel w W→Ob F W 0 [.slice p gs.length cap,.int .u8 c] g):=Lib.hid fun W hW=>ho.bel hW
  clear ho
  subst hge
  have hp:partsG (.mk (0:Nat) c [] gs)=gs.length:=by
   rw [partsG_mk,if_neg (by decide)]
  have HN:Hid (∀ W,Bel w W→Calls Tryz.prog 131 #[.agg #[.slice p gs.length cap,.int .u8 c]] W fun e w'=>e=.returned (.int .i64 gs.length)∧Bel W w'):=Lib.hid fun W hW=>num_0 p gs.length cap c W
  rw [hp]
  clear hp HO
  show Calls Tryz.prog 48 #[.agg #[.int .i64 0,.iface 170 (.pointer (some ⟨b,0,none⟩))]] w _
  have HM:Hid (∀ W,Bel w W→Calls Tryz.prog 83 #[.agg #[.int .i64 0,.iface 170 (.pointer (some ⟨b,0,none⟩))]] W fun e w'=>e=.returned (.agg #[.slice p gs.length cap,.int .u8 c])∧Bel W w'):=Lib.hid fun W hW=>mustAs_0 _ _ _ _ b W (cell_kept hW (hc 0 _ rfl)) (cell_kept hW (hc 1 _ rfl))
  clear hc HEM
  generalize gs.length=n at *
  go_enter Tryz.func48,Tryz.ntmps48
  go_wp2_with (first
    | (go_at_call 131;(with_reducible refine (HN.out _ HB2.out).mono ?_);rintro e w4 ⟨rfl,hb4⟩;have HB9:Hid (Bel w w4):=Lib.hid (HB2.out.trans hb4);clear hb4)
    | (go_at_call 83;(with_reducible refine (HM.out _ HB1.out).mono ?_);rintro e w2 ⟨rfl,hb2⟩;have HB2:Hid (Bel w w2):=Lib.hid (HB1.out.trans hb2);clear hb2)
    | (go_at_call 44;(with_reducible refine (HK.out _ _ _).mono ?_);rintro e w1 ⟨rfl,hb1⟩;have HB1:Hid (Bel w w1):=Lib.hid ((show Bel w _ by exact EL).trans hb1);have C1:Blk w1 w.heap.size #[.int .i64 0,.iface 170 (.pointer (some ⟨b,0,none⟩))] 64:=Blk.bel (by exact KL) hb1;obtain ⟨r2,y2,u2⟩:=C1.facts;clear hb1 C1))
  go_ret
  exact ⟨rfl,HB9.out⟩
 ·obtain ⟨x,y,z,m,c,full,hcs,hc3,hge⟩:=ho.pt
  subst hcs
  clear ho
  subst hge
  have hp:partsG (.mk 1 c (if full then numsOfPl c ⟨x,y,z,m⟩ else []) [])=if full then 1 else 0:=by
   rw [partsG_mk,if_pos (by decide),ct_nat hc3]
   have hw:=wd_bd c
   cases full
   ·simp
   ·simp only [if_true]
    rw [numsOfPl_len,Nat.div_self (by omega)]
  have he:emptyOf (.mk 1 c (if full then numsOfPl c ⟨x,y,z,m⟩ else []) [])=!full:=by
   simp only [emptyOf,emptyAll]
   rw [if_neg (by decide)]
   cases full<;>rfl
  rw [hp]
  rw [he] at HEM
  change Hid (∀ W,Bel w W→Calls Tryz.prog 47 #[.agg #[.int .i64 1,.iface 164 (.pointer (some ⟨b,0,none⟩))]] W _) at HEM
  show Calls Tryz.prog 48 #[.agg #[.int .i64 1,.iface 164 (.pointer (some ⟨b,0,none⟩))]] w _
  clear hp he hc
  cases full
  all_goals
   simp only [Bool.not_true,Bool.not_false] at HEM
   go_enter Tryz.func48,Tryz.ntmps48
   go_wp2_with (first
    | (go_at_call 47;(with_reducible refine (HEM.out _ HB1.out).mono ?_);rintro e w2 ⟨rfl,hb2⟩;have HB2:Hid (Bel w w2):=Lib.hid (HB1.out.trans hb2);clear hb2)
    | (go_at_call 44;(with_reducible refine (HK.out _ _ _).mono ?_);rintro e w1 ⟨rfl,hb1⟩;have HB1:Hid (Bel w w1):=Lib.hid ((show Bel w _ by exact EL).trans hb1);have C1:Blk w1 w.heap.size #[.int .i64 1,.iface 164 (.pointer (some ⟨b,0,none⟩))] 64:=Blk.bel (by exact KL) hb1;obtain ⟨r2,y2,u2⟩:=C1.facts;clear hb1 C1))
   go_ret
   exact ⟨rfl,HB2.out⟩
 ·obtain ⟨c,p,n,cap,xs,hcs,hc3,hge,hf,hm,hb⟩:=ho.ln
  subst hcs
  clear ho
  subst hge
  have hp:partsG (.mk 2 c xs [])=n / wd c:=by
   rw [partsG_mk,if_pos (by decide),ct_nat hc3,hf.len.1]
  have hcap:=hf.len.2
  have HLN:=Lib.hid (fun w=>length_any p n cap c hc3 (by omega) w)
  have HCO:=Lib.hid (lineCoords_any c p n cap)
  rw [hp]
  clear hp hf hm
  generalize n / wd c=q at *
  show Calls Tryz.prog 48 #[.agg #[.int .i64 2,.iface 162 (.pointer (some ⟨b,0,none⟩))]] w _
  have HM:Hid (∀ W,Bel w W→Calls Tryz.prog 67 #[.agg #[.int .i64 2,.iface 162 (.pointer (some ⟨b,0,none⟩))]] W fun e w'=>e=.returned (.agg #[.int .u8 c,.slice p n cap])∧Bel W w'):=Lib.hid fun W hW=>mustAs_2 _ _ _ _ b W (cell_kept hW (hc 0 _ rfl)) (cell_kept hW (hc 1 _ rfl))
  clear hc HEM
  go_enter Tryz.func48,Tryz.ntmps48
  go_wp2_with (first
    | (go_at_call 126;(with_reducible refine (HLN.out _).mono ?_);rintro e w4 ⟨rfl,hb4⟩;have HB9:Hid (Bel w w4):=Lib.hid (HB3.out.trans hb4);clear hb4)
    | (go_at_call 68;(with_reducible refine (HCO.out _).mono ?_);rintro e w3 ⟨rfl,hb3⟩;have HB3:Hid (Bel w w3):=Lib.hid (HB2.out.trans hb3);clear hb3)
    | (go_at_call 67;(with_reducible refine (HM.out _ HB1.out).mono ?_);rintro e w2 ⟨rfl,hb2⟩;have HB2:Hid (Bel w w2):=Lib.hid (HB1.out.trans hb2);clear hb2)
    | (go_at_call 44;(with_reducible refine (HK.out _ _ _).mono ?_);rintro e w1 ⟨rfl,hb1⟩;have HB1:Hid (Bel w w1):=Lib.hid ((show Bel w _ by exact EL).trans hb1);have C1:Blk w1 w.heap.size #[.int .i64 2,.iface 162 (.pointer (some ⟨b,0,none⟩))] 64:=Blk.bel (by exact KL) hb1;obtain ⟨r2,y2,u2⟩:=C1.facts;clear hb1 C1))
  go_ret
  exact ⟨rfl,HB9.out⟩
 ·obtain ⟨p,cap,c,gs,hcs,hc3,hge,hn31,-⟩:=ho.sl (e:=2) (k:=2) rfl
  subst hcs
  have HO:Hid (∀ W,Bel w W→Ob F W 3 [.slice p gs.length cap,.int .u8 c] g):=Lib.hid fun W hW=>ho.bel hW
  clear ho
  subst hge
  have hp:partsG (.mk (3:Nat) c [] gs)=gs.length:=by
   rw [partsG_mk,if_neg (by decide)]
  have HN:Hid (∀ W,Bel w W→Calls Tryz.prog 127 #[.agg #[.slice p gs.length cap,.int .u8 c]] W fun e w'=>e=.returned (.int .i64 gs.length)∧Bel W w'):=Lib.hid fun W hW=>numRings_any (HO.out W hW) W
  rw [hp]
  clear hp HO
  show Calls Tryz.prog 48 #[.agg #[.int .i64 3,.iface 165 (.pointer (some ⟨b,0,none⟩))]] w _
  have HM:Hid (∀ W,Bel w W→Calls Tryz.prog 72 #[.agg #[.int .i64 3,.iface 165 (.pointer (some ⟨b,0,none⟩))]] W fun e w'=>e=.returned (.agg #[.slice p gs.length cap,.int .u8 c])∧Bel W w'):=Lib.hid fun W hW=>mustAs_3 _ _ _ _ b W (cell_kept hW (hc 0 _ rfl)) (cell_kept hW (hc 1 _ rfl))
  clear hc HEM
  generalize gs.length=n at *
  go_enter Tryz.func48,Tryz.ntmps48
  go_wp2_with (first
    | (go_at_call 127;(with_reducible refine (HN.out _ HB2.out).mono ?_);rintro e w4 ⟨rfl,hb4⟩;have HB9:Hid (Bel w w4):=Lib.hid (HB2.out.trans hb4);clear hb4)
    | (go_at_call 72;(with_reducible refine (HM.out _ HB1.out).mono ?_);rintro e w2 ⟨rfl,hb2⟩;have HB2:Hid (Bel w w2):=Lib.hid (HB1.out.trans hb2);clear hb2)
    | (go_at_call 44;(with_reducible refine (HK.out _ _ _).mono ?_);rintro e w1 ⟨rfl,hb1⟩;have HB1:Hid (Bel w w1):=Lib.hid ((show Bel w _ by exact EL).trans hb1);have C1:Blk w1 w.heap.size #[.int .i64 3,.iface 165 (.pointer (some ⟨b,0,none⟩))] 64:=Blk.bel (by exact KL) hb1;obtain ⟨r2,y2,u2⟩:=C1.facts;clear hb1 C1))
  go_ret
  exact ⟨rfl,HB9.out⟩
 ·obtain ⟨p,cap,c,gs,hcs,hc3,hge,hn31,-⟩:=ho.sl (e:=1) (k:=6) rfl
  subst hcs
  have HO:Hid (∀ W,Bel w W→Ob F W 4 [.slice p gs.length cap,.int .u8 c] g):=Lib.hid fun W hW=>ho.bel hW
  clear ho
  subst hge
  have hp:partsG (.mk (4:Nat) c [] gs)=gs.length:=by
   rw [partsG_mk,if_neg (by decide)]
  have HN:Hid (∀ W,Bel w W→Calls Tryz.prog 128 #[.agg #[.slice p gs.length cap,.int .u8 c]] W fun e w'=>e=.returned (.int .i64 gs.length)∧Bel W w'):=Lib.hid fun W hW=>num_4 p gs.length cap c W
  rw [hp]
  clear hp HO
  show Calls Tryz.prog 48 #[.agg #[.int .i64 4,.iface 167 (.pointer (some ⟨b,0,none⟩))]] w _
  have HM:Hid (∀ W,Bel w W→Calls Tryz.prog 76 #[.agg #[.int .i64 4,.iface 167 (.pointer (some ⟨b,0,none⟩))]] W fun e w'=>e=.returned (.agg #[.slice p gs.length cap,.int .u8 c])∧Bel W w'):=Lib.hid fun W hW=>mustAs_4 _ _ _ _ b W (cell_kept hW (hc 0 _ rfl)) (cell_kept hW (hc 1 _ rfl))
  clear hc HEM
  generalize gs.length=n at *
  go_enter Tryz.func48,Tryz.ntmps48
  go_wp2_with (first
    | (go_at_call 128;(with_reducible refine (HN.out _ HB2.out).mono ?_);rintro e w4 ⟨rfl,hb4⟩;have HB9:Hid (Bel w w4):=Lib.hid (HB2.out.trans hb4);clear hb4)
    | (go_at_call 76;(with_reducible refine (HM.out _ HB1.out).mono ?_);rintro e w2 ⟨rfl,hb2⟩;have HB2:Hid (Bel w w2):=Lib.hid (HB1.out.trans hb2);clear hb2)
    | (go_at_call 44;(with_reducible refine (HK.out _ _ _).mono ?_);rintro e w1 ⟨rfl,hb1⟩;have HB1:Hid (Bel w w1):=Lib.hid ((show Bel w _ by exact EL).trans hb1);have C1:Blk w1 w.heap.size #[.int .i64 4,.iface 167 (.pointer (some ⟨b,0,none⟩))] 64:=Blk.bel (by exact KL) hb1;obtain ⟨r2,y2,u2⟩:=C1.facts;clear hb1 C1))
  go_ret
  exact ⟨rfl,HB9.out⟩
 ·obtain ⟨p,cap,c,gs,hcs,hc3,hge,hn31,-⟩:=ho.sl (e:=2) (k:=2) rfl
  subst hcs
  have HO:Hid (∀ W,Bel w W→Ob F W 5 [.slice p gs.length cap,.int .u8 c] g):=Lib.hid fun W hW=>ho.bel hW
  clear ho
  subst hge
  have hp:partsG (.mk (5:Nat) c [] gs)=gs.length:=by
   rw [partsG_mk,if_neg (by decide)]
  have HN:Hid (∀ W,Bel w W→Calls Tryz.prog 129 #[.agg #[.slice p gs.length cap,.int .u8 c]] W fun e w'=>e=.returned (.int .i64 gs.length)∧Bel W w'):=Lib.hid fun W hW=>num_5 p gs.length cap c W
  rw [hp]
  clear hp HO
  show Calls Tryz.prog 48 #[.agg #[.int .i64 5,.iface 168 (.pointer (some ⟨b,0,none⟩))]] w _
  have HM:Hid (∀ W,Bel w W→Calls Tryz.prog 78 #[.agg #[.int .i64 5,.iface 168 (.pointer (some ⟨b,0,none⟩))]] W fun e w'=>e=.returned (.agg #[.slice p gs.length cap,.int .u8 c])∧Bel W w'):=Lib.hid fun W hW=>mustAs_5 _ _ _ _ b W (cell_kept hW (hc 0 _ rfl)) (cell_kept hW (hc 1 _ rfl))
  clear hc HEM
  generalize gs.length=n at *
  go_enter Tryz.func48,Tryz.ntmps48
  go_wp2_with (first
    | (go_at_call 129;(with_reducible refine (HN.out _ HB2.out).mono ?_);rintro e w4 ⟨rfl,hb4⟩;have HB9:Hid (Bel w w4):=Lib.hid (HB2.out.trans hb4);clear hb4)
    | (go_at_call 78;(with_reducible refine (HM.out _ HB1.out).mono ?_);rintro e w2 ⟨rfl,hb2⟩;have HB2:Hid (Bel w w2):=Lib.hid (HB1.out.trans hb2);clear hb2)
    | (go_at_call 44;(with_reducible refine (HK.out _ _ _).mono ?_);rintro e w1 ⟨rfl,hb1⟩;have HB1:Hid (Bel w w1):=Lib.hid ((show Bel w _ by exact EL).trans hb1);have C1:Blk w1 w.heap.size #[.int .i64 5,.iface 168 (.pointer (some ⟨b,0,none⟩))] 64:=Blk.bel (by exact KL) hb1;obtain ⟨r2,y2,u2⟩:=C1.facts;clear hb1 C1))
  go_ret
  exact ⟨rfl,HB9.out⟩
 ·obtain ⟨p,cap,c,gs,hcs,hc3,hge,hn31,-⟩:=ho.sl (e:=3) (k:=2) rfl
  subst hcs
  have HO:Hid (∀ W,Bel w W→Ob F W 6 [.slice p gs.length cap,.int .u8 c] g):=Lib.hid fun W hW=>ho.bel hW
  clear ho
  subst hge
  have hp:partsG (.mk (6:Nat) c [] gs)=gs.length:=by
   rw [partsG_mk,if_neg (by decide)]
  have HN:Hid (∀ W,Bel w W→Calls Tryz.prog 130 #[.agg #[.slice p gs.length cap,.int .u8 c]] W fun e w'=>e=.returned (.int .i64 gs.length)∧Bel W w'):=Lib.hid fun W hW=>num_6 p gs.length cap c W
  rw [hp]
  clear hp HO
  show Calls Tryz.prog 48 #[.agg #[.int .i64 6,.iface 169 (.pointer (some ⟨b,0,none⟩))]] w _
  have HM:Hid (∀ W,Bel w W→Calls Tryz.prog 80 #[.agg #[.int .i64 6,.iface 169 (.pointer (some ⟨b,0,none⟩))]] W fun e w'=>e=.returned (.agg #[.slice p gs.length cap,.int .u8 c])∧Bel W w'):=Lib.hid fun W hW=>mustAs_6 _ _ _ _ b W (cell_kept hW (hc 0 _ rfl)) (cell_kept hW (hc 1 _ rfl))
  clear hc HEM
  generalize gs.length=n at *
  go_enter Tryz.func48,Tryz.ntmps48
  go_wp2_with (first
    | (go_at_call 130;(with_reducible refine (HN.out _ HB2.out).mono ?_);rintro e w4 ⟨rfl,hb4⟩;have HB9:Hid (Bel w w4):=Lib.hid (HB2.out.trans hb4);clear hb4)
    | (go_at_call 80;(with_reducible refine (HM.out _ HB1.out).mono ?_);rintro e w2 ⟨rfl,hb2⟩;have HB2:Hid (Bel w w2):=Lib.hid (HB1.out.trans hb2);clear hb2)
    | (go_at_call 44;(with_reducible refine (HK.out _ _ _).mono ?_);rintro e w1 ⟨rfl,hb1⟩;have HB1:Hid (Bel w w1):=Lib.hid ((show Bel w _ by exact EL).trans hb1);have C1:Blk w1 w.heap.size #[.int .i64 6,.iface 169 (.pointer (some ⟨b,0,none⟩))] 64:=Blk.bel (by exact KL) hb1;obtain ⟨r2,y2,u2⟩:=C1.facts;clear hb1 C1))
  go_ret
  exact ⟨rfl,HB9.out⟩
end Go.Proofs.YtpipehenfcbjbaaGreatDoor
set_option linter.unusedVariables false
set_option linter.unusedSimpArgs false
namespace Go.Proofs.YtpipehenfcbjbaaGreatDoor
open Go.ChangeShapes Go.WideShapes Go.ChangeAt Go.RowKit Ieee
def GeoDim (g:Gm):Prop:=∀ (F:Nat→Prop) (cs:List Value) (w:World),Ob F w 7 cs g→Calls Tryz.prog 46 #[.agg cs.toArray] w fun e w'=>e=.returned (.int .i64 (dimG g))∧Bel w w'
mutual
/-- How many geometries a collection has, those of the collections in it too. -/
def totG:Gm→Nat
 | .mk _ _ _ ks=>totAll ks+ks.length
def totAll:List Gm→Nat
 | []=>0
 | g :: r=>(if g.kind=0 then totG g else 0)+totAll r
end
theorem totAll_take {gs:List Gm} {t:Nat} {g:Gm} (h:gs[t]?=some g):totAll (gs.take (t+1))=totAll (gs.take t)+(if g.kind=0 then totG g else 0):=by
 have key:∀ (l:List Gm) (a:Gm),totAll (l ++ [a])=totAll l+(if a.kind=0 then totG a else 0):=fun l a=>by
  induction l with
  | nil=>simp [totAll]
  | cons x r ih=>simp only [List.cons_append,totAll,ih,Nat.add_assoc]
 rw [List.take_add_one,h]
 exact key _ _
mutual
theorem totG_size:∀ g:Gm,totG g+1≤g.size
 | .mk k d ns ks=>by
  have:=totAll_size ks
  rw [totG,Gm.size]
  omega
theorem totAll_size:∀ l:List Gm,totAll l+l.length≤Gm.sizes l
 | []=>by simp [totAll,Gm.sizes]
 | g :: r=>by
  have h1:=totG_size g
  have h2:=totAll_size r
  rw [totAll,Gm.sizes,List.length_cons]
  split<;>omega
end
theorem totAll_take_le:∀ (l:List Gm) (t:Nat),totAll (l.take t)≤totAll l
 | [],t=>by simp
 | a :: r,0=>by simp [totAll]
 | a :: r,t+1=>by
  have:=totAll_take_le r t
  rw [List.take_succ_cons,totAll,totAll]
  omega
set_option maxHeartbeats 8000000 in
set_option maxRecDepth 100000 in
theorem collDim_any {F:Nat→Prop} {cs:List Value} {g:Gm} (w:World) (h:Ob F w 0 cs g) (hih:∀ k ∈ g.kids,GeoDim k):Calls Tryz.prog 118 #[.agg cs.toArray] w fun e w'=>e=.returned (.int .i64 (dimG g))∧Bel w w':=by
 obtain ⟨p,cap,c,gs,rfl,hc,rfl,hn31,hsl⟩:=h.sl (e:=7) (k:=2) rfl
 have HIH:Hid (∀ k ∈ gs,GeoDim k):=Lib.hid hih
 clear hih
 have he:dimG (.mk (0:Nat) c [] gs)=dimAll gs:=by
  rw [dimG,if_neg (by decide),if_neg (by decide)]
 rw [he]
 clear he
 have HMX:=Lib.hid max_any
 have HSL:=Lib.hid hsl
 clear h hsl
 show Calls Tryz.prog 118 #[.agg #[.slice p gs.length cap,.int .u8 c]] w _
 generalize hn:gs.length=n at *
 have HN:=Lib.hid hn
 clear hn
 go_enter Tryz.func118,Tryz.ntmps118
 go_wp2
 go_loopw [3,9] (fun dv iv wr=>∃ t:Nat,dv=.int .i64 (dimAll (gs.take t))∧iv=.int .i64 t∧t≤n∧Bel w wr∧Blk wr w.heap.size #[.slice p n cap,.int .u8 c] 86) (fun _ iv _=>n - (intOf iv).toNat)
 case atStart=>exact ⟨0,by simp [dimAll],rfl,Nat.zero_le _,by exact EL,by exact KL⟩
 case round =>
  obtain ⟨t,rfl,rfl,ht,hbel,hb0⟩:=hrel
  have HBEL:=Lib.hid hbel
  have HBX:=Lib.hid hb0
  obtain ⟨r9,y9,u9⟩:=hb0.facts
  clear hb0
  by_cases htn:t<n
  ·obtain ⟨g,hg⟩:∃ g,gs[t]?=some g:=⟨_,List.getElem?_eq_getElem (by have:=HN.out;omega)⟩
   obtain ⟨_,_,hve,_,_,hq⟩:=HSL.out
   cases hve
   obtain ⟨b,off,rfl,hlt,-,hr⟩:=hq (by intro e;rw [e] at hg;simp at hg)
   obtain ⟨cl,hcl,hcell,hob⟩:=hr t g hg
   have HC:Hid (∀ W,Bel w W→Calls Tryz.prog 46 #[.agg cl.toArray] W fun e w'=>e=.returned (.int .i64 (dimG g))∧Bel W w'):=Lib.hid fun W hW=>HIH.out g (List.mem_iff_getElem?.2 ⟨t,hg⟩) F _ W (hob.bel hW)
   obtain ⟨s0,b0,cl0,hcs0,hs6,hbl0,hF0,hcl0,hoi⟩:=hob.gi
   cases hcs0
   have D0:=cell_kept hbel (hcell 0 (.int .i64 s0) rfl)
   have D1:=cell_kept hbel (hcell 1 (.iface (ptrT s0) (.pointer (some ⟨b0,0,none⟩))) rfl)
   simp only [Nat.add_zero] at D0
   have E1:=D1
   rw [← Nat.add_assoc] at E1
   have hbl:b<wr.heap.size:=Nat.lt_of_lt_of_le hlt hbel.size
   have HTK:=Lib.hid (dimAll_take hg)
   clear hq hr hcell hob hcl hbel hg hoi hcl0
   generalize ptrT s0=T at *
   generalize dimG g=dg at *
   generalize dimAll (gs.take t)=dt at *
   go_wp2_with (first
    | (go_at_call 46;(with_reducible refine (HC.out _ ?hb).mono ?_);(case hb=>(have HB:=HBEL.out;exact EL));rintro e w3 ⟨rfl,hb3⟩;have HB3:Hid (Bel wr w3):=Lib.hid ((show Bel wr _ by exact EL).trans hb3);have C9:=HBX.out.bel HB3.out;have HX3:=Lib.hid C9;clear hb3 C9)
    | (go_at_call 155;(with_reducible refine (HMX.out _ _ _).mono ?_);rintro e w' ⟨rfl,rfl⟩))
   go_roundw
   case rel=>exact ⟨t+1,by rw [HTK.out],by go_num,by omega,HBEL.out.trans HB3.out,HX3.out⟩
   case measure=>simp [intOf];omega
  ·obtain rfl:t=n:=by omega
   have hx:gs.take t=gs:=List.take_of_length_le (by have:=HN.out;omega)
   have HE:Hid (dimAll (gs.take t)=dimAll gs):=Lib.hid (by rw [hx])
   clear hx hbel
   go_wp2
   go_ret
   exact ⟨by rw [HE.out];rfl,HBEL.out⟩
theorem geoDim_ind:∀ (n:Nat) (g:Gm),g.size≤n→GeoDim g:=by
 intro n
 induction n with
 | zero=>exact fun g h=>absurd h (by have:=g.size_pos;omega)
 | succ n ih =>
  intro g hsz F cs w h
  obtain ⟨s,b,cl,rfl,hs6,hlt,hFb,hc,ho⟩:=h.gi
  clear h
  by_cases h0:s=0
  ·subst h0
   have HO:Hid (∀ W,Bel w W→Ob F W 0 cl g):=Lib.hid fun W hW=>ho.bel hW
   have HIH:Hid (∀ k ∈ g.kids,GeoDim k):=Lib.hid fun k hk=>ih k (by
    have:=g.size_eq
    have:=Gm.size_mem hk
    omega)
   clear ih hsz
   obtain ⟨p,cap,c,gs,hcs,-⟩:=ho.sl (e:=7) (k:=2) rfl
   subst hcs
   clear ho
   show Calls Tryz.prog 46 #[.agg #[.int .i64 0,.iface 170 (.pointer (some ⟨b,0,none⟩))]] w _
   have HM:Hid (∀ W,Bel w W→Calls Tryz.prog 83 #[.agg #[.int .i64 0,.iface 170 (.pointer (some ⟨b,0,none⟩))]] W fun e w'=>e=.returned (.agg #[.slice p gs.length cap,.int .u8 c])∧Bel W w'):=Lib.hid fun W hW=>mustAs_0 _ _ _ _ b W (cell_kept hW (hc 0 _ rfl)) (cell_kept hW (hc 1 _ rfl))
   have HC:Hid (∀ W,Bel w W→Calls Tryz.prog 118 #[.agg #[.slice p gs.length cap,.int .u8 c]] W fun e w'=>e=.returned (.int .i64 (dimG g))∧Bel W w'):=Lib.hid fun W hW=>collDim_any W (HO.out W hW) HIH.out
   clear hc HO HIH
   generalize gs.length=n at *
   generalize dimG g=dg at *
   go_enter Tryz.func46,Tryz.ntmps46
   go_wp2_with (first
    | (go_at_call 83;(with_reducible refine (HM.out _ ?hb).mono ?_);(case hb=>exact EL);rintro e w1 ⟨rfl,hb1⟩;have HB1:Hid (Bel w w1):=Lib.hid ((show Bel w _ by exact EL).trans hb1);clear hb1)
    | (go_at_call 118;(with_reducible refine (HC.out _ HB1.out).mono ?_);rintro e w2 ⟨rfl,hb2⟩;have HB2:Hid (Bel w w2):=Lib.hid (HB1.out.trans hb2);clear hb2))
   go_ret
   exact ⟨rfl,HB2.out⟩
  ·rw [(ho.dimg (by omega) hs6).1]
   exact geoDim_any s (by omega) hs6 _ w
theorem geoDimAll_any (g:Gm):GeoDim g:=geoDim_ind g.size g (Nat.le_refl _)
def TotC (g:Gm):Prop:=∀ (F:Nat→Prop) (cs:List Value) (w:World),Ob F w 0 cs g→g.size≤1048576→Calls Tryz.prog 56 #[.agg cs.toArray] w fun e w'=>e=.returned (.int .i64 (totG g))∧Bel w w'
set_option maxHeartbeats 8000000 in
set_option maxRecDepth 100000 in
theorem totC_step {F:Nat→Prop} {cs:List Value} {g:Gm} (w:World) (h:Ob F w 0 cs g) (hih:∀ k ∈ g.kids,TotC k) (hsz:g.size≤1048576):Calls Tryz.prog 56 #[.agg cs.toArray] w fun e w'=>e=.returned (.int .i64 (totG g))∧Bel w w':=by
 obtain ⟨p,cap,c,gs,rfl,hc,rfl,hn31,hsl⟩:=h.sl (e:=7) (k:=2) rfl
 have HIH:Hid (∀ k ∈ gs,TotC k):=Lib.hid hih
 clear hih
 have hts:=totAll_size gs
 simp only [Gm.size,List.length_nil] at hsz
 have HSZ:Hid (Gm.sizes gs≤1048576):=Lib.hid (by omega)
 have hta:totAll gs≤1048576:=by omega
 have HTA:=Lib.hid hta
 have he:totG (.mk (0:Nat) c [] gs)=totAll gs+gs.length:=by
  rw [totG]
 rw [he]
 clear he hsz hts hta
 have HIC:=Lib.hid isColl_any
 have HNG:=Lib.hid (num_0 p gs.length cap c)
 have HSL:=Lib.hid hsl
 clear h hsl
 show Calls Tryz.prog 56 #[.agg #[.slice p gs.length cap,.int .u8 c]] w _
 generalize hn:gs.length=n at *
 have HN:=Lib.hid hn
 clear hn
 go_enter Tryz.func56,Tryz.ntmps56
 go_wp2
 go_loopw [3,9] (fun dv iv wr=>∃ t:Nat,dv=.int .i64 (totAll (gs.take t):Nat)∧iv=.int .i64 t∧t≤n∧Bel w wr∧Blk wr w.heap.size #[.slice p n cap,.int .u8 c] 86) (fun _ iv _=>n - (intOf iv).toNat)
 case atStart=>exact ⟨0,by simp [totAll],rfl,Nat.zero_le _,by exact EL,by exact KL⟩
 case round =>
  obtain ⟨t,rfl,rfl,ht,hbel,hb0⟩:=hrel
  have HBEL:=Lib.hid hbel
  have HBX:=Lib.hid hb0
  obtain ⟨r9,y9,u9⟩:=hb0.facts
  clear hb0
  by_cases htn:t<n
  ·obtain ⟨g,hg⟩:∃ g,gs[t]?=some g:=⟨_,List.getElem?_eq_getElem (by have:=HN.out;omega)⟩
   obtain ⟨_,_,hve,_,_,hq⟩:=HSL.out
   cases hve
   obtain ⟨b,off,rfl,hlt,-,hr⟩:=hq (by intro e;rw [e] at hg;simp at hg)
   obtain ⟨cl,hcl,hcell,hob⟩:=hr t g hg
   have HOT:Hid (∀ (cl0:List Value) (W:World),Ob F W 0 cl0 g→Calls Tryz.prog 56 #[.agg cl0.toArray] W fun e w'=>e=.returned (.int .i64 (totG g))∧Bel W w'):=Lib.hid fun cl0 W ho=>HIH.out g (List.mem_iff_getElem?.2 ⟨t,hg⟩) F _ W ho (Nat.le_trans (Gm.size_mem (List.mem_iff_getElem?.2 ⟨t,hg⟩)) HSZ.out)
   obtain ⟨s0,b0,cl0,hcs0,hs6,hbl0,hF0,hcl0,hoi⟩:=hob.gi
   cases hcs0
   have D0:=cell_kept hbel (hcell 0 (.int .i64 s0) rfl)
   have D1:=cell_kept hbel (hcell 1 (.iface (ptrT s0) (.pointer (some ⟨b0,0,none⟩))) rfl)
   simp only [Nat.add_zero] at D0
   have E1:=D1
   rw [← Nat.add_assoc] at E1
   have hbl:b<wr.heap.size:=Nat.lt_of_lt_of_le hlt hbel.size
   have HCL:=Lib.hid hcl0
   have HTK:=Lib.hid (totAll_take hg)
   have hdt:totAll (gs.take t)≤1048576:=Nat.le_trans (totAll_take_le _ _) HTA.out
   have HB1:Hid (totAll (gs.take (t+1))≤1048576):=Lib.hid (Nat.le_trans (totAll_take_le _ _) HTA.out)
   clear hq hr hcell hob hcl hbel hg hcl0
   generalize hT:ptrT s0=T at *
   generalize totAll (gs.take t)=dt at *
   by_cases h0:s0=0
   ·subst h0
    have hkind:g.kind=0:=hoi.kind (by decide)
    have HT0:Hid (totAll (gs.take (t+1))=dt+totG g):=Lib.hid (by rw [HTK.out,if_pos hkind])
    obtain ⟨p2,q2,c2,gs2,hcs2,-⟩:=hoi.sl (e:=7) (k:=2) rfl
    subst hcs2
    have HM:Hid (∀ W,Bel w W→Calls Tryz.prog 83 #[.agg #[.int .i64 0,.iface T (.pointer (some ⟨b0,0,none⟩))]] W fun e w'=>e=.returned (.agg #[.slice p2 gs2.length q2,.int .u8 c2])∧Bel W w'):=Lib.hid fun W hW=>by
     rw [← hT]
     exact mustAs_0 _ _ _ _ b0 W (cell_kept hW (HCL.out 0 _ rfl)) (cell_kept hW (HCL.out 1 _ rfl))
    have HC:Hid (∀ W,Bel w W→Calls Tryz.prog 56 #[.agg #[.slice p2 gs2.length q2,.int .u8 c2]] W fun e w'=>e=.returned (.int .i64 (totG g))∧Bel W w'):=Lib.hid fun W hW=>HOT.out _ W (hoi.bel hW)
    clear hkind hoi hT
    generalize gs2.length=n2 at *
    generalize totG g=dg at *
    have hdg:dg≤1048576:=by have:=HB1.out;have:=HT0.out;omega
    go_wp2_with (first
     | (go_at_call 153;(with_reducible refine (HIC.out _ _ _).mono ?_);rintro e w3 ⟨rfl,hb3⟩;have hb4:Bel wr w3:=(show Bel wr _ by exact EL).trans hb3;have HB3:=Lib.hid hb4;have C9:=HBX.out.bel hb4;have HX3:=Lib.hid C9;have C8:Blk w3 wr.heap.size #[.int .i64 0,.iface T (.pointer (some ⟨b0,0,none⟩))] 64:=Blk.bel (by exact KL) hb3;obtain ⟨r8,y8,u8⟩:=C8.facts;clear hb3 hb4 C9 C8)
     | (go_at_call 83;(with_reducible refine (HM.out _ ?hb).mono ?_);(case hb=>exact HBEL.out.trans HB3.out);rintro e w4 ⟨rfl,hb4⟩;have HB4:Hid (Bel wr w4):=Lib.hid (HB3.out.trans hb4);have HX4:=Lib.hid (HX3.out.bel hb4);clear hb4)
     | (go_at_call 56;(with_reducible refine (HC.out _ ?hb2).mono ?_);(case hb2=>exact HBEL.out.trans HB4.out);rintro e w5 ⟨rfl,hb5⟩;have HB5:Hid (Bel wr w5):=Lib.hid (HB4.out.trans hb5);have HX5:=Lib.hid (HX4.out.bel hb5);clear hb5))
    go_roundw
    case rel=>exact ⟨t+1,by (have:=HT0.out;go_num),by go_num,by omega,HBEL.out.trans HB5.out,HX5.out⟩
    case measure=>simp [intOf];omega
   ·have hkind:¬ g.kind=0:=by rw [hoi.kind (by omega)];omega
    have HT0:Hid (totAll (gs.take (t+1))=dt):=Lib.hid (by rw [HTK.out,if_neg hkind,Nat.add_zero])
    have h0b:((s0:Int) == 0)=false:=by simp;omega
    have HIN:Hid (∀ W,Calls Tryz.prog 153 #[.agg #[.int .i64 s0,.iface T (.pointer (some ⟨b0,0,none⟩))]] W fun e w'=>e=.returned (.bool false)∧Bel W w'):=Lib.hid fun W=>by
     have:=HIC.out s0 (.iface T (.pointer (some ⟨b0,0,none⟩))) W
     rw [h0b] at this
     exact this
    clear hkind hoi hT h0b
    go_wp2_with (go_at_call 153;(with_reducible refine (HIN.out _).mono ?_);rintro e w3 ⟨rfl,hb3⟩;have hb4:Bel wr w3:=(show Bel wr _ by exact EL).trans hb3;have HB3:=Lib.hid hb4;have C9:=HBX.out.bel hb4;have HX3:=Lib.hid C9;clear hb3 hb4 C9)
    go_roundw
    case rel=>exact ⟨t+1,by (rw [HT0.out]),by go_num,by omega,HBEL.out.trans HB3.out,HX3.out⟩
    case measure=>simp [intOf];omega
  ·obtain rfl:t=n:=by omega
   have hx:gs.take t=gs:=List.take_of_length_le (by have:=HN.out;omega)
   have HE:Hid (totAll (gs.take t)=totAll gs):=Lib.hid (by rw [hx])
   have hta:=HTA.out
   rw [← HE.out] at hta
   generalize totAll (gs.take t)=dt at *
   have htn31:t≤1048576:=hn31
   clear hx hbel
   go_wp2_with (go_at_call 131;(with_reducible refine (HNG.out _).mono ?_);rintro e w3 ⟨rfl,hb3⟩;have HB3:Hid (Bel wr w3):=Lib.hid hb3;clear hb3)
   go_ret
   exact ⟨by (have:=HE.out;rw [← this];first|rfl|(simp;done)|go_num),HBEL.out.trans HB3.out⟩
theorem totC_ind:∀ (n:Nat) (g:Gm),g.size≤n→TotC g:=by
 intro n
 induction n with
 | zero=>exact fun g h=>absurd h (by have:=g.size_pos;omega)
 | succ n ih =>
  intro g hsz F cs w h hb
  exact totC_step w h (fun k hk=>ih k (by
   have:=g.size_eq
   have:=Gm.size_mem hk
   omega)) hb
theorem totC_any (g:Gm):TotC g:=totC_ind g.size g (Nat.le_refl _)
end Go.Proofs.YtpipehenfcbjbaaGreatDoor
namespace Go.Proofs.YtpipehenfcbjbaaGreatDoor
open Ieee
set_option exponentiation.threshold 3000
/-- z * 2^e. -/
def dy (z e:Int):Rat:=(z:Rat)*(2:Rat) ^ e
theorem Is.quoPow {x y:Nat} {p:Rat} {k:Int} (hx:Is x p) (hy:double.read y=.number false (2 ^ 52) k):∃ r,floatBits .quo .f64 x y=some r∧Rn (p*(2:Rat) ^ (-(k+52))) r:=by
 obtain ⟨s,m,i,h1,rfl⟩:=hx
 show ∃ r,double.div x y=some r∧_
 unfold Format.div
 rw [h1,hy]
 have hm:m<2 ^ 53:=by
  have e1:double.signWeight=2 ^ 63:=by decide
  have e2:double.infRung=2047*2 ^ 52:=by decide
  have e3:double.binade=2 ^ 52:=by decide
  unfold Format.read at h1
  simp only [e1,e2,e3] at h1
  split at h1
  ·cases h1;omega
  ·split at h1
   ·cases h1
    have:=Nat.mod_lt (x % 2 ^ 63) (show 0<2 ^ 52 by decide)
    omega
   ·split at h1<;>cases h1
 have hlog:m.log2≤53:=by
  by_cases h0:m=0
  ·subst h0;decide
  ·have:=(log2_bounds h0).1
   rcases Nat.lt_or_ge 53 m.log2 with c|c
   ·have:2 ^ 54≤2 ^ m.log2:=Nat.pow_le_pow_right (by decide) c
    omega
   ·exact c
 have h52:(2 ^ 52:Nat).log2=52:=by decide
 simp only [Datum.quotient,h52,Option.map_some,show (2 ^ 52:Nat) ≠ 0 by decide,if_false]
 have hmore:double.fractionBits+2+52 - m.log2=52+(54 - m.log2):=by
  show 52+2+52 - m.log2=_
  omega
 rw [hmore]
 generalize 54 - m.log2=u at *
 have hd:m <<< (52+u)=(m*2 ^ u)*2 ^ 52:=by rw [Nat.shiftLeft_eq,Nat.pow_add];grind
 have hdiv:m <<< (52+u) / 2 ^ 52=m*2 ^ u:=by rw [hd,Nat.mul_div_cancel _ (by decide)]
 have hmod:m <<< (52+u) % 2 ^ 52=0:=by rw [hd,Nat.mul_mod_left]
 rw [hdiv,hmod]
 refine ⟨_,rfl,?_⟩
 refine ⟨s ^^ false,2*(m*2 ^ u),_,rfl,?_⟩
 have hx:(s ^^ false)=s:=by cases s<;>rfl
 rw [hx,mant_val,mant_val]
 have e1:((2*(m*2 ^ u):Nat):Rat)*(2:Rat) ^ (i - k - ((52+u:Nat):Int) - 1)=(m:Rat)*(2:Rat) ^ i*(2:Rat) ^ (-(k+52)):=by
  have e2:((2*(m*2 ^ u):Nat):Rat)=(m:Rat)*(2:Rat) ^ ((u+1:Nat):Int):=by
   rw [zpow_nat2,← Rat.natCast_mul]
   congr 1
   rw [Nat.pow_succ]
   grind
  rw [e2,Rat.mul_assoc,Rat.mul_assoc,← zpow_add2,← zpow_add2]
  congr 2
  omega
 have e3:(0 != 0)=false:=rfl
 cases s
 ·simp only [Bool.false_eq_true,if_false]
  exact e1
 ·simp only [if_true]
  have:-((2*(m*2 ^ u):Nat):Rat)*(2:Rat) ^ (i - k - ((52+u:Nat):Int) - 1)=-((m:Rat)*(2:Rat) ^ i*(2:Rat) ^ (-(k+52))):=by rw [← e1];grind
  grind

end Go.Proofs.YtpipehenfcbjbaaGreatDoor
set_option linter.unusedVariables false
set_option linter.unusedSimpArgs false
namespace Go.Proofs.YtpipehenfcbjbaaGreatDoor
open Go.ChangeShapes Go.WideShapes Go.ChangeAt Go.RowKit Ieee
/-- What an operation on any floats gives, and how many draws it takes. -/
def fR (op:BinOp) (x y:Nat) (w:World):Nat:=match floatBits op .f64 x y with
 | some r=>r
 | none=>nanAt w x y
def fK (op:BinOp) (x y:Nat):Nat:=match floatBits op .f64 x y with
 | some _=>0
 | none=>1
theorem run_float_any (P:Program) (op:BinOp) (t:TypeId) (hop:op=.add∨op=.sub∨op=.mul∨op=.quo) (x y:Nat) (w:World):(binOp op t (.float .f64 x) (.float .f64 y)).run P w=.ok (.float .f64 (fR op x y w)) (w.drewN (fK op x y)):=by
 unfold fR fK
 cases h:floatBits op .f64 x y with
 | none=>exact run_float_nan op t x y hop h w
 | some r=>exact run_float_arith w op t .f64 x y r h
theorem fR_some {op:BinOp} {x y r:Nat} (h:floatBits op .f64 x y=some r) (w:World):fR op x y w=r:=by
 unfold fR
 rw [h]
/-- The places of a ring, as whole numbers. -/
def WholeAt (c:Nat) (xs:List Nat) (q:Nat) (Z:Nat→Int × Int):Prop:=∀ i,i<q→Is (xs.getD (i*wd c) 0) ((Z i).1:Rat)∧Is (xs.getD (i*wd c+1) 0) ((Z i).2:Rat)∧(-1048576≤(Z i).1∧(Z i).1≤1048576)∧(-1048576≤(Z i).2∧(Z i).2≤1048576)
/-- Twice the signed area, as the program sums it up. -/
def shoe (Z:Nat→Int × Int):Nat→Int
 | 0=>0
 | k+1=>shoe Z k+((Z (k+1)).1+(Z k).1)*((Z (k+1)).2 - (Z k).2)
theorem term_bd {a b c d:Int} (ha:-1048576≤a∧a≤1048576) (hb:-1048576≤b∧b≤1048576) (hc:-1048576≤c∧c≤1048576) (hd:-1048576≤d∧d≤1048576):((a+b)*(c - d)).natAbs≤4398046511104:=by
 rw [Int.natAbs_mul]
 have h1:(a+b).natAbs≤2097152:=by omega
 have h2:(c - d).natAbs≤2097152:=by omega
 exact Nat.le_trans (Nat.mul_le_mul h1 h2) (by decide)
theorem shoe_bd {c:Nat} {xs:List Nat} {q:Nat} {Z:Nat→Int × Int} (h:WholeAt c xs q Z):∀ k,k<q→(shoe Z k).natAbs≤k*4398046511104
 | 0,_=>by simp [shoe]
 | k+1,hk=>by
  have h1:=shoe_bd h k (by omega)
  obtain ⟨-,-,a1,a2⟩:=h (k+1) hk
  obtain ⟨-,-,b1,b2⟩:=h k (by omega)
  have h2:=term_bd a1 b1 a2 b2
  rw [shoe]
  omega
set_option maxRecDepth 100000 in
theorem nth_any (F:Nat→Prop) (p:Option Addr) (n cap c i:Nat) (xs:List Nat) (hc:c≤3) (w:World) (h:FlSl F w (.slice p n cap) xs) (hi:i*wd c+1<n) (h31:n≤2147483647) (x y:Nat) (hx:xs[i*wd c]?=some x) (hy:xs[i*wd c+1]?=some y) (S T:Nat)
  (hS:Blk w S #[.int .u8 c,.slice p n cap] 109) (hT:w.cell? ⟨T,0,none⟩=some .nilFunc):Calls Tryz.prog 208 #[.int .i64 i,.pointer (some ⟨S,0,none⟩),.pointer (some ⟨T,0,none⟩)] w fun e w'=>e=.returned (.agg #[.float .f64 x,.float .f64 y])∧Bel w w':=by
 have HG:Hid (∀ W,Bel w W→Calls Tryz.prog 207 #[.agg #[.int .u8 c,.slice p n cap],.int .i64 i] W fun e w'=>e=.returned (.agg #[.float .f64 x,.float .f64 y])∧Bel W w'):=Lib.hid fun W hW=>getXY_any F p n cap c i xs hc W (h.bel hW) hi h31 x y hx hy
 obtain ⟨r0,y0,u0⟩:=hS.facts
 have HT:Hid (w.cell? ⟨T,0,none⟩=some .nilFunc):=Lib.hid hT
 have hTl:T<w.heap.size:=World.block_lt_of_cell? w ⟨T,0,none⟩ hT
 have hnf:∀ (w:World),Sem.run Tryz.prog (binOp BinOp.neq 197 .nilFunc .nilFunc) w=.ok (.bool false) w:=fun _=>by kernel_rfl
 clear h hS hx hy hi h31
 go_enter Tryz.func208,Tryz.ntmps208
 go_wp2_with (go_at_call 207;(with_reducible refine (HG.out _ ?hb).mono ?_);(case hb=>exact EL);rintro e w1 ⟨rfl,hb1⟩;have hbw:Bel w w1:=(show Bel w _ by exact EL).trans hb1;have HB1:=Lib.hid hbw;have D1:=cell_kept hbw HT.out;have hTl1:T<w1.heap.size:=Nat.lt_of_lt_of_le hTl hbw.size;have C1:Blk w1 w.heap.size #[.float .f64 0,.float .f64 0] 79:=Blk.bel (by exact KL) hb1;have HC1:=Lib.hid C1;obtain ⟨r1,y1,u1⟩:=C1.facts;clear hb1 hbw C1)
 refine post_ret (results_one rfl (resIs_agg (n:=2) (cs:=#[.float .f64 x,.float .f64 y]) (by rfl) Tryz.underlying79 (by kernel_rfl) (T:=79) ?_ rfl)) ⟨rfl,?_⟩
 ·have HB:=HC1.out
  exact SL
 ·have HB:=HB1.out
  exact EL
def IsArea (c:Nat) (xs:List Nat) (q:Nat) (w:World) (e:Ending) (w':World):Prop:=∃ r,e=.returned (.float .f64 r)∧(∀ Z,q≤1024→WholeAt c xs q Z→Is r (dy (shoe Z (q - 1)) (-1)))∧Bel w w'
def SumIs (c:Nat) (xs:List Nat) (q k s:Nat):Prop:=∀ Z,q≤1024→WholeAt c xs q Z→Is s (shoe Z k:Rat)
theorem SumIs.zero (c:Nat) (xs:List Nat) (q:Nat):SumIs c xs q 0 0:=fun _ _ _=>Is.zero
theorem SumIs.step {c:Nat} {xs:List Nat} {q k s x1 y1 x0 y0:Nat} (h:SumIs c xs q k s) (hk:k+1<q) (hx1:xs.getD ((k+1)*wd c) 0=x1) (hy1:xs.getD ((k+1)*wd c+1) 0=y1) (hx0:xs.getD (k*wd c) 0=x0) (hy0:xs.getD (k*wd c+1) 0=y0) (w1 w2 w3 w4:World) :
  SumIs c xs q (k+1) (fR .add s (fR .mul (fR .add x1 x0 w1) (fR .sub y1 y0 w2) w3) w4):=fun Z hq hZ=>by
 obtain ⟨a1,a2,a3,a4⟩:=hZ (k+1) hk
 obtain ⟨b1,b2,b3,b4⟩:=hZ k (by omega)
 rw [hx1] at a1
 rw [hy1] at a2
 rw [hx0] at b1
 rw [hy0] at b2
 have h0:=h Z hq hZ
 have hb:=shoe_bd hZ k (by omega)
 have ht:=term_bd a3 b3 a4 b4
 obtain ⟨e1,i1⟩:=a1.fadd b1 (by omega)
 obtain ⟨e2,i2⟩:=a2.fsub b2 (by omega)
 obtain ⟨e3,i3⟩:=i1.fmul i2 (by omega)
 obtain ⟨e4,i4⟩:=h0.fadd i3 (by omega)
 rw [fR_some e1,fR_some e2,fR_some e3,fR_some e4]
 exact i4
theorem SumIs.half {c:Nat} {xs:List Nat} {q k s:Nat} (h:SumIs c xs q k s) (hk:k+1=q) (w:World):∀ Z,q≤1024→WholeAt c xs q Z→Is (fR .quo s 4611686018427387904 w) (dy (shoe Z (q - 1)) (-1)):=fun Z hq hZ=>by
 have h0:=h Z hq hZ
 have hb:=shoe_bd hZ k (by omega)
 obtain ⟨r,e,hn⟩:=h0.quoPow (k:=-51) (y:=4611686018427387904) (by decide)
 rw [fR_some e]
 subst hk
 rw [Nat.add_sub_cancel]
 exact hn.exact (shoe Z k) (-1) (by omega) (by decide) (by decide) rfl
set_option maxHeartbeats 8000000 in
set_option maxRecDepth 100000 in
theorem sgArea_any {F:Nat→Prop} {cs:List Value} {g:Gm} {w0:World} (h:Ob F w0 2 cs g) (w:World) (hw:Bel w0 w):Calls Tryz.prog 186 #[.agg cs.toArray,.nilFunc] w (IsArea (ct g.dim) g.nums (partsG g) w):=by
 obtain ⟨c,p,n,cap,xs,rfl,hc,rfl,hf,hm,hb⟩:=h.ln
 have hp:partsG (.mk 2 c xs [])=n / wd c:=by
  rw [partsG_mk,if_pos (by decide),ct_nat hc,hf.len.1]
 have hct:ct (Gm.mk 2 (c:Int) xs []).dim=c:=ct_nat hc
 rw [hp,hct]
 show Calls Tryz.prog 186 #[.agg #[.int .u8 c,.slice p n cap],.nilFunc] w (IsArea c xs (n / wd c) w)
 clear hp hct
 have hlen:=hf.len.1
 have hcap:=hf.len.2
 have hD:=wd_bd c
 have HCO:=Lib.hid (lineCoords_any c p n cap)
 obtain ⟨q,hq⟩:∃ q,n=q*wd c:=⟨n / wd c,(Nat.div_mul_cancel (Nat.dvd_of_mod_eq_zero hm)).symm⟩
 have hq1:n / wd c=q:=by
  rw [hq]
  exact Nat.mul_div_cancel _ (by omega)
 have HL:=Lib.hid (fun w=>length_any p n cap c hc (by omega) w)
 have hmf:∀ (fn:Fn) (first cap:Array Value) (w:World),(Instr.makeFunc fn first cap).run Tryz.prog w=.ok (.func fn first cap) w:=fun _ _ _ _=>rfl
 rw [hq1] at HL hb ⊢
 by_cases h0:q=0
 ·subst h0
  have HR:Hid (∀ Z,0≤1024→WholeAt c xs 0 Z→Is 0 (dy (shoe Z (0 - 1)) (-1))):=Lib.hid fun Z _ _=>by
   have:dy (shoe Z (0 - 1)) (-1)=((0:Int):Rat):=by
    simp [dy,shoe]
   rw [this]
   exact Is.zero
  clear h hf hm hb hq hq1 hlen hcap hD hw
  go_enter Tryz.func186,Tryz.ntmps186
  go_wp2_with (first
   | (go_at_call 126;(with_reducible refine (HL.out _).mono ?_);rintro e w2 ⟨rfl,hb2⟩;have HB2:Hid (Bel w w2):=Lib.hid ((show Bel w _ by (have HB:=HB1.out;exact EL)).trans hb2);clear hb2)
   | (go_at_call 68;(with_reducible refine (HCO.out _).mono ?_);rintro e w1 ⟨rfl,hb1⟩;have HB1:Hid (Bel w w1):=Lib.hid ((show Bel w _ by exact EL).trans hb1);clear hb1))
  go_ret
  exact ⟨0,rfl,HR.out,HB2.out⟩
 ·have hq0:0<q:=by omega
  have hn4:n≤4194304:=by
   have h1:q*wd c≤1048576*4:=Nat.mul_le_mul hb hD.2
   omega
  have hNTH:Hid (∀ (i S T:Nat) (W:World),i<q→Bel w W→Blk W S #[.int .u8 c,.slice p n cap] 109→Blk W T #[.nilFunc] 197→Calls Tryz.prog 208 #[.int .i64 i,.pointer (some ⟨S,0,none⟩),.pointer (some ⟨T,0,none⟩)] W fun e w'=>e=.returned (.agg #[.float .f64 (xs.getD (i*wd c) 0),.float .f64 (xs.getD (i*wd c+1) 0)])∧Bel W w'):=Lib.hid fun i S T W hi hW hS hT=>by
   have hK1:i*wd c+wd c≤n:=by
    rw [hq,← Nat.succ_mul]
    exact Nat.mul_le_mul_right _ (by omega)
   exact nth_any F p n cap c i xs hc W ((hf.bel hw).bel hW) (by omega) (by omega) _ _ (by rw [List.getD,List.getElem?_eq_getElem (by omega)];rfl) (by rw [List.getD,List.getElem?_eq_getElem (by omega)];rfl) S T hS (by rw [hT.rules.1];rfl)
  have HN0:Hid (∀ (S T:Nat) (W:World),Bel w W→Blk W S #[.int .u8 c,.slice p n cap] 109→Blk W T #[.nilFunc] 197→Calls Tryz.prog 208 #[.int .i64 0,.pointer (some ⟨S,0,none⟩),.pointer (some ⟨T,0,none⟩)] W fun e w'=>e=.returned (.agg #[.float .f64 (xs.getD 0 0),.float .f64 (xs.getD 1 0)])∧Bel W w'):=Lib.hid fun S T W hW hS hT=>by
   have:=hNTH.out 0 S T W hq0 hW hS hT
   rw [Nat.zero_mul,Nat.zero_add] at this
   exact this
  have HST:Hid (∀ (k s:Nat) (w1 w2 w3 w4:World),k+1<q→SumIs c xs q k s→SumIs c xs q (k+1) (fR .add s (fR .mul (fR .add (xs.getD ((k+1)*wd c) 0) (xs.getD (k*wd c) 0) w1) (fR .sub (xs.getD ((k+1)*wd c+1) 0) (xs.getD (k*wd c+1) 0) w2) w3) w4)):=Lib.hid fun k s w1 w2 w3 w4 hk hs=>hs.step hk rfl rfl rfl rfl w1 w2 w3 w4
  have hadd:∀ (x y:Nat) (w:World),Sem.run Tryz.prog (binOp BinOp.add 27 (.float .f64 x) (.float .f64 y)) w=.ok (.float .f64 (fR .add x y w)) (w.drewN (fK .add x y)):=fun x y w=>run_float_any _ .add _ (by simp) x y w
  have hsub:∀ (x y:Nat) (w:World),Sem.run Tryz.prog (binOp BinOp.sub 27 (.float .f64 x) (.float .f64 y)) w=.ok (.float .f64 (fR .sub x y w)) (w.drewN (fK .sub x y)):=fun x y w=>run_float_any _ .sub _ (by simp) x y w
  have hmul:∀ (x y:Nat) (w:World),Sem.run Tryz.prog (binOp BinOp.mul 27 (.float .f64 x) (.float .f64 y)) w=.ok (.float .f64 (fR .mul x y w)) (w.drewN (fK .mul x y)):=fun x y w=>run_float_any _ .mul _ (by simp) x y w
  have hquo:∀ (x y:Nat) (w:World),Sem.run Tryz.prog (binOp BinOp.quo 27 (.float .f64 x) (.float .f64 y)) w=.ok (.float .f64 (fR .quo x y w)) (w.drewN (fK .quo x y)):=fun x y w=>run_float_any _ .quo _ (by simp) x y w
  have HQB:=Lib.hid hb
  have HQ0:=Lib.hid hq0
  have hne:((q:Int) == 0)=false:=by simp;omega
  clear h hf hm hb hq hq1 hlen hcap hD hw hn4 h0 hq0
  obtain ⟨X,hX⟩:∃ X:Nat→Nat,∀ k,xs.getD (k*wd c) 0=X k:=⟨fun k=>xs.getD (k*wd c) 0,fun _=>rfl⟩
  obtain ⟨Y,hY⟩:∃ Y:Nat→Nat,∀ k,xs.getD (k*wd c+1) 0=Y k:=⟨fun k=>xs.getD (k*wd c+1) 0,fun _=>rfl⟩
  have hX0:xs.getD 0 0=X 0:=by rw [← hX,Nat.zero_mul]
  have hY0:xs.getD 1 0=Y 0:=by rw [← hY,Nat.zero_mul]
  simp only [hX,hY] at hNTH HST
  rw [hX0,hY0] at HN0
  clear hX hY hX0 hY0
  go_enter Tryz.func186,Tryz.ntmps186
  go_wp2_with (first
   | (go_at_call 208;(with_reducible refine (HN0.out _ _ _ ?hb ?hs ?ht).mono ?_);(case hb=>exact HB2.out);(case hs=>exact HS2.out);(case ht=>exact HT2.out);rintro e w3 ⟨rfl,hb3⟩;have HB3:Hid (Bel w w3):=Lib.hid (HB2.out.trans hb3);have HS3:=Lib.hid (HS2.out.bel hb3);have HT3:=Lib.hid (HT2.out.bel hb3);clear hb3)
   | (go_at_call 126;(with_reducible refine (HL.out _).mono ?_);rintro e w2 ⟨rfl,hb2⟩;have HB2:Hid (Bel w w2):=Lib.hid ((show Bel w _ by (have HB:=HB1.out;exact EL)).trans hb2);have HT2:=Lib.hid (HT1.out.alloc (.cells #[.int .u8 c,.slice p n cap] 109) |>.bel hb2);have HS2:=Lib.hid ((Blk.new w1 #[.int .u8 c,.slice p n cap] 109).bel hb2);clear hb2)
   | (go_at_call 68;(with_reducible refine (HCO.out _).mono ?_);rintro e w1 ⟨rfl,hb1⟩;have HB1:Hid (Bel w w1):=Lib.hid ((show Bel w _ by exact EL).trans hb1);have C1:Blk w1 (w.heap.size+1) #[.nilFunc] 197:=Blk.bel (by exact KL) hb1;have HT1:=Lib.hid C1;clear hb1 C1))
  have hwq:w.heap.size≤w1.heap.size:=HB1.out.size
  generalize hSE:w1.heap.size=SE at *
  have HSE:Hid (w.heap.size≤SE∧SE<w3.heap.size):=Lib.hid ⟨hwq,HS3.out.facts.2.2⟩
  clear hwq hSE
  go_loopw [5,10] (fun sv iv wr=>∃ (k s:Nat),sv=.float .f64 s∧iv=.int .i64 k∧k+1≤q∧Bel w wr∧w3.heap.size+1≤wr.heap.size∧Blk wr w3.heap.size #[.float .f64 (X k),.float .f64 (Y k)] 79∧Blk wr SE #[.int .u8 c,.slice p n cap] 109∧Blk wr (w.heap.size+1) #[.nilFunc] 197∧SumIs c xs q k s) (fun _ iv _=>q - (intOf iv).toNat)
  case atStart=>exact ⟨0,0,rfl,rfl,HQ0.out,by have HB:=HB3.out;exact EL,by simp,by exact KL,by have HB:=HS3.out;exact KL,by have HB:=HT3.out;exact KL,SumIs.zero _ _ _⟩
  case round =>
   obtain ⟨k,s,rfl,rfl,hk,hbel,hgr,hbp,hbs,hbt,hsum⟩:=hrel
   have HBEL:=Lib.hid hbel
   have HGR:=Lib.hid hgr
   have HG1:=Lib.hid hbp
   have HG2:=Lib.hid hbs
   have HG3:=Lib.hid hbt
   have HSUM:=Lib.hid hsum
   obtain ⟨q1,v1,t1⟩:=hbp.facts
   have hqb:q≤1048576:=HQB.out
   clear hbel hgr hbp hbs hbt hsum
   by_cases hkq:k+1<q
   ·have HN1:Hid (∀ (S T:Nat) (W:World),Bel w W→Blk W S #[.int .u8 c,.slice p n cap] 109→Blk W T #[.nilFunc] 197→Calls Tryz.prog 208 #[.int .i64 ((k:Int)+1),.pointer (some ⟨S,0,none⟩),.pointer (some ⟨T,0,none⟩)] W fun e w'=>e=.returned (.agg #[.float .f64 (X (k+1)),.float .f64 (Y (k+1))])∧Bel W w'):=Lib.hid fun S T W hW hS hT=>hNTH.out (k+1) S T W hkq hW hS hT
    have HS1:=Lib.hid fun w1 w2 w3 w4=>HST.out k s w1 w2 w3 w4 hkq HSUM.out
    generalize hx1:X (k+1)=x1 at *
    have HX1:=Lib.hid hx1
    generalize hy1:Y (k+1)=y1 at *
    have HY1:=Lib.hid hy1
    clear hx1 hy1
    go_wp2_with (go_at_call 208;(with_reducible refine (HN1.out _ _ _ ?hb ?hs ?ht).mono ?_);(case hb=>(have HB:=HBEL.out;exact EL));(case hs=>(have HB:=HG2.out;exact KL));(case ht=>(have HB:=HG3.out;exact KL));rintro e w4 ⟨rfl,hb4⟩;have hb5:Bel wr w4:=(show Bel wr _ by exact EL).trans hb4;have HB5:=Lib.hid hb5;have C1:=HG1.out.bel hb5;have HC1:=Lib.hid C1;have HC2:=Lib.hid (HG2.out.bel hb5);have HC3:=Lib.hid (HG3.out.bel hb5);have C4:Blk w4 wr.heap.size #[.float .f64 (X k),.float .f64 (Y k)] 79:=Blk.bel (by exact KL) hb4;obtain ⟨q2,v2,t2⟩:=C1.facts;obtain ⟨q3,v3,t3⟩:=C4.facts;have hne2:wr.heap.size ≠ w3.heap.size:=(by have:=HGR.out;omega);clear hb4 hb5 C1 C4)
    go_roundw
    case rel =>
     refine ⟨k+1,_,rfl,by go_num,by omega,?_,?_,?_,?_,?_,HS1.out _ _ _ _⟩
     ·have HB:=HBEL.out.trans HB5.out
      have hz:=HB3.out.size
      exact EL
     ·have h1:=HGR.out
      have h2:=HB5.out.size
      simp
      omega
     ·rw [HX1.out,HY1.out]
      have HB:=HC1.out
      exact SL
     ·have hz:=HSE.out
      have HB:=HC2.out
      exact SL
     ·have hz:=HT3.out.facts.2.2
      have HB:=HC3.out
      exact SL
    case measure=>simp [intOf];omega
   ·obtain rfl:k+1=q:=by omega
    go_wp2
    go_ret
    refine ⟨_,rfl,SumIs.half HSUM.out rfl _,?_⟩
    have HB:=HBEL.out
    exact EL
end Go.Proofs.YtpipehenfcbjbaaGreatDoor
set_option linter.unusedVariables false
set_option linter.unusedSimpArgs false
namespace Go.Proofs.YtpipehenfcbjbaaGreatDoor
open Go.ChangeShapes Go.WideShapes Go.ChangeAt Go.RowKit Ieee
open Classical in
/-- The whole number that a word stands for. -/
noncomputable def intW (x:Nat):Int:=if h:∃ z:Int,Is x (z:Rat) then Classical.choose h else 0
/-- The places of numbers, as whole numbers. -/
noncomputable def zOf (c:Nat) (xs:List Nat) (i:Nat):Int × Int:=(intW (xs.getD (i*wd c) 0),intW (xs.getD (i*wd c+1) 0))
mutual
/-- All coordinates are whole and small, and no leaf is long. -/
def WholeG:Gm→Prop
 | .mk _ d ns ks=>(WholeAt (ct d) ns (ns.length / wd (ct d)) (zOf (ct d) ns)∧ns.length / wd (ct d)≤1024)∧WholeGs ks
def WholeGs:List Gm→Prop
 | []=>True
 | g :: r=>WholeG g∧WholeGs r
end
theorem WholeGs.mem:∀ {l:List Gm} {g:Gm},WholeGs l→g ∈ l→WholeG g
 | [],g,_,h=>by simp at h
 | a :: r,g,h,hm=>by
  rw [WholeGs] at h
  rcases List.mem_cons.1 hm with rfl|k
  ·exact h.1
  ·exact h.2.mem k
/-- Twice the area of a ring. -/
noncomputable def areaL (g:Gm):Int:=shoe (zOf (ct g.dim) g.nums) (g.nums.length / wd (ct g.dim) - 1)
noncomputable def cwRings (f:Int→Bool):Bool→List Gm→Bool
 | _,[]=>true
 | b,r :: rs=>(b == f (areaL r)) && cwRings f false rs
mutual
/-- Polygons' first rings are as f says, their others are not. -/
noncomputable def cwG (f:Int→Bool):Gm→Bool
 | .mk k _ _ ks=>if k=3 then cwRings f true ks else cwAll f ks
noncomputable def cwAll (f:Int→Bool):List Gm→Bool
 | []=>true
 | g :: r=>cwG f g && cwAll f r
end
theorem cwRings_take {f:Int→Bool}:∀ {b:Bool} {gs:List Gm} {t:Nat} {g:Gm},gs[t]?=some g→cwRings f b (gs.take (t+1))=(cwRings f b (gs.take t) && ((b && t == 0) == f (areaL g)))
 | b,[],t,g,h=>by simp at h
 | b,a :: r,0,g,h=>by
  simp at h
  subst h
  simp [cwRings]
 | b,a :: r,t+1,g,h=>by
  have:=cwRings_take (f:=f) (b:=false) (gs:=r) (t:=t) (g:=g) (by simpa using h)
  rw [List.take_succ_cons,List.take_succ_cons,cwRings,cwRings,this,Bool.and_assoc]
  simp
theorem cwRings_not {f:Int→Bool}:∀ {b:Bool} {gs:List Gm} {t:Nat},cwRings f b (gs.take t)=false→cwRings f b gs=false
 | b,[],t,h=>by simpa using h
 | b,a :: r,0,h=>by simp [cwRings] at h
 | b,a :: r,t+1,h=>by
  rw [List.take_succ_cons,cwRings] at h
  rw [cwRings]
  rcases Bool.and_eq_false_iff.1 h with q|q
  ·rw [q];rfl
  ·rw [cwRings_not q,Bool.and_false]
theorem cwAll_take {f:Int→Bool} {gs:List Gm} {t:Nat} {g:Gm} (h:gs[t]?=some g):cwAll f (gs.take (t+1))=(cwAll f (gs.take t) && cwG f g):=by
 have key:∀ (l:List Gm) (a:Gm),cwAll f (l ++ [a])=(cwAll f l && cwG f a):=fun l a=>by
  induction l with
  | nil=>simp [cwAll]
  | cons x r ih=>simp only [List.cons_append,cwAll,ih,Bool.and_assoc]
 rw [List.take_add_one,h]
 exact key _ _
theorem cwAll_not {f:Int→Bool}:∀ {gs:List Gm} {t:Nat},cwAll f (gs.take t)=false→cwAll f gs=false
 | [],t,h=>by simpa using h
 | a :: r,0,h=>by simp [cwAll] at h
 | a :: r,t+1,h=>by
  rw [List.take_succ_cons,cwAll] at h
  rw [cwAll]
  rcases Bool.and_eq_false_iff.1 h with q|q
  ·rw [q];rfl
  ·rw [cwAll_not q,Bool.and_false]
/-- A bool comes back; it is b where W holds. -/
def IsCw (W:Prop) (b:Bool) (w:World) (e:Ending) (w':World):Prop:=∃ r:Bool,e=.returned (.bool r)∧(W→r=b)∧Bel w w'
def ltZ (a:Int):Bool:=decide (a<0)
def gtZ (a:Int):Bool:=decide (0<a)
theorem half_sign (a:Int):cmpQ (dy a (-1)) ((0:Int):Rat)=oI a 0:=by
 have h1:dy a (-1)=(a:Rat)*(1 / 2:Rat):=by
  unfold dy
  congr 1
  decide +kernel
 have hp:(0:Rat)<1 / 2:=by decide +kernel
 rw [h1]
 unfold cmpQ oI
 rcases Int.lt_trichotomy a 0 with h|h|h
 ·have h2:(a:Rat)<0:=by exact_mod_cast h
  have h3:(a:Rat)*(1 / 2:Rat)<((0:Int):Rat):=by
   have:(a:Rat)*(1 / 2:Rat)<0*(1 / 2:Rat):=Rat.mul_lt_mul_of_pos_right h2 hp
   simpa using this
  rw [if_pos h3,if_pos h]
 ·subst h
  simp
 ·have h2:(0:Rat)<(a:Rat):=by exact_mod_cast h
  have h3:((0:Int):Rat)<(a:Rat)*(1 / 2:Rat):=by
   have:0*(1 / 2:Rat)<(a:Rat)*(1 / 2:Rat):=Rat.mul_lt_mul_of_pos_right h2 hp
   simpa using this
  rw [if_neg (by grind),if_neg (by grind),if_neg (by omega),if_neg (by omega)]
theorem area_lt {x:Nat} {a:Int} (h:Is x (dy a (-1))):(FloatKind.f64.format.order x 0 == some .lt)=ltZ a∧(FloatKind.f64.format.order x 0 == some .gt)=gtZ a:=by
 have h1:FloatKind.f64.format.order x 0=some (cmpQ (dy a (-1)) ((0:Int):Rat)):=h.order Is.zero
 rw [h1,half_sign,oI_lt,oI_gt]
 exact ⟨rfl,rfl⟩
set_option maxHeartbeats 8000000 in
set_option maxRecDepth 100000 in
theorem polyIsCW_any {F:Nat→Prop} {cs:List Value} {g:Gm} (w:World) (h:Ob F w 3 cs g):Calls Tryz.prog 140 #[.agg cs.toArray] w (IsCw (WholeG g) (cwG ltZ g) w):=by
 obtain ⟨p,cap,c,gs,rfl,hc,rfl,hn31,hsl⟩:=h.sl (e:=2) (k:=2) rfl
 have he:cwG ltZ (.mk (3:Nat) c [] gs)=cwRings ltZ true gs:=by
  rw [cwG,if_pos (by rfl)]
 have HWG:Hid (WholeG (.mk (3:Nat) c [] gs)→∀ g ∈ gs,WholeG g):=Lib.hid fun hw g hg=>by
  rw [WholeG] at hw
  exact hw.2.mem hg
 rw [he]
 have HSL:=Lib.hid hsl
 clear h hsl he
 show Calls Tryz.prog 140 #[.agg #[.slice p gs.length cap,.int .u8 c]] w _
 generalize WholeG (.mk (3:Nat) c [] gs)=WG at *
 generalize hn:gs.length=n at *
 have HN:=Lib.hid hn
 clear hn
 go_enter Tryz.func140,Tryz.ntmps140
 go_wp2
 go_loopw [9] (fun iv wr=>∃ t:Nat,iv=.int .i64 t∧t≤n∧Bel w wr∧(WG→cwRings ltZ true (gs.take t)=true)) (fun iv _=>n - (intOf iv).toNat)
 case atStart=>exact ⟨0,rfl,Nat.zero_le _,by exact EL,fun _=>by simp [cwRings]⟩
 case round =>
  obtain ⟨t,rfl,ht,hbel,hall⟩:=hrel
  have HBEL:=Lib.hid hbel
  have HALL:=Lib.hid hall
  clear hall
  by_cases htn:t<n
  ·obtain ⟨g,hg⟩:∃ g,gs[t]?=some g:=⟨_,List.getElem?_eq_getElem (by have:=HN.out;omega)⟩
   have HWL:Hid (WG→WholeG g):=Lib.hid fun hw=>HWG.out hw g (List.mem_iff_getElem?.2 ⟨t,hg⟩)
   obtain ⟨_,_,hve,_,_,hq⟩:=HSL.out
   cases hve
   obtain ⟨b,off,rfl,hlt,-,hr⟩:=hq (by intro e;rw [e] at hg;simp at hg)
   obtain ⟨cl,hcl,hcell,hob⟩:=hr t g hg
   have HC:Hid (∀ W,Bel w W→Calls Tryz.prog 186 #[.agg cl.toArray,.nilFunc] W (IsArea (ct g.dim) g.nums (partsG g) W)):=Lib.hid fun W hW=>sgArea_any hob W hW
   have HAR:Hid (∀ r:Nat,WholeG g→(∀ Z,partsG g≤1024→WholeAt (ct g.dim) g.nums (partsG g) Z→Is r (dy (shoe Z (partsG g - 1)) (-1)))→Is r (dy (areaL g) (-1))):=Lib.hid fun r hw hz=>by
    have hp:partsG g=g.nums.length / wd (ct g.dim):=by
     unfold partsG
     have hk2:g.kind=2:=hob.kind (by decide)
     rw [if_pos (Or.inr hk2)]
    rw [hp] at hz
    cases g with
    | mk k d ns ks =>
     rw [WholeG] at hw
     exact hz _ hw.1.2 hw.1.1
   obtain ⟨d0,p0,n0,q0,xs0,hcs0,-⟩:=hob.ln
   cases hcs0
   have D0:=cell_kept hbel (hcell 0 (.int .u8 d0) rfl)
   have D1:=cell_kept hbel (hcell 1 (.slice p0 n0 q0) rfl)
   simp only [Nat.add_zero] at D0
   have E1:=D1
   rw [← Nat.add_assoc] at E1
   have hbl:b<wr.heap.size:=Nat.lt_of_lt_of_le hlt hbel.size
   have HTK:=Lib.hid (cwRings_take (f:=ltZ) (b:=true) hg)
   obtain ⟨zb,hzb⟩:∃ zb,((t:Int) == 0)=zb:=⟨_,rfl⟩
   have HZB:Hid (zb=(true && t == 0)):=Lib.hid (by
    rw [← hzb]
    rcases Nat.eq_zero_or_pos t with e|e
    ·subst e
     rfl
    ·have h1:((t:Int) == 0)=false:=by simp;omega
     have h2:(t == 0)=false:=by simp;omega
     rw [h1,h2]
     rfl)
   clear hq hr hcell hob hcl hbel hg
   generalize ct g.dim=ctd at *
   generalize g.nums=gn at *
   generalize partsG g=gp at *
   go_wp2_with (go_at_call 186;(with_reducible refine (HC.out _ ?hb).mono ?_);(case hb=>exact HBEL.out.alloc _);rintro e w3 ⟨r,rfl,hr3,hb⟩;have HR3:=Lib.hid hr3;have HB3:Hid (Bel wr w3):=Lib.hid ((Bel.alloc1 _ _).trans hb);clear hb hr3;obtain ⟨ab,hab⟩:∃ ab,(FloatKind.f64.format.order r 0 == some .lt)=ab:=⟨_,rfl⟩;have HAB:Hid (WG→ab=ltZ (areaL g)):=Lib.hid (fun hw=>by (rw [← hab];exact (area_lt (HAR.out r (HWL.out hw) HR3.out)).1));cases zb<;>cases ab)
   all_goals first
    | (go_roundw
       case rel=>exact ⟨t+1,by go_num,by omega,HBEL.out.trans HB3.out,fun hw=>by (rw [HTK.out,HALL.out hw,← HZB.out,← HAB.out hw];rfl)⟩
       case measure=>simp [intOf];omega)
    | (go_ret
       exact ⟨false,rfl,fun hw=>(cwRings_not (t:=t+1) (by (rw [HTK.out,HALL.out hw,← HZB.out,← HAB.out hw];rfl))).symm,HBEL.out.trans HB3.out⟩)
  ·obtain rfl:t=n:=by omega
   have hx:gs.take t=gs:=List.take_of_length_le (by have:=HN.out;omega)
   rw [hx] at HALL
   clear hx hbel
   go_wp2
   go_ret
   exact ⟨true,rfl,fun hw=>(HALL.out hw).symm,HBEL.out⟩
set_option maxHeartbeats 8000000 in
set_option maxRecDepth 100000 in
theorem polyIsCCW_any {F:Nat→Prop} {cs:List Value} {g:Gm} (w:World) (h:Ob F w 3 cs g):Calls Tryz.prog 143 #[.agg cs.toArray] w (IsCw (WholeG g) (cwG gtZ g) w):=by
 obtain ⟨p,cap,c,gs,rfl,hc,rfl,hn31,hsl⟩:=h.sl (e:=2) (k:=2) rfl
 have he:cwG gtZ (.mk (3:Nat) c [] gs)=cwRings gtZ true gs:=by
  rw [cwG,if_pos (by rfl)]
 have HWG:Hid (WholeG (.mk (3:Nat) c [] gs)→∀ g ∈ gs,WholeG g):=Lib.hid fun hw g hg=>by
  rw [WholeG] at hw
  exact hw.2.mem hg
 rw [he]
 have HSL:=Lib.hid hsl
 clear h hsl he
 show Calls Tryz.prog 143 #[.agg #[.slice p gs.length cap,.int .u8 c]] w _
 generalize WholeG (.mk (3:Nat) c [] gs)=WG at *
 generalize hn:gs.length=n at *
 have HN:=Lib.hid hn
 clear hn
 go_enter Tryz.func143,Tryz.ntmps143
 go_wp2
 go_loopw [9] (fun iv wr=>∃ t:Nat,iv=.int .i64 t∧t≤n∧Bel w wr∧(WG→cwRings gtZ true (gs.take t)=true)) (fun iv _=>n - (intOf iv).toNat)
 case atStart=>exact ⟨0,rfl,Nat.zero_le _,by exact EL,fun _=>by simp [cwRings]⟩
 case round =>
  obtain ⟨t,rfl,ht,hbel,hall⟩:=hrel
  have HBEL:=Lib.hid hbel
  have HALL:=Lib.hid hall
  clear hall
  by_cases htn:t<n
  ·obtain ⟨g,hg⟩:∃ g,gs[t]?=some g:=⟨_,List.getElem?_eq_getElem (by have:=HN.out;omega)⟩
   have HWL:Hid (WG→WholeG g):=Lib.hid fun hw=>HWG.out hw g (List.mem_iff_getElem?.2 ⟨t,hg⟩)
   obtain ⟨_,_,hve,_,_,hq⟩:=HSL.out
   cases hve
   obtain ⟨b,off,rfl,hlt,-,hr⟩:=hq (by intro e;rw [e] at hg;simp at hg)
   obtain ⟨cl,hcl,hcell,hob⟩:=hr t g hg
   have HC:Hid (∀ W,Bel w W→Calls Tryz.prog 186 #[.agg cl.toArray,.nilFunc] W (IsArea (ct g.dim) g.nums (partsG g) W)):=Lib.hid fun W hW=>sgArea_any hob W hW
   have HAR:Hid (∀ r:Nat,WholeG g→(∀ Z,partsG g≤1024→WholeAt (ct g.dim) g.nums (partsG g) Z→Is r (dy (shoe Z (partsG g - 1)) (-1)))→Is r (dy (areaL g) (-1))):=Lib.hid fun r hw hz=>by
    have hp:partsG g=g.nums.length / wd (ct g.dim):=by
     unfold partsG
     have hk2:g.kind=2:=hob.kind (by decide)
     rw [if_pos (Or.inr hk2)]
    rw [hp] at hz
    cases g with
    | mk k d ns ks =>
     rw [WholeG] at hw
     exact hz _ hw.1.2 hw.1.1
   obtain ⟨d0,p0,n0,q0,xs0,hcs0,-⟩:=hob.ln
   cases hcs0
   have D0:=cell_kept hbel (hcell 0 (.int .u8 d0) rfl)
   have D1:=cell_kept hbel (hcell 1 (.slice p0 n0 q0) rfl)
   simp only [Nat.add_zero] at D0
   have E1:=D1
   rw [← Nat.add_assoc] at E1
   have hbl:b<wr.heap.size:=Nat.lt_of_lt_of_le hlt hbel.size
   have HTK:=Lib.hid (cwRings_take (f:=gtZ) (b:=true) hg)
   obtain ⟨zb,hzb⟩:∃ zb,((t:Int) == 0)=zb:=⟨_,rfl⟩
   have HZB:Hid (zb=(true && t == 0)):=Lib.hid (by
    rw [← hzb]
    rcases Nat.eq_zero_or_pos t with e|e
    ·subst e
     rfl
    ·have h1:((t:Int) == 0)=false:=by simp;omega
     have h2:(t == 0)=false:=by simp;omega
     rw [h1,h2]
     rfl)
   clear hq hr hcell hob hcl hbel hg
   generalize ct g.dim=ctd at *
   generalize g.nums=gn at *
   generalize partsG g=gp at *
   go_wp2_with (go_at_call 186;(with_reducible refine (HC.out _ ?hb).mono ?_);(case hb=>exact HBEL.out.alloc _);rintro e w3 ⟨r,rfl,hr3,hb⟩;have HR3:=Lib.hid hr3;have HB3:Hid (Bel wr w3):=Lib.hid ((Bel.alloc1 _ _).trans hb);clear hb hr3;obtain ⟨ab,hab⟩:∃ ab,(FloatKind.f64.format.order r 0 == some .gt)=ab:=⟨_,rfl⟩;have HAB:Hid (WG→ab=gtZ (areaL g)):=Lib.hid (fun hw=>by (rw [← hab];exact (area_lt (HAR.out r (HWL.out hw) HR3.out)).2));cases zb<;>cases ab)
   all_goals first
    | (go_roundw
       case rel=>exact ⟨t+1,by go_num,by omega,HBEL.out.trans HB3.out,fun hw=>by (rw [HTK.out,HALL.out hw,← HZB.out,← HAB.out hw];rfl)⟩
       case measure=>simp [intOf];omega)
    | (go_ret
       exact ⟨false,rfl,fun hw=>(cwRings_not (t:=t+1) (by (rw [HTK.out,HALL.out hw,← HZB.out,← HAB.out hw];rfl))).symm,HBEL.out.trans HB3.out⟩)
  ·obtain rfl:t=n:=by omega
   have hx:gs.take t=gs:=List.take_of_length_le (by have:=HN.out;omega)
   rw [hx] at HALL
   clear hx hbel
   go_wp2
   go_ret
   exact ⟨true,rfl,fun hw=>(HALL.out hw).symm,HBEL.out⟩
set_option maxHeartbeats 8000000 in
set_option maxRecDepth 100000 in
theorem IsCW_6 {F:Nat→Prop} {cs:List Value} {g:Gm} (w:World) (h:Ob F w 6 cs g):Calls Tryz.prog 141 #[.agg cs.toArray] w (IsCw (WholeG g) (cwG ltZ g) w):=by
 obtain ⟨p,cap,c,gs,rfl,hc,rfl,hn31,hsl⟩:=h.sl (e:=3) (k:=2) rfl
 have he:cwG ltZ (.mk (6:Nat) c [] gs)=cwAll ltZ gs:=by
  rw [cwG,if_neg (by decide)]
 have HWG:Hid (WholeG (.mk (6:Nat) c [] gs)→∀ g ∈ gs,WholeG g):=Lib.hid fun hw g hg=>by
  rw [WholeG] at hw
  exact hw.2.mem hg
 rw [he]
 have HSL:=Lib.hid hsl
 clear h hsl he
 show Calls Tryz.prog 141 #[.agg #[.slice p gs.length cap,.int .u8 c]] w _
 generalize WholeG (.mk (6:Nat) c [] gs)=WG at *
 generalize hn:gs.length=n at *
 have HN:=Lib.hid hn
 clear hn
 go_enter Tryz.func141,Tryz.ntmps141
 go_wp2
 go_loopw [8] (fun iv wr=>∃ t:Nat,iv=.int .i64 t∧t≤n∧Bel w wr∧(WG→cwAll ltZ (gs.take t)=true)) (fun iv _=>n - (intOf iv).toNat)
 case atStart=>exact ⟨0,rfl,Nat.zero_le _,by exact EL,fun _=>by simp [cwAll]⟩
 case round =>
  obtain ⟨t,rfl,ht,hbel,hall⟩:=hrel
  have HBEL:=Lib.hid hbel
  have HALL:=Lib.hid hall
  clear hall
  by_cases htn:t<n
  ·obtain ⟨g,hg⟩:∃ g,gs[t]?=some g:=⟨_,List.getElem?_eq_getElem (by have:=HN.out;omega)⟩
   have HWL:Hid (WG→WholeG g):=Lib.hid fun hw=>HWG.out hw g (List.mem_iff_getElem?.2 ⟨t,hg⟩)
   obtain ⟨_,_,hve,_,_,hq⟩:=HSL.out
   cases hve
   obtain ⟨b,off,rfl,hlt,-,hr⟩:=hq (by intro e;rw [e] at hg;simp at hg)
   obtain ⟨cl,hcl,hcell,hob⟩:=hr t g hg
   have HC:Hid (∀ W,Bel w W→Calls Tryz.prog 140 #[.agg cl.toArray] W (IsCw (WholeG g) (cwG ltZ g) W)):=Lib.hid fun W hW=>polyIsCW_any W (hob.bel hW)
   obtain ⟨p0,n0,q0,d0,hcs0⟩:=hob.ofSl (c:=0) (e:=2) (k:=2) rfl;cases hcs0
   have D0:=cell_kept hbel (hcell 0 (.slice p0 n0 q0) rfl)
   have D1:=cell_kept hbel (hcell 1 (.int .u8 d0) rfl)
   simp only [Nat.add_zero] at D0
   have E1:=D1
   rw [← Nat.add_assoc] at E1
   have hbl:b<wr.heap.size:=Nat.lt_of_lt_of_le hlt hbel.size
   have HTK:=Lib.hid (cwAll_take (f:=ltZ) hg)
   clear hq hr hcell hob hcl hbel hg
   go_wp2_with (go_at_call 140;(with_reducible refine (HC.out _ ?hb).mono ?_);(case hb=>exact HBEL.out.alloc _);rintro e w3 ⟨r,rfl,hr3,hb⟩;have HR3:=Lib.hid hr3;have HB3:Hid (Bel wr w3):=Lib.hid ((Bel.alloc1 _ _).trans hb);clear hb hr3;cases r)
   ·go_ret
    exact ⟨false,rfl,fun hw=>(cwAll_not (t:=t+1) (by (rw [HTK.out,HALL.out hw,← HR3.out (HWL.out hw)];rfl))).symm,HBEL.out.trans HB3.out⟩
   ·go_roundw
    case rel=>exact ⟨t+1,by go_num,by omega,HBEL.out.trans HB3.out,fun hw=>by (rw [HTK.out,HALL.out hw,← HR3.out (HWL.out hw)];rfl)⟩
    case measure=>simp [intOf];omega
  ·obtain rfl:t=n:=by omega
   have hx:gs.take t=gs:=List.take_of_length_le (by have:=HN.out;omega)
   rw [hx] at HALL
   clear hx hbel
   go_wp2
   go_ret
   exact ⟨true,rfl,fun hw=>(HALL.out hw).symm,HBEL.out⟩
def GeoIsCW (g:Gm):Prop:=∀ (F:Nat→Prop) (cs:List Value) (w:World),Ob F w 7 cs g→Calls Tryz.prog 51 #[.agg cs.toArray] w (IsCw (WholeG g) (cwG ltZ g) w)
set_option maxHeartbeats 8000000 in
set_option maxRecDepth 100000 in
theorem IsCW_0 {F:Nat→Prop} {cs:List Value} {g:Gm} (w:World) (h:Ob F w 0 cs g) (hih:∀ k ∈ g.kids,GeoIsCW k):Calls Tryz.prog 142 #[.agg cs.toArray] w (IsCw (WholeG g) (cwG ltZ g) w):=by
 obtain ⟨p,cap,c,gs,rfl,hc,rfl,hn31,hsl⟩:=h.sl (e:=7) (k:=2) rfl
 have HIH:Hid (∀ k ∈ gs,GeoIsCW k):=Lib.hid hih
 clear hih
 have he:cwG ltZ (.mk (0:Nat) c [] gs)=cwAll ltZ gs:=by
  rw [cwG,if_neg (by decide)]
 have HWG:Hid (WholeG (.mk (0:Nat) c [] gs)→∀ g ∈ gs,WholeG g):=Lib.hid fun hw g hg=>by
  rw [WholeG] at hw
  exact hw.2.mem hg
 rw [he]
 have HSL:=Lib.hid hsl
 clear h hsl he
 show Calls Tryz.prog 142 #[.agg #[.slice p gs.length cap,.int .u8 c]] w _
 generalize WholeG (.mk (0:Nat) c [] gs)=WG at *
 generalize hn:gs.length=n at *
 have HN:=Lib.hid hn
 clear hn
 go_enter Tryz.func142,Tryz.ntmps142
 go_wp2
 go_loopw [8] (fun iv wr=>∃ t:Nat,iv=.int .i64 t∧t≤n∧Bel w wr∧(WG→cwAll ltZ (gs.take t)=true)) (fun iv _=>n - (intOf iv).toNat)
 case atStart=>exact ⟨0,rfl,Nat.zero_le _,by exact EL,fun _=>by simp [cwAll]⟩
 case round =>
  obtain ⟨t,rfl,ht,hbel,hall⟩:=hrel
  have HBEL:=Lib.hid hbel
  have HALL:=Lib.hid hall
  clear hall
  by_cases htn:t<n
  ·obtain ⟨g,hg⟩:∃ g,gs[t]?=some g:=⟨_,List.getElem?_eq_getElem (by have:=HN.out;omega)⟩
   have HWL:Hid (WG→WholeG g):=Lib.hid fun hw=>HWG.out hw g (List.mem_iff_getElem?.2 ⟨t,hg⟩)
   obtain ⟨_,_,hve,_,_,hq⟩:=HSL.out
   cases hve
   obtain ⟨b,off,rfl,hlt,-,hr⟩:=hq (by intro e;rw [e] at hg;simp at hg)
   obtain ⟨cl,hcl,hcell,hob⟩:=hr t g hg
   have HC:Hid (∀ W,Bel w W→Calls Tryz.prog 51 #[.agg cl.toArray] W (IsCw (WholeG g) (cwG ltZ g) W)):=Lib.hid fun W hW=>HIH.out g (List.mem_iff_getElem?.2 ⟨t,hg⟩) F _ W (hob.bel hW)
   obtain ⟨s0,b0,cl0,hcs0,-⟩:=hob.gi;cases hcs0
   have D0:=cell_kept hbel (hcell 0 (.int .i64 s0) rfl)
   have D1:=cell_kept hbel (hcell 1 (.iface (ptrT s0) (.pointer (some ⟨b0,0,none⟩))) rfl)
   simp only [Nat.add_zero] at D0
   have E1:=D1
   rw [← Nat.add_assoc] at E1
   have hbl:b<wr.heap.size:=Nat.lt_of_lt_of_le hlt hbel.size
   have HTK:=Lib.hid (cwAll_take (f:=ltZ) hg)
   clear hq hr hcell hob hcl hbel hg
   go_wp2_with (go_at_call 51;(with_reducible refine (HC.out _ ?hb).mono ?_);(case hb=>exact HBEL.out.alloc _);rintro e w3 ⟨r,rfl,hr3,hb⟩;have HR3:=Lib.hid hr3;have HB3:Hid (Bel wr w3):=Lib.hid ((Bel.alloc1 _ _).trans hb);clear hb hr3;cases r)
   ·go_ret
    exact ⟨false,rfl,fun hw=>(cwAll_not (t:=t+1) (by (rw [HTK.out,HALL.out hw,← HR3.out (HWL.out hw)];rfl))).symm,HBEL.out.trans HB3.out⟩
   ·go_roundw
    case rel=>exact ⟨t+1,by go_num,by omega,HBEL.out.trans HB3.out,fun hw=>by (rw [HTK.out,HALL.out hw,← HR3.out (HWL.out hw)];rfl)⟩
    case measure=>simp [intOf];omega
  ·obtain rfl:t=n:=by omega
   have hx:gs.take t=gs:=List.take_of_length_le (by have:=HN.out;omega)
   rw [hx] at HALL
   clear hx hbel
   go_wp2
   go_ret
   exact ⟨true,rfl,fun hw=>(HALL.out hw).symm,HBEL.out⟩
theorem cwG_none_IsCW (g:Gm) (hk:g.kind=1∨g.kind=2∨g.kind=4∨g.kind=5) {F:Nat→Prop} {w:World} {s:Nat} {cs:List Value} (h:Ob F w s cs g) (h6:s≤6):cwG ltZ g=true:=by
 have hks:=h.kind (by omega)
 have hall:∀ l:List Gm,(∀ k ∈ l,cwG ltZ k=true)→cwAll ltZ l=true:=fun l=>by
  induction l with
  | nil=>exact fun _=>by rw [cwAll]
  | cons a r ih=>exact fun h=>by rw [cwAll,h a (by simp),ih fun k hk=>h k (by simp [hk])];rfl
 have h7:s=1∨s=2∨s=4∨s=5:=by omega
 rcases h7 with rfl|rfl|rfl|rfl
 ·obtain ⟨x,y,z,m,c,full,-,-,rfl⟩:=h.pt
  simp [cwG,cwAll]
 ·obtain ⟨c,p,n,cap,xs,-,-,rfl,-⟩:=h.ln
  simp [cwG,cwAll]
 ·obtain ⟨p,cap,c,gs,-,-,rfl,-,hsl⟩:=h.sl (e:=1) (k:=6) rfl
  rw [cwG,if_neg (by decide)]
  refine hall gs fun k hk=>?_
  obtain ⟨t,ht⟩:=List.mem_iff_getElem?.1 hk
  obtain ⟨_,_,hve,_,_,hq⟩:=hsl
  obtain ⟨b,off,-,-,-,hr⟩:=hq (by intro e;rw [e] at ht;simp at ht)
  obtain ⟨cl,-,-,hob⟩:=hr t k ht
  obtain ⟨x,y,z,m,c,full,-,-,rfl⟩:=hob.pt
  simp [cwG,cwAll]
 ·obtain ⟨p,cap,c,gs,-,-,rfl,-,hsl⟩:=h.sl (e:=2) (k:=2) rfl
  rw [cwG,if_neg (by decide)]
  refine hall gs fun k hk=>?_
  obtain ⟨t,ht⟩:=List.mem_iff_getElem?.1 hk
  obtain ⟨_,_,hve,_,_,hq⟩:=hsl
  obtain ⟨b,off,-,-,-,hr⟩:=hq (by intro e;rw [e] at ht;simp at ht)
  obtain ⟨cl,-,-,hob⟩:=hr t k ht
  obtain ⟨c,p,n,cap,xs,-,-,rfl,-⟩:=hob.ln
  simp [cwG,cwAll]
set_option maxHeartbeats 8000000 in
set_option maxRecDepth 100000 in
theorem geoIsCW_ind:∀ (n:Nat) (g:Gm),g.size≤n→GeoIsCW g:=by
 intro n
 induction n with
 | zero=>exact fun g h=>absurd h (by have:=g.size_pos;omega)
 | succ n ih =>
  intro g hsz F cs w h
  obtain ⟨s,b,cl,rfl,hs6,hlt,hFb,hc,ho⟩:=h.gi
  clear h
  have HO:Hid (∀ W,Bel w W→Ob F W s cl g):=Lib.hid fun W hW=>ho.bel hW
  have HIH:Hid (∀ k ∈ g.kids,GeoIsCW k):=Lib.hid fun k hk=>ih k (by
   have:=g.size_eq
   have:=Gm.size_mem hk
   omega)
  clear ih hsz
  have h7:s=0∨s=3∨s=6∨(s=1∨s=2∨s=4∨s=5):=by omega
  rcases h7 with rfl|rfl|rfl|h7
  ·obtain ⟨p,cap,c,gs,hcs,-⟩:=ho.sl (e:=7) (k:=2) rfl
   subst hcs
   clear ho
   show Calls Tryz.prog 51 #[.agg #[.int .i64 0,.iface 170 (.pointer (some ⟨b,0,none⟩))]] w _
   have HM:Hid (∀ W,Bel w W→Calls Tryz.prog 83 #[.agg #[.int .i64 0,.iface 170 (.pointer (some ⟨b,0,none⟩))]] W fun e w'=>e=.returned (.agg #[.slice p gs.length cap,.int .u8 c])∧Bel W w'):=Lib.hid fun W hW=>mustAs_0 _ _ _ _ b W (cell_kept hW (hc 0 _ rfl)) (cell_kept hW (hc 1 _ rfl))
   have HC:Hid (∀ W,Bel w W→Calls Tryz.prog 142 #[.agg #[.slice p gs.length cap,.int .u8 c]] W (IsCw (WholeG g) (cwG ltZ g) W)):=Lib.hid fun W hW=>IsCW_0 W (HO.out W hW) HIH.out
   clear hc HO HIH
   generalize gs.length=n at *
   generalize cwG ltZ g=cb at *
   generalize WholeG g=WG at *
   go_enter Tryz.func51,Tryz.ntmps51
   go_wp2_with (first
    | (go_at_call 83;(with_reducible refine (HM.out _ ?hb).mono ?_);(case hb=>exact EL);rintro e w1 ⟨rfl,hb1⟩;have HB1:Hid (Bel w w1):=Lib.hid ((show Bel w _ by exact EL).trans hb1);clear hb1)
    | (go_at_call 142;(with_reducible refine (HC.out _ HB1.out).mono ?_);rintro e w2 ⟨r,rfl,hr,hb2⟩;have HR:=Lib.hid hr;have HB2:Hid (Bel w w2):=Lib.hid (HB1.out.trans hb2);clear hb2 hr))
   go_ret
   exact ⟨r,rfl,HR.out,HB2.out⟩
  ·obtain ⟨p,cap,c,gs,hcs,-⟩:=ho.sl (e:=2) (k:=2) rfl
   subst hcs
   clear ho
   show Calls Tryz.prog 51 #[.agg #[.int .i64 3,.iface 165 (.pointer (some ⟨b,0,none⟩))]] w _
   have HM:Hid (∀ W,Bel w W→Calls Tryz.prog 72 #[.agg #[.int .i64 3,.iface 165 (.pointer (some ⟨b,0,none⟩))]] W fun e w'=>e=.returned (.agg #[.slice p gs.length cap,.int .u8 c])∧Bel W w'):=Lib.hid fun W hW=>mustAs_3 _ _ _ _ b W (cell_kept hW (hc 0 _ rfl)) (cell_kept hW (hc 1 _ rfl))
   have HC:Hid (∀ W,Bel w W→Calls Tryz.prog 140 #[.agg #[.slice p gs.length cap,.int .u8 c]] W (IsCw (WholeG g) (cwG ltZ g) W)):=Lib.hid fun W hW=>polyIsCW_any W (HO.out W hW)
   clear hc HO HIH
   generalize gs.length=n at *
   generalize cwG ltZ g=cb at *
   generalize WholeG g=WG at *
   go_enter Tryz.func51,Tryz.ntmps51
   go_wp2_with (first
    | (go_at_call 72;(with_reducible refine (HM.out _ ?hb).mono ?_);(case hb=>exact EL);rintro e w1 ⟨rfl,hb1⟩;have HB1:Hid (Bel w w1):=Lib.hid ((show Bel w _ by exact EL).trans hb1);clear hb1)
    | (go_at_call 140;(with_reducible refine (HC.out _ HB1.out).mono ?_);rintro e w2 ⟨r,rfl,hr,hb2⟩;have HR:=Lib.hid hr;have HB2:Hid (Bel w w2):=Lib.hid (HB1.out.trans hb2);clear hb2 hr))
   go_ret
   exact ⟨r,rfl,HR.out,HB2.out⟩
  ·obtain ⟨p,cap,c,gs,hcs,-⟩:=ho.sl (e:=3) (k:=2) rfl
   subst hcs
   clear ho
   show Calls Tryz.prog 51 #[.agg #[.int .i64 6,.iface 169 (.pointer (some ⟨b,0,none⟩))]] w _
   have HM:Hid (∀ W,Bel w W→Calls Tryz.prog 80 #[.agg #[.int .i64 6,.iface 169 (.pointer (some ⟨b,0,none⟩))]] W fun e w'=>e=.returned (.agg #[.slice p gs.length cap,.int .u8 c])∧Bel W w'):=Lib.hid fun W hW=>mustAs_6 _ _ _ _ b W (cell_kept hW (hc 0 _ rfl)) (cell_kept hW (hc 1 _ rfl))
   have HC:Hid (∀ W,Bel w W→Calls Tryz.prog 141 #[.agg #[.slice p gs.length cap,.int .u8 c]] W (IsCw (WholeG g) (cwG ltZ g) W)):=Lib.hid fun W hW=>IsCW_6 W (HO.out W hW)
   clear hc HO HIH
   generalize gs.length=n at *
   generalize cwG ltZ g=cb at *
   generalize WholeG g=WG at *
   go_enter Tryz.func51,Tryz.ntmps51
   go_wp2_with (first
    | (go_at_call 80;(with_reducible refine (HM.out _ ?hb).mono ?_);(case hb=>exact EL);rintro e w1 ⟨rfl,hb1⟩;have HB1:Hid (Bel w w1):=Lib.hid ((show Bel w _ by exact EL).trans hb1);clear hb1)
    | (go_at_call 141;(with_reducible refine (HC.out _ HB1.out).mono ?_);rintro e w2 ⟨r,rfl,hr,hb2⟩;have HR:=Lib.hid hr;have HB2:Hid (Bel w w2):=Lib.hid (HB1.out.trans hb2);clear hb2 hr))
   go_ret
   exact ⟨r,rfl,HR.out,HB2.out⟩
  ·have hks:=ho.kind (by omega)
   have HT:Hid (cwG ltZ g=true):=Lib.hid (cwG_none_IsCW g (by omega) ho hs6)
   clear HO HIH ho hks hc
   have p3:((s:Int) == 3)=false:=by simp;omega
   have p6:((s:Int) == 6)=false:=by simp;omega
   have p0:((s:Int) == 0)=false:=by simp;omega
   generalize ptrT s=T at *
   clear h7
   show Calls Tryz.prog 51 #[.agg #[.int .i64 s,.iface T (.pointer (some ⟨b,0,none⟩))]] w _
   go_enter Tryz.func51,Tryz.ntmps51
   go_wp2
   go_ret
   exact ⟨true,rfl,fun _=>HT.out.symm,by exact EL⟩
theorem geoIsCW_any (g:Gm):GeoIsCW g:=geoIsCW_ind g.size g (Nat.le_refl _)
set_option maxHeartbeats 8000000 in
set_option maxRecDepth 100000 in
theorem IsCCW_6 {F:Nat→Prop} {cs:List Value} {g:Gm} (w:World) (h:Ob F w 6 cs g):Calls Tryz.prog 144 #[.agg cs.toArray] w (IsCw (WholeG g) (cwG gtZ g) w):=by
 obtain ⟨p,cap,c,gs,rfl,hc,rfl,hn31,hsl⟩:=h.sl (e:=3) (k:=2) rfl
 have he:cwG gtZ (.mk (6:Nat) c [] gs)=cwAll gtZ gs:=by
  rw [cwG,if_neg (by decide)]
 have HWG:Hid (WholeG (.mk (6:Nat) c [] gs)→∀ g ∈ gs,WholeG g):=Lib.hid fun hw g hg=>by
  rw [WholeG] at hw
  exact hw.2.mem hg
 rw [he]
 have HSL:=Lib.hid hsl
 clear h hsl he
 show Calls Tryz.prog 144 #[.agg #[.slice p gs.length cap,.int .u8 c]] w _
 generalize WholeG (.mk (6:Nat) c [] gs)=WG at *
 generalize hn:gs.length=n at *
 have HN:=Lib.hid hn
 clear hn
 go_enter Tryz.func144,Tryz.ntmps144
 go_wp2
 go_loopw [8] (fun iv wr=>∃ t:Nat,iv=.int .i64 t∧t≤n∧Bel w wr∧(WG→cwAll gtZ (gs.take t)=true)) (fun iv _=>n - (intOf iv).toNat)
 case atStart=>exact ⟨0,rfl,Nat.zero_le _,by exact EL,fun _=>by simp [cwAll]⟩
 case round =>
  obtain ⟨t,rfl,ht,hbel,hall⟩:=hrel
  have HBEL:=Lib.hid hbel
  have HALL:=Lib.hid hall
  clear hall
  by_cases htn:t<n
  ·obtain ⟨g,hg⟩:∃ g,gs[t]?=some g:=⟨_,List.getElem?_eq_getElem (by have:=HN.out;omega)⟩
   have HWL:Hid (WG→WholeG g):=Lib.hid fun hw=>HWG.out hw g (List.mem_iff_getElem?.2 ⟨t,hg⟩)
   obtain ⟨_,_,hve,_,_,hq⟩:=HSL.out
   cases hve
   obtain ⟨b,off,rfl,hlt,-,hr⟩:=hq (by intro e;rw [e] at hg;simp at hg)
   obtain ⟨cl,hcl,hcell,hob⟩:=hr t g hg
   have HC:Hid (∀ W,Bel w W→Calls Tryz.prog 143 #[.agg cl.toArray] W (IsCw (WholeG g) (cwG gtZ g) W)):=Lib.hid fun W hW=>polyIsCCW_any W (hob.bel hW)
   obtain ⟨p0,n0,q0,d0,hcs0⟩:=hob.ofSl (c:=0) (e:=2) (k:=2) rfl;cases hcs0
   have D0:=cell_kept hbel (hcell 0 (.slice p0 n0 q0) rfl)
   have D1:=cell_kept hbel (hcell 1 (.int .u8 d0) rfl)
   simp only [Nat.add_zero] at D0
   have E1:=D1
   rw [← Nat.add_assoc] at E1
   have hbl:b<wr.heap.size:=Nat.lt_of_lt_of_le hlt hbel.size
   have HTK:=Lib.hid (cwAll_take (f:=gtZ) hg)
   clear hq hr hcell hob hcl hbel hg
   go_wp2_with (go_at_call 143;(with_reducible refine (HC.out _ ?hb).mono ?_);(case hb=>exact HBEL.out.alloc _);rintro e w3 ⟨r,rfl,hr3,hb⟩;have HR3:=Lib.hid hr3;have HB3:Hid (Bel wr w3):=Lib.hid ((Bel.alloc1 _ _).trans hb);clear hb hr3;cases r)
   ·go_ret
    exact ⟨false,rfl,fun hw=>(cwAll_not (t:=t+1) (by (rw [HTK.out,HALL.out hw,← HR3.out (HWL.out hw)];rfl))).symm,HBEL.out.trans HB3.out⟩
   ·go_roundw
    case rel=>exact ⟨t+1,by go_num,by omega,HBEL.out.trans HB3.out,fun hw=>by (rw [HTK.out,HALL.out hw,← HR3.out (HWL.out hw)];rfl)⟩
    case measure=>simp [intOf];omega
  ·obtain rfl:t=n:=by omega
   have hx:gs.take t=gs:=List.take_of_length_le (by have:=HN.out;omega)
   rw [hx] at HALL
   clear hx hbel
   go_wp2
   go_ret
   exact ⟨true,rfl,fun hw=>(HALL.out hw).symm,HBEL.out⟩
def GeoIsCCW (g:Gm):Prop:=∀ (F:Nat→Prop) (cs:List Value) (w:World),Ob F w 7 cs g→Calls Tryz.prog 52 #[.agg cs.toArray] w (IsCw (WholeG g) (cwG gtZ g) w)
set_option maxHeartbeats 8000000 in
set_option maxRecDepth 100000 in
theorem IsCCW_0 {F:Nat→Prop} {cs:List Value} {g:Gm} (w:World) (h:Ob F w 0 cs g) (hih:∀ k ∈ g.kids,GeoIsCCW k):Calls Tryz.prog 145 #[.agg cs.toArray] w (IsCw (WholeG g) (cwG gtZ g) w):=by
 obtain ⟨p,cap,c,gs,rfl,hc,rfl,hn31,hsl⟩:=h.sl (e:=7) (k:=2) rfl
 have HIH:Hid (∀ k ∈ gs,GeoIsCCW k):=Lib.hid hih
 clear hih
 have he:cwG gtZ (.mk (0:Nat) c [] gs)=cwAll gtZ gs:=by
  rw [cwG,if_neg (by decide)]
 have HWG:Hid (WholeG (.mk (0:Nat) c [] gs)→∀ g ∈ gs,WholeG g):=Lib.hid fun hw g hg=>by
  rw [WholeG] at hw
  exact hw.2.mem hg
 rw [he]
 have HSL:=Lib.hid hsl
 clear h hsl he
 show Calls Tryz.prog 145 #[.agg #[.slice p gs.length cap,.int .u8 c]] w _
 generalize WholeG (.mk (0:Nat) c [] gs)=WG at *
 generalize hn:gs.length=n at *
 have HN:=Lib.hid hn
 clear hn
 go_enter Tryz.func145,Tryz.ntmps145
 go_wp2
 go_loopw [8] (fun iv wr=>∃ t:Nat,iv=.int .i64 t∧t≤n∧Bel w wr∧(WG→cwAll gtZ (gs.take t)=true)) (fun iv _=>n - (intOf iv).toNat)
 case atStart=>exact ⟨0,rfl,Nat.zero_le _,by exact EL,fun _=>by simp [cwAll]⟩
 case round =>
  obtain ⟨t,rfl,ht,hbel,hall⟩:=hrel
  have HBEL:=Lib.hid hbel
  have HALL:=Lib.hid hall
  clear hall
  by_cases htn:t<n
  ·obtain ⟨g,hg⟩:∃ g,gs[t]?=some g:=⟨_,List.getElem?_eq_getElem (by have:=HN.out;omega)⟩
   have HWL:Hid (WG→WholeG g):=Lib.hid fun hw=>HWG.out hw g (List.mem_iff_getElem?.2 ⟨t,hg⟩)
   obtain ⟨_,_,hve,_,_,hq⟩:=HSL.out
   cases hve
   obtain ⟨b,off,rfl,hlt,-,hr⟩:=hq (by intro e;rw [e] at hg;simp at hg)
   obtain ⟨cl,hcl,hcell,hob⟩:=hr t g hg
   have HC:Hid (∀ W,Bel w W→Calls Tryz.prog 52 #[.agg cl.toArray] W (IsCw (WholeG g) (cwG gtZ g) W)):=Lib.hid fun W hW=>HIH.out g (List.mem_iff_getElem?.2 ⟨t,hg⟩) F _ W (hob.bel hW)
   obtain ⟨s0,b0,cl0,hcs0,-⟩:=hob.gi;cases hcs0
   have D0:=cell_kept hbel (hcell 0 (.int .i64 s0) rfl)
   have D1:=cell_kept hbel (hcell 1 (.iface (ptrT s0) (.pointer (some ⟨b0,0,none⟩))) rfl)
   simp only [Nat.add_zero] at D0
   have E1:=D1
   rw [← Nat.add_assoc] at E1
   have hbl:b<wr.heap.size:=Nat.lt_of_lt_of_le hlt hbel.size
   have HTK:=Lib.hid (cwAll_take (f:=gtZ) hg)
   clear hq hr hcell hob hcl hbel hg
   go_wp2_with (go_at_call 52;(with_reducible refine (HC.out _ ?hb).mono ?_);(case hb=>exact HBEL.out.alloc _);rintro e w3 ⟨r,rfl,hr3,hb⟩;have HR3:=Lib.hid hr3;have HB3:Hid (Bel wr w3):=Lib.hid ((Bel.alloc1 _ _).trans hb);clear hb hr3;cases r)
   ·go_ret
    exact ⟨false,rfl,fun hw=>(cwAll_not (t:=t+1) (by (rw [HTK.out,HALL.out hw,← HR3.out (HWL.out hw)];rfl))).symm,HBEL.out.trans HB3.out⟩
   ·go_roundw
    case rel=>exact ⟨t+1,by go_num,by omega,HBEL.out.trans HB3.out,fun hw=>by (rw [HTK.out,HALL.out hw,← HR3.out (HWL.out hw)];rfl)⟩
    case measure=>simp [intOf];omega
  ·obtain rfl:t=n:=by omega
   have hx:gs.take t=gs:=List.take_of_length_le (by have:=HN.out;omega)
   rw [hx] at HALL
   clear hx hbel
   go_wp2
   go_ret
   exact ⟨true,rfl,fun hw=>(HALL.out hw).symm,HBEL.out⟩
theorem cwG_none_IsCCW (g:Gm) (hk:g.kind=1∨g.kind=2∨g.kind=4∨g.kind=5) {F:Nat→Prop} {w:World} {s:Nat} {cs:List Value} (h:Ob F w s cs g) (h6:s≤6):cwG gtZ g=true:=by
 have hks:=h.kind (by omega)
 have hall:∀ l:List Gm,(∀ k ∈ l,cwG gtZ k=true)→cwAll gtZ l=true:=fun l=>by
  induction l with
  | nil=>exact fun _=>by rw [cwAll]
  | cons a r ih=>exact fun h=>by rw [cwAll,h a (by simp),ih fun k hk=>h k (by simp [hk])];rfl
 have h7:s=1∨s=2∨s=4∨s=5:=by omega
 rcases h7 with rfl|rfl|rfl|rfl
 ·obtain ⟨x,y,z,m,c,full,-,-,rfl⟩:=h.pt
  simp [cwG,cwAll]
 ·obtain ⟨c,p,n,cap,xs,-,-,rfl,-⟩:=h.ln
  simp [cwG,cwAll]
 ·obtain ⟨p,cap,c,gs,-,-,rfl,-,hsl⟩:=h.sl (e:=1) (k:=6) rfl
  rw [cwG,if_neg (by decide)]
  refine hall gs fun k hk=>?_
  obtain ⟨t,ht⟩:=List.mem_iff_getElem?.1 hk
  obtain ⟨_,_,hve,_,_,hq⟩:=hsl
  obtain ⟨b,off,-,-,-,hr⟩:=hq (by intro e;rw [e] at ht;simp at ht)
  obtain ⟨cl,-,-,hob⟩:=hr t k ht
  obtain ⟨x,y,z,m,c,full,-,-,rfl⟩:=hob.pt
  simp [cwG,cwAll]
 ·obtain ⟨p,cap,c,gs,-,-,rfl,-,hsl⟩:=h.sl (e:=2) (k:=2) rfl
  rw [cwG,if_neg (by decide)]
  refine hall gs fun k hk=>?_
  obtain ⟨t,ht⟩:=List.mem_iff_getElem?.1 hk
  obtain ⟨_,_,hve,_,_,hq⟩:=hsl
  obtain ⟨b,off,-,-,-,hr⟩:=hq (by intro e;rw [e] at ht;simp at ht)
  obtain ⟨cl,-,-,hob⟩:=hr t k ht
  obtain ⟨c,p,n,cap,xs,-,-,rfl,-⟩:=hob.ln
  simp [cwG,cwAll]
set_option maxHeartbeats 8000000 in
set_option maxRecDepth 100000 in
theorem geoIsCCW_ind:∀ (n:Nat) (g:Gm),g.size≤n→GeoIsCCW g:=by
 intro n
 induction n with
 | zero=>exact fun g h=>absurd h (by have:=g.size_pos;omega)
 | succ n ih =>
  intro g hsz F cs w h
  obtain ⟨s,b,cl,rfl,hs6,hlt,hFb,hc,ho⟩:=h.gi
  clear h
  have HO:Hid (∀ W,Bel w W→Ob F W s cl g):=Lib.hid fun W hW=>ho.bel hW
  have HIH:Hid (∀ k ∈ g.kids,GeoIsCCW k):=Lib.hid fun k hk=>ih k (by
   have:=g.size_eq
   have:=Gm.size_mem hk
   omega)
  clear ih hsz
  have h7:s=0∨s=3∨s=6∨(s=1∨s=2∨s=4∨s=5):=by omega
  rcases h7 with rfl|rfl|rfl|h7
  ·obtain ⟨p,cap,c,gs,hcs,-⟩:=ho.sl (e:=7) (k:=2) rfl
   subst hcs
   clear ho
   show Calls Tryz.prog 52 #[.agg #[.int .i64 0,.iface 170 (.pointer (some ⟨b,0,none⟩))]] w _
   have HM:Hid (∀ W,Bel w W→Calls Tryz.prog 83 #[.agg #[.int .i64 0,.iface 170 (.pointer (some ⟨b,0,none⟩))]] W fun e w'=>e=.returned (.agg #[.slice p gs.length cap,.int .u8 c])∧Bel W w'):=Lib.hid fun W hW=>mustAs_0 _ _ _ _ b W (cell_kept hW (hc 0 _ rfl)) (cell_kept hW (hc 1 _ rfl))
   have HC:Hid (∀ W,Bel w W→Calls Tryz.prog 145 #[.agg #[.slice p gs.length cap,.int .u8 c]] W (IsCw (WholeG g) (cwG gtZ g) W)):=Lib.hid fun W hW=>IsCCW_0 W (HO.out W hW) HIH.out
   clear hc HO HIH
   generalize gs.length=n at *
   generalize cwG gtZ g=cb at *
   generalize WholeG g=WG at *
   go_enter Tryz.func52,Tryz.ntmps52
   go_wp2_with (first
    | (go_at_call 83;(with_reducible refine (HM.out _ ?hb).mono ?_);(case hb=>exact EL);rintro e w1 ⟨rfl,hb1⟩;have HB1:Hid (Bel w w1):=Lib.hid ((show Bel w _ by exact EL).trans hb1);clear hb1)
    | (go_at_call 145;(with_reducible refine (HC.out _ HB1.out).mono ?_);rintro e w2 ⟨r,rfl,hr,hb2⟩;have HR:=Lib.hid hr;have HB2:Hid (Bel w w2):=Lib.hid (HB1.out.trans hb2);clear hb2 hr))
   go_ret
   exact ⟨r,rfl,HR.out,HB2.out⟩
  ·obtain ⟨p,cap,c,gs,hcs,-⟩:=ho.sl (e:=2) (k:=2) rfl
   subst hcs
   clear ho
   show Calls Tryz.prog 52 #[.agg #[.int .i64 3,.iface 165 (.pointer (some ⟨b,0,none⟩))]] w _
   have HM:Hid (∀ W,Bel w W→Calls Tryz.prog 72 #[.agg #[.int .i64 3,.iface 165 (.pointer (some ⟨b,0,none⟩))]] W fun e w'=>e=.returned (.agg #[.slice p gs.length cap,.int .u8 c])∧Bel W w'):=Lib.hid fun W hW=>mustAs_3 _ _ _ _ b W (cell_kept hW (hc 0 _ rfl)) (cell_kept hW (hc 1 _ rfl))
   have HC:Hid (∀ W,Bel w W→Calls Tryz.prog 143 #[.agg #[.slice p gs.length cap,.int .u8 c]] W (IsCw (WholeG g) (cwG gtZ g) W)):=Lib.hid fun W hW=>polyIsCCW_any W (HO.out W hW)
   clear hc HO HIH
   generalize gs.length=n at *
   generalize cwG gtZ g=cb at *
   generalize WholeG g=WG at *
   go_enter Tryz.func52,Tryz.ntmps52
   go_wp2_with (first
    | (go_at_call 72;(with_reducible refine (HM.out _ ?hb).mono ?_);(case hb=>exact EL);rintro e w1 ⟨rfl,hb1⟩;have HB1:Hid (Bel w w1):=Lib.hid ((show Bel w _ by exact EL).trans hb1);clear hb1)
    | (go_at_call 143;(with_reducible refine (HC.out _ HB1.out).mono ?_);rintro e w2 ⟨r,rfl,hr,hb2⟩;have HR:=Lib.hid hr;have HB2:Hid (Bel w w2):=Lib.hid (HB1.out.trans hb2);clear hb2 hr))
   go_ret
   exact ⟨r,rfl,HR.out,HB2.out⟩
  ·obtain ⟨p,cap,c,gs,hcs,-⟩:=ho.sl (e:=3) (k:=2) rfl
   subst hcs
   clear ho
   show Calls Tryz.prog 52 #[.agg #[.int .i64 6,.iface 169 (.pointer (some ⟨b,0,none⟩))]] w _
   have HM:Hid (∀ W,Bel w W→Calls Tryz.prog 80 #[.agg #[.int .i64 6,.iface 169 (.pointer (some ⟨b,0,none⟩))]] W fun e w'=>e=.returned (.agg #[.slice p gs.length cap,.int .u8 c])∧Bel W w'):=Lib.hid fun W hW=>mustAs_6 _ _ _ _ b W (cell_kept hW (hc 0 _ rfl)) (cell_kept hW (hc 1 _ rfl))
   have HC:Hid (∀ W,Bel w W→Calls Tryz.prog 144 #[.agg #[.slice p gs.length cap,.int .u8 c]] W (IsCw (WholeG g) (cwG gtZ g) W)):=Lib.hid fun W hW=>IsCCW_6 W (HO.out W hW)
   clear hc HO HIH
   generalize gs.length=n at *
   generalize cwG gtZ g=cb at *
   generalize WholeG g=WG at *
   go_enter Tryz.func52,Tryz.ntmps52
   go_wp2_with (first
    | (go_at_call 80;(with_reducible refine (HM.out _ ?hb).mono ?_);(case hb=>exact EL);rintro e w1 ⟨rfl,hb1⟩;have HB1:Hid (Bel w w1):=Lib.hid ((show Bel w _ by exact EL).trans hb1);clear hb1)
    | (go_at_call 144;(with_reducible refine (HC.out _ HB1.out).mono ?_);rintro e w2 ⟨r,rfl,hr,hb2⟩;have HR:=Lib.hid hr;have HB2:Hid (Bel w w2):=Lib.hid (HB1.out.trans hb2);clear hb2 hr))
   go_ret
   exact ⟨r,rfl,HR.out,HB2.out⟩
  ·have hks:=ho.kind (by omega)
   have HT:Hid (cwG gtZ g=true):=Lib.hid (cwG_none_IsCCW g (by omega) ho hs6)
   clear HO HIH ho hks hc
   have p3:((s:Int) == 3)=false:=by simp;omega
   have p6:((s:Int) == 6)=false:=by simp;omega
   have p0:((s:Int) == 0)=false:=by simp;omega
   generalize ptrT s=T at *
   clear h7
   show Calls Tryz.prog 52 #[.agg #[.int .i64 s,.iface T (.pointer (some ⟨b,0,none⟩))]] w _
   go_enter Tryz.func52,Tryz.ntmps52
   go_wp2
   go_ret
   exact ⟨true,rfl,fun _=>HT.out.symm,by exact EL⟩
theorem geoIsCCW_any (g:Gm):GeoIsCCW g:=geoIsCCW_ind g.size g (Nat.le_refl _)
end Go.Proofs.YtpipehenfcbjbaaGreatDoor
set_option linter.unusedVariables false
set_option linter.unusedSimpArgs false
namespace Go.Proofs.YtpipehenfcbjbaaGreatDoor
open Go.ChangeShapes Go.WideShapes Go.ChangeAt Go.RowKit
theorem Bel.grow {a b c:World} {row:Option Nat} (h:Bel a b) (hg:b.grownBy c row):a.grownBy c row :=
 ⟨hg.1.trans h.os,hg.2.trans h.tape,hg.3.trans h.output,Nat.le_trans h.size hg.4,fun i hi hn=>(hg.5 i (Nat.lt_of_lt_of_le hi h.size) hn).trans (h.block i hi)⟩
theorem _root_.Go.World.grownBy.bel {a b c:World} {row:Option Nat} (hg:a.grownBy b row) (h:Bel b c):a.grownBy c row :=
 ⟨h.os.trans hg.1,h.tape.trans hg.2,h.output.trans hg.3,Nat.le_trans hg.4 h.size,fun i hi hn=>(h.block i (Nat.lt_of_lt_of_le hi hg.4)).trans (hg.5 i hi hn)⟩
section
variable {P:Program} (w:World)
/-- Append of a row that may be empty; within the capacity the block stays. -/
theorem wpList_append_fit {ops:Array Oper} {rest:List Oper} {o:Oper} {a:Act} {Q:Exit→Act→World→Prop} (hgd:o.guard=none) (s x:Operand) (t:TypeId)
  (ho:o.op=.call { callee:=.builtin .append,args:=#[s,x],argTypes:=#[t,t] })
  (base:Nat) (e:TypeId) (i:TypeInfo) (z:Value) (size bytes:Nat) (ht:P.underlying t=some (.slice e)) (hi:P.info? e=some i) (hz:i.zero=some z)
  (hsize:i.size=size) (hby:i.bytes=bytes) (hzs:z.cells.size=size) (hsz:0<size)
  (p0:Option Addr) (n cap:Nat) (xs:List Value) (hs:a.eval s=.slice p0 n cap) (hown:w.ownsRow base e size (.slice p0 n cap) n xs)
  (p:Option Addr) (m c:Nat) (news:List Value) (hx:a.eval x=.slice p m c) (hl:news.length=m*size) (hnews:0<m→∃ ad,p=some ad∧∀ j u,news[j]?=some u→w.cell? (ad.add j)=some u) (h1:∀ u ∈ news,u.oneCell'=true)
  (h63:n+m≤maxLen) (hbytes:(n+m)*bytes≤140737488355328) (hbase:base≤w.heap.size)
  (h:∀ p' cap' w',w'.ownsRow base e size (.slice p' (n+m) cap') (n+m) (xs ++ news)→w.grownBy w' (Value.ownBlock (.slice p0 n cap))→(Value.ownBlock (.slice p' (n+m) cap')=Value.ownBlock (.slice p0 n cap)∨Value.ownBlock (.slice p' (n+m) cap')=some w.heap.size)→(n+m≤cap→p'=p0∧cap'=cap)→wpList P ops Q rest (a.put o.dst (.slice p' (n+m) cap')) w'):wpList P ops Q (o :: rest) a w:=by
 rcases Nat.eq_zero_or_pos m with rfl|hm
 ·have hn:news=[]:=List.length_eq_zero_iff.1 (by omega)
  subst hn
  refine wpList_plain hgd fun K hK=>?_
  have hr:=run_append_zero (P:=P) w base t o.type e i size ht hi _ n xs hown p c
  unfold Oper.wp execOp
  simp only [ho,resolve,invoke,builtin,Sem.run_bind,Sem.run_pure,Result.andThen_ok,List.map_toArray,List.map_cons,List.map_nil,hs,hx,hr]
  exact hK _ _ (h p0 cap w (by simpa using hown) (World.grownBy.of_bel (Bel.refl w) _) (Or.inl rfl) fun _=>⟨rfl,rfl⟩)
 ·obtain ⟨ad,rfl,hq⟩:=hnews hm
  refine wpList_plain hgd fun K hK=>?_
  obtain ⟨v',w',hr,h2,h3,h4⟩:=run_append_own (P:=P) w base t o.type e i z size bytes ht hi hz hsize hby hzs hsz _ n xs hown ad m c news hl hq h1 h63 hbytes hbase
  have h5:=append_block (P:=P) w base t o.type e i z size bytes ht hi hz hsize hby _ n xs hown ad m c news hl hq h1 hm h63 hbytes hr
  obtain ⟨p',cap',hv'⟩:=h2.isSlice
  subst hv'
  have h6:n+m≤cap→p'=p0∧cap'=cap:=fun hroom=>by
   rcases hown.2 with ⟨hv,rfl⟩|⟨g,cap2,cur,hv,hbg,hg,hnc,hcm,hcs,htake⟩
   ·cases hv
    omega
   ·cases hv
    have hfit:n*i.size+news.length≤cur.size:=by rw [hl,hcs,← hsize,← Nat.add_mul];exact Nat.mul_le_mul_right _ hroom
    rw [run_append_room w t o.type e i ht hi g n cap cur hg ad m c news (by rw [hsize];exact hl) hq h1 hroom hfit] at hr
    cases hr
    exact ⟨rfl,rfl⟩
  unfold Oper.wp execOp
  simp only [ho,resolve,invoke,builtin,Sem.run_bind,Sem.run_pure,Result.andThen_ok,List.map_toArray,List.map_cons,List.map_nil,hs,hx,hr]
  exact hK _ _ (h p' cap' w' h2 h3 h5 h6)
end
/-- A row of numbers, made longer, comes back. -/
def IsApp (base:Nat) (p0:Option Addr) (n cap m:Nat) (zs:List Nat) (w:World) (e:Ending) (w':World):Prop:=∃ p' cap',e=.returned (.slice p' (n+m) cap')∧w'.ownsRow base 27 1 (.slice p' (n+m) cap') (n+m) (zs.map flv)∧w.grownBy w' (Value.ownBlock (.slice p0 n cap))∧(Value.ownBlock (.slice p' (n+m) cap')=Value.ownBlock (.slice p0 n cap)∨∃ g,Value.ownBlock (.slice p' (n+m) cap')=some g∧w.heap.size≤g)∧(n+m≤cap→p'=p0∧cap'=cap)
set_option maxHeartbeats 2000000 in
set_option maxRecDepth 100000 in
theorem appendAll_any (F:Nat→Prop) (base:Nat) (p0:Option Addr) (n0 cap0 c:Nat) (p:Option Addr) (n cap:Nat) (xs ys:List Nat) (w:World) (hown:w.ownsRow base 27 1 (.slice p0 n0 cap0) n0 (ys.map flv)) (h:FlSl F w (.slice p n cap) xs) (hb:n0+n≤17179869184) (hbase:base≤w.heap.size) :
  Calls Tryz.prog 210 #[.agg #[.int .u8 c,.slice p n cap],.slice p0 n0 cap0] w (IsApp base p0 n0 cap0 n (ys ++ xs) w):=by
 obtain ⟨hnl,hncap,hcap⟩:=h.len
 have HNL:=Lib.hid hnl
 have HNS:=Lib.hid h
 have HOWN:=Lib.hid hown
 have HB:=Lib.hid hb
 have HBA:=Lib.hid hbase
 obtain ⟨i0,hi,hz0,hz1,hz2⟩:=info_parts infoF
 clear h hown hb hnl hbase
 go_enter Tryz.func210,Tryz.ntmps210
 go_wp2_with (at_builtin;(refine wpList_append_fit _ rfl (.tmp 5) (.tmp 7) 22 rfl base 27 i0 _ 1 8 Tryz.underlying22 hi hz0 hz1 hz2 rfl (by decide) p0 n0 cap0 _ rfl (HOWN.out.alloc _) p n cap (xs.map flv) rfl (by rw [List.length_map,HNL.out];omega) (HNS.out.bel (show Bel w _ by exact EL)).feed (flv_one xs) (by unfold maxLen;have:=HB.out;omega) (by have:=HB.out;omega) (by have:=HBA.out;simp;omega) ?_;intro p1 cap1 w1 ho1 hg1 hb1 hf1;have HO1:=Lib.hid ho1;have HG1:=Lib.hid hg1;have HB1:=Lib.hid hb1;have HF1:=Lib.hid hf1;clear ho1 hg1 hb1 hf1))
 go_ret
 refine ⟨p1,cap1,rfl,by rw [List.map_append];exact HO1.out,(Bel.alloc1 w _).grow HG1.out,?_,HF1.out⟩
 rcases HB1.out with q|q
 ·exact Or.inl q
 ·exact Or.inr ⟨_,q,by simp⟩
set_option maxHeartbeats 4000000 in
set_option maxRecDepth 100000 in
theorem appendCo_any (base:Nat) (p0:Option Addr) (n0 cap0 c:Nat) (x y z m:Nat) (ys:List Nat) (w:World) (hc:c≤3) (hown:w.ownsRow base 27 1 (.slice p0 n0 cap0) n0 (ys.map flv)) (hb:n0≤17179869184) (hbase:base≤w.heap.size) :
  Calls Tryz.prog 217 #[.agg #[.float .f64 x,.float .f64 y,.float .f64 z,.float .f64 m,.int .u8 c],.slice p0 n0 cap0] w (IsApp base p0 n0 cap0 (wd c) (ys ++ numsOfPl c ⟨x,y,z,m⟩) w):=by
 have HOWN:=Lib.hid hown
 have HB:=Lib.hid hb
 have HBA:=Lib.hid hbase
 obtain ⟨i0,hi,hz0,hz1,hz2⟩:=info_parts infoF
 clear hown hb hbase
 have h4:c=0∨c=1∨c=2∨c=3:=by omega
 rcases h4 with rfl|rfl|rfl|rfl
 ·have hw:wd 0=2:=by decide
  have hn:numsOfPl 0 ⟨x,y,z,m⟩=[x,y]:=by simp [numsOfPl]
  rw [hw,hn]
  clear hw hn hc
  go_enter Tryz.func217,Tryz.ntmps217
  go_wp2_with (at_builtin;(refine wpList_append_fit _ rfl (.tmp 13) (.tmp 20) 22 rfl base 27 i0 _ 1 8 Tryz.underlying22 hi hz0 hz1 hz2 rfl (by decide) p0 n0 cap0 _ rfl ((HOWN.out.alloc _).alloc _) (some ⟨w.heap.size+1,0,none⟩) 2 2 [.float .f64 x,.float .f64 y] rfl rfl (fun _=>⟨_,rfl,blk_arr (cs:=#[.float .f64 x,.float .f64 y]) (t:=27) (by exact KL)⟩) (by simp [Value.oneCell']) (by unfold maxLen;have:=HB.out;omega) (by have:=HB.out;omega) (by have:=HBA.out;simp;omega) ?_;intro p1 cap1 w1 ho1 hg1 hb1 hf1;have HO1:=Lib.hid ho1;have HG1:=Lib.hid hg1;have HB1:=Lib.hid hb1;have HF1:=Lib.hid hf1;clear ho1 hg1 hb1 hf1))
  go_ret
  refine ⟨p1,cap1,rfl,by rw [List.map_append];exact HO1.out,(show Bel w _ by exact EL).grow HG1.out,?_,HF1.out⟩
  rcases HB1.out with q|q
  ·exact Or.inl q
  ·exact Or.inr ⟨_,q,by simp;omega⟩
 ·have hw:wd 1=3:=by decide
  have hn:numsOfPl 1 ⟨x,y,z,m⟩=[x,y,z]:=by simp [numsOfPl]
  rw [hw,hn]
  clear hw hn hc
  go_enter Tryz.func217,Tryz.ntmps217
  go_wp2_with (at_builtin;(refine wpList_append_fit _ rfl (.tmp 24) (.tmp 33) 22 rfl base 27 i0 _ 1 8 Tryz.underlying22 hi hz0 hz1 hz2 rfl (by decide) p0 n0 cap0 _ rfl ((HOWN.out.alloc _).alloc _) (some ⟨w.heap.size+1,0,none⟩) 3 3 [.float .f64 x,.float .f64 y,.float .f64 z] rfl rfl (fun _=>⟨_,rfl,blk_arr (cs:=#[.float .f64 x,.float .f64 y,.float .f64 z]) (t:=27) (by exact KL)⟩) (by simp [Value.oneCell']) (by unfold maxLen;have:=HB.out;omega) (by have:=HB.out;omega) (by have:=HBA.out;simp;omega) ?_;intro p1 cap1 w1 ho1 hg1 hb1 hf1;have HO1:=Lib.hid ho1;have HG1:=Lib.hid hg1;have HB1:=Lib.hid hb1;have HF1:=Lib.hid hf1;clear ho1 hg1 hb1 hf1))
  go_ret
  refine ⟨p1,cap1,rfl,by rw [List.map_append];exact HO1.out,(show Bel w _ by exact EL).grow HG1.out,?_,HF1.out⟩
  rcases HB1.out with q|q
  ·exact Or.inl q
  ·exact Or.inr ⟨_,q,by simp;omega⟩
 ·have hw:wd 2=3:=by decide
  have hn:numsOfPl 2 ⟨x,y,z,m⟩=[x,y,m]:=by simp [numsOfPl]
  rw [hw,hn]
  clear hw hn hc
  go_enter Tryz.func217,Tryz.ntmps217
  go_wp2_with (at_builtin;(refine wpList_append_fit _ rfl (.tmp 37) (.tmp 46) 22 rfl base 27 i0 _ 1 8 Tryz.underlying22 hi hz0 hz1 hz2 rfl (by decide) p0 n0 cap0 _ rfl ((HOWN.out.alloc _).alloc _) (some ⟨w.heap.size+1,0,none⟩) 3 3 [.float .f64 x,.float .f64 y,.float .f64 m] rfl rfl (fun _=>⟨_,rfl,blk_arr (cs:=#[.float .f64 x,.float .f64 y,.float .f64 m]) (t:=27) (by exact KL)⟩) (by simp [Value.oneCell']) (by unfold maxLen;have:=HB.out;omega) (by have:=HB.out;omega) (by have:=HBA.out;simp;omega) ?_;intro p1 cap1 w1 ho1 hg1 hb1 hf1;have HO1:=Lib.hid ho1;have HG1:=Lib.hid hg1;have HB1:=Lib.hid hb1;have HF1:=Lib.hid hf1;clear ho1 hg1 hb1 hf1))
  go_ret
  refine ⟨p1,cap1,rfl,by rw [List.map_append];exact HO1.out,(show Bel w _ by exact EL).grow HG1.out,?_,HF1.out⟩
  rcases HB1.out with q|q
  ·exact Or.inl q
  ·exact Or.inr ⟨_,q,by simp;omega⟩
 ·have hw:wd 3=4:=by decide
  have hn:numsOfPl 3 ⟨x,y,z,m⟩=[x,y,z,m]:=by simp [numsOfPl]
  rw [hw,hn]
  clear hw hn hc
  go_enter Tryz.func217,Tryz.ntmps217
  go_wp2_with (at_builtin;(refine wpList_append_fit _ rfl (.tmp 50) (.tmp 61) 22 rfl base 27 i0 _ 1 8 Tryz.underlying22 hi hz0 hz1 hz2 rfl (by decide) p0 n0 cap0 _ rfl ((HOWN.out.alloc _).alloc _) (some ⟨w.heap.size+1,0,none⟩) 4 4 [.float .f64 x,.float .f64 y,.float .f64 z,.float .f64 m] rfl rfl (fun _=>⟨_,rfl,blk_arr (cs:=#[.float .f64 x,.float .f64 y,.float .f64 z,.float .f64 m]) (t:=27) (by exact KL)⟩) (by simp [Value.oneCell']) (by unfold maxLen;have:=HB.out;omega) (by have:=HB.out;omega) (by have:=HBA.out;simp;omega) ?_;intro p1 cap1 w1 ho1 hg1 hb1 hf1;have HO1:=Lib.hid ho1;have HG1:=Lib.hid hg1;have HB1:=Lib.hid hb1;have HF1:=Lib.hid hf1;clear ho1 hg1 hb1 hf1))
  go_ret
  refine ⟨p1,cap1,rfl,by rw [List.map_append];exact HO1.out,(show Bel w _ by exact EL).grow HG1.out,?_,HF1.out⟩
  rcases HB1.out with q|q
  ·exact Or.inl q
  ·exact Or.inr ⟨_,q,by simp;omega⟩
end Go.Proofs.YtpipehenfcbjbaaGreatDoor
