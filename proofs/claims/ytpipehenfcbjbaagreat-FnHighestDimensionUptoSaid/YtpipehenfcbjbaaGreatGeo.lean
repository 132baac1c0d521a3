/-
  AsGeometry, MustAs.., the types of objects. No panic; what stood in memory has not turned.
-/
import Derived.Test.YtpipehenfcbjbaaGreatMp
set_option linter.unusedVariables false
namespace Go.Proofs.YtpipehenfcbjbaaGreat
open Go.ChangeShapes Go.WideShapes Go.ChangeAt Go.RowKit
theorem Ob.gi {F : Nat → Prop} {w : World} {cs : List Value} {g : Gm} (h : Ob F w 7 cs g) : ∃ (s b : Nat) (cl : List Value), cs = [.int .i64 s, .iface (ptrT s) (.pointer (some ⟨b, 0, none⟩))] ∧ s ≤ 6 ∧ b < w.heap.size ∧ F b ∧ (∀ (j : Nat) (u : Value), cl[j]? = some u → w.cell? ⟨b, j, none⟩ = some u) ∧ Ob F w s cl g := by
  cases h with
  | parts s e k c p cap gs cs he hc hl hcap hb h0 hkk h1 => cases he
  | geo s b cs g hs' hb hF hc h => exact ⟨s, b, cs, rfl, hs', hb, hF, hc, h⟩
theorem check_any (s : Int) (v : Value) (w : World) (T : TypeId) (a : Addr) : Calls Tryz.prog 75 #[.agg #[.int .i64 s, .iface T (.pointer (some a))], .int .i64 s] w fun e w' => e = .returned (.tuple #[]) ∧ Bel w w' := by
  have hs : (s != s) = false := by simp
  go_enter Tryz.func75, Tryz.ntmps75
  go_wp2
  go_end0
  exact ⟨rfl, by (repeat (first | with_reducible assumption | with_reducible exact Bel.refl _ | with_reducible apply Bel.alloc | with_reducible apply Bel.drew | with_reducible apply Bel.drewN | ((with_reducible apply Bel.setCellR); (simp <;> omega)) | with_reducible refine Bel.behind (by with_reducible assumption) ?_))⟩
set_option maxRecDepth 100000 in
theorem asGeo_0 (F : Nat → Prop) (cs : List Value) (g : Gm) (w : World) (hF : New F w) (h : Ob F w 0 cs g) : Calls Tryz.prog 34 #[.agg cs.toArray] w (IsOb F w 7 g) := by
  have H := Lib.hid h
  obtain ⟨p, cap, c, gs, hcs, -⟩ := h.sl (e := 7) (k := 2) rfl
  subst hcs
  clear h
  generalize gs.length = n at *
  show Calls Tryz.prog 34 #[.agg #[.slice p n cap, .int .u8 c]] w _
  go_enter Tryz.func34, Tryz.ntmps34
  go_wp2
  refine post_ret (results_one rfl (resIs_agg (n := 2) (cs := #[.int .i64 0, .iface 105 (.pointer (some ⟨w.heap.size, 0, none⟩))]) (by rfl) Tryz.underlying36 (by kernel_rfl) (T := 36) ?_ rfl)) ⟨_, rfl, Ob.geo 0 w.heap.size [.slice p n cap, .int .u8 c] g (by decide) ?_ (hF _ (Nat.le_refl _)) (fun j u hu => ?_) ?_, ?_⟩
  · (apply Blk.cast; (repeat (first | with_reducible assumption | with_reducible apply Blk.set | ((with_reducible apply Blk.otherR); (focus ((simp <;> omega); done))) | with_reducible exact Blk.new _ _ _ | ((with_reducible apply Blk.new'); (focus (simp; done))) | with_reducible apply Blk.alloc | with_reducible apply Blk.drew | with_reducible apply Blk.drewN | (with_reducible refine Blk.bel ?_ (by with_reducible assumption)))); rfl)
  · simp; omega
  · have hB : Blk (w.alloc (.cells #[.slice p n cap, .int .u8 c] 72)) w.heap.size #[.slice p n cap, .int .u8 c] 72 := Blk.new _ _ _
    rw [(hB.alloc _).rules.1 j]
    simpa using hu
  · exact H.out.bel (show Bel w _ by (repeat (first | with_reducible assumption | with_reducible exact Bel.refl _ | with_reducible apply Bel.alloc | with_reducible apply Bel.drew | with_reducible apply Bel.drewN | ((with_reducible apply Bel.setCellR); (simp <;> omega)) | with_reducible refine Bel.behind (by with_reducible assumption) ?_)))
  · (repeat (first | with_reducible assumption | with_reducible exact Bel.refl _ | with_reducible apply Bel.alloc | with_reducible apply Bel.drew | with_reducible apply Bel.drewN | ((with_reducible apply Bel.setCellR); (simp <;> omega)) | with_reducible refine Bel.behind (by with_reducible assumption) ?_))
set_option maxRecDepth 100000 in
theorem mustAs_0 (p : Option Addr) (n cap c : Nat) (b : Nat) (w : World) (h0 : w.cell? ⟨b, 0, none⟩ = some (.slice p n cap)) (h1 : w.cell? ⟨b, 1, none⟩ = some (.int .u8 c)) : Calls Tryz.prog 40 #[.agg #[.int .i64 0, .iface 105 (.pointer (some ⟨b, 0, none⟩))]] w fun e w' => e = .returned (.agg #[.slice p n cap, .int .u8 c]) ∧ Bel w w' := by
  have hb := World.block_lt_of_cell? w _ h0
  simp only at hb
  have hta : ∀ w, (Instr.typeAssert (Value.iface 105 (.pointer (some ⟨b, 0, none⟩))) 20 105 false).run Tryz.prog w = .ok (.pointer (some ⟨b, 0, none⟩)) w := fun _ => by kernel_rfl
  go_enter Tryz.func40, Tryz.ntmps40
  go_wp2_with (go_at_call 75; refine (check_any _ (.bool false) _ _ _).mono ?_; rintro e w1 ⟨rfl, hb1⟩; have HB1 : Hid (Bel w w1) := Lib.hid (((Bel.alloc1 w _).alloc _).trans hb1); have B1 := ((Blk.new w #[.int .i64 0, .iface 105 (.pointer (some ⟨b, 0, none⟩))] 36).alloc _).bel hb1; obtain ⟨r1, z1, l1⟩ := B1.facts; have B2 := (Blk.new' (w.alloc _) _ 72 (b := w.heap.size + 1) (by simp)).bel hb1; obtain ⟨r2, z2, l2⟩ := B2.facts; have HP2 := Lib.hid B2; have D0 := cell_kept HB1.out h0; have D1 := cell_kept HB1.out h1; have hbl : b < w1.heap.size := Nat.lt_of_lt_of_le hb HB1.out.size; clear hb1 B1 B2)
  refine post_ret (results_one rfl (resIs_agg (n := 2) (cs := #[.slice p n cap, .int .u8 c]) (by rfl) Tryz.underlying72 (by kernel_rfl) (T := 72) ?_ rfl)) ⟨rfl, ?_⟩
  · have HB := HP2.out
    (apply Blk.cast; (repeat (first | with_reducible assumption | with_reducible apply Blk.set | ((with_reducible apply Blk.otherR); (focus ((simp <;> omega); done))) | with_reducible exact Blk.new _ _ _ | ((with_reducible apply Blk.new'); (focus (simp; done))) | with_reducible apply Blk.alloc | with_reducible apply Blk.drew | with_reducible apply Blk.drewN | (with_reducible refine Blk.bel ?_ (by with_reducible assumption)))); rfl)
  · have HB := HB1.out
    (repeat (first | with_reducible assumption | with_reducible exact Bel.refl _ | with_reducible apply Bel.alloc | with_reducible apply Bel.drew | with_reducible apply Bel.drewN | ((with_reducible apply Bel.setCellR); (simp <;> omega)) | with_reducible refine Bel.behind (by with_reducible assumption) ?_))
set_option maxRecDepth 100000 in
theorem asGeo_1 (F : Nat → Prop) (cs : List Value) (g : Gm) (w : World) (hF : New F w) (h : Ob F w 1 cs g) : Calls Tryz.prog 22 #[.agg cs.toArray] w (IsOb F w 7 g) := by
  have H := Lib.hid h
  obtain ⟨x, y, z, m, c, full, hcs, -⟩ := h.pt
  subst hcs
  clear h
  show Calls Tryz.prog 22 #[.agg #[.float .f64 x, .float .f64 y, .float .f64 z, .float .f64 m, .int .u8 c, .bool full]] w _
  go_enter Tryz.func22, Tryz.ntmps22
  go_wp2
  refine post_ret (results_one rfl (resIs_agg (n := 2) (cs := #[.int .i64 1, .iface 87 (.pointer (some ⟨w.heap.size, 0, none⟩))]) (by rfl) Tryz.underlying36 (by kernel_rfl) (T := 36) ?_ rfl)) ⟨_, rfl, Ob.geo 1 w.heap.size [.float .f64 x, .float .f64 y, .float .f64 z, .float .f64 m, .int .u8 c, .bool full] g (by decide) ?_ (hF _ (Nat.le_refl _)) (fun j u hu => ?_) ?_, ?_⟩
  · (apply Blk.cast; (repeat (first | with_reducible assumption | with_reducible apply Blk.set | ((with_reducible apply Blk.otherR); (focus ((simp <;> omega); done))) | with_reducible exact Blk.new _ _ _ | ((with_reducible apply Blk.new'); (focus (simp; done))) | with_reducible apply Blk.alloc | with_reducible apply Blk.drew | with_reducible apply Blk.drewN | (with_reducible refine Blk.bel ?_ (by with_reducible assumption)))); rfl)
  · simp; omega
  · have hB : Blk (w.alloc (.cells #[.float .f64 x, .float .f64 y, .float .f64 z, .float .f64 m, .int .u8 c, .bool full] 47)) w.heap.size #[.float .f64 x, .float .f64 y, .float .f64 z, .float .f64 m, .int .u8 c, .bool full] 47 := Blk.new _ _ _
    rw [(hB.alloc _).rules.1 j]
    simpa using hu
  · exact H.out.bel (show Bel w _ by (repeat (first | with_reducible assumption | with_reducible exact Bel.refl _ | with_reducible apply Bel.alloc | with_reducible apply Bel.drew | with_reducible apply Bel.drewN | ((with_reducible apply Bel.setCellR); (simp <;> omega)) | with_reducible refine Bel.behind (by with_reducible assumption) ?_)))
  · (repeat (first | with_reducible assumption | with_reducible exact Bel.refl _ | with_reducible apply Bel.alloc | with_reducible apply Bel.drew | with_reducible apply Bel.drewN | ((with_reducible apply Bel.setCellR); (simp <;> omega)) | with_reducible refine Bel.behind (by with_reducible assumption) ?_))
set_option maxRecDepth 100000 in
theorem mustAs_1 (x y z m c : Nat) (full : Bool) (b : Nat) (w : World) (h0 : w.cell? ⟨b, 0, none⟩ = some (.float .f64 x)) (h1 : w.cell? ⟨b, 1, none⟩ = some (.float .f64 y)) (h2 : w.cell? ⟨b, 2, none⟩ = some (.float .f64 z)) (h3 : w.cell? ⟨b, 3, none⟩ = some (.float .f64 m)) (h4 : w.cell? ⟨b, 4, none⟩ = some (.int .u8 c)) (h5 : w.cell? ⟨b, 5, none⟩ = some (.bool full)) : Calls Tryz.prog 61 #[.agg #[.int .i64 1, .iface 87 (.pointer (some ⟨b, 0, none⟩))]] w fun e w' => e = .returned (.agg #[.float .f64 x, .float .f64 y, .float .f64 z, .float .f64 m, .int .u8 c, .bool full]) ∧ Bel w w' := by
  have hb := World.block_lt_of_cell? w _ h0
  simp only at hb
  have hta : ∀ w, (Instr.typeAssert (Value.iface 87 (.pointer (some ⟨b, 0, none⟩))) 20 87 false).run Tryz.prog w = .ok (.pointer (some ⟨b, 0, none⟩)) w := fun _ => by kernel_rfl
  go_enter Tryz.func61, Tryz.ntmps61
  go_wp2_with (go_at_call 75; refine (check_any _ (.bool false) _ _ _).mono ?_; rintro e w1 ⟨rfl, hb1⟩; have HB1 : Hid (Bel w w1) := Lib.hid (((Bel.alloc1 w _).alloc _).trans hb1); have B1 := ((Blk.new w #[.int .i64 1, .iface 87 (.pointer (some ⟨b, 0, none⟩))] 36).alloc _).bel hb1; obtain ⟨r1, z1, l1⟩ := B1.facts; have B2 := (Blk.new' (w.alloc _) _ 47 (b := w.heap.size + 1) (by simp)).bel hb1; obtain ⟨r2, z2, l2⟩ := B2.facts; have HP2 := Lib.hid B2; have D0 := cell_kept HB1.out h0; have D1 := cell_kept HB1.out h1; have D2 := cell_kept HB1.out h2; have D3 := cell_kept HB1.out h3; have D4 := cell_kept HB1.out h4; have D5 := cell_kept HB1.out h5; have hbl : b < w1.heap.size := Nat.lt_of_lt_of_le hb HB1.out.size; clear hb1 B1 B2)
  refine post_ret (results_one rfl (resIs_agg (n := 6) (cs := #[.float .f64 x, .float .f64 y, .float .f64 z, .float .f64 m, .int .u8 c, .bool full]) (by rfl) Tryz.underlying47 (by kernel_rfl) (T := 47) ?_ rfl)) ⟨rfl, ?_⟩
  · have HB := HP2.out
    (apply Blk.cast; (repeat (first | with_reducible assumption | with_reducible apply Blk.set | ((with_reducible apply Blk.otherR); (focus ((simp <;> omega); done))) | with_reducible exact Blk.new _ _ _ | ((with_reducible apply Blk.new'); (focus (simp; done))) | with_reducible apply Blk.alloc | with_reducible apply Blk.drew | with_reducible apply Blk.drewN | (with_reducible refine Blk.bel ?_ (by with_reducible assumption)))); rfl)
  · have HB := HB1.out
    (repeat (first | with_reducible assumption | with_reducible exact Bel.refl _ | with_reducible apply Bel.alloc | with_reducible apply Bel.drew | with_reducible apply Bel.drewN | ((with_reducible apply Bel.setCellR); (simp <;> omega)) | with_reducible refine Bel.behind (by with_reducible assumption) ?_))
set_option maxRecDepth 100000 in
theorem asGeo_2 (F : Nat → Prop) (cs : List Value) (g : Gm) (w : World) (hF : New F w) (h : Ob F w 2 cs g) : Calls Tryz.prog 24 #[.agg cs.toArray] w (IsOb F w 7 g) := by
  have H := Lib.hid h
  obtain ⟨c, p, n, cap, xs, hcs, -⟩ := h.ln
  subst hcs
  clear h
  show Calls Tryz.prog 24 #[.agg #[.int .u8 c, .slice p n cap]] w _
  go_enter Tryz.func24, Tryz.ntmps24
  go_wp2
  refine post_ret (results_one rfl (resIs_agg (n := 2) (cs := #[.int .i64 2, .iface 89 (.pointer (some ⟨w.heap.size, 0, none⟩))]) (by rfl) Tryz.underlying36 (by kernel_rfl) (T := 36) ?_ rfl)) ⟨_, rfl, Ob.geo 2 w.heap.size [.int .u8 c, .slice p n cap] g (by decide) ?_ (hF _ (Nat.le_refl _)) (fun j u hu => ?_) ?_, ?_⟩
  · (apply Blk.cast; (repeat (first | with_reducible assumption | with_reducible apply Blk.set | ((with_reducible apply Blk.otherR); (focus ((simp <;> omega); done))) | with_reducible exact Blk.new _ _ _ | ((with_reducible apply Blk.new'); (focus (simp; done))) | with_reducible apply Blk.alloc | with_reducible apply Blk.drew | with_reducible apply Blk.drewN | (with_reducible refine Blk.bel ?_ (by with_reducible assumption)))); rfl)
  · simp; omega
  · have hB : Blk (w.alloc (.cells #[.int .u8 c, .slice p n cap] 53)) w.heap.size #[.int .u8 c, .slice p n cap] 53 := Blk.new _ _ _
    rw [(hB.alloc _).rules.1 j]
    simpa using hu
  · exact H.out.bel (show Bel w _ by (repeat (first | with_reducible assumption | with_reducible exact Bel.refl _ | with_reducible apply Bel.alloc | with_reducible apply Bel.drew | with_reducible apply Bel.drewN | ((with_reducible apply Bel.setCellR); (simp <;> omega)) | with_reducible refine Bel.behind (by with_reducible assumption) ?_)))
  · (repeat (first | with_reducible assumption | with_reducible exact Bel.refl _ | with_reducible apply Bel.alloc | with_reducible apply Bel.drew | with_reducible apply Bel.drewN | ((with_reducible apply Bel.setCellR); (simp <;> omega)) | with_reducible refine Bel.behind (by with_reducible assumption) ?_))
set_option maxRecDepth 100000 in
theorem mustAs_2 (c : Nat) (p : Option Addr) (n cap : Nat) (b : Nat) (w : World) (h0 : w.cell? ⟨b, 0, none⟩ = some (.int .u8 c)) (h1 : w.cell? ⟨b, 1, none⟩ = some (.slice p n cap)) : Calls Tryz.prog 63 #[.agg #[.int .i64 2, .iface 89 (.pointer (some ⟨b, 0, none⟩))]] w fun e w' => e = .returned (.agg #[.int .u8 c, .slice p n cap]) ∧ Bel w w' := by
  have hb := World.block_lt_of_cell? w _ h0
  simp only at hb
  have hta : ∀ w, (Instr.typeAssert (Value.iface 89 (.pointer (some ⟨b, 0, none⟩))) 20 89 false).run Tryz.prog w = .ok (.pointer (some ⟨b, 0, none⟩)) w := fun _ => by kernel_rfl
  go_enter Tryz.func63, Tryz.ntmps63
  go_wp2_with (go_at_call 75; refine (check_any _ (.bool false) _ _ _).mono ?_; rintro e w1 ⟨rfl, hb1⟩; have HB1 : Hid (Bel w w1) := Lib.hid (((Bel.alloc1 w _).alloc _).trans hb1); have B1 := ((Blk.new w #[.int .i64 2, .iface 89 (.pointer (some ⟨b, 0, none⟩))] 36).alloc _).bel hb1; obtain ⟨r1, z1, l1⟩ := B1.facts; have B2 := (Blk.new' (w.alloc _) _ 53 (b := w.heap.size + 1) (by simp)).bel hb1; obtain ⟨r2, z2, l2⟩ := B2.facts; have HP2 := Lib.hid B2; have D0 := cell_kept HB1.out h0; have D1 := cell_kept HB1.out h1; have hbl : b < w1.heap.size := Nat.lt_of_lt_of_le hb HB1.out.size; clear hb1 B1 B2)
  refine post_ret (results_one rfl (resIs_agg (n := 2) (cs := #[.int .u8 c, .slice p n cap]) (by rfl) Tryz.underlying53 (by kernel_rfl) (T := 53) ?_ rfl)) ⟨rfl, ?_⟩
  · have HB := HP2.out
    (apply Blk.cast; (repeat (first | with_reducible assumption | with_reducible apply Blk.set | ((with_reducible apply Blk.otherR); (focus ((simp <;> omega); done))) | with_reducible exact Blk.new _ _ _ | ((with_reducible apply Blk.new'); (focus (simp; done))) | with_reducible apply Blk.alloc | with_reducible apply Blk.drew | with_reducible apply Blk.drewN | (with_reducible refine Blk.bel ?_ (by with_reducible assumption)))); rfl)
  · have HB := HB1.out
    (repeat (first | with_reducible assumption | with_reducible exact Bel.refl _ | with_reducible apply Bel.alloc | with_reducible apply Bel.drew | with_reducible apply Bel.drewN | ((with_reducible apply Bel.setCellR); (simp <;> omega)) | with_reducible refine Bel.behind (by with_reducible assumption) ?_))
set_option maxRecDepth 100000 in
theorem asGeo_3 (F : Nat → Prop) (cs : List Value) (g : Gm) (w : World) (hF : New F w) (h : Ob F w 3 cs g) : Calls Tryz.prog 26 #[.agg cs.toArray] w (IsOb F w 7 g) := by
  have H := Lib.hid h
  obtain ⟨p, cap, c, gs, hcs, -⟩ := h.sl (e := 2) (k := 2) rfl
  subst hcs
  clear h
  generalize gs.length = n at *
  show Calls Tryz.prog 26 #[.agg #[.slice p n cap, .int .u8 c]] w _
  go_enter Tryz.func26, Tryz.ntmps26
  go_wp2
  refine post_ret (results_one rfl (resIs_agg (n := 2) (cs := #[.int .i64 3, .iface 92 (.pointer (some ⟨w.heap.size, 0, none⟩))]) (by rfl) Tryz.underlying36 (by kernel_rfl) (T := 36) ?_ rfl)) ⟨_, rfl, Ob.geo 3 w.heap.size [.slice p n cap, .int .u8 c] g (by decide) ?_ (hF _ (Nat.le_refl _)) (fun j u hu => ?_) ?_, ?_⟩
  · (apply Blk.cast; (repeat (first | with_reducible assumption | with_reducible apply Blk.set | ((with_reducible apply Blk.otherR); (focus ((simp <;> omega); done))) | with_reducible exact Blk.new _ _ _ | ((with_reducible apply Blk.new'); (focus (simp; done))) | with_reducible apply Blk.alloc | with_reducible apply Blk.drew | with_reducible apply Blk.drewN | (with_reducible refine Blk.bel ?_ (by with_reducible assumption)))); rfl)
  · simp; omega
  · have hB : Blk (w.alloc (.cells #[.slice p n cap, .int .u8 c] 57)) w.heap.size #[.slice p n cap, .int .u8 c] 57 := Blk.new _ _ _
    rw [(hB.alloc _).rules.1 j]
    simpa using hu
  · exact H.out.bel (show Bel w _ by (repeat (first | with_reducible assumption | with_reducible exact Bel.refl _ | with_reducible apply Bel.alloc | with_reducible apply Bel.drew | with_reducible apply Bel.drewN | ((with_reducible apply Bel.setCellR); (simp <;> omega)) | with_reducible refine Bel.behind (by with_reducible assumption) ?_)))
  · (repeat (first | with_reducible assumption | with_reducible exact Bel.refl _ | with_reducible apply Bel.alloc | with_reducible apply Bel.drew | with_reducible apply Bel.drewN | ((with_reducible apply Bel.setCellR); (simp <;> omega)) | with_reducible refine Bel.behind (by with_reducible assumption) ?_))
set_option maxRecDepth 100000 in
theorem mustAs_3 (p : Option Addr) (n cap c : Nat) (b : Nat) (w : World) (h0 : w.cell? ⟨b, 0, none⟩ = some (.slice p n cap)) (h1 : w.cell? ⟨b, 1, none⟩ = some (.int .u8 c)) : Calls Tryz.prog 65 #[.agg #[.int .i64 3, .iface 92 (.pointer (some ⟨b, 0, none⟩))]] w fun e w' => e = .returned (.agg #[.slice p n cap, .int .u8 c]) ∧ Bel w w' := by
  have hb := World.block_lt_of_cell? w _ h0
  simp only at hb
  have hta : ∀ w, (Instr.typeAssert (Value.iface 92 (.pointer (some ⟨b, 0, none⟩))) 20 92 false).run Tryz.prog w = .ok (.pointer (some ⟨b, 0, none⟩)) w := fun _ => by kernel_rfl
  go_enter Tryz.func65, Tryz.ntmps65
  go_wp2_with (go_at_call 75; refine (check_any _ (.bool false) _ _ _).mono ?_; rintro e w1 ⟨rfl, hb1⟩; have HB1 : Hid (Bel w w1) := Lib.hid (((Bel.alloc1 w _).alloc _).trans hb1); have B1 := ((Blk.new w #[.int .i64 3, .iface 92 (.pointer (some ⟨b, 0, none⟩))] 36).alloc _).bel hb1; obtain ⟨r1, z1, l1⟩ := B1.facts; have B2 := (Blk.new' (w.alloc _) _ 57 (b := w.heap.size + 1) (by simp)).bel hb1; obtain ⟨r2, z2, l2⟩ := B2.facts; have HP2 := Lib.hid B2; have D0 := cell_kept HB1.out h0; have D1 := cell_kept HB1.out h1; have hbl : b < w1.heap.size := Nat.lt_of_lt_of_le hb HB1.out.size; clear hb1 B1 B2)
  refine post_ret (results_one rfl (resIs_agg (n := 2) (cs := #[.slice p n cap, .int .u8 c]) (by rfl) Tryz.underlying57 (by kernel_rfl) (T := 57) ?_ rfl)) ⟨rfl, ?_⟩
  · have HB := HP2.out
    (apply Blk.cast; (repeat (first | with_reducible assumption | with_reducible apply Blk.set | ((with_reducible apply Blk.otherR); (focus ((simp <;> omega); done))) | with_reducible exact Blk.new _ _ _ | ((with_reducible apply Blk.new'); (focus (simp; done))) | with_reducible apply Blk.alloc | with_reducible apply Blk.drew | with_reducible apply Blk.drewN | (with_reducible refine Blk.bel ?_ (by with_reducible assumption)))); rfl)
  · have HB := HB1.out
    (repeat (first | with_reducible assumption | with_reducible exact Bel.refl _ | with_reducible apply Bel.alloc | with_reducible apply Bel.drew | with_reducible apply Bel.drewN | ((with_reducible apply Bel.setCellR); (simp <;> omega)) | with_reducible refine Bel.behind (by with_reducible assumption) ?_))
set_option maxRecDepth 100000 in
theorem asGeo_4 (F : Nat → Prop) (cs : List Value) (g : Gm) (w : World) (hF : New F w) (h : Ob F w 4 cs g) : Calls Tryz.prog 28 #[.agg cs.toArray] w (IsOb F w 7 g) := by
  have H := Lib.hid h
  obtain ⟨p, cap, c, gs, hcs, -⟩ := h.sl (e := 1) (k := 6) rfl
  subst hcs
  clear h
  generalize gs.length = n at *
  show Calls Tryz.prog 28 #[.agg #[.slice p n cap, .int .u8 c]] w _
  go_enter Tryz.func28, Tryz.ntmps28
  go_wp2
  refine post_ret (results_one rfl (resIs_agg (n := 2) (cs := #[.int .i64 4, .iface 95 (.pointer (some ⟨w.heap.size, 0, none⟩))]) (by rfl) Tryz.underlying36 (by kernel_rfl) (T := 36) ?_ rfl)) ⟨_, rfl, Ob.geo 4 w.heap.size [.slice p n cap, .int .u8 c] g (by decide) ?_ (hF _ (Nat.le_refl _)) (fun j u hu => ?_) ?_, ?_⟩
  · (apply Blk.cast; (repeat (first | with_reducible assumption | with_reducible apply Blk.set | ((with_reducible apply Blk.otherR); (focus ((simp <;> omega); done))) | with_reducible exact Blk.new _ _ _ | ((with_reducible apply Blk.new'); (focus (simp; done))) | with_reducible apply Blk.alloc | with_reducible apply Blk.drew | with_reducible apply Blk.drewN | (with_reducible refine Blk.bel ?_ (by with_reducible assumption)))); rfl)
  · simp; omega
  · have hB : Blk (w.alloc (.cells #[.slice p n cap, .int .u8 c] 61)) w.heap.size #[.slice p n cap, .int .u8 c] 61 := Blk.new _ _ _
    rw [(hB.alloc _).rules.1 j]
    simpa using hu
  · exact H.out.bel (show Bel w _ by (repeat (first | with_reducible assumption | with_reducible exact Bel.refl _ | with_reducible apply Bel.alloc | with_reducible apply Bel.drew | with_reducible apply Bel.drewN | ((with_reducible apply Bel.setCellR); (simp <;> omega)) | with_reducible refine Bel.behind (by with_reducible assumption) ?_)))
  · (repeat (first | with_reducible assumption | with_reducible exact Bel.refl _ | with_reducible apply Bel.alloc | with_reducible apply Bel.drew | with_reducible apply Bel.drewN | ((with_reducible apply Bel.setCellR); (simp <;> omega)) | with_reducible refine Bel.behind (by with_reducible assumption) ?_))
set_option maxRecDepth 100000 in
theorem mustAs_4 (p : Option Addr) (n cap c : Nat) (b : Nat) (w : World) (h0 : w.cell? ⟨b, 0, none⟩ = some (.slice p n cap)) (h1 : w.cell? ⟨b, 1, none⟩ = some (.int .u8 c)) : Calls Tryz.prog 67 #[.agg #[.int .i64 4, .iface 95 (.pointer (some ⟨b, 0, none⟩))]] w fun e w' => e = .returned (.agg #[.slice p n cap, .int .u8 c]) ∧ Bel w w' := by
  have hb := World.block_lt_of_cell? w _ h0
  simp only at hb
  have hta : ∀ w, (Instr.typeAssert (Value.iface 95 (.pointer (some ⟨b, 0, none⟩))) 20 95 false).run Tryz.prog w = .ok (.pointer (some ⟨b, 0, none⟩)) w := fun _ => by kernel_rfl
  go_enter Tryz.func67, Tryz.ntmps67
  go_wp2_with (go_at_call 75; refine (check_any _ (.bool false) _ _ _).mono ?_; rintro e w1 ⟨rfl, hb1⟩; have HB1 : Hid (Bel w w1) := Lib.hid (((Bel.alloc1 w _).alloc _).trans hb1); have B1 := ((Blk.new w #[.int .i64 4, .iface 95 (.pointer (some ⟨b, 0, none⟩))] 36).alloc _).bel hb1; obtain ⟨r1, z1, l1⟩ := B1.facts; have B2 := (Blk.new' (w.alloc _) _ 61 (b := w.heap.size + 1) (by simp)).bel hb1; obtain ⟨r2, z2, l2⟩ := B2.facts; have HP2 := Lib.hid B2; have D0 := cell_kept HB1.out h0; have D1 := cell_kept HB1.out h1; have hbl : b < w1.heap.size := Nat.lt_of_lt_of_le hb HB1.out.size; clear hb1 B1 B2)
  refine post_ret (results_one rfl (resIs_agg (n := 2) (cs := #[.slice p n cap, .int .u8 c]) (by rfl) Tryz.underlying61 (by kernel_rfl) (T := 61) ?_ rfl)) ⟨rfl, ?_⟩
  · have HB := HP2.out
    (apply Blk.cast; (repeat (first | with_reducible assumption | with_reducible apply Blk.set | ((with_reducible apply Blk.otherR); (focus ((simp <;> omega); done))) | with_reducible exact Blk.new _ _ _ | ((with_reducible apply Blk.new'); (focus (simp; done))) | with_reducible apply Blk.alloc | with_reducible apply Blk.drew | with_reducible apply Blk.drewN | (with_reducible refine Blk.bel ?_ (by with_reducible assumption)))); rfl)
  · have HB := HB1.out
    (repeat (first | with_reducible assumption | with_reducible exact Bel.refl _ | with_reducible apply Bel.alloc | with_reducible apply Bel.drew | with_reducible apply Bel.drewN | ((with_reducible apply Bel.setCellR); (simp <;> omega)) | with_reducible refine Bel.behind (by with_reducible assumption) ?_))
set_option maxRecDepth 100000 in
theorem asGeo_5 (F : Nat → Prop) (cs : List Value) (g : Gm) (w : World) (hF : New F w) (h : Ob F w 5 cs g) : Calls Tryz.prog 30 #[.agg cs.toArray] w (IsOb F w 7 g) := by
  have H := Lib.hid h
  obtain ⟨p, cap, c, gs, hcs, -⟩ := h.sl (e := 2) (k := 2) rfl
  subst hcs
  clear h
  generalize gs.length = n at *
  show Calls Tryz.prog 30 #[.agg #[.slice p n cap, .int .u8 c]] w _
  go_enter Tryz.func30, Tryz.ntmps30
  go_wp2
  refine post_ret (results_one rfl (resIs_agg (n := 2) (cs := #[.int .i64 5, .iface 98 (.pointer (some ⟨w.heap.size, 0, none⟩))]) (by rfl) Tryz.underlying36 (by kernel_rfl) (T := 36) ?_ rfl)) ⟨_, rfl, Ob.geo 5 w.heap.size [.slice p n cap, .int .u8 c] g (by decide) ?_ (hF _ (Nat.le_refl _)) (fun j u hu => ?_) ?_, ?_⟩
  · (apply Blk.cast; (repeat (first | with_reducible assumption | with_reducible apply Blk.set | ((with_reducible apply Blk.otherR); (focus ((simp <;> omega); done))) | with_reducible exact Blk.new _ _ _ | ((with_reducible apply Blk.new'); (focus (simp; done))) | with_reducible apply Blk.alloc | with_reducible apply Blk.drew | with_reducible apply Blk.drewN | (with_reducible refine Blk.bel ?_ (by with_reducible assumption)))); rfl)
  · simp; omega
  · have hB : Blk (w.alloc (.cells #[.slice p n cap, .int .u8 c] 64)) w.heap.size #[.slice p n cap, .int .u8 c] 64 := Blk.new _ _ _
    rw [(hB.alloc _).rules.1 j]
    simpa using hu
  · exact H.out.bel (show Bel w _ by (repeat (first | with_reducible assumption | with_reducible exact Bel.refl _ | with_reducible apply Bel.alloc | with_reducible apply Bel.drew | with_reducible apply Bel.drewN | ((with_reducible apply Bel.setCellR); (simp <;> omega)) | with_reducible refine Bel.behind (by with_reducible assumption) ?_)))
  · (repeat (first | with_reducible assumption | with_reducible exact Bel.refl _ | with_reducible apply Bel.alloc | with_reducible apply Bel.drew | with_reducible apply Bel.drewN | ((with_reducible apply Bel.setCellR); (simp <;> omega)) | with_reducible refine Bel.behind (by with_reducible assumption) ?_))
set_option maxRecDepth 100000 in
theorem mustAs_5 (p : Option Addr) (n cap c : Nat) (b : Nat) (w : World) (h0 : w.cell? ⟨b, 0, none⟩ = some (.slice p n cap)) (h1 : w.cell? ⟨b, 1, none⟩ = some (.int .u8 c)) : Calls Tryz.prog 69 #[.agg #[.int .i64 5, .iface 98 (.pointer (some ⟨b, 0, none⟩))]] w fun e w' => e = .returned (.agg #[.slice p n cap, .int .u8 c]) ∧ Bel w w' := by
  have hb := World.block_lt_of_cell? w _ h0
  simp only at hb
  have hta : ∀ w, (Instr.typeAssert (Value.iface 98 (.pointer (some ⟨b, 0, none⟩))) 20 98 false).run Tryz.prog w = .ok (.pointer (some ⟨b, 0, none⟩)) w := fun _ => by kernel_rfl
  go_enter Tryz.func69, Tryz.ntmps69
  go_wp2_with (go_at_call 75; refine (check_any _ (.bool false) _ _ _).mono ?_; rintro e w1 ⟨rfl, hb1⟩; have HB1 : Hid (Bel w w1) := Lib.hid (((Bel.alloc1 w _).alloc _).trans hb1); have B1 := ((Blk.new w #[.int .i64 5, .iface 98 (.pointer (some ⟨b, 0, none⟩))] 36).alloc _).bel hb1; obtain ⟨r1, z1, l1⟩ := B1.facts; have B2 := (Blk.new' (w.alloc _) _ 64 (b := w.heap.size + 1) (by simp)).bel hb1; obtain ⟨r2, z2, l2⟩ := B2.facts; have HP2 := Lib.hid B2; have D0 := cell_kept HB1.out h0; have D1 := cell_kept HB1.out h1; have hbl : b < w1.heap.size := Nat.lt_of_lt_of_le hb HB1.out.size; clear hb1 B1 B2)
  refine post_ret (results_one rfl (resIs_agg (n := 2) (cs := #[.slice p n cap, .int .u8 c]) (by rfl) Tryz.underlying64 (by kernel_rfl) (T := 64) ?_ rfl)) ⟨rfl, ?_⟩
  · have HB := HP2.out
    (apply Blk.cast; (repeat (first | with_reducible assumption | with_reducible apply Blk.set | ((with_reducible apply Blk.otherR); (focus ((simp <;> omega); done))) | with_reducible exact Blk.new _ _ _ | ((with_reducible apply Blk.new'); (focus (simp; done))) | with_reducible apply Blk.alloc | with_reducible apply Blk.drew | with_reducible apply Blk.drewN | (with_reducible refine Blk.bel ?_ (by with_reducible assumption)))); rfl)
  · have HB := HB1.out
    (repeat (first | with_reducible assumption | with_reducible exact Bel.refl _ | with_reducible apply Bel.alloc | with_reducible apply Bel.drew | with_reducible apply Bel.drewN | ((with_reducible apply Bel.setCellR); (simp <;> omega)) | with_reducible refine Bel.behind (by with_reducible assumption) ?_))
set_option maxRecDepth 100000 in
theorem asGeo_6 (F : Nat → Prop) (cs : List Value) (g : Gm) (w : World) (hF : New F w) (h : Ob F w 6 cs g) : Calls Tryz.prog 32 #[.agg cs.toArray] w (IsOb F w 7 g) := by
  have H := Lib.hid h
  obtain ⟨p, cap, c, gs, hcs, -⟩ := h.sl (e := 3) (k := 2) rfl
  subst hcs
  clear h
  generalize gs.length = n at *
  show Calls Tryz.prog 32 #[.agg #[.slice p n cap, .int .u8 c]] w _
  go_enter Tryz.func32, Tryz.ntmps32
  go_wp2
  refine post_ret (results_one rfl (resIs_agg (n := 2) (cs := #[.int .i64 6, .iface 101 (.pointer (some ⟨w.heap.size, 0, none⟩))]) (by rfl) Tryz.underlying36 (by kernel_rfl) (T := 36) ?_ rfl)) ⟨_, rfl, Ob.geo 6 w.heap.size [.slice p n cap, .int .u8 c] g (by decide) ?_ (hF _ (Nat.le_refl _)) (fun j u hu => ?_) ?_, ?_⟩
  · (apply Blk.cast; (repeat (first | with_reducible assumption | with_reducible apply Blk.set | ((with_reducible apply Blk.otherR); (focus ((simp <;> omega); done))) | with_reducible exact Blk.new _ _ _ | ((with_reducible apply Blk.new'); (focus (simp; done))) | with_reducible apply Blk.alloc | with_reducible apply Blk.drew | with_reducible apply Blk.drewN | (with_reducible refine Blk.bel ?_ (by with_reducible assumption)))); rfl)
  · simp; omega
  · have hB : Blk (w.alloc (.cells #[.slice p n cap, .int .u8 c] 68)) w.heap.size #[.slice p n cap, .int .u8 c] 68 := Blk.new _ _ _
    rw [(hB.alloc _).rules.1 j]
    simpa using hu
  · exact H.out.bel (show Bel w _ by (repeat (first | with_reducible assumption | with_reducible exact Bel.refl _ | with_reducible apply Bel.alloc | with_reducible apply Bel.drew | with_reducible apply Bel.drewN | ((with_reducible apply Bel.setCellR); (simp <;> omega)) | with_reducible refine Bel.behind (by with_reducible assumption) ?_)))
  · (repeat (first | with_reducible assumption | with_reducible exact Bel.refl _ | with_reducible apply Bel.alloc | with_reducible apply Bel.drew | with_reducible apply Bel.drewN | ((with_reducible apply Bel.setCellR); (simp <;> omega)) | with_reducible refine Bel.behind (by with_reducible assumption) ?_))
set_option maxRecDepth 100000 in
theorem mustAs_6 (p : Option Addr) (n cap c : Nat) (b : Nat) (w : World) (h0 : w.cell? ⟨b, 0, none⟩ = some (.slice p n cap)) (h1 : w.cell? ⟨b, 1, none⟩ = some (.int .u8 c)) : Calls Tryz.prog 71 #[.agg #[.int .i64 6, .iface 101 (.pointer (some ⟨b, 0, none⟩))]] w fun e w' => e = .returned (.agg #[.slice p n cap, .int .u8 c]) ∧ Bel w w' := by
  have hb := World.block_lt_of_cell? w _ h0
  simp only at hb
  have hta : ∀ w, (Instr.typeAssert (Value.iface 101 (.pointer (some ⟨b, 0, none⟩))) 20 101 false).run Tryz.prog w = .ok (.pointer (some ⟨b, 0, none⟩)) w := fun _ => by kernel_rfl
  go_enter Tryz.func71, Tryz.ntmps71
  go_wp2_with (go_at_call 75; refine (check_any _ (.bool false) _ _ _).mono ?_; rintro e w1 ⟨rfl, hb1⟩; have HB1 : Hid (Bel w w1) := Lib.hid (((Bel.alloc1 w _).alloc _).trans hb1); have B1 := ((Blk.new w #[.int .i64 6, .iface 101 (.pointer (some ⟨b, 0, none⟩))] 36).alloc _).bel hb1; obtain ⟨r1, z1, l1⟩ := B1.facts; have B2 := (Blk.new' (w.alloc _) _ 68 (b := w.heap.size + 1) (by simp)).bel hb1; obtain ⟨r2, z2, l2⟩ := B2.facts; have HP2 := Lib.hid B2; have D0 := cell_kept HB1.out h0; have D1 := cell_kept HB1.out h1; have hbl : b < w1.heap.size := Nat.lt_of_lt_of_le hb HB1.out.size; clear hb1 B1 B2)
  refine post_ret (results_one rfl (resIs_agg (n := 2) (cs := #[.slice p n cap, .int .u8 c]) (by rfl) Tryz.underlying68 (by kernel_rfl) (T := 68) ?_ rfl)) ⟨rfl, ?_⟩
  · have HB := HP2.out
    (apply Blk.cast; (repeat (first | with_reducible assumption | with_reducible apply Blk.set | ((with_reducible apply Blk.otherR); (focus ((simp <;> omega); done))) | with_reducible exact Blk.new _ _ _ | ((with_reducible apply Blk.new'); (focus (simp; done))) | with_reducible apply Blk.alloc | with_reducible apply Blk.drew | with_reducible apply Blk.drewN | (with_reducible refine Blk.bel ?_ (by with_reducible assumption)))); rfl)
  · have HB := HB1.out
    (repeat (first | with_reducible assumption | with_reducible exact Bel.refl _ | with_reducible apply Bel.alloc | with_reducible apply Bel.drew | with_reducible apply Bel.drewN | ((with_reducible apply Bel.setCellR); (simp <;> omega)) | with_reducible refine Bel.behind (by with_reducible assumption) ?_))
end Go.Proofs.YtpipehenfcbjbaaGreat
