/-
  Sequences: coordinates' types, NewSequence, impl.sequence, impl.line, Length, GetXY. No panic; what stood in memory has not turned.
-/
import Derived.Test.YtpipehenfcbjbaaGreatFs
import Derived.Laws.Bits128
import Derived.Laws.BitsAllLaws
namespace Go.Proofs.YtpipehenfcbjbaaGreat
open Go.ChangeShapes Go.WideShapes Go.ChangeAt Go.RowKit
/-- How many numbers a place has. -/
def wd (c : Nat) : Nat := 2 + c % 2 + c / 2 % 2
theorem wd_bd (c : Nat) : 2 ≤ wd c ∧ wd c ≤ 4 := by unfold wd; omega

theorem dimIndex (w : World) : ∀ c : Nat, c ≤ 3 → (Instr.index 121 (.agg #[.int .i64 2, .int .i64 3, .int .i64 3, .int .i64 4]) (.int .u8 c)).run Tryz.prog w = .ok (.int .i64 (wd c)) w
  | 0, _ => by kernel_rfl
  | 1, _ => by kernel_rfl
  | 2, _ => by kernel_rfl
  | 3, _ => by kernel_rfl
  | _ + 4, h => absurd h (by omega)
theorem dimension_any (c : Nat) (hc : c ≤ 3) (w : World) : Calls Tryz.prog 76 #[.int .u8 c] w fun e w' => e = .returned (.int .i64 (wd c)) ∧ w = w' := by
  have ix := dimIndex w c hc
  generalize wd c = d at *
  go_enter Tryz.func76, Tryz.ntmps76
  go_wp2
  go_ret
  exact ⟨rfl, rfl⟩
/-- The last two bits. -/
def ct (n : Int) : Nat := (n % 4).toNat
theorem ct_le (n : Int) : ct n ≤ 3 := by unfold ct; omega
theorem i64_and3 (n : Int) : bits .and .i64 n 3 = n % 4 := by
  have h3 : (BitVec.ofInt 64 3).toNat = 2 ^ 2 - 1 := by decide
  have key : (BitVec.ofInt 64 n &&& BitVec.ofInt 64 3).toNat = (n % ((2 ^ 64 : Nat) : Int)).toNat % 2 ^ 2 := by
    rw [BitVec.toNat_and, BitVec.toNat_ofInt, h3, Nat.and_two_pow_sub_one_eq_mod]
  show IntKind.i64.wrap ((BitVec.ofInt 64 n &&& BitVec.ofInt 64 3).toNat : Nat) = n % 4
  rw [key, IntKind.wrap_i64]
  omega
theorem dimOf_any (n : Int) (w : World) : Calls Tryz.prog 45 #[.int .i64 n] w fun e w' => e = .returned (.int .u8 (ct n)) ∧ w = w' := by
  have h1 := i64_and3 n
  have h2 : (0 : Int) ≤ n % 4 := by omega
  have h3 : n % 4 < 4 := by omega
  have h4 : IntKind.u8.wrap (n % 4) = n % 4 := by rw [IntWalk.u8_in _ (by omega)]
  have h5 : (ct n : Int) = n % 4 := by unfold ct; omega
  rw [h5]
  clear h5
  go_enter Tryz.func45, Tryz.ntmps45
  go_wp2
  go_ret
  exact ⟨rfl, rfl⟩

theorem newSequence_any (p : Option Addr) (n cap c : Nat) (hc : c ≤ 3) (hn : n ≤ 9223372036854775807) (hm : n % wd c = 0) (w : World) :
    Calls Tryz.prog 77 #[.slice p n cap, .int .u8 c] w fun e w' => e = .returned (.agg #[.int .u8 c, .slice p n cap]) ∧ Bel w w' := by
  have hd := wd_bd c
  have hm2 : ((n : Int) % (wd c : Int) != 0) = false := by
    rw [← Int.natCast_emod, hm]
    rfl
  have hcu : (c : Int) ≤ 3 := by omega
  have hdim := fun w => dimension_any c hc w
  have HD := Lib.hid hdim
  clear hdim hm
  generalize wd c = d at *
  obtain ⟨hd1, hd2⟩ := hd
  go_enter Tryz.func77, Tryz.ntmps77
  go_wp2_with (go_at_call 76; refine (HD.out _).mono ?_; rintro e w' ⟨rfl, rfl⟩)
  refine post_ret (results_one rfl (resIs_agg (n := 2) (cs := #[.int .u8 c, .slice p n cap]) (by rfl) Tryz.underlying51 (by kernel_rfl) (T := 51) ?_ rfl)) ⟨rfl, ?_⟩
  · exact Blk.new _ _ _
  · (repeat (first | with_reducible assumption | with_reducible exact Bel.refl _ | with_reducible apply Bel.alloc | with_reducible apply Bel.drew | with_reducible apply Bel.drewN | ((with_reducible apply Bel.setCellR); (simp <;> omega)) | with_reducible refine Bel.behind (by with_reducible assumption) ?_))

/-- What comes back is a sequence of the type and with the numbers that are told. -/
def IsSeq (F : Nat → Prop) (w : World) (c : Nat) (xs : List Nat) (e : Ending) (w' : World) : Prop := ∃ p n cap, e = .returned (.agg #[.int .u8 c, .slice p n cap]) ∧ FlSl F w' (.slice p n cap) xs ∧ Bel w w'

set_option maxHeartbeats 1000000 in
set_option maxRecDepth 100000 in
theorem sequence_any (F : Nat → Prop) (p : Option Addr) (n cap : Nat) (xs : List Nat) (dim : Int) (w : World) (hF : New F w) (h : FlSl F w (.slice p n cap) xs) (h31 : n ≤ 2147483647) :
    Calls Tryz.prog 42 #[.slice p n cap, .int .i64 dim] w (IsSeq F w (ct dim) (xs.take (n - n % wd (ct dim)))) := by
  have hc := ct_le dim
  have hdo := dimOf_any dim
  generalize ct dim = c at *
  have HDO := Lib.hid hdo
  clear hdo
  have hdim := fun w => dimension_any c hc w
  have HD := Lib.hid hdim
  clear hdim
  have hd := wd_bd c
  have hns := newSequence_any (some ⟨w.heap.size + 1, 0, none⟩) (n - n % wd c) (n - n % wd c) c hc (by omega) (by
    have := Nat.div_add_mod n (wd c)
    have e : n - n % wd c = wd c * (n / wd c) := by omega
    rw [e, Nat.mul_mod_right])
  have HNS := Lib.hid hns
  clear hns
  have hq0 : ((n : Int) % (wd c : Int)) = ((n % wd c : Nat) : Int) := (Int.natCast_emod _ _).symm
  have hq1 : n % wd c ≤ n := Nat.mod_le _ _
  generalize n % wd c = q at *
  generalize wd c = d at *
  obtain ⟨hd1, hd2⟩ := hd
  have HX := Lib.hid h
  have hlen := h.len
  have HL := Lib.hid hlen.1
  obtain ⟨-, hl1, hl2⟩ := hlen
  clear h
  obtain ⟨i0, hi, hz0, hz1, hz2⟩ := info_parts infoF
  have hmi : (n : Int) - (q : Int) = ((n - q : Nat) : Int) := by omega
  have HMI := Lib.hid hmi
  clear hmi
  go_enter Tryz.func42, Tryz.ntmps42
  go_wp2_with (first
    | (go_at_call 45; refine (HDO.out _).mono ?_; rintro e w' ⟨rfl, rfl⟩)
    | (go_at_call 76; refine (HD.out _).mono ?_; rintro e w' ⟨rfl, rfl⟩)
    | (at_make; refine wpList_make_full _ rfl (.tmp 18) (.tmp 18) 22 rfl w.heap.size 29 i0 (.float .f64 0) 1 Tryz.underlying22 hi hz0 hz1 .i64 .i64 _ _ (n - q) rfl rfl HMI.out HMI.out ?b2 ?b3 ?b4 ?_; (case b2 => (rw [hz2]; omega)); (case b3 => (unfold maxLen; omega)); (case b4 => simp); intro w1 hown hgrow; obtain ⟨cs0, hB0, hs0⟩ := hown.blk; rw [show (w.alloc (Obj.cells #[.int .u8 0, .slice none 0 0] 51)).heap.size = w.heap.size + 1 by simp] at hB0; have HB0 := Lib.hid hB0; have HS0 := Lib.hid hs0; have HW1 : Hid (Bel (w.alloc (Obj.cells #[.int .u8 0, .slice none 0 0] 51)) w1) := Lib.hid (Bel.of_grown0 hgrow); clear hown hgrow hB0 hs0)
    | (with_reducible refine wpList_copy_splice rfl (.tmp 20) (.tmp 21) 22 22 rfl 29 Tryz.underlying22 infoF1 _ _ _ _ _ _ rfl rfl (w.heap.size + 1) 0 cs0.toList 29 ?g1 ((xs.take (n - q)).map flv) ?g2 ?g3 ?g4 (flv_one _) (w.heap.size + 1) w1 (Below.refl _ _) (Nat.le_refl _) ?_; (case g1 => (have := HB0.out; unfold Blk at this; simpa using this)); (case g2 => (have := HL.out; simp; omega)); (case g3 => exact fun h0 => ⟨rfl, (HX.out.bel ((Bel.alloc1 _ _).trans HW1.out)).src h0⟩); (case g4 => (have := HS0.out; have := HL.out; simp; omega)); intro w2 hg2 hb2; have HG2 := Lib.hid hg2.out; have HB2 := Lib.hid hb2; clear hg2 hb2)
    | (go_at_call 77; refine (HNS.out _).mono ?_; rintro e w3 ⟨rfl, hb3⟩; have HB3 := Lib.hid hb3; have B3 := (((Blk.new w #[.int .u8 0, .slice none 0 0] 51).bel HW1.out).below HB2.out (by omega)).bel hb3; clear hb3; obtain ⟨r3, z3, l3⟩ := B3.facts))
  refine post_ret (results_one rfl (resIs_agg (n := 2) (cs := #[.int .u8 c, .slice (some ⟨w.heap.size + 1, 0, none⟩) (n - q) (n - q)]) (by rfl) Tryz.underlying51 (by kernel_rfl) (T := 51) ?_ rfl)) ?_
  · exact (B3.set 0 _).set 1 _
  · have hlen := HL.out
    have hB2 : Blk w2 (w.heap.size + 1) ((xs.take (n - q)).map flv).toArray 29 := by
      have := HG2.out
      rw [splice_all _ _ (by rw [Array.length_toList, HS0.out, List.length_map, List.length_take]; omega)] at this
      exact this
    exact ⟨_, _, _, rfl, FlSl.of_blk (((hB2.bel HB3.out).other (a := ⟨w.heap.size, 0, none⟩) (by simp) _).other (a := ⟨w.heap.size, 1, none⟩) (by simp) _) (by rw [List.length_take]; omega) (by omega) (hF _ (by omega)),
      ((((((Bel.alloc1 w _).trans HW1.out).below HB2.out (by omega)).trans HB3.out).setCell (by simp) _).setCell (by simp) _)⟩

/-- A line string has its sequence's cells. -/
theorem newLineString_any (c : Int) (p : Option Addr) (n cap : Nat) (w : World) :
    Calls Tryz.prog 48 #[.agg #[.int .u8 c, .slice p n cap]] w fun e w' => e = .returned (.agg #[.int .u8 c, .slice p n cap]) ∧ Bel w w' := by
  go_enter Tryz.func48, Tryz.ntmps48
  go_wp2
  refine post_ret (results_one rfl (resIs_agg (n := 2) (cs := #[.int .u8 c, .slice p n cap]) (by rfl) Tryz.underlying53 (by kernel_rfl) (T := 53) ?_ rfl)) ⟨rfl, ?_⟩
  · exact Blk.new' _ _ _ (by simp)
  · (repeat (first | with_reducible assumption | with_reducible exact Bel.refl _ | with_reducible apply Bel.alloc | with_reducible apply Bel.drew | with_reducible apply Bel.drewN | ((with_reducible apply Bel.setCellR); (simp <;> omega)) | with_reducible refine Bel.behind (by with_reducible assumption) ?_))


/-- The numbers that fill whole places. -/
def wholeNums (c : Nat) (xs : List Nat) : List Nat := xs.take (xs.length - xs.length % wd c)

theorem line_any (F : Nat → Prop) (p : Option Addr) (n cap : Nat) (xs : List Nat) (dim : Int) (pk : Option Addr) (nk ck : Nat) (w : World) (hF : New F w) (h : FlSl F w (.slice p n cap) xs) (h31 : n ≤ 2147483647) :
    Calls Tryz.prog 23 #[.agg #[.int .i64 2, .int .i64 dim, .slice p n cap, .slice pk nk ck]] w (IsSeq F w (ct dim) (wholeNums (ct dim) xs)) := by
  have HX := Lib.hid h
  have hl := h.len.1
  have hw : wholeNums (ct dim) xs = xs.take (n - n % wd (ct dim)) := by unfold wholeNums; rw [hl]
  rw [hw]
  clear h hl hw
  go_enter Tryz.func23, Tryz.ntmps23
  go_wp2_with (first
    | (go_at_call 42; refine (sequence_any (Loc F w.heap.size 2) p n cap xs dim _ ?hn ((HX.out.loc 2).bel ?hb) h31).mono ?_; (case hn => exact hF.loc (by simp)); (case hb => (repeat (first | with_reducible assumption | with_reducible exact Bel.refl _ | with_reducible apply Bel.alloc | with_reducible apply Bel.drew | with_reducible apply Bel.drewN | ((with_reducible apply Bel.setCellR); (simp <;> omega)) | with_reducible refine Bel.behind (by with_reducible assumption) ?_))); rintro e w1 ⟨p1, n1, c1, rfl, hf1, hb1⟩; have HF1 := Lib.hid hf1; have HB1 := Lib.hid hb1; clear hf1 hb1)
    | (go_at_call 48; refine (newLineString_any _ _ _ _ _).mono ?_; rintro e w2 ⟨rfl, hb2⟩; have HB2 := Lib.hid hb2; have B3 := ((Blk.new' (w.alloc _) #[.int .u8 0, .slice none 0 0] 53 (b := w.heap.size + 1) (by simp)).bel HB1.out).bel hb2; clear hb2; obtain ⟨r3, z3, l3⟩ := B3.facts))
  refine post_ret (results_one rfl (resIs_agg (n := 2) (cs := #[.int .u8 (ct dim), .slice p1 n1 c1]) (by rfl) Tryz.underlying53 (by kernel_rfl) (T := 53) ?_ rfl)) ?_
  · exact (B3.set 0 _).set 1 _
  · exact ⟨_, _, _, rfl, (((HF1.out.bel HB2.out).set (Loc.not (by omega) (by omega)) _ _).set (Loc.not (by omega) (by omega)) _ _).out, ((((((Bel.refl w).alloc _).alloc _).trans HB1.out).trans HB2.out).setCell (by simp) _).setCell (by simp) _⟩

theorem line_other (F : Nat → Prop) (kind dim : Int) (hk : kind ≠ 2) (p : Option Addr) (n cap : Nat) (pk : Option Addr) (nk ck : Nat) (w : World) (hF : New F w) :
    Calls Tryz.prog 23 #[.agg #[.int .i64 kind, .int .i64 dim, .slice p n cap, .slice pk nk ck]] w (IsSeq F w (ct dim) []) := by
  have hb : (kind != 2) = true := by simpa using hk
  have hb2 : (kind == 2) = false := by simpa using hk
  clear hk
  go_enter Tryz.func23, Tryz.ntmps23
  go_wp2_with (first
    | (go_at_call 42; refine (sequence_any (Loc F w.heap.size 2) none 0 0 [] dim _ ?hn (FlSl.nil _ _) (by omega)).mono ?_; (case hn => exact hF.loc (by simp)); rintro e w1 ⟨p1, n1, c1, rfl, hf1, hb1⟩; have HF1 := Lib.hid hf1; have HB1 := Lib.hid hb1; clear hf1 hb1)
    | (go_at_call 48; refine (newLineString_any _ _ _ _ _).mono ?_; rintro e w2 ⟨rfl, hb2⟩; have HB2 := Lib.hid hb2; have B3 := ((Blk.new' (w.alloc _) #[.int .u8 0, .slice none 0 0] 53 (b := w.heap.size + 1) (by simp)).bel HB1.out).bel hb2; clear hb2; obtain ⟨r3, z3, l3⟩ := B3.facts))
  refine post_ret (results_one rfl (resIs_agg (n := 2) (cs := #[.int .u8 (ct dim), .slice p1 n1 c1]) (by rfl) Tryz.underlying53 (by kernel_rfl) (T := 53) ?_ rfl)) ?_
  · exact (B3.set 0 _).set 1 _
  · refine ⟨_, _, _, rfl, ?_, ((((((Bel.refl w).alloc _).alloc _).trans HB1.out).trans HB2.out).setCell (by simp) _).setCell (by simp) _⟩
    have := (((HF1.out.bel HB2.out).set (g := w.heap.size + 1) (Loc.not (by omega) (by omega)) 0 (.int .u8 (ct dim))).set (g := w.heap.size + 1) (Loc.not (by omega) (by omega)) 1 (.slice p1 n1 c1)).out
    simpa using this

theorem length_any (p : Option Addr) (n cap c : Nat) (hc : c ≤ 3) (hn : n ≤ 9223372036854775807) (w : World) :
    Calls Tryz.prog 43 #[.agg #[.int .u8 c, .slice p n cap]] w fun e w' => e = .returned (.int .i64 (n / wd c : Nat)) ∧ Bel w w' := by
  have hd := wd_bd c
  have hq0 : ((n : Int) / (wd c : Int)) = ((n / wd c : Nat) : Int) := (Int.natCast_ediv _ _).symm
  have hq1 : n / wd c ≤ n := Nat.div_le_self _ _
  have hdim := fun w => dimension_any c hc w
  have HD := Lib.hid hdim
  clear hdim
  generalize n / wd c = q at *
  generalize wd c = d at *
  obtain ⟨hd1, hd2⟩ := hd
  go_enter Tryz.func43, Tryz.ntmps43
  go_wp2
  go_quiet ((go_at_call 76; exact Calls.quiet_of_same ((HD.out _).mono fun _ _ h => ⟨h.1, h.2.symm⟩)))
  go_wp2
  go_ret
  exact ⟨rfl, by (repeat (first | with_reducible assumption | with_reducible exact Bel.refl _ | with_reducible apply Bel.alloc | with_reducible apply Bel.drew | with_reducible apply Bel.drewN | ((with_reducible apply Bel.setCellR); (simp <;> omega)) | with_reducible refine Bel.behind (by with_reducible assumption) ?_))⟩

end Go.Proofs.YtpipehenfcbjbaaGreat
