/-
  A callback by its contract, and RangeSearch with any such callback. No panic; nothing but the callback's own blocks has turned.
-/
import Derived.Test.YtdfamnlmhikolaaDoorTt
import Derived.Test.YtdfamnlmhikolaaDoorTe
namespace Go.Proofs.YtdfamnlmhikolaaDoor
open Go.ChangeShapes Go.WideShapes Go.ChangeAt Go.RowKit
/-- What a callback answers with. -/
inductive Ek where
  | none | stop | wstop | own | wown
def Ek.val (a : Addr) : Ek → Value
  | .none => .nilIface
  | .stop => .iface 128 (.pointer (some a))
  | .wstop => .iface 59 (.agg #[.iface 128 (.pointer (some a))])
  | .own => .iface 61 (.agg #[])
  | .wown => .iface 59 (.agg #[.iface 61 (.agg #[])])
def Ek.ends : Ek → Bool
  | .stop => true
  | .wstop => true
  | _ => false
theorem is_ek (a : Addr) (e : Ek) (w : World) : Calls Tryd.prog 28 #[e.val a, .iface 128 (.pointer (some a))] w fun r w' => r = .returned (.bool e.ends) ∧ Bel w w' := by
  cases e
  · exact is_nil a w
  · exact is_same a w
  · exact is_wrapped a w
  · exact is_own a w
  · exact is_wrapped_own a w
def Ek.isErr : Ek → Bool
  | .none => false
  | _ => true
theorem ek_guard (a : Addr) (e : Ek) (o1 : Operand) (v : Value) (w : World) : (eqGuard .neq 57 o1 (.const v) (e.val a) .nilIface).run Tryd.prog w = .ok () w := by
  cases e <;> simp [go_sem, Ek.val, eqGuard]
theorem ek_neq (a : Addr) (e : Ek) (w : World) : (binOp .neq 57 (e.val a) .nilIface).run Tryd.prog w = .ok (.bool e.isErr) w := by
  cases e <;> simp [go_sem, Ek.val, Ek.isErr]
theorem ek_three (e : Ek) : e.ends = true ∨ (e.ends = false ∧ e.isErr = false) ∨ (e.ends = false ∧ e.isErr = true) := by
  cases e <;> simp [Ek.ends, Ek.isErr]
/-- The blocks of F are as they were. -/
structure KeepF (F : Nat → Prop) (w w' : World) : Prop where
  os : w'.os = w.os
  tape : w'.tape = w.tape
  output : w'.output = w.output
  size : w.heap.size ≤ w'.heap.size
  block : ∀ b, F b → b < w.heap.size → w'.heap[b]? = w.heap[b]?
theorem KeepF.refl (F : Nat → Prop) (w : World) : KeepF F w w := ⟨rfl, rfl, rfl, Nat.le_refl _, fun _ _ _ => rfl⟩
theorem KeepF.trans {F : Nat → Prop} {a b c : World} (h : KeepF F a b) (k : KeepF F b c) : KeepF F a c :=
  ⟨k.os.trans h.os, k.tape.trans h.tape, k.output.trans h.output, Nat.le_trans h.size k.size, fun i hi hl => (k.block i hi (Nat.lt_of_lt_of_le hl h.size)).trans (h.block i hi hl)⟩
theorem KeepF.bel {F : Nat → Prop} {w w' : World} (h : Bel w w') : KeepF F w w' := ⟨h.os, h.tape, h.output, h.size, fun b _ hl => h.block b hl⟩
theorem KeepF.mono {F G : Nat → Prop} {w w' : World} (h : KeepF F w w') (hG : ∀ b, b < w.heap.size → G b → F b) : KeepF G w w' := ⟨h.os, h.tape, h.output, h.size, fun b hb hl => h.block b (hG b hl hb) hl⟩
theorem KeepF.blk {F : Nat → Prop} {w w' : World} (h : KeepF F w w') {b : Nat} (hb : F b) {cs : Array Value} {t : TypeId} (hB : Blk w b cs t) : Blk w' b cs t := by
  have hl := hB.lt
  unfold Blk at *
  rw [h.block b hb hl]
  exact hB
theorem KeepF.cell {F : Nat → Prop} {w w' : World} (h : KeepF F w w') {p : Addr} {v : Value} (hb : F p.block) (hc : w.cell? p = some v) : w'.cell? p = some v :=
  (World.cell?_of_block (h.block p.block hb (World.block_lt_of_cell? w p hc))).trans hc
theorem KeepF.below {F : Nat → Prop} {w0 w w' : World} (hF : ∀ b, b < w0.heap.size → F b) (h : Below w0.heap.size w0 w) (k : KeepF F w w') : Below w0.heap.size w0 w' :=
  ⟨k.os.trans h.os, k.tape.trans h.tape, k.output.trans h.output, Nat.le_trans h.size k.size, fun b hb => (k.block b (hF b hb) (Nat.lt_of_lt_of_le hb h.size)).trans (h.block b hb)⟩
/-- Only blocks of F, and new ones, have turned. -/
structure OnlyF (F : Nat → Prop) (w w' : World) : Prop where
  size : w.heap.size ≤ w'.heap.size
  block : ∀ b, ¬ F b → b < w.heap.size → w'.heap[b]? = w.heap[b]?
  glob : ∀ v, w.cell? ⟨0, 0, none⟩ = some v → w'.cell? ⟨0, 0, none⟩ = some v
theorem OnlyF.bel {F : Nat → Prop} {w w' : World} (h : Bel w w') : OnlyF F w w' := ⟨h.size, fun b _ hl => h.block b hl, fun _ hc => cell_kept h hc⟩
theorem OnlyF.trans {F : Nat → Prop} {a b c : World} (h : OnlyF F a b) (k : OnlyF F b c) : OnlyF F a c :=
  ⟨Nat.le_trans h.size k.size, fun i hi hl => (k.block i hi (Nat.lt_of_lt_of_le hl h.size)).trans (h.block i hi hl), fun v hv => k.glob v (h.glob v hv)⟩
/-- A callback: its function, what it has captured, its state, what holds of its state in memory (away from F), and what a call does. -/
structure Callback (a : Addr) (f : Nat) (caps : Array Value) (σ : Type) (size : σ → Nat) (Inv : (Nat → Prop) → σ → World → Prop) (step : σ → Int → σ × Ek) : Prop where
  grow : ∀ s id, size (step s id).1 ≤ size s + 1
  call : ∀ F s id w, size s < 1000000 → Inv F s w → Calls Tryd.prog f (#[.int .i64 id] ++ caps) w fun e w' => e = .returned ((step s id).2.val a) ∧ Inv (fun b => F b ∧ b < w.heap.size) (step s id).1 w' ∧ KeepF F w w'
  enters : ∀ (args : Array Value) (w : World), (callFunc f args).run Tryd.prog w = .ok (.enter f args) w
  only : ∀ F s w w', Inv F s w → OnlyF F w w' → Inv F s w'
  sub : ∀ F G s w, Inv F s w → (∀ b, b < w.heap.size → G b → F b) → Inv G s w

/-! ### A search through a box -/
def rg {σ : Type} (step : σ → Int → σ × Ek) (q : Bx) : Tr → σ → σ × Ek
  | .nil, s => (s, .none)
  | .item b id r, s => if b.meets q then (match step s id with
      | (s', .none) => rg step q r s'
      | (s', e) => if e.ends then (s', .none) else (s', e)) else rg step q r s
  | .sub b k r, s => if b.meets q then (match rg step q k s with
      | (s', .none) => rg step q r s'
      | (s', e) => (s', e)) else rg step q r s
theorem rg_ends {σ : Type} {step : σ → Int → σ × Ek} {q b : Bx} {id : Int} {r : Tr} {s s2 : σ} {ek : Ek} (hb : b.meets q = true) (hs : step s id = (s2, ek)) (he : ek.ends = true) : rg step q (.item b id r) s = (s2, .none) := by
  rw [rg, if_pos hb, hs]
  cases ek <;> simp_all [Ek.ends]
theorem rg_on {σ : Type} {step : σ → Int → σ × Ek} {q b : Bx} {id : Int} {r : Tr} {s s2 : σ} {ek : Ek} (hb : b.meets q = true) (hs : step s id = (s2, ek)) (he : ek.isErr = false) : rg step q (.item b id r) s = rg step q r s2 := by
  rw [rg, if_pos hb, hs]
  cases ek <;> simp_all [Ek.isErr]
theorem rg_err {σ : Type} {step : σ → Int → σ × Ek} {q b : Bx} {id : Int} {r : Tr} {s s2 : σ} {ek : Ek} (hb : b.meets q = true) (hs : step s id = (s2, ek)) (he : ek.isErr = true) (he2 : ek.ends = false) : rg step q (.item b id r) s = (s2, ek) := by
  rw [rg, if_pos hb, hs]
  cases ek <;> simp_all [Ek.isErr, Ek.ends]
theorem rg_past {σ : Type} {step : σ → Int → σ × Ek} {q b : Bx} {id : Int} {r : Tr} {s : σ} (hb : b.meets q = false) : rg step q (.item b id r) s = rg step q r s := by
  rw [rg, if_neg (by simp [hb])]
theorem rg_kid_on {σ : Type} {step : σ → Int → σ × Ek} {q b : Bx} {k r : Tr} {s s2 : σ} {ek : Ek} (hb : b.meets q = true) (hs : rg step q k s = (s2, ek)) (he : ek.isErr = false) : rg step q (.sub b k r) s = rg step q r s2 := by
  rw [rg, if_pos hb, hs]
  cases ek <;> simp_all [Ek.isErr]
theorem rg_kid_err {σ : Type} {step : σ → Int → σ × Ek} {q b : Bx} {k r : Tr} {s s2 : σ} {ek : Ek} (hb : b.meets q = true) (hs : rg step q k s = (s2, ek)) (he : ek.isErr = true) : rg step q (.sub b k r) s = (s2, ek) := by
  rw [rg, if_pos hb, hs]
  cases ek <;> simp_all [Ek.isErr]
theorem rg_kid_past {σ : Type} {step : σ → Int → σ × Ek} {q b : Bx} {k r : Tr} {s : σ} (hb : b.meets q = false) : rg step q (.sub b k r) s = rg step q r s := by
  rw [rg, if_neg (by simp [hb])]
theorem rg_size {σ : Type} {size : σ → Nat} {step : σ → Int → σ × Ek} (hg : ∀ s id, size (step s id).1 ≤ size s + 1) (q : Bx) : ∀ (t : Tr) (s : σ), size (rg step q t s).1 ≤ size s + t.all
  | .nil, s => Nat.le_refl _
  | .item b id r, s => by
    have h := hg s id
    obtain ⟨s2, ek, hs⟩ : ∃ s2 ek, step s id = (s2, ek) := ⟨_, _, rfl⟩
    rw [hs] at h
    simp only at h
    have h2 := rg_size hg q r s2
    have h3 := rg_size hg q r s
    simp only [Tr.all]
    rcases bool_cases (b.meets q) with hb | hb
    · rcases ek_three ek with k | ⟨k, k2⟩ | ⟨k, k2⟩
      · rw [rg_ends hb hs k]
        simp only
        omega
      · rw [rg_on hb hs k2]
        omega
      · rw [rg_err hb hs k2 k]
        simp only
        omega
    · rw [rg_past hb]
      omega
  | .sub b k r, s => by
    obtain ⟨s2, ek, hs⟩ : ∃ s2 ek, rg step q k s = (s2, ek) := ⟨_, _, rfl⟩
    have h := rg_size hg q k s
    rw [hs] at h
    simp only at h
    have h2 := rg_size hg q r s2
    have h3 := rg_size hg q r s
    simp only [Tr.all]
    rcases bool_cases (b.meets q) with hb | hb
    · rcases bool_cases ek.isErr with k2 | k2
      · rw [rg_kid_err hb hs k2]
        simp only
        omega
      · rw [rg_kid_on hb hs k2]
        omega
    · rw [rg_kid_past hb]
      omega
/-- What the search holds on to: its three captured variables, the sentinel's variable, the tree. -/
structure RSt (a : Addr) (f : Nat) (caps : Array Value) (w0 w : World) (F : Nat → Prop) (b1 b2 b3 x y z u : Nat) : Prop where
  old : ∀ b, b < w0.heap.size → F b
  fin : ∀ b, F b → b < w.heap.size
  f1 : F b1
  f2 : F b2
  f3 : F b3
  below : Below w0.heap.size w0 w
  blk1 : Blk w b1 #[.float .f64 x, .float .f64 y, .float .f64 z, .float .f64 u] 51
  blk2 : Blk w b2 #[.func (.func f) #[] caps] 62
  blk3 : Blk w b3 #[.func (.func 26) #[] #[.pointer (some ⟨b1, 0, none⟩), .pointer (some ⟨b2, 0, none⟩), .pointer (some ⟨b3, 0, none⟩)]] 75
  glob : w0.cell? ⟨0, 0, none⟩ = some (.iface 128 (.pointer (some a)))
theorem RSt.keep {a : Addr} {f : Nat} {caps : Array Value} {w0 w w' : World} {F : Nat → Prop} {b1 b2 b3 x y z u : Nat} (h : RSt a f caps w0 w F b1 b2 b3 x y z u) (k : KeepF F w w') : RSt a f caps w0 w' F b1 b2 b3 x y z u :=
  ⟨h.old, fun b hb => Nat.lt_of_lt_of_le (h.fin b hb) k.size, h.f1, h.f2, h.f3, KeepF.below h.old h.below k, k.blk h.f1 h.blk1, k.blk h.f2 h.blk2, k.blk h.f3 h.blk3, h.glob⟩
theorem RSt.tree {a : Addr} {f : Nat} {caps : Array Value} {w0 w : World} {F : Nat → Prop} {b1 b2 b3 x y z u : Nat} (h : RSt a f caps w0 w F b1 b2 b3 x y z u) {p : Addr} {v : Value} (hc : w0.cell? p = some v) : w.cell? p = some v :=
  (h.below.cell (World.block_lt_of_cell? w0 p hc)).trans hc

set_option maxHeartbeats 4000000 in
set_option maxRecDepth 100000 in
theorem range_rec {a : Addr} {f : Nat} {caps : Array Value} {σ : Type} {size : σ → Nat} {Inv : (Nat → Prop) → σ → World → Prop} {step : σ → Int → σ × Ek} (cb : Callback a f caps σ size Inv step) (F : Nat → Prop) (w0 : World) (b1 b2 b3 x y z u : Nat) (q : Bx) (hq : BxB x y z u q) :
    ∀ (m : Nat) (t : Tr) (k : Nat) (s : σ) (w : World), t.all ≤ m → size s + t.all ≤ 1000000 → IsNode 0 w0 t k → RSt a f caps w0 w F b1 b2 b3 x y z u → Inv F s w →
    Calls Tryd.prog 26 #[.pointer (some ⟨k, 0, none⟩), .pointer (some ⟨b1, 0, none⟩), .pointer (some ⟨b2, 0, none⟩), .pointer (some ⟨b3, 0, none⟩)] w
      fun e w' => e = .returned ((rg step q t s).2.val a) ∧ Inv F (rg step q t s).1 w' ∧ KeepF F w w' := by
  intro m
  induction m with
  | zero =>
    intro t k s w hm hsz hn
    have := hn.pos
    cases t <;> simp [Tr.len, Tr.all] at *
  | succ m ih =>
    intro t k s w hm hsz hn hst hinv
    have IH := Lib.hid ih
    have HST := Lib.hid hst
    have HI := Lib.hid hinv
    have hnum := hn.num
    have HNUM := Lib.hid hnum
    clear hnum
    have hlen := hn.le
    have HENT := Lib.hid hn.ents
    have HQ := Lib.hid hq
    have CB := Lib.hid cb
    clear ih hst hinv hq hn cb
    generalize hR : rg step q t s = R
    have HR := Lib.hid hR
    clear hR
    generalize hn : t.len = n at *
    have HN := Lib.hid hn
    clear hn
    go_enter Tryd.func26, Tryd.ntmps26
    go_wp2
    go_loopw [6] (fun iv wr => ∃ (i : Nat) (r : Tr) (s' : σ), iv = .int .i64 i ∧ r.len + i = n ∧ r.all ≤ t.all ∧ size s' + r.all ≤ 1000000 ∧ NodeAt 0 w0 r k i ∧ rg step q r s' = R ∧ Inv F s' wr ∧ RSt a f caps w0 wr F b1 b2 b3 x y z u ∧ KeepF F w wr) (fun iv _ => n - (intOf iv).toNat)
    case atStart => exact ⟨0, t, s, rfl, by have := HN.out; omega, Nat.le_refl _, hsz, HENT.out, HR.out, HI.out, HST.out, KeepF.refl _ _⟩
    case round =>
      obtain ⟨i, r, s', rfl, hi, hall, hsr, hN, hrg, hinv, hst, hkeep⟩ := hrel
      clear HI HST HR HENT
      have HNA := Lib.hid hN
      have HRG := Lib.hid hrg
      have HI := Lib.hid hinv
      have HST := Lib.hid hst
      have HK := Lib.hid hkeep
      have hnum' := hst.tree HNUM.out
      have hkl := World.block_lt_of_cell? wr _ hnum'
      simp only at hkl
      clear hinv hst hkeep hrg hN
      obtain ⟨r1, z1, l1⟩ := HST.out.blk1.facts
      obtain ⟨r2, z2, l2⟩ := HST.out.blk2.facts
      obtain ⟨r3, z3, l3⟩ := HST.out.blk3.facts
      have hglob := HST.out.tree HST.out.glob
      have hent := CB.out.enters
      cases r with
      | nil =>
        have hin : ¬ (i : Int) < (n : Int) := by simp only [Tr.len] at hi; omega
        go_wp2
        go_ret
        have h := HRG.out
        rw [rg] at h
        rw [← h]
        exact ⟨rfl, HI.out, HK.out⟩
      | item b id r =>
        obtain ⟨⟨p, q', s, v, d0, d1, d2, d3, d4, d5, q2⟩, hN2⟩ := HNA.out
        have Q2 := Lib.hid q2
        have HN2 := Lib.hid hN2
        have D0 := HST.out.tree d0
        have D1 := HST.out.tree d1
        have D2 := HST.out.tree d2
        have D3 := HST.out.tree d3
        have D4 := HST.out.tree d4
        have D5 := HST.out.tree d5
        have hil : i < n := by simp only [Tr.len] at hi; omega
        have hi4 : (i : Int) < 4 := by omega
        clear d0 d1 d2 d3 d4 d5 q2 hN2
        simp only [Option.map_none] at D4
        rcases bool_cases (b.meets q) with hb | hb
        · obtain ⟨s2, ek, hstep⟩ : ∃ s2 ek, step s' id = (s2, ek) := ⟨_, _, rfl⟩
          have HSTEP := Lib.hid hstep
          have hgr := CB.out.grow s' id
          rw [hstep] at hgr
          have HGR := Lib.hid hgr
          clear hgr
          have he1 := ek_guard a ek
          have he2 := ek_neq a ek
          have HB := Lib.hid hb
          rcases ek_three ek with h1 | ⟨h1, h2⟩ | ⟨h1, h2⟩
          · have hr := (rg_ends (r := r) hb hstep h1).symm.trans HRG.out
            have HR := Lib.hid hr
            clear hstep hr
            go_wp2_with (first
              | (go_at_call 27; (with_reducible refine (overlap_any _ _ _ _ _ _ _ _ _).mono ?_); rintro e w1 ⟨rfl, hb1⟩; rw [Q2.out.meets HQ.out, hb]; have HB1 : Hid (Bel wr w1) := Lib.hid ((Bel.alloc1 _ _).trans hb1); have ST1 := HST.out.keep (KeepF.bel HB1.out); obtain ⟨r4, z4, l4⟩ := ST1.blk2.facts; obtain ⟨r6, z6, l6⟩ := ST1.blk3.facts; have hg1 := ST1.tree ST1.glob; have hE1 := (Blk.new wr #[.float .f64 p, .float .f64 q', .float .f64 s, .float .f64 v, .pointer none, .int .i64 id] 77).bel hb1; obtain ⟨r5, z5, l5⟩ := hE1.facts; have ST1 := Lib.hid ST1; clear hb1 hE1)
              | ((with_reducible refine (CB.out.call F s' id _ ?hsz ?inv).mono ?_); (case hsz => (simp only [Tr.all] at hsr; omega)); (case inv => exact CB.out.only _ _ _ _ HI.out (OnlyF.bel HB1.out)); rintro e w2 ⟨rfl, hi2, hk2⟩; rw [HSTEP.out]; rw [HSTEP.out] at hi2; have HI2 := Lib.hid (CB.out.sub _ F _ _ hi2 (fun b _ hb => ⟨hb, ST1.out.fin b hb⟩)); have ST2 := ST1.out.keep hk2; have hg2 := ST2.tree ST2.glob; have ST2 := Lib.hid ST2; have HK2 : Hid (KeepF F wr w2) := Lib.hid ((KeepF.bel HB1.out).trans hk2); clear hi2 hk2)
              | (go_at_call 28; (with_reducible refine (is_ek a ek _).mono ?_); rintro e w3 ⟨rfl, hb3⟩; have HB3 := Lib.hid hb3; clear hb3))
            go_ret
            rw [← HR.out]
            exact ⟨rfl, CB.out.only _ _ _ _ HI2.out (OnlyF.bel HB3.out), (HK.out.trans HK2.out).trans (KeepF.bel HB3.out)⟩
          · have hr := (rg_on (r := r) hb hstep h2).symm.trans HRG.out
            have HR := Lib.hid hr
            clear hstep hr
            go_wp2_with (first
              | (go_at_call 27; (with_reducible refine (overlap_any _ _ _ _ _ _ _ _ _).mono ?_); rintro e w1 ⟨rfl, hb1⟩; rw [Q2.out.meets HQ.out, hb]; have HB1 : Hid (Bel wr w1) := Lib.hid ((Bel.alloc1 _ _).trans hb1); have ST1 := HST.out.keep (KeepF.bel HB1.out); obtain ⟨r4, z4, l4⟩ := ST1.blk2.facts; obtain ⟨r6, z6, l6⟩ := ST1.blk3.facts; have hg1 := ST1.tree ST1.glob; have hE1 := (Blk.new wr #[.float .f64 p, .float .f64 q', .float .f64 s, .float .f64 v, .pointer none, .int .i64 id] 77).bel hb1; obtain ⟨r5, z5, l5⟩ := hE1.facts; have ST1 := Lib.hid ST1; clear hb1 hE1)
              | ((with_reducible refine (CB.out.call F s' id _ ?hsz ?inv).mono ?_); (case hsz => (simp only [Tr.all] at hsr; omega)); (case inv => exact CB.out.only _ _ _ _ HI.out (OnlyF.bel HB1.out)); rintro e w2 ⟨rfl, hi2, hk2⟩; rw [HSTEP.out]; rw [HSTEP.out] at hi2; have HI2 := Lib.hid (CB.out.sub _ F _ _ hi2 (fun b _ hb => ⟨hb, ST1.out.fin b hb⟩)); have ST2 := ST1.out.keep hk2; have hg2 := ST2.tree ST2.glob; have ST2 := Lib.hid ST2; have HK2 : Hid (KeepF F wr w2) := Lib.hid ((KeepF.bel HB1.out).trans hk2); clear hi2 hk2)
              | (go_at_call 28; (with_reducible refine (is_ek a ek _).mono ?_); rintro e w3 ⟨rfl, hb3⟩; have HB3 := Lib.hid hb3; clear hb3))
            go_roundw
            case rel => exact ⟨i + 1, r, s2, by go_num, by simp only [Tr.len] at hi; omega, by simp only [Tr.all] at hall; omega, by have h : size s2 ≤ _ := HGR.out; simp only [Tr.all] at hsr; omega, HN2.out, HR.out, CB.out.only _ _ _ _ HI2.out (OnlyF.bel HB3.out), ST2.out.keep (KeepF.bel HB3.out), (HK.out.trans HK2.out).trans (KeepF.bel HB3.out)⟩
            case measure => simp [intOf]; omega
          · have hr := (rg_err (r := r) hb hstep h2 h1).symm.trans HRG.out
            have HR := Lib.hid hr
            clear hstep hr
            go_wp2_with (first
              | (go_at_call 27; (with_reducible refine (overlap_any _ _ _ _ _ _ _ _ _).mono ?_); rintro e w1 ⟨rfl, hb1⟩; rw [Q2.out.meets HQ.out, hb]; have HB1 : Hid (Bel wr w1) := Lib.hid ((Bel.alloc1 _ _).trans hb1); have ST1 := HST.out.keep (KeepF.bel HB1.out); obtain ⟨r4, z4, l4⟩ := ST1.blk2.facts; obtain ⟨r6, z6, l6⟩ := ST1.blk3.facts; have hg1 := ST1.tree ST1.glob; have hE1 := (Blk.new wr #[.float .f64 p, .float .f64 q', .float .f64 s, .float .f64 v, .pointer none, .int .i64 id] 77).bel hb1; obtain ⟨r5, z5, l5⟩ := hE1.facts; have ST1 := Lib.hid ST1; clear hb1 hE1)
              | ((with_reducible refine (CB.out.call F s' id _ ?hsz ?inv).mono ?_); (case hsz => (simp only [Tr.all] at hsr; omega)); (case inv => exact CB.out.only _ _ _ _ HI.out (OnlyF.bel HB1.out)); rintro e w2 ⟨rfl, hi2, hk2⟩; rw [HSTEP.out]; rw [HSTEP.out] at hi2; have HI2 := Lib.hid (CB.out.sub _ F _ _ hi2 (fun b _ hb => ⟨hb, ST1.out.fin b hb⟩)); have ST2 := ST1.out.keep hk2; have hg2 := ST2.tree ST2.glob; have ST2 := Lib.hid ST2; have HK2 : Hid (KeepF F wr w2) := Lib.hid ((KeepF.bel HB1.out).trans hk2); clear hi2 hk2)
              | (go_at_call 28; (with_reducible refine (is_ek a ek _).mono ?_); rintro e w3 ⟨rfl, hb3⟩; have HB3 := Lib.hid hb3; clear hb3))
            go_ret
            rw [← HR.out]
            exact ⟨rfl, CB.out.only _ _ _ _ HI2.out (OnlyF.bel HB3.out), (HK.out.trans HK2.out).trans (KeepF.bel HB3.out)⟩
        · have hr := (rg_past (step := step) (id := id) (r := r) (s := s') hb).symm.trans HRG.out
          have HR := Lib.hid hr
          clear hr
          go_wp2_with (first
            | (go_at_call 27; (with_reducible refine (overlap_any _ _ _ _ _ _ _ _ _).mono ?_); rintro e w1 ⟨rfl, hb1⟩; rw [Q2.out.meets HQ.out, hb]; have HB1 : Hid (Bel wr w1) := Lib.hid ((Bel.alloc1 _ _).trans hb1); have ST1 := HST.out.keep (KeepF.bel HB1.out); obtain ⟨r4, z4, l4⟩ := ST1.blk2.facts; obtain ⟨r6, z6, l6⟩ := ST1.blk3.facts; have hg1 := ST1.tree ST1.glob; have hE1 := (Blk.new wr #[.float .f64 p, .float .f64 q', .float .f64 s, .float .f64 v, .pointer none, .int .i64 id] 77).bel hb1; obtain ⟨r5, z5, l5⟩ := hE1.facts; have ST1 := Lib.hid ST1; clear hb1 hE1))
          go_roundw
          case rel => exact ⟨i + 1, r, s', by go_num, by simp only [Tr.len] at hi; omega, by simp only [Tr.all] at hall; omega, by simp only [Tr.all] at hsr; omega, HN2.out, HR.out, CB.out.only _ _ _ _ HI.out (OnlyF.bel HB1.out), ST1.out, HK.out.trans (KeepF.bel HB1.out)⟩
          case measure => simp [intOf]; omega
      | sub b kid r =>
        obtain ⟨⟨c, _, ⟨p, q', s, v, d0, d1, d2, d3, d4, d5, q2⟩, k1, k2, k3, k4⟩, hN2⟩ := HNA.out
        have Q2 := Lib.hid q2
        have HN2 := Lib.hid hN2
        have HKID : Hid (IsNode 0 w0 kid c) := Lib.hid ⟨k1, k2, k3, Nat.zero_le _, k4⟩
        have D0 := HST.out.tree d0
        have D1 := HST.out.tree d1
        have D2 := HST.out.tree d2
        have D3 := HST.out.tree d3
        have D4 := HST.out.tree d4
        have D5 := HST.out.tree d5
        have hil : i < n := by simp only [Tr.len] at hi; omega
        have hi4 : (i : Int) < 4 := by omega
        clear d0 d1 d2 d3 d4 d5 q2 hN2 k1 k2 k3 k4
        simp only [Option.map_some] at D4
        rcases bool_cases (b.meets q) with hb | hb
        · obtain ⟨s2, ek, hstep⟩ : ∃ s2 ek, rg step q kid s' = (s2, ek) := ⟨_, _, rfl⟩
          have HSTEP := Lib.hid hstep
          have hgr := rg_size CB.out.grow q kid s'
          rw [hstep] at hgr
          have HGR := Lib.hid hgr
          clear hgr
          have he1 := ek_guard a ek
          have he2 := ek_neq a ek
          have HB := Lib.hid hb
          rcases bool_cases ek.isErr with h2 | h2
          · have hr := (rg_kid_err (r := r) hb hstep h2).symm.trans HRG.out
            have HR := Lib.hid hr
            clear hstep hr
            go_wp2_with (first
              | (go_at_call 27; (with_reducible refine (overlap_any _ _ _ _ _ _ _ _ _).mono ?_); rintro e w1 ⟨rfl, hb1⟩; rw [Q2.out.meets HQ.out, hb]; have HB1 : Hid (Bel wr w1) := Lib.hid ((Bel.alloc1 _ _).trans hb1); have ST1 := HST.out.keep (KeepF.bel HB1.out); obtain ⟨r4, z4, l4⟩ := ST1.blk2.facts; obtain ⟨r6, z6, l6⟩ := ST1.blk3.facts; have hg1 := ST1.tree ST1.glob; have hE1 := (Blk.new wr #[.float .f64 p, .float .f64 q', .float .f64 s, .float .f64 v, .pointer (some ⟨c, 0, none⟩), .int .i64 0] 77).bel hb1; obtain ⟨r5, z5, l5⟩ := hE1.facts; have ST1 := Lib.hid ST1; clear hb1 hE1)
              | (go_at_call 26; (with_reducible refine (IH.out kid c s' _ ?hm ?hsz ?hn ?hst ?hinv).mono ?_); (case hm => (simp only [Tr.all] at hall hm; omega)); (case hsz => (simp only [Tr.all] at hsr; omega)); (case hn => exact HKID.out); (case hst => exact ST1.out); (case hinv => exact CB.out.only _ _ _ _ HI.out (OnlyF.bel HB1.out)); rintro e w2 ⟨rfl, hi2, hk2⟩; rw [HSTEP.out]; rw [HSTEP.out] at hi2; have HI2 := Lib.hid hi2; have ST2 := Lib.hid (ST1.out.keep hk2); have HK2 : Hid (KeepF F wr w2) := Lib.hid ((KeepF.bel HB1.out).trans hk2); clear hi2 hk2))
            go_ret
            rw [← HR.out]
            exact ⟨rfl, HI2.out, HK.out.trans HK2.out⟩
          · have hr := (rg_kid_on (r := r) hb hstep h2).symm.trans HRG.out
            have HR := Lib.hid hr
            clear hstep hr
            go_wp2_with (first
              | (go_at_call 27; (with_reducible refine (overlap_any _ _ _ _ _ _ _ _ _).mono ?_); rintro e w1 ⟨rfl, hb1⟩; rw [Q2.out.meets HQ.out, hb]; have HB1 : Hid (Bel wr w1) := Lib.hid ((Bel.alloc1 _ _).trans hb1); have ST1 := HST.out.keep (KeepF.bel HB1.out); obtain ⟨r4, z4, l4⟩ := ST1.blk2.facts; obtain ⟨r6, z6, l6⟩ := ST1.blk3.facts; have hg1 := ST1.tree ST1.glob; have hE1 := (Blk.new wr #[.float .f64 p, .float .f64 q', .float .f64 s, .float .f64 v, .pointer (some ⟨c, 0, none⟩), .int .i64 0] 77).bel hb1; obtain ⟨r5, z5, l5⟩ := hE1.facts; have ST1 := Lib.hid ST1; clear hb1 hE1)
              | (go_at_call 26; (with_reducible refine (IH.out kid c s' _ ?hm ?hsz ?hn ?hst ?hinv).mono ?_); (case hm => (simp only [Tr.all] at hall hm; omega)); (case hsz => (simp only [Tr.all] at hsr; omega)); (case hn => exact HKID.out); (case hst => exact ST1.out); (case hinv => exact CB.out.only _ _ _ _ HI.out (OnlyF.bel HB1.out)); rintro e w2 ⟨rfl, hi2, hk2⟩; rw [HSTEP.out]; rw [HSTEP.out] at hi2; have HI2 := Lib.hid hi2; have ST2 := Lib.hid (ST1.out.keep hk2); have HK2 : Hid (KeepF F wr w2) := Lib.hid ((KeepF.bel HB1.out).trans hk2); clear hi2 hk2))
            go_roundw
            case rel => exact ⟨i + 1, r, s2, by go_num, by simp only [Tr.len] at hi; omega, by simp only [Tr.all] at hall; omega, by have h : size s2 ≤ _ := HGR.out; simp only [Tr.all] at hsr; omega, HN2.out, HR.out, HI2.out, ST2.out, HK.out.trans HK2.out⟩
            case measure => simp [intOf]; omega
        · have hr := (rg_kid_past (step := step) (k := kid) (r := r) (s := s') hb).symm.trans HRG.out
          have HR := Lib.hid hr
          clear hr
          go_wp2_with (first
            | (go_at_call 27; (with_reducible refine (overlap_any _ _ _ _ _ _ _ _ _).mono ?_); rintro e w1 ⟨rfl, hb1⟩; rw [Q2.out.meets HQ.out, hb]; have HB1 : Hid (Bel wr w1) := Lib.hid ((Bel.alloc1 _ _).trans hb1); have ST1 := HST.out.keep (KeepF.bel HB1.out); obtain ⟨r4, z4, l4⟩ := ST1.blk2.facts; obtain ⟨r6, z6, l6⟩ := ST1.blk3.facts; have hg1 := ST1.tree ST1.glob; have hE1 := (Blk.new wr #[.float .f64 p, .float .f64 q', .float .f64 s, .float .f64 v, .pointer (some ⟨c, 0, none⟩), .int .i64 0] 77).bel hb1; obtain ⟨r5, z5, l5⟩ := hE1.facts; have ST1 := Lib.hid ST1; clear hb1 hE1))
          go_roundw
          case rel => exact ⟨i + 1, r, s', by go_num, by simp only [Tr.len] at hi; omega, by simp only [Tr.all] at hall; omega, by simp only [Tr.all] at hsr; omega, HN2.out, HR.out, CB.out.only _ _ _ _ HI.out (OnlyF.bel HB1.out), ST1.out, HK.out.trans (KeepF.bel HB1.out)⟩
          case measure => simp [intOf]; omega
end Go.Proofs.YtdfamnlmhikolaaDoor
