/- part of the proof -/
import Derived.Laws.FloatArith
import Derived.Laws.Cover3
import Derived.Test.YtpipehenfcbjbaaGreatDoorRows
import Derived.WalkKit
import Derived.ProofKit
import Derived.OpenShut
import Derived.Defers
import Derived.Recover
import Derived.Laws.Pointers
import Derived.Carry
import Derived.WalkLawsBesides
import Derived.WalkSpells
import Derived.Lib.Hide
import Derived.Deep.Draws
import Derived.Deep.RegionHeld3
import Derived.Deep.QuietTactic
import Derived.BigQuiet
import Derived.LoopTactic
import Derived.Deep.LoopGhost
import Derived.IntWalk
import Derived.Laws.CopyOwn
import Derived.Outline
import Derived.Laws.StructEq
import Derived.Lib.SmallJoins
import Derived.Deep.Slices
import Derived.StillTailTactics
import Derived.Laws.Bits128
import Derived.Laws.BitsAllLaws
namespace Go.Proofs.YtpipehenfcbjbaaGreatDoor
open Ieee

/-- A significand with its sign. -/
def mant (s:Bool) (m:Nat):Int:=if s then -(m:Int) else m

/-- The bits x stand for the number q. -/
def Is (x:Nat) (q:Rat):Prop:=∃ s m i,double.read x=.number s m i∧(mant s m:Rat)*(2:Rat) ^ i=q

theorem two_ne:(2:Rat) ≠ 0:=by decide

theorem zpow_succ2 (i:Int):(2:Rat) ^ (i+1)=(2:Rat) ^ i*2:=Rat.zpow_add_one two_ne i

set_option exponentiation.threshold 3000

theorem read_word (s:Bool) (R:Nat) (hR:R<2047*2 ^ 52) :
  double.read (double.word s R)=if R<2 ^ 52 then .number s R (-1074) else .number s (2 ^ 52+R % 2 ^ 52) (-1074+(R / 2 ^ 52 - 1:Nat)):=by
 have e1:double.signWeight=2 ^ 63:=by decide
 have e2:double.infRung=2047*2 ^ 52:=by decide
 have e3:double.binade=2 ^ 52:=by decide
 have e4:double.leastPlace=-1074:=by decide
 have h1:(double.word s R) / 2 ^ 63 % 2=(if s then 1 else 0):=by
  unfold Format.word
  rw [e1]
  cases s<;>simp<;>omega
 have h2:(double.word s R) % 2 ^ 63=R:=by
  unfold Format.word
  rw [e1]
  cases s<;>simp<;>omega
 simp only [Format.read,e1,e2,e3,e4,h1,h2]
 have h3:((if s=true then 1 else 0:Nat) == 1)=s:=by cases s<;>rfl
 rw [h3]
 by_cases h:R<2 ^ 52
 ·rw [if_pos h,if_pos h]
 ·rw [if_neg h,if_neg h,if_pos hR]

theorem mant_double (s:Bool) (m:Nat):mant s (2*m)=2*mant s m:=by
 unfold mant
 cases s<;>simp<;>omega

theorem is_rung (s:Bool) (e k:Nat) (hk:k≤2 ^ 53) (he:e=0∨2 ^ 52≤k) (hR:e*2 ^ 52+k<2047*2 ^ 52) :
  Is (double.word s (e*2 ^ 52+k)) ((mant s k:Rat)*(2:Rat) ^ ((e:Int) - 1074)):=by
 have h:=read_word s _ hR
 by_cases h0:k<2 ^ 52
 ·have he0:e=0:=by omega
  subst he0
  rw [if_pos (by omega)] at h
  exact ⟨s,_,_,h,by simp⟩
 ·rw [if_neg (by omega)] at h
  by_cases h1:k<2 ^ 53
  ·have hd:(e*2 ^ 52+k) / 2 ^ 52=e+1:=by omega
   have hm:(e*2 ^ 52+k) % 2 ^ 52=k - 2 ^ 52:=by omega
   rw [hd,hm] at h
   refine ⟨s,_,_,h,?_⟩
   have hk':2 ^ 52+(k - 2 ^ 52)=k:=by omega
   have hi:(-1074+((e+1 - 1:Nat):Int))=(e:Int) - 1074:=by omega
   rw [hk',hi]
  ·have hk2:k=2 ^ 53:=by omega
   subst hk2
   have hd:(e*2 ^ 52+2 ^ 53) / 2 ^ 52=e+2:=by omega
   have hm:(e*2 ^ 52+2 ^ 53) % 2 ^ 52=0:=by omega
   rw [hd,hm] at h
   refine ⟨s,_,_,h,?_⟩
   have hi:(-1074+((e+2 - 1:Nat):Int))=((e:Int) - 1074)+1:=by omega
   have hk':(2:Nat) ^ 53=2*(2 ^ 52+0):=by decide
   rw [hi,zpow_succ2,hk',mant_double]
   rw [Rat.intCast_mul]
   grind

/-! ### To the nearest whole number, ties to even -/
theorem cut_bounds (neg:Bool) (n d:Nat) :
  2*(Toward.even.cut neg n d*2 ^ d)≤2*n+2 ^ d∧2*n≤2*(Toward.even.cut neg n d*2 ^ d)+2 ^ d:=by
 unfold Toward.cut
 by_cases h:d≤n.log2+2
 ·have hg:(1 <<< min d (n.log2+2):Nat)=2 ^ d:=by
   rw [Nat.min_eq_left h,Nat.shiftLeft_eq,Nat.one_mul]
  simp only [hg]
  have hpos:0<2 ^ d:=Nat.two_pow_pos d
  have hdm:=Nat.div_add_mod n (2 ^ d)
  have hlt:=Nat.mod_lt n hpos
  generalize hq:n / 2 ^ d=q at *
  generalize hr:n % 2 ^ d=r at *
  generalize 2 ^ d=g at *
  have hn:n=q*g+r:=by rw [Nat.mul_comm q g];omega
  by_cases hb:(decide (g<2*r) || (g == 2*r && q % 2 == 1))=true
  ·rw [hb]
   simp only [Bool.toNat_true,Nat.add_mul,Nat.one_mul]
   simp at hb
   generalize q*g=t at *
   omega
  ·simp only [Bool.not_eq_true] at hb
   rw [hb]
   simp only [Bool.toNat_false,Nat.add_zero]
   simp at hb
   generalize q*g=t at *
   omega
 ·have h':n.log2+2≤d:=by omega
  have hg:(1 <<< min d (n.log2+2):Nat)=2 ^ (n.log2+2):=by
   rw [Nat.min_eq_right h',Nat.shiftLeft_eq,Nat.one_mul]
  simp only [hg]
  have hlt:n<2 ^ (n.log2+1):=Nat.lt_log2_self
  have h2:2 ^ (n.log2+2)=2*2 ^ (n.log2+1):=by rw [Nat.pow_succ];omega
  have hle:2 ^ (n.log2+2)≤2 ^ d:=Nat.pow_le_pow_right (by omega) h'
  have hdiv:n / 2 ^ (n.log2+2)=0:=Nat.div_eq_of_lt (by omega)
  have hmod:n % 2 ^ (n.log2+2)=n:=Nat.mod_eq_of_lt (by omega)
  rw [hdiv,hmod]
  have hb:(decide (2 ^ (n.log2+2)<2*n) || (2 ^ (n.log2+2) == 2*n && 0 % 2 == 1))=false:=by
   simp
   omega
  rw [hb]
  simp
  omega

/-- What is whole is kept as it is. -/
theorem cut_exact (neg:Bool) (z d:Nat):Toward.even.cut neg (z*2 ^ d) d=z:=by
 have h:=cut_bounds neg (z*2 ^ d) d
 have hpos:0<2 ^ d:=Nat.two_pow_pos d
 generalize Toward.even.cut neg (z*2 ^ d) d=k at *
 generalize 2 ^ d=g at *
 rcases Nat.lt_trichotomy k z with c|c|c
 ·have:(k+1)*g≤z*g:=Nat.mul_le_mul_right g c
  rw [Nat.add_mul] at this
  omega
 ·exact c
 ·have:(z+1)*g≤k*g:=Nat.mul_le_mul_right g c
  rw [Nat.add_mul] at this
  omega

/-! ### The nearest word -/
/-- The place of the last digit that is kept. -/
def lastOf (mag:Nat) (place:Int):Int:=max (place+mag.log2 - 52) (-1074)
/-- What is kept. -/
def keptOf (s:Bool) (mag:Nat) (place:Int):Nat :=
 Toward.even.cut s (mag <<< (place - lastOf mag place).toNat) (lastOf mag place - place).toNat

theorem nearest_eq (s:Bool) (mag:Nat) (place:Int) (hm:mag ≠ 0) :
  double.nearest s mag place=double.word s (min ((lastOf mag place+1074).toNat*2 ^ 52+keptOf s mag place) (2047*2 ^ 52)):=by
 have e2:double.infRung=2047*2 ^ 52:=by decide
 have e3:double.binade=2 ^ 52:=by decide
 have e4:double.leastPlace=-1074:=by decide
 have e5:(double.fractionBits:Int)=52:=by decide
 unfold Format.nearest
 rw [if_neg hm]
 simp only [e2,e3,e4,e5]
 have h:(-1074:Int)=-1074:=rfl
 unfold keptOf lastOf
 rw [Int.sub_neg]

theorem log2_bounds {mag:Nat} (hm:mag ≠ 0):2 ^ mag.log2≤mag∧mag<2 ^ (mag.log2+1) :=
 ⟨Nat.log2_self_le hm,Nat.lt_log2_self⟩

/-- What is kept has 53 digits at most, and 53 where the last digit's place is not the least. -/
theorem kept_range (s:Bool) (mag:Nat) (place:Int) (hm:mag ≠ 0) :
  keptOf s mag place≤2 ^ 53∧((lastOf mag place+1074).toNat=0∨2 ^ 52≤keptOf s mag place):=by
 obtain ⟨h1,h2⟩:=log2_bounds hm
 have hb:=cut_bounds s (mag <<< (place - lastOf mag place).toNat) (lastOf mag place - place).toNat
 unfold keptOf
 rcases Int.le_total (lastOf mag place) place with hle|hle
 ·have hd:(lastOf mag place - place).toNat=0:=by omega
  rw [hd] at hb ⊢
  have hc:Toward.even.cut s (mag <<< (place - lastOf mag place).toNat) 0=mag <<< (place - lastOf mag place).toNat:=by
   have:=cut_exact s (mag <<< (place - lastOf mag place).toNat) 0
   simpa using this
  rw [hc,Nat.shiftLeft_eq]
  have hl:mag.log2+(place - lastOf mag place).toNat≤52:=by unfold lastOf at hle ⊢;omega
  have hu:mag*2 ^ (place - lastOf mag place).toNat<2 ^ (mag.log2+1+(place - lastOf mag place).toNat):=by
   rw [Nat.pow_add]
   exact Nat.mul_lt_mul_of_pos_right h2 (Nat.two_pow_pos _)
  have hu2:2 ^ (mag.log2+1+(place - lastOf mag place).toNat)≤2 ^ 53:=Nat.pow_le_pow_right (by omega) (by omega)
  refine ⟨by omega,?_⟩
  by_cases hL:lastOf mag place=-1074
  ·left
   omega
  ·right
   have hl2:mag.log2+(place - lastOf mag place).toNat=52:=by unfold lastOf at *;omega
   have:2 ^ (mag.log2+(place - lastOf mag place).toNat)≤mag*2 ^ (place - lastOf mag place).toNat:=by
    rw [Nat.pow_add]
    exact Nat.mul_le_mul_right _ h1
   rw [hl2] at this
   exact this
 ·have hz:(place - lastOf mag place).toNat=0:=by omega
  rw [hz] at hb ⊢
  rw [Nat.shiftLeft_zero] at hb ⊢
  generalize hk:Toward.even.cut s mag (lastOf mag place - place).toNat=k at *
  have hpos:0<2 ^ (lastOf mag place - place).toNat:=Nat.two_pow_pos _
  have hl:mag.log2+1≤53+(lastOf mag place - place).toNat:=by unfold lastOf at *;omega
  have hu:2 ^ (mag.log2+1)≤2 ^ (53+(lastOf mag place - place).toNat):=Nat.pow_le_pow_right (by omega) hl
  rw [Nat.pow_add 2 53] at hu
  constructor
  ·rcases Nat.lt_or_ge (2 ^ 53) k with c|c
   ·have:(2 ^ 53+1)*2 ^ (lastOf mag place - place).toNat≤k*2 ^ (lastOf mag place - place).toNat:=Nat.mul_le_mul_right _ c
    generalize 2 ^ (lastOf mag place - place).toNat=g at *
    rw [Nat.add_mul] at this
    omega
   ·exact c
  ·by_cases hL:lastOf mag place=-1074
   ·left
    omega
   ·right
    have hl2:mag.log2=52+(lastOf mag place - place).toNat:=by unfold lastOf at *;omega
    rw [hl2,Nat.pow_add] at h1
    rcases Nat.lt_or_ge k (2 ^ 52) with c|c
    ·have:(k+1)*2 ^ (lastOf mag place - place).toNat≤2 ^ 52*2 ^ (lastOf mag place - place).toNat:=Nat.mul_le_mul_right _ c
     generalize 2 ^ (lastOf mag place - place).toNat=g at *
     rw [Nat.add_mul] at this
     omega
    ·exact c

/-! ### Values -/
theorem zpow_add2 (a b:Int):(2:Rat) ^ (a+b)=(2:Rat) ^ a*(2:Rat) ^ b:=Rat.zpow_add two_ne a b
theorem zpow_pos2 (a:Int):(0:Rat)<(2:Rat) ^ a:=Rat.zpow_pos (by decide)
theorem zpow_nat2 (n:Nat):(2:Rat) ^ (n:Int)=((2 ^ n:Nat):Rat):=by
 rw [Rat.zpow_natCast,Rat.natCast_pow]
 rfl

/-- What is kept is at most half a unit from the number. -/
theorem kept_near (s:Bool) (mag:Nat) (place:Int) :
  (keptOf s mag place:Rat)*(2:Rat) ^ lastOf mag place≤(mag:Rat)*(2:Rat) ^ place+(2:Rat) ^ lastOf mag place / 2 ∧
  (mag:Rat)*(2:Rat) ^ place≤(keptOf s mag place:Rat)*(2:Rat) ^ lastOf mag place+(2:Rat) ^ lastOf mag place / 2:=by
 have hb:=cut_bounds s (mag <<< (place - lastOf mag place).toNat) (lastOf mag place - place).toNat
 have hLpos:=zpow_pos2 (lastOf mag place)
 unfold keptOf
 rcases Int.le_total (lastOf mag place) place with hle|hle
 ·have hd:(lastOf mag place - place).toNat=0:=by omega
  rw [hd]
  have hc:Toward.even.cut s (mag <<< (place - lastOf mag place).toNat) 0=mag <<< (place - lastOf mag place).toNat:=by
   have:=cut_exact s (mag <<< (place - lastOf mag place).toNat) 0
   simpa using this
  rw [hc,Nat.shiftLeft_eq]
  have e:(2:Rat) ^ place=(2:Rat) ^ lastOf mag place*((2 ^ (place - lastOf mag place).toNat:Nat):Rat):=by
   rw [← zpow_nat2,← zpow_add2]
   congr 1
   omega
  rw [e,Rat.natCast_mul]
  generalize (2:Rat) ^ lastOf mag place=L at *
  generalize ((2 ^ (place - lastOf mag place).toNat:Nat):Rat)=D at *
  constructor<;>grind
 ·have hz:(place - lastOf mag place).toNat=0:=by omega
  rw [hz] at hb ⊢
  rw [Nat.shiftLeft_zero] at hb ⊢
  generalize hk:Toward.even.cut s mag (lastOf mag place - place).toNat=k at *
  have e:(2:Rat) ^ lastOf mag place=(2:Rat) ^ place*((2 ^ (lastOf mag place - place).toNat:Nat):Rat):=by
   rw [← zpow_nat2,← zpow_add2]
   congr 1
   omega
  have hp:=zpow_pos2 place
  rw [e]
  obtain ⟨h1,h2⟩:=hb
  have h1':(((2*(k*2 ^ (lastOf mag place - place).toNat):Nat)):Rat)≤((2*mag+2 ^ (lastOf mag place - place).toNat:Nat):Rat):=by exact_mod_cast h1
  have h2':((2*mag:Nat):Rat)≤((2*(k*2 ^ (lastOf mag place - place).toNat)+2 ^ (lastOf mag place - place).toNat:Nat):Rat):=by exact_mod_cast h2
  rw [Rat.natCast_mul,Rat.natCast_mul,Rat.natCast_add,Rat.natCast_mul] at h1'
  rw [Rat.natCast_mul,Rat.natCast_add,Rat.natCast_mul,Rat.natCast_mul] at h2'
  generalize ((2 ^ (lastOf mag place - place).toNat:Nat):Rat)=D at *
  generalize (2:Rat) ^ place=p at *
  have k1:=Rat.mul_le_mul_of_nonneg_left h1' (Rat.le_of_lt hp)
  have k2:=Rat.mul_le_mul_of_nonneg_left h2' (Rat.le_of_lt hp)
  constructor<;>grind

/-- The word nearest to a number stands for what is kept of it, unless that is too great. -/
theorem is_nearest (s:Bool) (mag:Nat) (place:Int) (hm:mag ≠ 0) (hfit:(lastOf mag place+1074).toNat*2 ^ 52+keptOf s mag place<2047*2 ^ 52) :
  Is (double.nearest s mag place) ((mant s (keptOf s mag place):Rat)*(2:Rat) ^ lastOf mag place):=by
 rw [nearest_eq s mag place hm,Nat.min_eq_left (Nat.le_of_lt hfit)]
 obtain ⟨h1,h2⟩:=kept_range s mag place hm
 have h:=is_rung s (lastOf mag place+1074).toNat (keptOf s mag place) h1 h2 hfit
 have e:(((lastOf mag place+1074).toNat:Int) - 1074)=lastOf mag place:=by
  have:-1074≤lastOf mag place:=by unfold lastOf;omega
  omega
 rw [e] at h
 exact h

theorem is_zero (s:Bool) (place:Int):Is (double.nearest s 0 place) 0:=by
 have h:=is_rung s 0 0 (by decide) (Or.inl rfl) (by decide)
 have e:double.nearest s 0 place=double.word s 0:=by unfold Format.nearest;rfl
 rw [e]
 simpa [mant] using h

theorem mant_zero (s:Bool):mant s 0=0:=by cases s<;>rfl
/-- r is the word nearest to the number q. -/
def Rn (q:Rat) (r:Nat):Prop:=∃ s mag place,r=double.nearest s mag place∧(mant s mag:Rat)*(2:Rat) ^ place=q

theorem mant_rat (s:Bool) (m:Nat):(mant s m:Rat)=(if s then -(m:Rat) else (m:Rat)):=by
 unfold mant
 cases s
 ·simp only [Bool.false_eq_true,if_false]
  rfl
 ·simp only [if_true]
  rw [Rat.intCast_neg]
  rfl

theorem pow_lt_of {a b:Int} (h:(2:Rat) ^ a<(2:Rat) ^ b):a<b:=by
 rcases Int.lt_or_le a b with c|c
 ·exact c
 ·exfalso
  have e:(2:Rat) ^ a=(2:Rat) ^ b*((2 ^ (a - b).toNat:Nat):Rat):=by
   rw [← zpow_nat2,← zpow_add2]
   congr 1
   omega
  have h1:(1:Rat)≤((2 ^ (a - b).toNat:Nat):Rat):=by
   have:1≤2 ^ (a - b).toNat:=Nat.one_le_two_pow
   exact_mod_cast this
  have hb:=zpow_pos2 b
  have:=Rat.mul_le_mul_of_nonneg_left h1 (Rat.le_of_lt hb)
  grind

theorem pow_le_of {a b:Int} (h:a≤b):(2:Rat) ^ a≤(2:Rat) ^ b:=by
 have e:(2:Rat) ^ b=(2:Rat) ^ a*((2 ^ (b - a).toNat:Nat):Rat):=by
  rw [← zpow_nat2,← zpow_add2]
  congr 1
  omega
 have h1:(1:Rat)≤((2 ^ (b - a).toNat:Nat):Rat):=by
  have:1≤2 ^ (b - a).toNat:=Nat.one_le_two_pow
  exact_mod_cast this
 have ha:=zpow_pos2 a
 have:=Rat.mul_le_mul_of_nonneg_left h1 (Rat.le_of_lt ha)
 grind

/-- A number below 2^b has its first digit below place b. -/
theorem log_lt {mag:Nat} (hm:mag ≠ 0) {place b:Int} (h:(mag:Rat)*(2:Rat) ^ place<(2:Rat) ^ b):place+mag.log2<b:=by
 apply pow_lt_of
 obtain ⟨h1,_⟩:=log2_bounds hm
 have h1':((2 ^ mag.log2:Nat):Rat)≤(mag:Rat):=by exact_mod_cast h1
 have hp:=zpow_pos2 place
 have:=Rat.mul_le_mul_of_nonneg_left h1' (Rat.le_of_lt hp)
 rw [zpow_add2,zpow_nat2]
 grind

theorem fit_of {mag:Nat} (hm:mag ≠ 0) {place:Int} (s:Bool) (h:(mag:Rat)*(2:Rat) ^ place<(2:Rat) ^ (1023:Int)) :
  (lastOf mag place+1074).toNat*2 ^ 52+keptOf s mag place<2047*2 ^ 52:=by
 have h1:=log_lt hm h
 obtain ⟨h2,_⟩:=kept_range s mag place hm
 have h3:lastOf mag place≤970:=by unfold lastOf;omega
 have h4:(lastOf mag place+1074).toNat≤2044:=by omega
 omega

/-- A number that the format has is kept as it is. -/
theorem kept_exact (s:Bool) (mag:Nat) (place:Int) (hm:mag ≠ 0) (z:Nat) (e:Int) (hz:z<2 ^ 53) (he:-1074≤e)
  (hv:(mag:Rat)*(2:Rat) ^ place=(z:Rat)*(2:Rat) ^ e) :
  (keptOf s mag place:Rat)*(2:Rat) ^ lastOf mag place=(mag:Rat)*(2:Rat) ^ place:=by
 have hle:lastOf mag place≤e:=by
  have hlt:(mag:Rat)*(2:Rat) ^ place<(2:Rat) ^ (53+e):=by
   rw [hv,zpow_add2]
   have h1:(z:Rat)<((2 ^ 53:Nat):Rat):=by exact_mod_cast hz
   have h2:(2:Rat) ^ (53:Int)=((2 ^ 53:Nat):Rat):=zpow_nat2 53
   rw [h2]
   exact Rat.mul_lt_mul_of_pos_right h1 (zpow_pos2 e)
  have:=log_lt hm hlt
  unfold lastOf
  omega
 have hE:(2:Rat) ^ e=(2:Rat) ^ lastOf mag place*((2 ^ (e - lastOf mag place).toNat:Nat):Rat):=by
  rw [← zpow_nat2,← zpow_add2]
  congr 1
  omega
 obtain ⟨n1,n2⟩:=kept_near s mag place
 have hL:=zpow_pos2 (lastOf mag place)
 rw [hv,hE] at n1 n2 ⊢
 have hZ:(z:Rat)*((2:Rat) ^ lastOf mag place*((2 ^ (e - lastOf mag place).toNat:Nat):Rat))=((z*2 ^ (e - lastOf mag place).toNat:Nat):Rat)*(2:Rat) ^ lastOf mag place:=by
  rw [Rat.natCast_mul]
  grind
 rw [hZ] at n1 n2 ⊢
 generalize z*2 ^ (e - lastOf mag place).toNat=y at *
 generalize keptOf s mag place=k at *
 generalize (2:Rat) ^ lastOf mag place=L at *
 have hky:k=y:=by
  rcases Nat.lt_trichotomy k y with c|c|c
  ·exfalso
   have h1:((k+1:Nat):Rat)≤(y:Rat):=by exact_mod_cast c
   have h2:=Rat.mul_le_mul_of_nonneg_right h1 (Rat.le_of_lt hL)
   rw [Rat.natCast_add] at h2
   grind
  ·exact c
  ·exfalso
   have h1:((y+1:Nat):Rat)≤(k:Rat):=by exact_mod_cast c
   have h2:=Rat.mul_le_mul_of_nonneg_right h1 (Rat.le_of_lt hL)
   rw [Rat.natCast_add] at h2
   grind
 rw [hky]

theorem mant_val (s:Bool) (m:Nat) (x:Rat):(mant s m:Rat)*x=if s then -((m:Rat)*x) else (m:Rat)*x:=by
 rw [mant_rat]
 cases s
 ·simp
 ·simp only [if_true]
  grind

/-- A number that the format has is its own nearest. -/
theorem Rn.exact {q:Rat} {r:Nat} (h:Rn q r) (z e:Int) (hz:z.natAbs<2 ^ 53) (he:-1074≤e) (he2:e≤970) (hq:q=(z:Rat)*(2:Rat) ^ e):Is r q:=by
 obtain ⟨s,mag,place,rfl,hv⟩:=h
 by_cases hm:mag=0
 ·subst hm
  rw [mant_zero] at hv
  have:q=0:=by
   rw [← hv]
   simp
  rw [this]
  exact is_zero s place
 ·have hP:=zpow_pos2 place
  have hE:=zpow_pos2 e
  have hmagv:(mag:Rat)*(2:Rat) ^ place=((z.natAbs:Nat):Rat)*(2:Rat) ^ e:=by
   have h1:(mag:Rat)*(2:Rat) ^ place=q∨(mag:Rat)*(2:Rat) ^ place=-q:=by
    rw [mant_val] at hv
    cases s
    ·left
     simpa using hv
    ·right
     simp only [if_true] at hv
     grind
   have h0:0≤(mag:Rat)*(2:Rat) ^ place:=Rat.mul_nonneg (by exact_mod_cast Nat.zero_le mag) (Rat.le_of_lt hP)
   have hza:((z.natAbs:Nat):Rat)=(z:Rat)∨((z.natAbs:Nat):Rat)=-(z:Rat):=by
    rcases Int.natAbs_eq z with c|c
    ·left
     rw [← Rat.intCast_natCast,← c]
    ·right
     have:(z:Rat)=-((z.natAbs:Int):Rat):=by
      rw [← Rat.intCast_neg,← c]
     rw [this,Rat.intCast_natCast]
     grind
   have hn0:0≤((z.natAbs:Nat):Rat)*(2:Rat) ^ e:=Rat.mul_nonneg (by exact_mod_cast Nat.zero_le _) (Rat.le_of_lt hE)
   rcases h1 with h1|h1<;>rcases hza with h2|h2<;>rw [h2] at hn0 ⊢<;>grind
  have hk:=kept_exact s mag place hm z.natAbs e hz he hmagv
  have hfit:=fit_of hm s (place:=place) (by
   rw [hmagv]
   have h1:((z.natAbs:Nat):Rat)<((2 ^ 53:Nat):Rat):=by exact_mod_cast hz
   have h2:(2:Rat) ^ (53:Int)=((2 ^ 53:Nat):Rat):=zpow_nat2 53
   have h3:=Rat.mul_lt_mul_of_pos_right h1 hE
   rw [← h2,← zpow_add2] at h3
   have h4:(2:Rat) ^ (53+e)≤(2:Rat) ^ (1023:Int):=pow_le_of (by omega)
   grind)
  have hI:=is_nearest s mag place hm hfit
  rw [mant_val,hk,← mant_val,hv] at hI
  exact hI

/-! ### The operations -/
theorem signed_eq (s:Bool) (m up:Nat):signed s m up=mant s m*((2 ^ up:Nat):Int):=by
 unfold signed mant
 cases s
 ·simp [Nat.shiftLeft_eq]
 ·simp [Nat.shiftLeft_eq]
  grind

theorem scale (s:Bool) (m:Nat) (i base:Int) (h:base≤i):(mant s m:Rat)*(2:Rat) ^ i=((signed s m (i - base).toNat:Int):Rat)*(2:Rat) ^ base:=by
 have e:(2:Rat) ^ i=(2:Rat) ^ base*((2 ^ (i - base).toNat:Nat):Rat):=by
  rw [← zpow_nat2,← zpow_add2]
  congr 1
  omega
 rw [signed_eq,Rat.intCast_mul,e,Rat.intCast_natCast]
 grind

/-- How two numbers stand to each other. -/
def cmpQ (p q:Rat):Ordering:=if p<q then .lt else if p=q then .eq else .gt

theorem Is.order {x y:Nat} {p q:Rat} (hx:Is x p) (hy:Is y q):double.order x y=some (cmpQ p q):=by
 obtain ⟨s,m,i,h1,rfl⟩:=hx
 obtain ⟨t,n,j,h2,rfl⟩:=hy
 unfold Format.order
 rw [h1,h2]
 simp only [Datum.order]
 rw [scale s m i (min i j) (Int.min_le_left i j),scale t n j (min i j) (Int.min_le_right i j)]
 have hB:=zpow_pos2 (min i j)
 generalize (2:Rat) ^ (min i j)=B at *
 generalize signed s m (i - min i j).toNat=a at *
 generalize signed t n (j - min i j).toNat=b at *
 congr 1
 unfold cmpQ
 rcases Int.lt_trichotomy a b with c|c|c
 ·have h:(a:Rat)<(b:Rat):=by exact_mod_cast c
  have h':=Rat.mul_lt_mul_of_pos_right h hB
  rw [if_pos h']
  exact Int.compare_eq_lt.2 c
 ·subst c
  rw [if_neg (by grind),if_pos rfl]
  exact Int.compare_eq_eq.2 rfl
 ·have h:(b:Rat)<(a:Rat):=by exact_mod_cast c
  have h':=Rat.mul_lt_mul_of_pos_right h hB
  rw [if_neg (by grind),if_neg (by grind)]
  exact Int.compare_eq_gt.2 c

theorem mant_sign (t:Int) (s:Bool):mant (if t=0 then s else decide (t<0)) t.natAbs=t:=by
 unfold mant
 by_cases h0:t=0
 ·subst h0
  simp
 ·rw [if_neg h0]
  by_cases h:t<0
  ·simp [h]
   omega
  ·simp [h]
   omega

theorem Is.sum {x y:Nat} {p q:Rat} (hx:Is x p) (hy:Is y q):∃ r,double.add x y=some r∧Rn (p+q) r:=by
 obtain ⟨s,m,i,h1,rfl⟩:=hx
 obtain ⟨t,n,j,h2,rfl⟩:=hy
 unfold Format.add
 rw [h1,h2]
 simp only [Datum.sum,Option.map_some]
 refine ⟨_,rfl,_,_,_,rfl,?_⟩
 have h:=mant_sign (signed s m (i - min i j).toNat+signed t n (j - min i j).toNat) (s && t)
 rw [h,scale s m i (min i j) (Int.min_le_left i j),scale t n j (min i j) (Int.min_le_right i j),Rat.intCast_add]
 grind

theorem mant_not (s:Bool) (m:Nat):mant (!s) m=-mant s m:=by
 unfold mant
 cases s<;>simp

theorem Is.diff {x y:Nat} {p q:Rat} (hx:Is x p) (hy:Is y q):∃ r,double.sub x y=some r∧Rn (p - q) r:=by
 obtain ⟨s,m,i,h1,rfl⟩:=hx
 obtain ⟨t,n,j,h2,rfl⟩:=hy
 unfold Format.sub
 rw [h1,h2]
 simp only [Datum.opposite,Datum.sum,Option.map_some]
 refine ⟨_,rfl,_,_,_,rfl,?_⟩
 have h:=mant_sign (signed s m (i - min i j).toNat+signed (!t) n (j - min i j).toNat) (s && !t)
 have e:signed (!t) n (j - min i j).toNat=-signed t n (j - min i j).toNat:=by
  rw [signed_eq,signed_eq,mant_not]
  grind
 rw [h,scale s m i (min i j) (Int.min_le_left i j),scale t n j (min i j) (Int.min_le_right i j),Rat.intCast_add,e,Rat.intCast_neg]
 grind

theorem mant_mul (s t:Bool) (m n:Nat):mant (s ^^ t) (m*n)=mant s m*mant t n:=by
 unfold mant
 cases s<;>cases t<;>simp<;>grind

theorem Is.prod {x y:Nat} {p q:Rat} (hx:Is x p) (hy:Is y q):∃ r,double.mul x y=some r∧Rn (p*q) r:=by
 obtain ⟨s,m,i,h1,rfl⟩:=hx
 obtain ⟨t,n,j,h2,rfl⟩:=hy
 unfold Format.mul
 rw [h1,h2]
 simp only [Datum.product,Option.map_some]
 refine ⟨_,rfl,_,_,_,rfl,?_⟩
 rw [mant_mul,Rat.intCast_mul,zpow_add2]
 grind

/-- float64(n). -/
theorem Rn.ofInt (n:Int):Rn (n:Rat) (FloatKind.f64.nearest n):=by
 refine ⟨decide (n<0),n.natAbs,0,rfl,?_⟩
 have h:mant (decide (n<0)) n.natAbs=n:=by
  unfold mant
  by_cases h:n<0
  ·simp [h]
   omega
  ·simp [h]
   omega
 rw [h,Rat.zpow_zero]
 grind

theorem Is.ofInt (n:Int) (h:n.natAbs<2 ^ 53):Is (FloatKind.f64.nearest n) (n:Rat) :=
 (Rn.ofInt n).exact n 0 h (by decide) (by decide) (by rw [Rat.zpow_zero];grind)
end Go.Proofs.YtpipehenfcbjbaaGreatDoor
set_option linter.unusedVariables false
namespace Go.Proofs.YtpipehenfcbjbaaGreatDoor
open Ieee
set_option linter.unusedSimpArgs false
set_option exponentiation.threshold 3000
/-- Above all numbers. -/
def big:Int:=((2 ^ 2200:Nat):Int)
/-- A datum's place in the order. -/
def keyD:Datum→Int
 | .nan ..=>0
 | .infinity s=>if s then -big else big
 | .number s m i=>signed s m (i+1074).toNat
theorem signed_add (s:Bool) (m a b:Nat):signed s m (a+b)=signed s m a*2 ^ b:=by
 unfold signed
 have h:m <<< (a+b)=(m <<< a)*2 ^ b:=by
  rw [Nat.shiftLeft_eq,Nat.shiftLeft_eq,Nat.pow_add,Nat.mul_assoc]
 rw [h]
 cases s<;>simp [Int.natCast_mul,Int.neg_mul]
theorem compare_scale (p q:Int) (b:Nat):compare (p*2 ^ b) (q*2 ^ b)=compare p q:=by
 have hp:(0:Int)<2 ^ b:=Int.pow_pos (by decide)
 simp only [compare,compareOfLessAndEq]
 have h1:p*2 ^ b<q*2 ^ b↔p<q:=Int.mul_lt_mul_right hp
 have h2:p*2 ^ b=q*2 ^ b↔p=q:=⟨fun h=>Int.eq_of_mul_eq_mul_right (by omega) h,fun h=>by rw [h]⟩
 simp [h1,h2]
/-- What words stand for. -/
def Low:Datum→Prop
 | .number _ m i=>-1074≤i∧i≤971∧m<2 ^ 53
 | _=>True
theorem read_low (x:Nat):Low (double.read x):=by
 have e1:double.signWeight=2 ^ 63:=by decide
 have e2:double.infRung=2047*2 ^ 52:=by decide
 have e3:double.binade=2 ^ 52:=by decide
 have e4:double.leastPlace=-1074:=by decide
 unfold Format.read
 simp only [e1,e2,e3,e4]
 have h0:x % 2 ^ 63<2 ^ 63:=Nat.mod_lt _ (by decide)
 generalize x % 2 ^ 63=R at *
 split
 ·exact ⟨by omega,by omega,by omega⟩
 ·split
  ·exact ⟨by omega,by omega,by omega⟩
  ·split<;>trivial
theorem big_pos:0<big:=Int.ofNat_lt.2 (Nat.two_pow_pos _)
theorem big_nat (m a:Nat) (hm:m<2 ^ 53) (ha:a≤2045):((m <<< a:Nat):Int)<big:=by
 refine Int.ofNat_lt.2 ?_
 rw [Nat.shiftLeft_eq]
 have h2:m*2 ^ a<2 ^ 53*2 ^ a:=Nat.mul_lt_mul_of_pos_right hm (Nat.two_pow_pos a)
 have h3:2 ^ 53*2 ^ a≤2 ^ 2200:=by
  rw [← Nat.pow_add]
  exact Nat.pow_le_pow_right (by decide) (by omega)
 exact Nat.lt_of_lt_of_le h2 h3
theorem signed_bound {s:Bool} {m a:Nat} (hm:m<2 ^ 53) (ha:a≤2045):-big<signed s m a∧signed s m a<big:=by
 have h2:=big_nat m a hm ha
 have h0:(0:Int)≤((m <<< a:Nat):Int):=Int.natCast_nonneg _
 unfold signed
 generalize hM:((m <<< a:Nat):Int)=M at *
 clear hM
 generalize big=B at *
 cases s
 ·simp only [Bool.false_eq_true,if_false]
  exact ⟨by omega,by omega⟩
 ·simp only [if_true]
  exact ⟨by omega,by omega⟩
theorem order_key {p q:Datum} (hp:Low p) (hq:Low q) (np:p.isNaN=false) (nq:q.isNaN=false):p.order q=some (compare (keyD p) (keyD q)):=by
 cases p with
 | nan s f=>simp [Datum.isNaN] at np
 | infinity s =>
  cases q with
  | nan t g=>simp [Datum.isNaN] at nq
  | infinity t =>
   have h0:=big_pos
   simp only [Datum.order,keyD]
   generalize big=B at *
   have h1:compare B B=.eq:=by simp [compare,compareOfLessAndEq]
   have h2:compare (-B) B=.lt:=by simp only [compare,compareOfLessAndEq];rw [if_pos (by omega)]
   have h3:compare B (-B)=.gt:=by simp only [compare,compareOfLessAndEq];rw [if_neg (by omega),if_neg (by omega)]
   have h4:compare (-B) (-B)=.eq:=by simp [compare,compareOfLessAndEq]
   cases s<;>cases t<;>simp [h1,h2,h3,h4]<;>decide
  | number t n j =>
   have hb:=signed_bound (s:=t) (m:=n) (a:=(j+1074).toNat) hq.2.2 (by have:=hq.1;have:=hq.2.1;omega)
   simp only [Datum.order,keyD]
   cases s
   ·have:compare big (signed t n (j+1074).toNat)=.gt:=by
     simp only [compare,compareOfLessAndEq]
     rw [if_neg (by omega),if_neg (by omega)]
    simp [this]
   ·have:compare (-big) (signed t n (j+1074).toNat)=.lt:=by
     simp only [compare,compareOfLessAndEq]
     rw [if_pos (by omega)]
    simp [this]
 | number s m i =>
  have hb:=signed_bound (s:=s) (m:=m) (a:=(i+1074).toNat) hp.2.2 (by have:=hp.1;have:=hp.2.1;omega)
  cases q with
  | nan t g=>simp [Datum.isNaN] at nq
  | infinity t =>
   simp only [Datum.order,keyD]
   cases t
   ·have:compare (signed s m (i+1074).toNat) big=.lt:=by
     simp only [compare,compareOfLessAndEq]
     rw [if_pos (by omega)]
    simp [this]
   ·have:compare (signed s m (i+1074).toNat) (-big)=.gt:=by
     simp only [compare,compareOfLessAndEq]
     rw [if_neg (by omega),if_neg (by omega)]
    simp [this]
  | number t n j =>
   simp only [Datum.order,keyD]
   have hi:=hp.1
   have hj:=hq.1
   have e1:(i+1074).toNat=(i - min i j).toNat+(min i j+1074).toNat:=by omega
   have e2:(j+1074).toNat=(j - min i j).toNat+(min i j+1074).toNat:=by omega
   rw [e1,e2,signed_add,signed_add,compare_scale]
/-- A word's place in the order. -/
def key (x:Nat):Int:=keyD (double.read x)
def nnB (x:Nat):Bool:=!(double.read x).isNaN
theorem nn_not {x:Nat} (h:nnB x=true):(double.read x).isNaN=false:=by
 unfold nnB at h
 simpa using h
theorem order_keys {x y:Nat} (hx:nnB x=true) (hy:nnB y=true):FloatKind.f64.format.order x y=some (compare (key x) (key y)) :=
 order_key (read_low x) (read_low y) (nn_not hx) (nn_not hy)
theorem nnB_of_order {x:Nat} (h:(FloatKind.f64.format.order x x != some .eq)=false):nnB x=true:=by
 unfold nnB
 have:FloatKind.f64.format.order x x=(double.read x).order (double.read x):=rfl
 rw [this] at h
 cases hd:double.read x with
 | nan s f=>rw [hd] at h;simp [Datum.order] at h
 | infinity s=>rfl
 | number s m i=>rfl
end Go.Proofs.YtpipehenfcbjbaaGreatDoor
namespace Go.Proofs.YtpipehenfcbjbaaGreatDoor
open Go.ChangeShapes Go.WideShapes Go.ChangeAt Go.RowKit

/-- A store of a float: as of an integer. -/
@[go_sem] theorem run_store_float (P:Program) (w:World) (a:Addr) (m:Mode) (k:FloatKind) (b:Nat):(store a (.float k b) m).run P w=stored P w a (.float k b) m:=run_store P w a _ m rfl

theorem own:ownKnob Tryz.prog.godebug=none:=by kernel_rfl
theorem laidOut:laidOutB Tryz.prog=true:=by kernel_rfl

section
variable {H:Type} {enc:TypeId × Value→H} {P:Program}

/-- The arguments read as they did: nothing that stood in memory has turned. -/
theorem trodAll_below (hl:laidOutB P=true):∀ (ts:List TypeId) (vs:List Value) (ds:List (DataW H)) (ps:List MemPlace) (W W':World),
  (∀ t ∈ ts,P.readableRec t=true∧t<P.types.size)→DataW.TrodAll enc P W 0 (fun _=>true) true ts vs ds ps→Below W.heap.size W W'→(∀ x ∈ ps,x.block<W.heap.size) →
  DataW.TrodAll enc P W' 0 (fun b=>decide (b<W.heap.size)) true ts vs ds ps
 | [],[],[],ps,W,W',_,h,_,_=>h
 | t :: ts,v :: vs,d :: ds,ps,W,W',hr,h,hb,hlt=>by
  obtain ⟨p,q,h1,h2,rfl⟩:=h
  exact ⟨p,q,Below.trod hl (hr t (by simp)).1 (hr t (by simp)).2 h1 hb (fun x hx=>hlt x (by simp [hx])),
   trodAll_below hl ts vs ds q W W' (fun t' ht'=>hr t' (by simp [ht'])) h2 hb (fun x hx=>hlt x (by simp [hx])),rfl⟩
 | [],[],_ :: _,_,_,_,_,h,_,_=>h.elim
 | [],_ :: _,_,_,_,_,_,h,_,_=>h.elim
 | _ :: _,[],_,_,_,_,_,h,_,_=>h.elim
 | _ :: _,_ :: _,[],_,_,_,_,h,_,_=>h.elim

/-- A float, read. -/
theorem trod_float {w:World} {base:Nat} {sp:Nat→Bool} {held:Bool} {fuel:Nat} {t:TypeId} {cs:List Value} {x:DataW H × List MemPlace} {k:FloatKind} (ht:P.underlying t=some (.float k))
  (h:DataW.trod enc P w base sp held fuel t cs=some x):∃ b,cs=[.float k b]∧(Lit.float k b).wf=true:=by
 cases fuel with
 | zero=>simp [DataW.trod] at h
 | succ n =>
  unfold DataW.trod at h
  rw [ht] at h
  split at h<;>simp_all

/-- A law's end: it answers true, and below the heap's old size nothing has turned. -/
theorem law_post (hl:laidOutB P=true) {f:Func} {s:ChangeSpec} {W W':World} {args:Array Value} {ds gs:List (DataW H)} {before:List MemPlace} {tb:TypeId}
  (hW:DataW.Whole enc P f.params.toList s.vars false W args.toList ds gs before) (hv:s.vars=[])
  (hspec:s.fn H (ds ++ gs)={ results:=[.lit (.bool true)],args:=ds })
  (hrt:f.resultTypes=#[tb]) (hub:P.underlying tb=some .bool)
  (hr:∀ t ∈ f.params.toList,P.readableRec t=true∧t<P.types.size) (hb:Below W.heap.size W W') :
  s.post enc P f false true false false W args (.bool true) W':=by
 have hlt:=hW.lt
 have hW0:=hW
 obtain ⟨p,q,h1,h2,rfl,_,_⟩:=hW
 rw [hv] at h2
 have hg:gs=[]∧q=[]:=by
  cases gs with
  | nil=>exact ⟨rfl,h2⟩
  | cons _ _=>exact h2.elim
 obtain ⟨rfl,rfl⟩:=hg
 refine ⟨ds,[],p ++ [],[],p,[],hW0,?_,?_,?_,hb.frame _,fun h=>by cases h⟩
 ·rw [hspec,hrt]
  exact trodAll_mk1 (shut_bool hub true)
 ·rw [hspec]
  exact trodAll_below hl _ _ _ _ _ _ hr h1 hb (fun x hx=>hlt x (by simp [hx]))
 ·rw [hspec,hv]
  rfl

/-- The world has only grown: what stood there has not turned. -/
def Bel (w w':World):Prop:=Below w.heap.size w w'

theorem Bel.refl (w:World):Bel w w:=Below.refl _ _
theorem Bel.size {a b:World} (h:Bel a b):a.heap.size≤b.heap.size:=Below.size h
theorem Bel.trans {a b c:World} (h:Bel a b) (k:Bel b c):Bel a c:=Below.trans h (Below.mono k (Below.size h))
theorem Bel.alloc {a b:World} (h:Bel a b) (o:Obj):Bel a (b.alloc o):=Below.alloc h (Below.size h) o
theorem Bel.drew {a b:World} (h:Bel a b):Bel a b.drew:=Below.drew h
theorem Bel.drewN {a b:World} (h:Bel a b) (n:Nat):Bel a (b.drewN n) :=
 Below.trans (B:=a.heap.size) h ⟨rfl,rfl,rfl,Nat.le_refl _,fun _ _=>rfl⟩
theorem Bel.setCell {a b:World} (h:Bel a b) {p:Addr} (hp:a.heap.size≤p.block) (u:Value):Bel a (b.setCell p u):=Below.setCell h hp u
theorem Bel.setCellR {a b:World} {p:Addr} {u:Value} (hp:a.heap.size≤p.block) (h:Bel a b):Bel a (b.setCell p u):=h.setCell hp u
theorem Bel.behind {a b c:World} (k:Bel b c) (h:Bel a b):Bel a c:=h.trans k
theorem Bel.alloc1 (w:World) (o:Obj):Bel w (w.alloc o):=(Bel.refl w).alloc o
/-- A cell that stood there reads as it did. -/
theorem Bel.cell {a b:World} (h:Bel a b) {p:Addr} (hp:p.block<a.heap.size):b.cell? p=a.cell? p:=Below.cell h hp
/-- Block b holds just these cells, none of them frozen. -/
def Blk (w:World) (b:Nat) (cs:Array Value) (t:TypeId):Prop:=w.heap[b]?=some (.cells cs t (0,0))

theorem Blk.lt {w:World} {b:Nat} {cs:Array Value} {t:TypeId} (h:Blk w b cs t):b<w.heap.size:=by
 unfold Blk at h
 rcases Nat.lt_or_ge b w.heap.size with g|g
 ·exact g
 ·simp [Array.getElem?_eq_none g] at h

/-- The walk's rules on such a block. -/
theorem Blk.rules {w:World} {b:Nat} {cs:Array Value} {t:TypeId} (h:Blk w b cs t) :
  (∀ o,w.cell? ⟨b,o,none⟩=cs[o]?)∧(∀ o,w.frozen? ⟨b,o,none⟩=false):=by
 unfold Blk at h
 exact ⟨fun o=>by simp [World.cell?,h],fun o=>by simp [World.frozen?,h]⟩

/-- The walk's rules, and that the block is there. -/
theorem Blk.facts {w:World} {b:Nat} {cs:Array Value} {t:TypeId} (h:Blk w b cs t) :
  (∀ o,w.cell? ⟨b,o,none⟩=cs[o]?)∧(∀ o,w.frozen? ⟨b,o,none⟩=false)∧b<w.heap.size:=⟨h.rules.1,h.rules.2,h.lt⟩
theorem Blk.cast {w:World} {b:Nat} {cs cs':Array Value} {t:TypeId} (h:Blk w b cs t) (hc:cs=cs'):Blk w b cs' t:=hc▸h
theorem Blk.new (w:World) (cs:Array Value) (t:TypeId):Blk (w.alloc (.cells cs t)) w.heap.size cs t:=by
 show (w.heap.push _)[w.heap.size]?=_
 simp
/-- The same where the block's number is spelt otherwise. -/
theorem Blk.new' (w:World) (cs:Array Value) (t:TypeId) {b:Nat} (hb:b=w.heap.size):Blk (w.alloc (.cells cs t)) b cs t:=by
 subst hb
 exact Blk.new w cs t
theorem Blk.alloc {w:World} {b:Nat} {cs:Array Value} {t:TypeId} (h:Blk w b cs t) (o:Obj):Blk (w.alloc o) b cs t:=by
 have:=h.lt
 unfold Blk at *
 rw [Below.heap_alloc w o b this]
 exact h
theorem Blk.drew {w:World} {b:Nat} {cs:Array Value} {t:TypeId} (h:Blk w b cs t):Blk w.drew b cs t:=h
theorem Blk.bel {w w':World} {b:Nat} {cs:Array Value} {t:TypeId} (h:Blk w b cs t) (hb:Bel w w'):Blk w' b cs t:=by
 unfold Blk at *
 rw [Below.block hb b (Blk.lt h)]
 exact h
theorem Blk.other {w:World} {b:Nat} {cs:Array Value} {t:TypeId} (h:Blk w b cs t) {a:Addr} (ha:b ≠ a.block) (v:Value):Blk (w.setCell a v) b cs t:=by
 unfold Blk at *
 rw [Below.heap_setCell w a v b ha]
 exact h
theorem cell_set_other {w:World} {p a:Addr} {u v:Value} (hne:p.block ≠ a.block) (h:w.cell? p=some v):(w.setCell a u).cell? p=some v:=by
 have e:=Below.heap_setCell w a u p.block hne
 rw [World.cell?_of_block e]
 exact h
theorem Blk.otherR {w:World} {b:Nat} {cs:Array Value} {t:TypeId} {a:Addr} {v:Value} (ha:b ≠ a.block) (h:Blk w b cs t):Blk (w.setCell a v) b cs t:=h.other ha v
theorem Blk.set {w:World} {b:Nat} {cs:Array Value} {t:TypeId} (h:Blk w b cs t) (o:Nat) (v:Value):Blk (w.setCell ⟨b,o,none⟩ v) b (cs.setIfInBounds o v) t:=by
 unfold Blk at *
 simp [World.setCell,Array.getElem?_modify,h]
end
/-! ### What a region that draws its order holds on to: one block, two blocks -/
theorem keep1 {v w w':World} {b:Nat} {E:Array Value} {s:TypeId} (hb:Bel w w')
  (h:(∀ o,w.cell? ⟨b,o,none⟩=E[o]?)∧Blk w b E s∧Bel v w):(∀ o,w'.cell? ⟨b,o,none⟩=E[o]?)∧Blk w' b E s∧Bel v w' :=
 ⟨(h.2.1.bel hb).rules.1,h.2.1.bel hb,h.2.2.trans hb⟩
theorem keep1i {v w':World} {b:Nat} {E:Array Value} {s:TypeId} (h0:Blk w' b E s) (hv:Bel v w'):(∀ o,w'.cell? ⟨b,o,none⟩=E[o]?)∧Blk w' b E s∧Bel v w' :=
 ⟨h0.rules.1,h0,hv⟩
theorem keep1s {v w:World} {b:Nat} {E:Array Value} {s:TypeId} {a:Addr} {u:Value} (h0:b ≠ a.block) (hv:v.heap.size≤a.block)
  (h:(∀ o,w.cell? ⟨b,o,none⟩=E[o]?)∧Blk w b E s∧Bel v w):(∀ o,(w.setCell a u).cell? ⟨b,o,none⟩=E[o]?)∧Blk (w.setCell a u) b E s∧Bel v (w.setCell a u) :=
 ⟨(h.2.1.other h0 u).rules.1,h.2.1.other h0 u,h.2.2.setCell hv u⟩
theorem keep2 {v w w':World} {b c:Nat} {E F:Array Value} {s t:TypeId} (hb:Bel w w')
  (h:(∀ o,w.cell? ⟨b,o,none⟩=E[o]?)∧(∀ o,w.cell? ⟨c,o,none⟩=F[o]?)∧Blk w b E s∧Blk w c F t∧Bel v w) :
  (∀ o,w'.cell? ⟨b,o,none⟩=E[o]?)∧(∀ o,w'.cell? ⟨c,o,none⟩=F[o]?)∧Blk w' b E s∧Blk w' c F t∧Bel v w' :=
 ⟨(h.2.2.1.bel hb).rules.1,(h.2.2.2.1.bel hb).rules.1,h.2.2.1.bel hb,h.2.2.2.1.bel hb,h.2.2.2.2.trans hb⟩
theorem keep2i {v w':World} {b c:Nat} {E F:Array Value} {s t:TypeId} (h0:Blk w' b E s) (h1:Blk w' c F t) (hv:Bel v w') :
  (∀ o,w'.cell? ⟨b,o,none⟩=E[o]?)∧(∀ o,w'.cell? ⟨c,o,none⟩=F[o]?)∧Blk w' b E s∧Blk w' c F t∧Bel v w' :=
 ⟨h0.rules.1,h1.rules.1,h0,h1,hv⟩
section
variable {P:Program} {tmps:Array Value} {w:World}

/-- What a result reads as at the end of a body. -/
def ResIs (P:Program) (tmps:Array Value) (w:World):ResultVar→Value→Prop
 | .tmp t,v=>tmps.getD t undef=v
 | .cell p ty,v=>∃ a,tmps.getD p undef=.pointer (some a)∧(loadVar ty a).run P w=.ok v w

theorem results_one {fn:Func} {r:ResultVar} {v:Value} (h:fn.results=#[r]) (h0:ResIs P tmps w r v):(results fn tmps).run P w=.ok v w:=by
 cases r with
 | tmp t=>simp only [ResIs] at h0;simp [results,h];simpa using h0
 | cell p ty =>
  obtain ⟨a,h1,h2⟩:=h0
  simp only [Array.getD_eq_getD_getElem?] at h1
  simp [results,h,h1,asAddr,h2]

theorem results_two {fn:Func} {r s:ResultVar} {v u:Value} (h:fn.results=#[r,s]) (h0:ResIs P tmps w r v) (h1:ResIs P tmps w s u):(results fn tmps).run P w=.ok (.tuple #[v,u]) w:=by
 cases r<;>cases s<;>simp only [ResIs,Array.getD_eq_getD_getElem?] at h0 h1<;>(try obtain ⟨_,h0,h0'⟩:=h0)<;>(try obtain ⟨_,h1,h1'⟩:=h1)<;>simp [results,asAddr, *]

theorem results_three {fn:Func} {r s t:ResultVar} {v u x:Value} (h:fn.results=#[r,s,t]) (h0:ResIs P tmps w r v) (h1:ResIs P tmps w s u) (h2:ResIs P tmps w t x) :
  (results fn tmps).run P w=.ok (.tuple #[v,u,x]) w:=by
 cases r<;>cases s<;>cases t<;>simp only [ResIs,Array.getD_eq_getD_getElem?] at h0 h1 h2<;>(try obtain ⟨_,h0,h0'⟩:=h0)<;>(try obtain ⟨_,h1,h1'⟩:=h1)<;>(try obtain ⟨_,h2,h2'⟩:=h2)<;>simp [results,asAddr, *]

/-- A struct's cells, the block whole, read as its value. -/
theorem loadVar_blk {ty:TypeId} {b:Nat} {cs:Array Value} {T:TypeId} {fs:Array Field} {i:TypeInfo} (hu:P.underlying ty=some (.struct fs)) (hi:P.info? ty=some i) (hs:i.size=cs.size) (h:Blk w b cs T) :
  (loadVar ty ⟨b,0,none⟩).run P w=.ok (.agg cs) w:=by
 have hl:=run_loadCells_list (P:=P) w ⟨b,0,none⟩ cs.toList (fun j v hj=>by
  have:=h.rules.1 j
  have e:(⟨b,0,none⟩:Addr).add j=⟨b,j,none⟩:=by
   cases j with
   | zero=>rfl
   | succ j=>simp [Addr.add]
  rw [e,this]
  simpa using hj)
 simp only [Array.length_toList] at hl
 simp [loadVar,isAgg,sizeOf,typeInfo,run_underlying hu,hi,hs,hl]

theorem resIs_tmp {t:Tmp} {v:Value} (h:tmps.getD t undef=v):ResIs P tmps w (.tmp t) v:=h
theorem resIs_cell {p:Tmp} {ty:TypeId} {a:Addr} {v:Value} (h:tmps.getD p undef=.pointer (some a)) (h':(loadVar ty a).run P w=.ok v w):ResIs P tmps w (.cell p ty) v:=⟨a,h,h'⟩
theorem resIs_blk {p:Tmp} {ty:TypeId} {b n:Nat} {cs':Array Value} {T:TypeId} {fs:Array Field} (h:tmps.getD p undef=.pointer (some ⟨b,0,none⟩)) (hu:P.underlying ty=some (.struct fs))
  (hi:(P.info? ty).map (·.size)=some n) (hB:∃ cs,Blk w b cs T∧cs=cs') (hs:n=cs'.size):ResIs P tmps w (.cell p ty) (.agg cs'):=by
 obtain ⟨cs,hB,rfl⟩:=hB
 obtain ⟨i,hi2,rfl⟩:=Option.map_eq_some_iff.1 hi
 exact ⟨_,h,loadVar_blk hu hi2 hs hB⟩

/-- The body's end: the results are read, and R is shown of them. -/
theorem post_ret {fn:Func} {R:Ending→World→Prop} {v:Value} (h:(results fn tmps).run P w=.ok v w) (hR:R (.returned v) w):bodyPost P fn R .ret { tmps:=tmps,defers:=[] } w :=
 ⟨rfl,v,h,hR⟩
end
theorem bR (w:World):Bel w w:=Bel.refl w
theorem bA {a b:World} {o:Obj} (h:Bel a b):Bel a (b.alloc o):=h.alloc o
theorem bD {a b:World} (h:Bel a b):Bel a b.drew:=h.drew
theorem bN {a b:World} {n:Nat} (h:Bel a b):Bel a (b.drewN n):=h.drewN n
theorem bS {a b:World} {p:Addr} {u:Value} (hp:a.heap.size≤p.block) (h:Bel a b):Bel a (b.setCell p u):=Bel.setCellR hp h
theorem bH {a b c:World} (k:Bel b c) (h:Bel a b):Bel a c:=Bel.behind k h
theorem kN (w:World) (cs:Array Value) (t:TypeId):Blk (w.alloc (.cells cs t)) w.heap.size cs t:=Blk.new w cs t
theorem kM (w:World) (cs:Array Value) (t:TypeId) {b:Nat} (hb:b=w.heap.size):Blk (w.alloc (.cells cs t)) b cs t:=Blk.new' w cs t hb
theorem kA {w:World} {b:Nat} {cs:Array Value} {t:TypeId} (h:Blk w b cs t) (o:Obj):Blk (w.alloc o) b cs t:=h.alloc o
theorem kD {w:World} {b:Nat} {cs:Array Value} {t:TypeId} (h:Blk w b cs t):Blk w.drew b cs t:=h.drew
theorem kE {w:World} {b n:Nat} {cs:Array Value} {t:TypeId} (h:Blk w b cs t):Blk (w.drewN n) b cs t:=h
theorem kS {w:World} {b:Nat} {cs:Array Value} {t:TypeId} (h:Blk w b cs t) (o:Nat) (v:Value):Blk (w.setCell ⟨b,o,none⟩ v) b (cs.setIfInBounds o v) t:=h.set o v
theorem kO {w:World} {b:Nat} {cs:Array Value} {t:TypeId} {a:Addr} {v:Value} (ha:b ≠ a.block) (h:Blk w b cs t):Blk (w.setCell a v) b cs t:=Blk.otherR ha h
theorem kB {w w':World} {b:Nat} {cs:Array Value} {t:TypeId} (h:Blk w b cs t) (k:Bel w w'):Blk w' b cs t:=Blk.bel h k
theorem tg {p:Prop} (_zq0:True) (zq1:p):p:=zq1
theorem EL {p:Prop} (h:p:=by first|(apply tg;exact trivial;(with_reducible repeat (first|assumption|exact bR _|apply bA|apply bD|apply bN|(apply bS;(simp<;>omega))|refine bH (by assumption) ?_));done)|fail):p:=h
theorem KL {p:Prop} (h:p:=by first|(apply tg;exact trivial;(with_reducible repeat (first|assumption|exact kN _ _ _|(refine kM _ _ _ ?_;focus (simp;done))|apply kD|apply kE|refine kA ?_ _|apply Blk.same|refine kB ?_ (by assumption)|(refine kO ?_ ?_;focus ((simp<;>omega);done))));done)|fail):p:=h
theorem SL {p:Prop} (h:p:=by first|(apply tg;exact trivial;(apply Blk.cast;(with_reducible repeat (first|assumption|apply kS|(apply kO;focus ((simp<;>omega);done))|exact kN _ _ _|(apply kM;focus (simp;done))|apply kA|apply kD|apply kE|refine kB ?_ (by assumption)));rfl);done)|fail):p:=h
theorem K1L {p:Prop} (h:p:=by first|(apply tg;exact trivial;(with_reducible first|(apply keep1;assumption;assumption)|(apply keep1;(exact Bel.alloc1 _ _);assumption)|((repeat (first|assumption|(apply keep1s;(simp<;>omega);(simp<;>omega))));done)|(refine keep1i ?_ ?_;(focus ((repeat (first|assumption|apply kS|(apply kO;(simp<;>omega))|exact kN _ _ _|(apply kM;(focus (simp;done)))|apply kA|apply kD));done));(focus ((repeat (first|assumption|exact bR _|apply bA|apply bD|(apply bS;(simp<;>omega))|refine bH (by assumption) ?_));done))));done)|fail):p:=h
theorem K2L {p:Prop} (h:p:=by first|(apply tg;exact trivial;(first|(with_reducible apply keep2;assumption;assumption)|((repeat (first|with_reducible assumption|((with_reducible apply keep2e);(focus rfl);(focus (simp<;>omega));(focus (simp<;>omega)))));done)|(with_reducible refine keep2i ?_ ?_ ?_;(focus ((repeat (first|assumption|apply kS|(apply kO;(simp<;>omega))|exact kN _ _ _|(apply kM;(focus (simp;done)))|apply kA|apply kD));done));(focus ((repeat (first|assumption|apply kS|(apply kO;(simp<;>omega))|exact kN _ _ _|(apply kM;(focus (simp;done)))|apply kA|apply kD));done));(focus ((repeat (first|assumption|exact bR _|apply bA|apply bD|(apply bS;(simp<;>omega))|refine bH (by assumption) ?_));done))));done)|fail):p:=h
end Go.Proofs.YtpipehenfcbjbaaGreatDoor
namespace Go.Proofs.YtpipehenfcbjbaaGreatDoor
open Ieee

/-- Is it a number (no infinity, no NaN)? -/
def finB (x:Nat):Bool:=match double.read x with|.number ..=>true|_=>false

/-- A NaN of the model's: some bits that the tape picks. -/
def nanOf (t:Nat):Nat:=(t % 2)*2 ^ 63+0x7ff0000000000000+1+(t / 2) % (2 ^ 52 - 1)

theorem read_nanOf (t:Nat):∃ s m,double.read (nanOf t)=.nan s m:=by
 have h1:(t / 2) % (2 ^ 52 - 1)<2 ^ 52 - 1:=Nat.mod_lt _ (by decide)
 have h2:t % 2<2:=Nat.mod_lt _ (by decide)
 unfold nanOf
 generalize (t / 2) % (2 ^ 52 - 1)=f at *
 generalize t % 2=s at *
 have e1:double.signWeight=2 ^ 63:=by decide
 have e2:double.infRung=0x7ff0000000000000:=by decide
 have e3:double.binade=2 ^ 52:=by decide
 have hr:(s*2 ^ 63+0x7ff0000000000000+1+f) % 2 ^ 63=0x7ff0000000000000+1+f:=by omega
 simp only [Format.read,e1,e2,e3,hr]
 rw [if_neg (by omega),if_neg (by omega),if_neg (by omega)]
 exact ⟨_,_,rfl⟩

theorem order_nan_left (t y:Nat):FloatKind.f64.format.order (nanOf t) y=none:=by
 obtain ⟨s,m,h⟩:=read_nanOf t
 show (double.read (nanOf t)).order (double.read y)=none
 rw [h];rfl

/-- The NaN that an operation without an answer gives in a world. -/
def nanAt (w:World) (x y:Nat):Nat:=nanOf (w.tape w.drawn (.nanBits .f64 x y))
theorem order_nanAt_left (w:World) (a b y:Nat):FloatKind.f64.format.order (nanAt w a b) y=none:=order_nan_left _ _

section
variable {P:Program}
/-- '==' of two floats within a struct. -/
@[go_sem] theorem run_equalIn_float (w:World) (d:Nat) (t:TypeId) (k k':FloatKind) (a b:Nat) (h:P.underlying t=some (.float k')):(Op.equalIn (d+1) t (.float k a) (.float k b)).run P w=.ok (k.format.order a b == some .eq) w:=by
 simp [Op.equalIn,run_underlying h,Op.floatEq]

/-- The walk's law: an operation without an answer gives a NaN. -/
theorem run_float_nan (op:BinOp) (t:TypeId) (x y:Nat) (hop:op=.add∨op=.sub∨op=.mul∨op=.quo) (h:floatBits op .f64 x y=none) (w:World) :
  (binOp op t (.float .f64 x) (.float .f64 y)).run P w=.ok (.float .f64 (nanAt w x y)) w.drew:=by
 unfold floatBits at h
 rcases hop with rfl|rfl|rfl|rfl<;>simp only at h<;>(simp [binOp,Op.floatArith,h];rfl)

end
end Go.Proofs.YtpipehenfcbjbaaGreatDoor
namespace Go.Proofs.YtpipehenfcbjbaaGreatDoor
open Go.ChangeShapes Go.WideShapes Go.ChangeAt Go.RowKit

def flv (x:Nat):Value:=.float .f64 x

/-- Blocks that F lets, but for the k that were made from block s on. -/
def Loc (F:Nat→Prop) (s k:Nat) (b:Nat):Prop:=F b∧(b<s∨s+k≤b)
/-- F lets all new blocks. -/
def New (F:Nat→Prop) (w:World):Prop:=∀ b,w.heap.size≤b→F b
theorem New.loc {F:Nat→Prop} {w w':World} (h:New F w) {k:Nat} (hk:w.heap.size+k≤w'.heap.size):New (Loc F w.heap.size k) w' :=
 fun b hb=>⟨h b (by omega),Or.inr (by omega)⟩
theorem New.any (w:World):New (fun _=>True) w:=fun _ _=>trivial
theorem Loc.not {F:Nat→Prop} {s k g:Nat} (h1:s≤g) (h2:g<s+k):¬ Loc F s k g:=fun h=>by
 rcases h.2 with h|h<;>omega

/-- A slice of floats, read: its cells lie in a block that F lets. -/
def FlSl (F:Nat→Prop) (w:World) (v:Value) (xs:List Nat):Prop :=
 ∃ p cap,v=.slice p xs.length cap∧xs.length≤cap∧cap≤9223372036854775807 ∧
  (xs ≠ []→∃ b off,p=some ⟨b,off,none⟩∧b<w.heap.size∧F b∧∀ (i:Nat) (x:Nat),xs[i]?=some x→w.cell? ⟨b,off+i,none⟩=some (.float .f64 x))

theorem FlSl.bel {F:Nat→Prop} {w w':World} {v:Value} {xs:List Nat} (h:FlSl F w v xs) (hb:Bel w w'):FlSl F w' v xs:=by
 obtain ⟨p,cap,hv,hl,hc,h⟩:=h
 refine ⟨p,cap,hv,hl,hc,fun hn=>?_⟩
 obtain ⟨b,off,hp,hlt,hF,hq⟩:=h hn
 exact ⟨b,off,hp,Nat.lt_of_lt_of_le hlt hb.size,hF,fun i x hi=>(hb.cell hlt).trans (hq i x hi)⟩
theorem FlSl.set {F:Nat→Prop} {w:World} {v:Value} {xs:List Nat} (h:FlSl F w v xs) {g:Nat} (hg:¬ F g) (o:Nat) (u:Value):FlSl F (w.setCell ⟨g,o,none⟩ u) v xs:=by
 obtain ⟨p,cap,hv,hl,hc,h⟩:=h
 refine ⟨p,cap,hv,hl,hc,fun hn=>?_⟩
 obtain ⟨b,off,hp,hlt,hF,hq⟩:=h hn
 have hne:b ≠ g:=fun e=>hg (e▸hF)
 exact ⟨b,off,hp,by simpa using hlt,hF,fun i x hi=>cell_set_other hne (hq i x hi)⟩
theorem FlSl.mono {F G:Nat→Prop} {w:World} {v:Value} {xs:List Nat} (h:FlSl F w v xs) (hFG:∀ b,b<w.heap.size→F b→G b):FlSl G w v xs:=by
 obtain ⟨p,cap,hv,hl,hc,h⟩:=h
 refine ⟨p,cap,hv,hl,hc,fun hn=>?_⟩
 obtain ⟨b,off,hp,hlt,hF,hq⟩:=h hn
 exact ⟨b,off,hp,hlt,hFG b hlt hF,hq⟩
theorem FlSl.loc {F:Nat→Prop} {w:World} {v:Value} {xs:List Nat} (h:FlSl F w v xs) (k:Nat):FlSl (Loc F w.heap.size k) w v xs:=h.mono fun _ hl hF=>⟨hF,Or.inl hl⟩
theorem FlSl.out {F:Nat→Prop} {w:World} {v:Value} {xs:List Nat} {s k:Nat} (h:FlSl (Loc F s k) w v xs):FlSl F w v xs:=h.mono fun _ _ hF=>hF.1

theorem FlSl.isSlice {F:Nat→Prop} {w:World} {v:Value} {xs:List Nat} (h:FlSl F w v xs):∃ p n c,v=.slice p n c:=by
 obtain ⟨p,cap,hv,_⟩:=h
 exact ⟨p,_,cap,hv⟩
theorem FlSl.len {F:Nat→Prop} {w:World} {p:Option Addr} {n c:Nat} {xs:List Nat} (h:FlSl F w (.slice p n c) xs):xs.length=n∧n≤c∧c≤9223372036854775807:=by
 obtain ⟨_,_,hv,h1,h2,_⟩:=h
 simp only [Value.slice.injEq] at hv
 obtain ⟨_,rfl,rfl⟩:=hv
 exact ⟨rfl,h1,h2⟩
/-- The cells of such a slice that is not empty. -/
theorem FlSl.cells {F:Nat→Prop} {w:World} {p:Option Addr} {n c:Nat} {xs:List Nat} (h:FlSl F w (.slice p n c) xs) (hn:0<n) :
  ∃ b off,p=some ⟨b,off,none⟩∧b<w.heap.size∧F b∧∀ (i:Nat) (x:Nat),xs[i]?=some x→w.cell? ⟨b,off+i,none⟩=some (.float .f64 x):=by
 have hl:=h.len.1
 obtain ⟨_,_,hv,_,_,h3⟩:=h
 simp only [Value.slice.injEq] at hv
 obtain ⟨rfl,_,rfl⟩:=hv
 exact h3 (fun e=>by rw [e] at hl;simp at hl;omega)
theorem FlSl.nil (F:Nat→Prop) (w:World):FlSl F w (.slice none 0 0) []:=⟨none,0,rfl,by simp,by simp,fun h=>absurd rfl h⟩

theorem add_none (g j:Nat):(⟨g,0,none⟩:Addr).add j=⟨g,j,none⟩:=by cases j<;>simp [Addr.add]

theorem FlSl.of_owns {F:Nat→Prop} {w:World} {base n:Nat} {v:Value} {e:TypeId} {xs:List Nat} (h:w.ownsRow base e 1 v n (xs.map flv)) (hn:xs.length=n) (hF:∀ b,base≤b→F b):FlSl F w v xs:=by
 subst hn
 have hc:=fun (g:Nat) (hg:v.ownBlock=some g)=>h.cells hg
 rcases h.2 with ⟨rfl,h0⟩|⟨g,cap,cur,rfl,hb,hg,h1,h2,_⟩
 ·exact ⟨none,0,by rw [h0],by omega,by omega,fun hn=>absurd (List.length_eq_zero_iff.1 h0) hn⟩
 ·refine ⟨_,cap,rfl,h1,by unfold maxLen at h2;omega,fun _=>⟨g,0,rfl,(Array.getElem?_eq_some_iff.1 hg).1,hF g hb,fun i q hq=>?_⟩⟩
  have c1:=hc g rfl i (.float .f64 q) (by rw [List.getElem?_map,hq];rfl)
  rw [add_none] at c1
  rw [Nat.zero_add]
  exact c1

theorem FlSl.of_blk {F:Nat→Prop} {w:World} {g n:Nat} {t:TypeId} {xs:List Nat} (h:Blk w g (xs.map flv).toArray t) (hn:xs.length=n) (hm:n≤9223372036854775807) (hF:F g):FlSl F w (.slice (some ⟨g,0,none⟩) n n) xs:=by
 subst hn
 refine ⟨_,_,rfl,Nat.le_refl _,hm,fun _=>⟨g,0,rfl,h.lt,hF,fun i x hi=>?_⟩⟩
 rw [h.rules.1,Nat.zero_add]
 simp [hi]
 rfl
/-- What copy takes of such a slice. -/
theorem FlSl.src {F:Nat→Prop} {w:World} {p:Option Addr} {n c m:Nat} {xs:List Nat} (h:FlSl F w (.slice p n c) xs) (hn:0<((xs.take m).map flv).length) :
  ∃ ad,p=some ad∧∀ j v,((xs.take m).map flv)[j]?=some v→w.cell? (ad.add j)=some v:=by
 have hl:=h.len.1
 obtain ⟨b,off,rfl,_,_,hq⟩:=h.cells (by
  rw [List.length_map,List.length_take] at hn
  omega)
 refine ⟨_,rfl,fun j v hj=>?_⟩
 rw [List.getElem?_map,Option.map_eq_some_iff] at hj
 obtain ⟨x,hx,rfl⟩:=hj
 rw [List.getElem?_take] at hx
 split at hx
 ·have e:(⟨b,off,none⟩:Addr).add j=⟨b,off+j,none⟩:=by cases j<;>simp [Addr.add]
  rw [e]
  exact hq j x hx
 ·cases hx
theorem flv_one (xs:List Nat):∀ v ∈ xs.map flv,v.oneCell'=true:=by
 intro v hv
 obtain ⟨x,_,rfl⟩:=List.mem_map.1 hv
 rfl
theorem infoF1:(Tryz.prog.info? 27).map (·.size)=some 1:=by kernel_rfl
theorem Blk.below {w w':World} {b B:Nat} {cs:Array Value} {t:TypeId} (h:Blk w b cs t) (hb:Below B w w') (hlt:b<B):Blk w' b cs t:=by
 unfold Blk at *
 rw [Below.block hb b hlt]
 exact h
theorem Bel.below {w a w':World} {B:Nat} (h:Bel w a) (k:Below B a w') (hB:w.heap.size≤B):Bel w w':=Below.trans h (Below.mono k hB)
theorem add_off (b off j:Nat):(⟨b,off,none⟩:Addr).add j=⟨b,off+j,none⟩:=by cases j<;>simp [Addr.add]
theorem _root_.Go.World.ownsRow.blk {w:World} {base g n size:Nat} {e:TypeId} {xs:List Value} (h:w.ownsRow base e size (.slice (some ⟨g,0,none⟩) n n) n xs):∃ cs,Blk w g cs e∧cs.size=n*size:=by
 rcases h.2 with ⟨h0,_⟩|⟨g',cap,cur,hv,_,hg,_,_,hs,_⟩
 ·cases h0
 ·simp only [Value.slice.injEq,Option.some.injEq,Addr.mk.injEq,and_true,true_and] at hv
  obtain ⟨rfl,rfl⟩:=hv
  exact ⟨cur,hg,hs⟩
theorem splice_all (cur cs:List Value) (h:cur.length=cs.length):Go.splice cur 0 cs=cs:=by
 simp [Go.splice,h]
theorem Bel.of_grown0 {w w':World} (h:w.grownBy w' none):Bel w w' :=
 ⟨h.os,h.tape,h.output,h.size,fun k hk=>h.block k hk (by simp)⟩

theorem grownBy_blk {w w':World} {row:Option Nat} {g:Nat} {cs:Array Value} {t:TypeId} (h:w.grownBy w' row) (hb:Blk w g cs t) (hne:some g ≠ row):Blk w' g cs t:=by
 have hl:=hb.lt
 unfold Blk at *
 rw [h.block g hl hne]
 exact hb
theorem grownBy_set (w:World) (g o:Nat) (v:Value):w.grownBy (w.setCell ⟨g,o,none⟩ v) (some g) :=
 ⟨rfl,rfl,rfl,by simp,fun k hk hne=>Below.heap_setCell w ⟨g,o,none⟩ v k (fun e=>hne (congrArg some e))⟩

/-- The row is another block than those below its base. -/
theorem _root_.Go.World.ownsRow.ne_of_lt {w:World} {base n size:Nat} {v:Value} {e:TypeId} {xs:List Value} (h:w.ownsRow base e size v n xs) {g:Nat} (hg:g<base):some g ≠ v.ownBlock:=fun k=>by
 have:=(h.lt g k.symm).1
 omega
theorem _root_.Go.World.ownsRow.ne_of_lt' {w:World} {base n size:Nat} {v:Value} {e:TypeId} {xs:List Value} (h:w.ownsRow base e size v n xs) {g:Nat} (hg:g<base):v.ownBlock=none∨v.ownBlock ≠ some g :=
 Or.inr fun k=>h.ne_of_lt hg k.symm

theorem _root_.Go.World.ownsRow.isSlice {w:World} {base n size:Nat} {v:Value} {e:TypeId} {xs:List Value} (h:w.ownsRow base e size v n xs):∃ p c,v=.slice p n c:=by
 rcases h.2 with ⟨rfl,h0⟩|⟨g,cap,cur,rfl,_⟩
 ·exact ⟨none,0,by rw [h0]⟩
 ·exact ⟨_,_,rfl⟩
theorem infoF:(Tryz.prog.info? 27).map (fun i=>(i.zero,i.size,i.bytes))=some (some (.float .f64 0),1,8):=by kernel_rfl

/-- An aggregate's result at the end of a body. -/
theorem resIs_agg {P:Program} {tmps:Array Value} {w:World} {p:Tmp} {ty:TypeId} {b n:Nat} {cs:Array Value} {T:TypeId} {fs:Array Field} (h:tmps.getD p undef=.pointer (some ⟨b,0,none⟩)) (hu:P.underlying ty=some (.struct fs))
  (hi:(P.info? ty).map (·.size)=some n) (hB:Blk w b cs T) (hs:n=cs.size):ResIs P tmps w (.cell p ty) (.agg cs):=resIs_blk h hu hi ⟨cs,hB,rfl⟩ hs
/-- What a region that draws its order holds on to: two cells that stood there, one block of the call's own. -/
theorem keepD2 {w w':World} {p q:Addr} {x y:Value} {g:Nat} {cs:Array Value} {T:TypeId} (hp:p.block<w.heap.size) (hq:q.block<w.heap.size) (cx:w.cell? p=some x) (cy:w.cell? q=some y) (hB:Blk w' g cs T) (h:Bel w w') :
  w'.cell? p=some x∧w'.cell? q=some y∧(∀ o,w'.cell? ⟨g,o,none⟩=cs[o]?)∧Blk w' g cs T∧Bel w w':=⟨(h.cell hp).trans cx,(h.cell hq).trans cy,hB.rules.1,hB,h⟩
theorem Blk.drewN {w:World} {b:Nat} {cs:Array Value} {t:TypeId} (h:Blk w b cs t) (n:Nat):Blk (w.drewN n) b cs t:=h
end Go.Proofs.YtpipehenfcbjbaaGreatDoor
namespace Go.Proofs.YtpipehenfcbjbaaGreatDoor
open Ieee
set_option exponentiation.threshold 3000

theorem Is.finB {x:Nat} {q:Rat} (h:Is x q):finB x=true:=by
 obtain ⟨s,m,i,h1,_⟩:=h
 unfold Go.Proofs.YtpipehenfcbjbaaGreatDoor.finB
 rw [h1]
end Go.Proofs.YtpipehenfcbjbaaGreatDoor
namespace Go.Proofs.YtpipehenfcbjbaaGreatDoor
open Go.ChangeShapes Go.WideShapes Go.ChangeAt Go.RowKit Ieee
def oI (p q:Int):Ordering:=if p<q then .lt else if p=q then .eq else .gt
def ltB (x y:Nat):Bool:=FloatKind.f64.format.order x y == some .lt
def gtB (x y:Nat):Bool:=FloatKind.f64.format.order x y == some .gt
def leB (x y:Nat):Bool:=FloatKind.f64.format.order x y == some .lt || FloatKind.f64.format.order x y == some .eq
def eqB (x y:Nat):Bool:=FloatKind.f64.format.order x y == some .eq
theorem oI_lt (p q:Int):(some (oI p q) == some Ordering.lt)=decide (p<q):=by
 unfold oI
 split
 ·simp [*]
 ·split<;>(simp;omega)
theorem oI_gt (p q:Int):(some (oI p q) == some Ordering.gt)=decide (q<p):=by
 unfold oI
 split
 ·simp;omega
 ·split<;>(simp;omega)
def mnB (x y:Nat):Nat:=if ltB x y=true then x else y
def mxB (x y:Nat):Nat:=if gtB x y=true then x else y
theorem Is.zero:Is 0 ((0:Int):Rat):=by
 have h:=Is.ofInt 0 (by decide)
 have e:FloatKind.f64.nearest 0=0:=by decide
 rw [e] at h
 exact h

/-! ### A number between two others, cut to a whole one -/
theorem cut_zero_le (neg:Bool) (n d:Nat):Toward.zero.cut neg n d*2 ^ d≤n:=by
 unfold Toward.cut
 simp only [Bool.toNat_false,Nat.add_zero,Nat.shiftLeft_eq,Nat.one_mul]
 rcases Nat.le_total d (n.log2+2) with h|h
 ·rw [Nat.min_eq_left h]
  exact Nat.div_mul_le_self _ _
 ·rw [Nat.min_eq_right h]
  have:n / 2 ^ (n.log2+2)=0:=by
   rw [Nat.div_eq_zero_iff]
   right
   rcases Nat.eq_zero_or_pos n with h0|h0
   ·subst h0
    exact Nat.two_pow_pos _
   ·exact Nat.lt_trans (Nat.lt_log2_self) (Nat.pow_lt_pow_right (by decide) (by omega))
  rw [this]
  omega
/-- The whole number that a small number is cut to is small. -/
theorem trunc_small {x:Nat} {q:Rat} (hx:Is x q) (m:Nat) (h1:-(m:Rat)≤q) (h2:q≤(m:Rat)):∃ n:Int,(FloatKind.f64.decode x).toInt .zero=some n∧n.natAbs≤m:=by
 obtain ⟨s,g,i,hr,hq⟩:=hx
 have hd:FloatKind.f64.decode x=.number s g i:=hr
 refine ⟨_,by rw [hd];rfl,?_⟩
 have hs:∀ k:Nat,(signed s k 0).natAbs=k:=by
  intro k
  rw [signed_eq,mant]
  cases s<;>simp
 rw [hs]
 have hc:=cut_zero_le s (g <<< i.toNat) (-i).toNat
 rw [Nat.shiftLeft_eq] at hc
 rw [Nat.shiftLeft_eq]
 have hg:(g:Rat)*(2:Rat) ^ i≤(m:Rat):=by
  rw [mant_val] at hq
  cases s
  ·simp only [Bool.false_eq_true,if_false] at hq
   rw [hq]
   exact h2
  ·simp only [if_true] at hq
   grind
 have hN:g*2 ^ i.toNat≤m*2 ^ (-i).toNat:=by
  rcases Int.le_total 0 i with k|k
  ·have e:(-i).toNat=0:=by omega
   rw [e,Nat.pow_zero,Nat.mul_one]
   have e2:(2:Rat) ^ i=((2 ^ i.toNat:Nat):Rat):=by
    rw [← zpow_nat2]
    congr 1
    omega
   rw [e2] at hg
   exact_mod_cast hg
  ·have e:i.toNat=0:=by omega
   rw [e,Nat.pow_zero,Nat.mul_one]
   have e2:(2:Rat) ^ i*((2 ^ (-i).toNat:Nat):Rat)=1:=by
    rw [← zpow_nat2,← zpow_add2]
    have:i+((-i).toNat:Int)=0:=by omega
    rw [this]
    rfl
   have hp:(0:Rat)≤((2 ^ (-i).toNat:Nat):Rat):=by
    exact_mod_cast Nat.zero_le _
   have h3:=Rat.mul_le_mul_of_nonneg_right hg hp
   rw [Rat.mul_assoc,e2,Rat.mul_one] at h3
   exact_mod_cast h3
 have hpos:0<2 ^ (-i).toNat:=Nat.two_pow_pos _
 exact Nat.le_of_mul_le_mul_right (Nat.le_trans hc hN) hpos
theorem cmpQ_le {p q:Rat} (h:(some (cmpQ p q) == some Ordering.lt || some (cmpQ p q) == some Ordering.eq)=true):p≤q:=by
 unfold cmpQ at h
 split at h
 ·rename_i k
  exact Rat.le_of_lt k
 ·split at h
  ·rename_i k
   rw [k]
   exact Rat.le_refl
  ·simp at h
theorem bool_cases (b:Bool):b=true∨b=false:=by cases b<;>simp
def fsub (x y:Nat):Nat:=(floatBits .sub .f64 x y).getD 0
def fadd (x y:Nat):Nat:=(floatBits .add .f64 x y).getD 0
def fmul (x y:Nat):Nat:=(floatBits .mul .f64 x y).getD 0
theorem Rn.int {z:Int} {r:Nat} (h:Rn (z:Rat) r) (hz:z.natAbs<2 ^ 53):Is r (z:Rat):=h.exact z 0 hz (by decide) (by decide) (by
 have:(2:Rat) ^ (0:Int)=1:=rfl
 rw [this,Rat.mul_one])
theorem Is.fadd {x y:Nat} {p q:Int} (hx:Is x (p:Rat)) (hy:Is y (q:Rat)) (h:(p+q).natAbs<2 ^ 53):floatBits .add .f64 x y=some (fadd x y)∧Is (fadd x y) ((p+q:Int):Rat):=by
 obtain ⟨r,e,k⟩:=hx.sum hy
 have e':floatBits .add .f64 x y=some r:=e
 unfold Go.Proofs.YtpipehenfcbjbaaGreatDoor.fadd
 rw [e']
 have:(p:Rat)+(q:Rat)=((p+q:Int):Rat):=by push_cast;rfl
 rw [this] at k
 exact ⟨rfl,Rn.int k h⟩
theorem Is.fsub {x y:Nat} {p q:Int} (hx:Is x (p:Rat)) (hy:Is y (q:Rat)) (h:(p - q).natAbs<2 ^ 53):floatBits .sub .f64 x y=some (fsub x y)∧Is (fsub x y) ((p - q:Int):Rat):=by
 obtain ⟨r,e,k⟩:=hx.diff hy
 have e':floatBits .sub .f64 x y=some r:=e
 unfold Go.Proofs.YtpipehenfcbjbaaGreatDoor.fsub
 rw [e']
 have:(p:Rat) - (q:Rat)=((p - q:Int):Rat):=by push_cast;rfl
 rw [this] at k
 exact ⟨rfl,Rn.int k h⟩
theorem Is.fmul {x y:Nat} {p q:Int} (hx:Is x (p:Rat)) (hy:Is y (q:Rat)) (h:(p*q).natAbs<2 ^ 53):floatBits .mul .f64 x y=some (fmul x y)∧Is (fmul x y) ((p*q:Int):Rat):=by
 obtain ⟨r,e,k⟩:=hx.prod hy
 have e':floatBits .mul .f64 x y=some r:=e
 unfold Go.Proofs.YtpipehenfcbjbaaGreatDoor.fmul
 rw [e']
 have:(p:Rat)*(q:Rat)=((p*q:Int):Rat):=by push_cast;rfl
 rw [this] at k
 exact ⟨rfl,Rn.int k h⟩
theorem hi_is:Is 4697254411347427328 ((1048576:Int):Rat):=by
 have h:=Is.ofInt 1048576 (by decide)
 have e:FloatKind.f64.nearest 1048576=4697254411347427328:=by kernel_rfl
 rw [e] at h
 exact h
/-! ### abs, trunc: of the word alone -/
def absB (x:Nat):Nat:=x % 9223372036854775808
theorem u64_clear (x:Nat) (_hx:x<18446744073709551616):bits .andNot .u64 (x:Int) 9223372036854775808=((absB x:Nat):Int):=by
 have h3:(~~~ (BitVec.ofInt 64 9223372036854775808)).toNat=2 ^ 63 - 1:=by decide
 have key:(BitVec.ofInt 64 (x:Int) &&& ~~~ (BitVec.ofInt 64 9223372036854775808)).toNat=x % 2 ^ 63:=by
  rw [BitVec.toNat_and,BitVec.toNat_ofInt,h3,Nat.and_two_pow_sub_one_eq_mod]
  omega
 show IntKind.u64.wrap ((BitVec.ofInt 64 (x:Int) &&& ~~~ (BitVec.ofInt 64 9223372036854775808)).toNat:Nat)=_
 rw [key,IntWalk.u64_in _ (by omega)]
 rfl
theorem read_abs {x:Nat}:double.read (absB x)=match double.read x with
  | .number _ m i=>.number false m i
  | .infinity _=>.infinity false
  | .nan _ t=>.nan false t:=by
 have e1:double.signWeight=9223372036854775808:=by decide
 unfold Format.read absB
 rw [e1]
 have h1:x % 9223372036854775808 / 9223372036854775808 % 2=0:=by omega
 have h2:x % 9223372036854775808 % 9223372036854775808=x % 9223372036854775808:=by omega
 rw [h1,h2]
 simp only
 split
 ·simp
 ·split
  ·simp
  ·split
   ·simp
   ·simp
theorem is_abs {x K:Nat} {k:Rat} (hK:Is K k) (h:leB (absB x) K=true):∃ q,Is x q∧-k≤q∧q≤k:=by
 unfold leB at h
 have e1:FloatKind.f64.format.order (absB x) K=(double.read (absB x)).order (double.read K):=rfl
 have hK0:=hK
 obtain ⟨t,n,j,hs,_⟩:=hK
 have ha:=read_abs (x:=x)
 cases hx:double.read x with
 | nan u v =>
  rw [hx] at ha
  rw [e1,ha,hs] at h
  simp [Datum.order] at h
 | infinity u =>
  rw [hx] at ha
  rw [e1,ha,hs] at h
  simp [Datum.order] at h
 | number s m i =>
  rw [hx] at ha
  have i1:Is (absB x) ((mant false m:Rat)*(2:Rat) ^ i):=⟨_,_,_,ha,rfl⟩
  have o1:FloatKind.f64.format.order (absB x) K=some (cmpQ ((mant false m:Rat)*(2:Rat) ^ i) k):=i1.order hK0
  rw [o1] at h
  have hle:=cmpQ_le h
  refine ⟨_,⟨s,m,i,hx,rfl⟩,?_⟩
  rw [mant_val] at hle
  rw [mant_val]
  have hp:=zpow_pos2 i
  have hm:(0:Rat)≤(m:Rat):=by exact_mod_cast Nat.zero_le m
  have hmp:(0:Rat)≤(m:Rat)*(2:Rat) ^ i:=Rat.mul_nonneg hm (Rat.le_of_lt hp)
  simp only [Bool.false_eq_true,if_false] at hle
  cases s
  ·simp only [Bool.false_eq_true,if_false]
   constructor<;>grind
  ·simp only [if_true]
   constructor<;>grind
def truncW (x:Nat):Nat:=FloatKind.f64.encode ((FloatKind.f64.decode x).integral .zero)
theorem is_trunc {x:Nat} {q:Rat} (hx:Is x q) (m:Nat) (hm:m<2 ^ 53) (h1:-(m:Rat)≤q) (h2:q≤(m:Rat)):∃ n:Int,(FloatKind.f64.decode x).toInt .zero=some n∧n.natAbs≤m∧Is (truncW x) (n:Rat):=by
 obtain ⟨n,hn,hb⟩:=trunc_small hx m h1 h2
 refine ⟨n,hn,hb,?_⟩
 obtain ⟨s,g,i,hr,hq⟩:=hx
 have hd:FloatKind.f64.decode x=.number s g i:=hr
 unfold truncW
 rw [hd] at hn ⊢
 have hn':signed s (Toward.zero.cut s (g <<< i.toNat) (-i).toNat) 0=n:=Option.some.inj hn
 show Is (double.nearest s (Toward.zero.cut s (g <<< i.toNat) (-i).toNat) 0) (n:Rat)
 generalize Toward.zero.cut s (g <<< i.toNat) (-i).toNat=c at *
 rw [signed_eq] at hn'
 simp at hn'
 have hr:Rn (n:Rat) (double.nearest s c 0):=⟨s,c,0,rfl,by
  rw [← hn']
  have:(2:Rat) ^ (0:Int)=1:=rfl
  rw [this,Rat.mul_one]⟩
 exact Rn.int hr (by omega)
theorem wholeA_is {x:Nat} (h1:leB (absB x) 4697254411347427328=true) (h2:eqB x (truncW x)=true):∃ n:Int,Is x (n:Rat)∧-1048576≤n∧n≤1048576∧(FloatKind.f64.decode x).toInt .zero=some n:=by
 obtain ⟨q,hq,l1,l2⟩:=is_abs hi_is h1
 have c2:(((1048576:Int)):Rat)=((1048576:Nat):Rat):=by rfl
 rw [c2] at l1 l2
 obtain ⟨n,hn,hb,hi⟩:=is_trunc hq 1048576 (by decide) l1 l2
 have ho:FloatKind.f64.format.order x (truncW x)=some (cmpQ q (n:Rat)):=hq.order hi
 unfold eqB at h2
 rw [ho] at h2
 refine ⟨n,?_,by omega,by omega,hn⟩
 have:q=(n:Rat):=by
  unfold cmpQ at h2
  split at h2
  ·simp at h2
  ·split at h2
   ·assumption
   ·simp at h2
 rw [← this]
 exact hq
end Go.Proofs.YtpipehenfcbjbaaGreatDoor
set_option linter.unusedVariables false
namespace Go.Proofs.YtpipehenfcbjbaaGreatDoor
open Go.ChangeShapes Go.WideShapes Go.ChangeAt Go.RowKit
inductive Gm where
 | mk (kind dim:Int) (nums:List Nat) (kids:List Gm)
def Gm.kind:Gm→Int
 | .mk k _ _ _=>k
def Gm.dim:Gm→Int
 | .mk _ d _ _=>d
def Gm.nums:Gm→List Nat
 | .mk _ _ n _=>n
def Gm.kids:Gm→List Gm
 | .mk _ _ _ k=>k
mutual
def Gm.size:Gm→Nat
 | .mk _ _ ns ks=>ns.length+Gm.sizes ks+1
def Gm.sizes:List Gm→Nat
 | []=>0
 | g :: r=>g.size+Gm.sizes r
end
mutual
def Gm.Ok:Gm→Prop
 | .mk k d ns ks=>(-9223372036854775808≤k∧k≤9223372036854775807)∧(-9223372036854775808≤d∧d≤9223372036854775807)∧(∀ x ∈ ns,x<18446744073709551616)∧Gm.Oks ks
def Gm.Oks:List Gm→Prop
 | []=>True
 | g :: r=>g.Ok∧Gm.Oks r
end
theorem Gm.Oks.of_mem:∀ {l:List Gm},(∀ g ∈ l,g.Ok)→Gm.Oks l
 | [],_=>by simp [Gm.Oks]
 | a :: r,h=>by
  simp only [Gm.Oks]
  exact ⟨h a (by simp),Gm.Oks.of_mem fun g hg=>h g (by simp [hg])⟩
theorem Gm.size_mem:∀ {l:List Gm} {g:Gm},g ∈ l→g.size≤Gm.sizes l
 | [],g,h=>by simp at h
 | a :: r,g,h=>by
  simp only [Gm.sizes]
  rcases List.mem_cons.1 h with rfl|k
  ·omega
  ·have:=Gm.size_mem k
   omega
theorem Gm.size_pos (g:Gm):0<g.size:=by
 cases g
 simp only [Gm.size]
 omega
theorem Gm.len_sizes:∀ (l:List Gm),l.length≤Gm.sizes l
 | []=>by simp [Gm.sizes]
 | a :: r=>by
  have:=Gm.len_sizes r
  have:=a.size_pos
  simp only [Gm.sizes,List.length_cons]
  omega
theorem Gm.size_eq (g:Gm):g.size=g.nums.length+Gm.sizes g.kids+1:=by
 cases g
 simp only [Gm.size,Gm.nums,Gm.kids]

/-- A row of geometries: its cells, the numbers and the parts of each. -/
inductive GmSl (F:Nat→Prop) (w:World):Value→List Gm→Prop
 | intro (p:Option Addr) (cap:Nat) (ks:List Gm) (nv kv:Nat→Value) (hl:ks.length≤cap) (hc:cap≤9223372036854775807)
   (h0:ks ≠ []→∃ b off,p=some ⟨b,off,none⟩∧b<w.heap.size∧F b∧∀ (i:Nat) (g:Gm),ks[i]?=some g →
    w.cell? ⟨b,off+i*4,none⟩=some (.int .i64 g.kind)∧w.cell? ⟨b,off+i*4+1,none⟩=some (.int .i64 g.dim)∧w.cell? ⟨b,off+i*4+2,none⟩=some (nv i)∧w.cell? ⟨b,off+i*4+3,none⟩=some (kv i))
   (h1:∀ (i:Nat) (g:Gm),ks[i]?=some g→FlSl F w (nv i) g.nums)
   (h2:∀ (i:Nat) (g:Gm),ks[i]?=some g→GmSl F w (kv i) g.kids):GmSl F w (.slice p ks.length cap) ks
theorem GmSl.keep {F G:Nat→Prop} {w w':World} {v:Value} {ks:List Gm} (h:GmSl F w v ks) (hs:w.heap.size≤w'.heap.size) (hk:∀ b,F b→b<w.heap.size→w'.heap[b]?=w.heap[b]?) (hG:∀ b,b<w.heap.size→F b→G b):GmSl G w' v ks:=by
 have fl:∀ {v:Value} {xs:List Nat},FlSl F w v xs→FlSl G w' v xs:=fun {v xs} h=>by
  obtain ⟨p,cap,hv,hl,hc,h⟩:=h
  refine ⟨p,cap,hv,hl,hc,fun hn=>?_⟩
  obtain ⟨b,off,hp,hlt,hF,hq⟩:=h hn
  exact ⟨b,off,hp,by omega,hG b hlt hF,fun i x hi=>(World.cell?_of_block (w:=w) (hk b hF hlt)).trans (hq i x hi)⟩
 induction h with
 | intro p cap ks nv kv hl hc h0 h1 h2 ih =>
  refine .intro p cap ks nv kv hl hc (fun hn=>?_) (fun i g hg=>fl (h1 i g hg)) (fun i g hg=>ih i g hg)
  obtain ⟨b,off,hp,hlt,hF,hq⟩:=h0 hn
  refine ⟨b,off,hp,by omega,hG b hlt hF,fun i g hg=>?_⟩
  obtain ⟨q0,q1,q2,q3⟩:=hq i g hg
  exact ⟨(World.cell?_of_block (w:=w) (hk b hF hlt)).trans q0,(World.cell?_of_block (w:=w) (hk b hF hlt)).trans q1,(World.cell?_of_block (w:=w) (hk b hF hlt)).trans q2,(World.cell?_of_block (w:=w) (hk b hF hlt)).trans q3⟩
theorem GmSl.bel {F:Nat→Prop} {w w':World} {v:Value} {ks:List Gm} (h:GmSl F w v ks) (hb:Bel w w'):GmSl F w' v ks:=h.keep hb.size (fun b _ hl=>hb.block b hl) fun _ _ h=>h
theorem GmSl.mono {F G:Nat→Prop} {w:World} {v:Value} {ks:List Gm} (h:GmSl F w v ks) (hFG:∀ b,b<w.heap.size→F b→G b):GmSl G w v ks:=h.keep (Nat.le_refl _) (fun _ _ _=>rfl) hFG
theorem GmSl.isSlice {F:Nat→Prop} {w:World} {v:Value} {ks:List Gm} (h:GmSl F w v ks):∃ p c,v=.slice p ks.length c∧ks.length≤c∧c≤9223372036854775807:=by
 cases h with
 | intro p cap _ nv kv hl hc h0 h1 h2=>exact ⟨p,cap,rfl,hl,hc⟩
theorem GmSl.nil (F:Nat→Prop) (w:World):GmSl F w (.slice none 0 0) []:=.intro none 0 [] (fun _=>.bool false) (fun _=>.bool false) (by simp) (by simp) (fun h=>absurd rfl h) (fun i g h=>by simp at h) (fun i g h=>by simp at h)
/-- One part, read. -/
theorem GmSl.at {F:Nat→Prop} {w:World} {p:Option Addr} {n c:Nat} {ks:List Gm} (h:GmSl F w (.slice p n c) ks) {i:Nat} {g:Gm} (hg:ks[i]?=some g):∃ b off pn nn cn pk nk ck,p=some ⟨b,off,none⟩∧b<w.heap.size∧F b ∧
   w.cell? ⟨b,off+i*4,none⟩=some (.int .i64 g.kind)∧w.cell? ⟨b,off+i*4+1,none⟩=some (.int .i64 g.dim)∧w.cell? ⟨b,off+i*4+2,none⟩=some (.slice pn nn cn)∧w.cell? ⟨b,off+i*4+3,none⟩=some (.slice pk nk ck) ∧
   FlSl F w (.slice pn nn cn) g.nums∧GmSl F w (.slice pk nk ck) g.kids:=by
 cases h with
 | intro _ _ _ nv kv hl hc h0 h1 h2 =>
  obtain ⟨b,off,hp,hlt,hF,hq⟩:=h0 (by intro e;rw [e] at hg;simp at hg)
  obtain ⟨q0,q1,q2,q3⟩:=hq i g hg
  obtain ⟨pn,nn,cn,en⟩:=(h1 i g hg).isSlice
  obtain ⟨pk,ck,ek,_⟩:=(h2 i g hg).isSlice
  have f1:=h1 i g hg
  have f2:=h2 i g hg
  rw [en] at q2 f1
  rw [ek] at q3 f2
  exact ⟨b,off,pn,nn,cn,pk,_,ck,hp,hlt,hF,q0,q1,q2,q3,f1,f2⟩

/-- A cell that is there stays there. -/
theorem cell_kept {w w':World} (hb:Bel w w') {p:Addr} {v:Value} (h:w.cell? p=some v):w'.cell? p=some v:=by
 exact (hb.cell (World.block_lt_of_cell? w p h)).trans h
theorem Bel.of_row {w0 w w':World} {row:Option Nat} (h:Bel w0 w) (hg:w.grownBy w' row) (hn:∀ g,row=some g→w0.heap.size≤g):Bel w0 w':=Below.grown h hg (Below.size h) (fun k hk=>hn k hk)
theorem cells_arr (w:World) (cs:Array Value) (t:TypeId) {n:Nat} (hn:n=w.heap.size):∀ j u,cs.toList[j]?=some u→(w.alloc (.cells cs t)).cell? ((⟨n,0,none⟩:Addr).add j)=some u:=by
 subst hn
 intro j u hj
 rw [add_none,(Blk.new w cs t).rules.1]
 simpa using hj
theorem blk_arr {w:World} {b:Nat} {cs:Array Value} {t:TypeId} (h:Blk w b cs t):∀ j u,cs.toList[j]?=some u→w.cell? ((⟨b,0,none⟩:Addr).add j)=some u:=by
 intro j u hj
 rw [add_none,h.rules.1]
 simpa using hj
theorem _root_.Go.World.grownBy.of_bel {a b:World} (h:Bel a b) (r:Option Nat):a.grownBy b r:=⟨h.os,h.tape,h.output,h.size,fun i hi _=>h.block i hi⟩
theorem own_kept {w w':World} {base size n:Nat} {e:TypeId} {p:Option Addr} {c:Nat} {xs:List Value} (h:w.ownsRow base e size (.slice p n c) n xs) (hb:Bel w w'):w'.ownsRow base e size (.slice p n c) n xs :=
 h.kept (World.grownBy.of_bel hb none) (by simp [Value.ownBlock];cases p<;>simp)
/-! ### Arguments, opened -/
theorem spot_none {w:World} {a:Addr} {v:Value} (h:w.cell? a=some v):a.spot=none:=by
 unfold World.cell? at h
 split at h
 ·split at h
  ·cases h
  ·rename_i k
   cases hs:a.spot<;>simp_all
 ·cases h
theorem list_of {α:Type} {P:Nat→α→Prop}:∀ (n:Nat),(∀ i,i<n→∃ a,P i a)→∃ l:List α,l.length=n∧∀ (i:Nat) (a:α),l[i]?=some a→P i a
 | 0,_=>⟨[],rfl,fun i a h=>by simp at h⟩
 | n+1,h=>by
  obtain ⟨l,hl,hp⟩:=list_of n (fun i hi=>h i (by omega))
  obtain ⟨a,ha⟩:=h n (by omega)
  refine ⟨l ++ [a],by simp [hl],fun i b hb=>?_⟩
  rcases Nat.lt_or_ge i n with k|k
  ·rw [List.getElem?_append_left (by omega)] at hb
   exact hp i b hb
  ·rw [List.getElem?_append_right (by omega)] at hb
   obtain ⟨hlt,he⟩:=List.getElem?_eq_some_iff.1 hb
   simp at hlt he
   have:i=n:=by omega
   subst this
   rw [← he]
   exact ha
theorem wf_range {n:Int} (h:(Lit.int .i64 n).wf=true):-9223372036854775808≤n∧n≤9223372036854775807:=by
 simp only [Lit.wf,Bool.and_eq_true,decide_eq_true_eq] at h
 have e1:IntKind.i64.min=-9223372036854775808:=by decide
 have e2:IntKind.i64.max=9223372036854775807:=by decide
 omega
theorem wf_float {n:Nat} (h:(Lit.float .f64 n).wf=true):n<18446744073709551616:=by
 simp only [Lit.wf,decide_eq_true_eq] at h
 omega
theorem cGeom:Tryz.prog.cellsOf 25=4:=by kernel_rfl
theorem cFloat:Tryz.prog.cellsOf 27=1:=by kernel_rfl
theorem cInt:Tryz.prog.cellsOf 3=1:=by kernel_rfl
theorem cFloats:Tryz.prog.cellsOf 22=1:=by kernel_rfl
theorem cGeoms:Tryz.prog.cellsOf 23=1:=by kernel_rfl
theorem bulkAll_mem {H:Type}:∀ {l:List (DataW H)} {d:DataW H},d ∈ l→Rows.uptoBulk d≤Rows.uptoBulkAll l
 | [],d,h=>by simp at h
 | a :: r,d,h=>by
  simp only [Rows.uptoBulkAll]
  rcases List.mem_cons.1 h with rfl|k
  ·omega
  ·have:=bulkAll_mem k
   omega
theorem bulk_pos {H:Type} (d:DataW H):0<Rows.uptoBulk d:=by
 cases d with
 | lit l=>cases l<;>simp [Rows.uptoBulk]
 | _=>simp [Rows.uptoBulk]
theorem bulk_len {H:Type}:∀ (l:List (DataW H)),l.length≤Rows.uptoBulkAll l
 | []=>by simp [Rows.uptoBulkAll]
 | a :: r=>by
  have:=bulk_len r
  have:=bulk_pos a
  simp only [Rows.uptoBulkAll,List.length_cons]
  omega
theorem bulk_sum {H:Type}:∀ (l:List Gm) (ds:List (DataW H)),l.length=ds.length→(∀ (i:Nat) (g:Gm) (d:DataW H),l[i]?=some g→ds[i]?=some d→g.size≤Rows.uptoBulk d)→Gm.sizes l≤Rows.uptoBulkAll ds
 | [],_,_,_=>by simp [Gm.sizes]
 | a :: r,[],h,_=>by simp at h
 | a :: r,d :: ds,h,hp=>by
  have h0:=hp 0 a d rfl rfl
  have h1:=bulk_sum r ds (by simpa using h) (fun i g e hg he=>hp (i+1) g e (by simpa using hg) (by simpa using he))
  simp only [Gm.sizes,Rows.uptoBulkAll]
  omega
/-- A slice of floats, opened. -/
theorem open_floats {H:Type} {enc:TypeId × Value→H} {w:World} {base fuel:Nat} {sp:Nat→Bool} {held:Bool} {v:Value} {x:DataW H × List MemPlace} (h:DataW.trod enc Tryz.prog w base sp held fuel 22 [v]=some x) :
  ∃ xs,FlSl (fun _=>True) w v xs∧(∀ x ∈ xs,x<18446744073709551616)∧xs.length<Rows.uptoBulk x.1:=by
 rcases Go.Deep.open_slice1 Tryz.underlying22 cFloat h with ⟨hv,hx⟩|⟨a,len,cap,m,n,V,D,Pl,hv,_,hl,hm,hmm,hx,hi⟩
 ·cases hv
  refine ⟨[],FlSl.nil _ _,fun q hq=>by simp at hq,?_⟩
  rw [hx]
  exact bulk_pos _
 ·cases hv
  have hlm:len≤m:=by rw [hmm];split<;>omega
  obtain ⟨xs,hxs,hp⟩:=list_of (P:=fun i (q:Nat)=>w.cell? (a.add i)=some (.float .f64 q)∧q<18446744073709551616) len (fun i hlt=>by
   obtain ⟨h1,h2⟩:=hi i (by omega)
   obtain ⟨b,hb,hw⟩:=trod_float Tryz.underlying27 h2
   simp at hb
   rw [hb] at h1
   exact ⟨b,h1,wf_float hw⟩)
  subst hxs
  refine ⟨xs,⟨some a,cap,rfl,hl,by unfold maxLen at hm;omega,fun hne=>?_⟩,fun q hq=>?_,?_⟩
  ·cases hq:xs with
   | nil=>exact absurd hq hne
   | cons q0 r =>
    have hc0:=(hp 0 q0 (by rw [hq];rfl)).1
    have hz:=spot_none hc0
    obtain ⟨b,off,spot⟩:=a
    have hz':spot=none:=by simpa [Addr.add] using hz
    subst hz'
    rw [← hq]
    refine ⟨b,off,rfl,?_,trivial,fun i q hq=>?_⟩
    ·rcases Nat.lt_or_ge b w.heap.size with g|g
     ·exact g
     ·simp [World.cell?,Addr.add,Array.getElem?_eq_none g] at hc0
    ·have h1:=(hp i q hq).1
     rw [add_off] at h1
     exact h1
  ·obtain ⟨i,hi'⟩:=List.mem_iff_getElem?.1 hq
   exact (hp i q hi').2
  ·rw [hx]
   simp only [Rows.uptoBulk]
   have:=bulk_len ((List.range xs.length).map D)
   simp at this
   omega
set_option maxRecDepth 100000 in
/-- A slice of geometries, opened. -/
theorem open_geoms {H:Type} {enc:TypeId × Value→H} {w:World} {base:Nat} {sp:Nat→Bool} {held:Bool}:∀ (B fuel:Nat) (v:Value) (x:DataW H × List MemPlace),Rows.uptoBulk x.1≤B→DataW.trod enc Tryz.prog w base sp held fuel 23 [v]=some x →
  ∃ ks,GmSl (fun _=>True) w v ks∧Gm.Oks ks∧Gm.sizes ks<Rows.uptoBulk x.1
 | 0,_,_,x,hB,_=>absurd hB (by have:=bulk_pos x.1;omega)
 | B+1,fuel,v,x,hB,h=>by
  rcases Go.Deep.open_slice Tryz.underlying23 h with ⟨hv,hx⟩|⟨a,len,cap,m,n,D,Pl,hv,_,hl,hm,hmm,hx,hi⟩
  ·cases hv
   refine ⟨[],GmSl.nil _ _,by simp [Gm.Oks],?_⟩
   simp only [Gm.sizes]
   exact bulk_pos _
  ·cases hv
   have hlm:len≤m:=by rw [hmm];split<;>omega
   have hbulk:Rows.uptoBulk x.1=Rows.uptoBulkAll ((List.range len).map D)+Rows.uptoBulkAll ((List.range (m - len)).map fun j=>D (len+j))+1:=by rw [hx];simp only [Rows.uptoBulk]
   obtain ⟨l,hl1,hp⟩:=list_of (P:=fun i (z:Gm × Value × Value)=>(w.cell? (a.add (i*4))=some (.int .i64 z.1.kind)∧w.cell? ((a.add (i*4)).add 1)=some (.int .i64 z.1.dim)∧w.cell? ((a.add (i*4)).add 2)=some z.2.1∧w.cell? ((a.add (i*4)).add 3)=some z.2.2)∧FlSl (fun _=>True) w z.2.1 z.1.nums∧GmSl (fun _=>True) w z.2.2 z.1.kids∧z.1.Ok∧z.1.size≤Rows.uptoBulk (D i)) len (fun i hlt=>by
    obtain ⟨cs,hcs,ht⟩:=hi i (by omega)
    rw [cGeom] at hcs
    obtain ⟨_,hlen,hat⟩:=World.cells?_some hcs
    obtain ⟨k0,k1,k2,k3,rfl⟩:∃ k0 k1 k2 k3,cs=[k0,k1,k2,k3]:=by
     match cs,hlen with
     | [k0,k1,k2,k3],_=>exact ⟨k0,k1,k2,k3,rfl⟩
    obtain ⟨y0,y1,y2,y3,n',hxx,_,t0,t1,t2,t3⟩:=Go.Joins.trod_struct4 Tryz.underlying25 ht
    simp [cInt,cFloats,cGeoms] at t0 t1 t2 t3
    have hD:D i=.agg [y0.1,y1.1,y2.1,y3.1]:=congrArg Prod.fst hxx
    obtain ⟨n0,g0,_,r0⟩:=DataW.trod_int Tryz.underlying3 t0
    obtain ⟨n1,g1,_,r1⟩:=DataW.trod_int Tryz.underlying3 t1
    simp at g0 g1
    subst g0 g1
    obtain ⟨xs,f1,f2,f3⟩:=open_floats t2
    have hmem:Rows.uptoBulk (D i)≤Rows.uptoBulkAll ((List.range len).map D):=bulkAll_mem (List.mem_map.2 ⟨i,List.mem_range.2 hlt,rfl⟩)
    have hagg:Rows.uptoBulk (D i)=Rows.uptoBulk y0.1+(Rows.uptoBulk y1.1+(Rows.uptoBulk y2.1+(Rows.uptoBulk y3.1+0)))+1:=by rw [hD];simp only [Rows.uptoBulk,Rows.uptoBulkAll]
    have:=bulk_pos y0.1
    obtain ⟨ks,q1,q2,q3⟩:=open_geoms B _ k3 y3 (by omega) t3
    refine ⟨⟨.mk n0 n1 xs ks,k2,k3⟩,⟨hat 0 (by decide),hat 1 (by decide),hat 2 (by decide),hat 3 (by decide)⟩,f1,q1,?_,?_⟩
    ·simp only [Gm.Ok]
     exact ⟨wf_range r0,wf_range r1,f2,q2⟩
    ·simp only [Gm.size]
     omega)
   subst hl1
   have hks:∀ (i:Nat) (g:Gm),(l.map (·.1))[i]?=some g→∃ z,l[i]?=some z∧z.1=g:=fun i g hg=>by
    rw [List.getElem?_map] at hg
    obtain ⟨z,hz,he⟩:=Option.map_eq_some_iff.1 hg
    exact ⟨z,hz,he⟩
   have hle:(l.map (·.1)).length=l.length:=by simp
   refine ⟨l.map (·.1),?_,Gm.Oks.of_mem fun g hg=>?_,?_⟩
   ·rw [← hle]
    refine .intro (some a) cap (l.map (·.1)) (fun i=>(l[i]?.map (·.2.1)).getD (.bool false)) (fun i=>(l[i]?.map (·.2.2)).getD (.bool false)) (by rw [hle];exact hl) (by unfold maxLen at hm;omega) (fun hne=>?_) (fun i g hg=>?_) (fun i g hg=>?_)
    ·cases hq:l with
     | nil=>rw [hq] at hne;exact absurd rfl hne
     | cons q0 r =>
      have hc0:=(hp 0 q0 (by rw [hq];rfl)).1.1
      have hz:=spot_none hc0
      obtain ⟨b,off,spot⟩:=a
      have hz':spot=none:=by simpa [Addr.add] using hz
      subst hz'
      rw [← hq]
      refine ⟨b,off,rfl,?_,trivial,fun i g hg=>?_⟩
      ·rcases Nat.lt_or_ge b w.heap.size with g|g
       ·exact g
       ·simp [World.cell?,Addr.add,Array.getElem?_eq_none g] at hc0
      ·obtain ⟨z,hz,rfl⟩:=hks i g hg
       have h1:=(hp i z hz).1
       simp only [add_off] at h1
       rw [hz]
       exact h1
    ·obtain ⟨z,hz,rfl⟩:=hks i g hg
     rw [hz]
     exact (hp i z hz).2.1
    ·obtain ⟨z,hz,rfl⟩:=hks i g hg
     rw [hz]
     exact (hp i z hz).2.2.1
   ·obtain ⟨i,hi'⟩:=List.mem_iff_getElem?.1 hg
    obtain ⟨z,hz,rfl⟩:=hks i g hi'
    exact (hp i z hz).2.2.2.1
   ·have:=bulk_sum (l.map (·.1)) ((List.range l.length).map D) (by simp) (fun i g d hg hd=>by
     obtain ⟨z,hz,rfl⟩:=hks i g hg
     rw [List.getElem?_map] at hd
     obtain ⟨j,hj,rfl⟩:=Option.map_eq_some_iff.1 hd
     obtain ⟨hj1,hj2⟩:=List.getElem?_eq_some_iff.1 hj
     simp at hj2
     subst hj2
     exact (hp i z hz).2.2.2.2)
    omega
end Go.Proofs.YtpipehenfcbjbaaGreatDoor
set_option linter.unusedVariables false
set_option linter.unusedSimpArgs false
namespace Go.Proofs.YtpipehenfcbjbaaGreatDoor
open Go.ChangeShapes Go.WideShapes Go.ChangeAt Go.RowKit Ieee
/-- The least box around, by the places of its ends in the order. -/
inductive Ev where
 | no
 | bx (a b c d:Int)
def Ev.join:Ev→Ev→Ev
 | .no,e=>e
 | .bx a b c d,.no=>.bx a b c d
 | .bx a b c d,.bx p q r s=>.bx (min a p) (min b q) (max c r) (max d s)
theorem Ev.join_no (e:Ev):e.join .no=e:=by
 cases e<;>rfl
theorem Ev.no_join (e:Ev):Ev.no.join e=e:=rfl
theorem Ev.join_assoc (e f g:Ev):(e.join f).join g=e.join (f.join g):=by
 cases e with
 | no=>rfl
 | bx a b c d =>
  cases f with
  | no=>rfl
  | bx a1 b1 c1 d1 =>
   cases g with
   | no=>rfl
   | bx a2 b2 c2 d2 =>
    have h1:min (min a a1) a2=min a (min a1 a2):=by omega
    have h2:min (min b b1) b2=min b (min b1 b2):=by omega
    have h3:max (max c c1) c2=max c (max c1 c2):=by omega
    have h4:max (max d d1) d2=max d (max d1 d2):=by omega
    simp only [Ev.join,h1,h2,h3,h4]
def EvW (f:Bool) (a b c d:Nat):Ev→Prop
 | .no=>f=false∧a=0∧b=0∧c=0∧d=0
 | .bx p q r s=>f=true∧(nnB a=true∧nnB b=true∧nnB c=true∧nnB d=true)∧key a=p∧key b=q∧key c=r∧key d=s
theorem ltB_key {x y:Nat} (hx:nnB x=true) (hy:nnB y=true):ltB x y=decide (key x<key y):=by
 unfold ltB
 rw [order_keys hx hy]
 simp only [compare,compareOfLessAndEq]
 by_cases h:key x<key y
 ·simp [h]
 ·by_cases h2:key x=key y<;>simp [h,h2]
theorem gtB_key {x y:Nat} (hx:nnB x=true) (hy:nnB y=true):gtB x y=decide (key y<key x):=by
 unfold gtB
 rw [order_keys hx hy]
 simp only [compare,compareOfLessAndEq]
 by_cases h:key x<key y
 ·have:¬ key y<key x:=by omega
  simp [h,this]
 ·by_cases h2:key x=key y
  ·simp [h2]
  ·have:key y<key x:=by omega
   simp [h,h2,this]
theorem mnB_key {x y:Nat} (hx:nnB x=true) (hy:nnB y=true):nnB (mnB x y)=true∧key (mnB x y)=min (key x) (key y):=by
 unfold mnB
 rw [ltB_key hx hy]
 by_cases h:key x<key y
 ·rw [if_pos (by simpa using h)]
  exact ⟨hx,by omega⟩
 ·rw [if_neg (by simpa using h)]
  exact ⟨hy,by omega⟩
theorem mxB_key {x y:Nat} (hx:nnB x=true) (hy:nnB y=true):nnB (mxB x y)=true∧key (mxB x y)=max (key x) (key y):=by
 unfold mxB
 rw [gtB_key hx hy]
 by_cases h:key y<key x
 ·rw [if_pos (by simpa using h)]
  exact ⟨hx,by omega⟩
 ·rw [if_neg (by simpa using h)]
  exact ⟨hy,by omega⟩
theorem EvW.join {f g:Bool} {a b c d p q r s:Nat} {e e':Ev} (h:EvW f a b c d e) (k:EvW g p q r s e') (hf:f=true) (hg:g=true):EvW true (mnB a p) (mnB b q) (mxB c r) (mxB d s) (e.join e'):=by
 subst hf hg
 cases e with
 | no=>exact absurd h.1 (by decide)
 | bx u1 u2 u3 u4 =>
  cases e' with
  | no=>exact absurd k.1 (by decide)
  | bx v1 v2 v3 v4 =>
   obtain ⟨-,⟨h1,h2,h3,h4⟩,rfl,rfl,rfl,rfl⟩:=h
   obtain ⟨-,⟨k1,k2,k3,k4⟩,rfl,rfl,rfl,rfl⟩:=k
   have m1:=mnB_key h1 k1
   have m2:=mnB_key h2 k2
   have m3:=mxB_key h3 k3
   have m4:=mxB_key h4 k4
   exact ⟨rfl,⟨m1.1,m2.1,m3.1,m4.1⟩,m1.2,m2.2,m3.2,m4.2⟩
theorem EvW.off {f:Bool} {a b c d:Nat} {e:Ev} (h:EvW f a b c d e) (hf:f=false):e=.no:=by
 subst hf
 cases e with
 | no=>rfl
 | bx u1 u2 u3 u4=>exact absurd h.1 (by decide)
theorem EvW.nn {f:Bool} {a b c d:Nat} {e:Ev} (h:EvW f a b c d e) (hf:f=true):nnB a=true∧nnB b=true∧nnB c=true∧nnB d=true:=by
 subst hf
 cases e with
 | no=>exact absurd h.1 (by decide)
 | bx u1 u2 u3 u4=>exact h.2.1
theorem nan_self {x:Nat} (hx:nnB x=true):(FloatKind.f64.format.order x x != some .eq)=false:=by
 rw [order_keys hx hx]
 simp [compare,compareOfLessAndEq]
theorem isNaN_no (x:Nat) (hx:nnB x=true) (w:World):Calls Tryz.prog 213 #[.float .f64 x] w fun e w'=>e=.returned (.bool false)∧w=w':=by
 have hn:=nan_self hx
 go_enter Tryz.func213,Tryz.ntmps213
 go_wp2
 go_ret
 exact ⟨rfl,rfl⟩
theorem fastMin_any (x y:Nat) (hx:nnB x=true) (w:World):Calls Tryz.prog 205 #[.float .f64 x,.float .f64 y] w fun e w'=>e=.returned (.float .f64 (mnB x y))∧w=w':=by
 have HN:=Lib.hid (isNaN_no x hx)
 rcases bool_cases (ltB x y) with h|h
 ·have he:mnB x y=x:=if_pos h
  rw [he]
  have h':(FloatKind.f64.format.order x y == some .lt)=true:=h
  clear he h
  go_enter Tryz.func205,Tryz.ntmps205
  go_wp2_with (go_at_call 213;(with_reducible refine (HN.out _).mono ?_);rintro e w' ⟨rfl,rfl⟩)
  go_ret
  exact ⟨rfl,rfl⟩
 ·have he:mnB x y=y:=if_neg (by rw [h];decide)
  rw [he]
  have h':(FloatKind.f64.format.order x y == some .lt)=false:=h
  clear he h
  go_enter Tryz.func205,Tryz.ntmps205
  go_wp2_with (go_at_call 213;(with_reducible refine (HN.out _).mono ?_);rintro e w' ⟨rfl,rfl⟩)
  go_ret
  exact ⟨rfl,rfl⟩
theorem fastMax_any (x y:Nat) (hx:nnB x=true) (w:World):Calls Tryz.prog 206 #[.float .f64 x,.float .f64 y] w fun e w'=>e=.returned (.float .f64 (mxB x y))∧w=w':=by
 have HN:=Lib.hid (isNaN_no x hx)
 rcases bool_cases (gtB x y) with h|h
 ·have he:mxB x y=x:=if_pos h
  rw [he]
  have h':(FloatKind.f64.format.order x y == some .gt)=true:=h
  clear he h
  go_enter Tryz.func206,Tryz.ntmps206
  go_wp2_with (go_at_call 213;(with_reducible refine (HN.out _).mono ?_);rintro e w' ⟨rfl,rfl⟩)
  go_ret
  exact ⟨rfl,rfl⟩
 ·have he:mxB x y=y:=if_neg (by rw [h];decide)
  rw [he]
  have h':(FloatKind.f64.format.order x y == some .gt)=false:=h
  clear he h
  go_enter Tryz.func206,Tryz.ntmps206
  go_wp2_with (go_at_call 213;(with_reducible refine (HN.out _).mono ?_);rintro e w' ⟨rfl,rfl⟩)
  go_ret
  exact ⟨rfl,rfl⟩
theorem envEmpty_any (a b c d:Nat) (f:Bool) (w:World):Calls Tryz.prog 181 #[.agg #[.float .f64 a,.float .f64 b,.float .f64 c,.float .f64 d,.bool f]] w fun e w'=>e=.returned (.bool (!f))∧Bel w w':=by
 go_enter Tryz.func181,Tryz.ntmps181
 go_wp2
 go_ret
 exact ⟨rfl,by exact EL⟩
theorem newEnv_any (a b c d:Nat) (w:World):Calls Tryz.prog 204 #[.agg #[.float .f64 a,.float .f64 b],.agg #[.float .f64 c,.float .f64 d]] w fun e w'=>e=.returned (.agg #[.float .f64 a,.float .f64 b,.float .f64 c,.float .f64 d,.bool true])∧Bel w w':=by
 go_enter Tryz.func204,Tryz.ntmps204
 go_wp2
 refine post_ret (results_one rfl (resIs_agg (n:=5) (cs:=#[.float .f64 a,.float .f64 b,.float .f64 c,.float .f64 d,.bool true]) (by rfl) Tryz.underlying81 (by kernel_rfl) (T:=81) ?_ rfl)) ⟨rfl,?_⟩
 ·exact SL
 ·exact EL
/-- An envelope comes back. -/
def IsEnv (v:Ev) (w:World) (e:Ending) (w':World):Prop:=∃ f a b c d,e=.returned (.agg #[.float .f64 a,.float .f64 b,.float .f64 c,.float .f64 d,.bool f])∧EvW f a b c d v∧Bel w w'
theorem IsEnv.mk' {v:Ev} {w w':World} {f:Bool} {a b c d:Nat} (h:EvW f a b c d v) (hb:Bel w w'):IsEnv v w (.returned (.agg #[.float .f64 a,.float .f64 b,.float .f64 c,.float .f64 d,.bool f])) w':=⟨f,a,b,c,d,rfl,h,hb⟩
set_option maxHeartbeats 4000000 in
set_option maxRecDepth 100000 in
theorem expandEnv_any {f g:Bool} {a b c d p q r s:Nat} {u v:Ev} (hu:EvW f a b c d u) (hv:EvW g p q r s v) (w:World):Calls Tryz.prog 182 #[.agg #[.float .f64 a,.float .f64 b,.float .f64 c,.float .f64 d,.bool f],.agg #[.float .f64 p,.float .f64 q,.float .f64 r,.float .f64 s,.bool g]] w (IsEnv (u.join v) w):=by
 have HE:=Lib.hid envEmpty_any
 cases f
 ·have HR:Hid (EvW g p q r s (u.join v)):=Lib.hid (by rw [hu.off rfl,Ev.no_join];exact hv)
  clear hu hv
  generalize u.join v=uv at *
  go_enter Tryz.func182,Tryz.ntmps182
  go_wp2_with (go_at_call 181;(with_reducible refine (HE.out _ _ _ _ _ _).mono ?_);rintro e w1 ⟨rfl,hb1⟩;have HB1:Hid (Bel w w1):=Lib.hid (by exact EL);have C1:Blk w1 (w.heap.size+1) #[.float .f64 p,.float .f64 q,.float .f64 r,.float .f64 s,.bool g] 81:=Blk.bel (by exact KL) hb1;have C2:Blk w1 (w.heap.size+1+1) #[.float .f64 0,.float .f64 0,.float .f64 0,.float .f64 0,.bool false] 81:=Blk.bel (by exact KL) hb1;have HC2:=Lib.hid C2;obtain ⟨r1,y1,u1⟩:=C1.facts;obtain ⟨r2,y2,u2⟩:=C2.facts;clear hb1 C1 C2)
  refine post_ret (results_one rfl (resIs_agg (n:=5) (cs:=#[.float .f64 p,.float .f64 q,.float .f64 r,.float .f64 s,.bool g]) (by rfl) Tryz.underlying81 (by kernel_rfl) (T:=81) ?_ rfl)) (IsEnv.mk' HR.out ?_)
  ·have HB:=HC2.out
   exact SL
  ·have HB:=HB1.out
   exact EL
 ·cases g
  ·have HR:Hid (EvW true a b c d (u.join v)):=Lib.hid (by rw [hv.off rfl,Ev.join_no];exact hu)
   clear hu hv
   generalize u.join v=uv at *
   go_enter Tryz.func182,Tryz.ntmps182
   go_wp2_with (first|(go_at_call 181;(with_reducible refine (HE.out _ _ _ _ _ _).mono ?_);rintro e w2 ⟨rfl,hb2⟩;have HB2:Hid (Bel w w2):=Lib.hid (HB1.out.trans hb2);have C0:=HC0.out.bel hb2;have C2:=HC2.out.bel hb2;have HD2:=Lib.hid C2;obtain ⟨r2,y2,u2⟩:=C0.facts;obtain ⟨r3,y3,u3⟩:=C2.facts;clear hb2 C0 C2)|(go_at_call 181;(with_reducible refine (HE.out _ _ _ _ _ _).mono ?_);rintro e w1 ⟨rfl,hb1⟩;have HB1:Hid (Bel w w1):=Lib.hid (by exact EL);have C0:Blk w1 w.heap.size #[.float .f64 a,.float .f64 b,.float .f64 c,.float .f64 d,.bool true] 81:=Blk.bel (by exact KL) hb1;have C1:Blk w1 (w.heap.size+1) #[.float .f64 p,.float .f64 q,.float .f64 r,.float .f64 s,.bool false] 81:=Blk.bel (by exact KL) hb1;have C2:Blk w1 (w.heap.size+1+1) #[.float .f64 0,.float .f64 0,.float .f64 0,.float .f64 0,.bool false] 81:=Blk.bel (by exact KL) hb1;have HC0:=Lib.hid C0;have HC2:=Lib.hid C2;obtain ⟨r1,y1,u1⟩:=C1.facts;clear hb1 C0 C1 C2))
   refine post_ret (results_one rfl (resIs_agg (n:=5) (cs:=#[.float .f64 a,.float .f64 b,.float .f64 c,.float .f64 d,.bool true]) (by rfl) Tryz.underlying81 (by kernel_rfl) (T:=81) ?_ rfl)) (IsEnv.mk' HR.out ?_)
   ·have HB:=HD2.out
    exact SL
   ·have HB:=HB2.out
    exact EL
  ·have HR:Hid (EvW true (mnB a p) (mnB b q) (mxB c r) (mxB d s) (u.join v)):=Lib.hid (hu.join hv rfl rfl)
   obtain ⟨n1,n2,n3,n4⟩:=hu.nn rfl
   have HN1:=Lib.hid (fastMin_any a p n1)
   have HN2:=Lib.hid (fastMin_any b q n2)
   have HN3:=Lib.hid (fastMax_any c r n3)
   have HN4:=Lib.hid (fastMax_any d s n4)
   have HW:=Lib.hid newEnv_any
   clear hu hv n1 n2 n3 n4
   generalize u.join v=uv at *
   generalize mnB a p=z1 at *
   generalize mnB b q=z2 at *
   generalize mxB c r=z3 at *
   generalize mxB d s=z4 at *
   go_enter Tryz.func182,Tryz.ntmps182
   go_wp2_with (first|(go_at_call 181;(with_reducible refine (HE.out _ _ _ _ _ _).mono ?_);rintro e w2 ⟨rfl,hb2⟩;have HB2:Hid (Bel w w2):=Lib.hid (HB1.out.trans hb2);have C0:=HC0.out.bel hb2;have C1:=HC1.out.bel hb2;have C2:=HC2.out.bel hb2;have HD2:=Lib.hid C2;obtain ⟨r2,y2,u2⟩:=C0.facts;obtain ⟨r3,y3,u3⟩:=C1.facts;obtain ⟨r4,y4,u4⟩:=C2.facts;clear hb2 C0 C1 C2 y1 r1 u1 HC0 HC1 HC2)|(go_at_call 181;(with_reducible refine (HE.out _ _ _ _ _ _).mono ?_);rintro e w1 ⟨rfl,hb1⟩;have HB1:Hid (Bel w w1):=Lib.hid (by exact EL);have C0:Blk w1 w.heap.size #[.float .f64 a,.float .f64 b,.float .f64 c,.float .f64 d,.bool true] 81:=Blk.bel (by exact KL) hb1;have C1:Blk w1 (w.heap.size+1) #[.float .f64 p,.float .f64 q,.float .f64 r,.float .f64 s,.bool true] 81:=Blk.bel (by exact KL) hb1;have C2:Blk w1 (w.heap.size+1+1) #[.float .f64 0,.float .f64 0,.float .f64 0,.float .f64 0,.bool false] 81:=Blk.bel (by exact KL) hb1;have HC0:=Lib.hid C0;have HC1:=Lib.hid C1;have HC2:=Lib.hid C2;obtain ⟨r1,y1,u1⟩:=C1.facts;clear hb1 C0 C1 C2))
   refine wp_region_still_tail 30 (by kernel_rfl) (by kernel_rfl) ?_
   simp only [List.take_succ_cons,List.take_zero,List.drop_succ_cons,List.drop_zero]
   repeat still_step
   still_call ((HN1.out _).mono fun _ _ h=>⟨h.1,h.2.symm⟩)
   repeat still_step
   still_call ((HN2.out _).mono fun _ _ h=>⟨h.1,h.2.symm⟩)
   repeat still_step
   still_call ((HN3.out _).mono fun _ _ h=>⟨h.1,h.2.symm⟩)
   repeat still_step
   still_call ((HN4.out _).mono fun _ _ h=>⟨h.1,h.2.symm⟩)
   repeat still_step
   refine wpStill_nil ?_
   change wpList _ _ _ _ _ w2.drew
   go_wp2_with (go_at_call 204;(with_reducible refine (HW.out _ _ _ _ _).mono ?_);rintro e w3 ⟨rfl,hb3⟩;have HB3:Hid (Bel w w3):=Lib.hid ((show Bel w _ by (have HB:=HB2.out;exact EL)).trans hb3);have C2:Blk w3 (w.heap.size+1+1) #[.float .f64 0,.float .f64 0,.float .f64 0,.float .f64 0,.bool false] 81:=Blk.bel (by (have HB:=HD2.out;exact KL)) hb3;have HE3:=Lib.hid C2;obtain ⟨r5,y5,u5⟩:=C2.facts;clear hb3 C2)
   refine post_ret (results_one rfl (resIs_agg (n:=5) (cs:=#[.float .f64 z1,.float .f64 z2,.float .f64 z3,.float .f64 z4,.bool true]) (by rfl) Tryz.underlying81 (by kernel_rfl) (T:=81) ?_ rfl)) (IsEnv.mk' HR.out ?_)
   ·have HB:=HE3.out
    exact SL
   ·have HB:=HB3.out
    exact EL
end Go.Proofs.YtpipehenfcbjbaaGreatDoor
namespace Go.Proofs.YtpipehenfcbjbaaGreatDoor
open Go.ChangeShapes Go.WideShapes Go.ChangeAt Go.RowKit
/-- How many numbers a place has. -/
def wd (c:Nat):Nat:=2+c % 2+c / 2 % 2
theorem wd_bd (c:Nat):2≤wd c∧wd c≤4:=by unfold wd;omega

theorem dimIndex (w:World):∀ c:Nat,c≤3→(Instr.index 192 (.agg #[.int .i64 2,.int .i64 3,.int .i64 3,.int .i64 4]) (.int .u8 c)).run Tryz.prog w=.ok (.int .i64 (wd c)) w
 | 0,_=>by kernel_rfl
 | 1,_=>by kernel_rfl
 | 2,_=>by kernel_rfl
 | 3,_=>by kernel_rfl
 | _+4,h=>absurd h (by omega)
theorem dimension_any (c:Nat) (hc:c≤3) (w:World):Calls Tryz.prog 161 #[.int .u8 c] w fun e w'=>e=.returned (.int .i64 (wd c))∧w=w':=by
 have ix:=dimIndex w c hc
 generalize wd c=d at *
 go_enter Tryz.func161,Tryz.ntmps161
 go_wp2
 go_ret
 exact ⟨rfl,rfl⟩
/-- The last two bits. -/
def ct (n:Int):Nat:=(n % 4).toNat
theorem ct_le (n:Int):ct n≤3:=by unfold ct;omega
theorem i64_and3 (n:Int):bits .and .i64 n 3=n % 4:=by
 have h3:(BitVec.ofInt 64 3).toNat=2 ^ 2 - 1:=by decide
 have key:(BitVec.ofInt 64 n &&& BitVec.ofInt 64 3).toNat=(n % ((2 ^ 64:Nat):Int)).toNat % 2 ^ 2:=by
  rw [BitVec.toNat_and,BitVec.toNat_ofInt,h3,Nat.and_two_pow_sub_one_eq_mod]
 show IntKind.i64.wrap ((BitVec.ofInt 64 n &&& BitVec.ofInt 64 3).toNat:Nat)=n % 4
 rw [key,IntKind.wrap_i64]
 omega
theorem dimOf_any (n:Int) (w:World):Calls Tryz.prog 166 #[.int .i64 n] w fun e w'=>e=.returned (.int .u8 (ct n))∧w=w':=by
 have h1:=i64_and3 n
 have h2:(0:Int)≤n % 4:=by omega
 have h3:n % 4<4:=by omega
 have h4:IntKind.u8.wrap (n % 4)=n % 4:=by rw [IntWalk.u8_in _ (by omega)]
 have h5:(ct n:Int)=n % 4:=by unfold ct;omega
 rw [h5]
 clear h5
 go_enter Tryz.func166,Tryz.ntmps166
 go_wp2
 go_ret
 exact ⟨rfl,rfl⟩

theorem newSequence_any (p:Option Addr) (n cap c:Nat) (hc:c≤3) (hn:n≤9223372036854775807) (hm:n % wd c=0) (w:World) :
  Calls Tryz.prog 202 #[.slice p n cap,.int .u8 c] w fun e w'=>e=.returned (.agg #[.int .u8 c,.slice p n cap])∧Bel w w':=by
 have hd:=wd_bd c
 have hm2:((n:Int) % (wd c:Int) != 0)=false:=by
  rw [← Int.natCast_emod,hm]
  rfl
 have hcu:(c:Int)≤3:=by omega
 have hdim:=fun w=>dimension_any c hc w
 have HD:=Lib.hid hdim
 clear hdim hm
 generalize wd c=d at *
 obtain ⟨hd1,hd2⟩:=hd
 go_enter Tryz.func202,Tryz.ntmps202
 go_wp2_with (go_at_call 161;refine (HD.out _).mono ?_;rintro e w' ⟨rfl,rfl⟩)
 refine post_ret (results_one rfl (resIs_agg (n:=2) (cs:=#[.int .u8 c,.slice p n cap]) (by rfl) Tryz.underlying109 (by kernel_rfl) (T:=109) ?_ rfl)) ⟨rfl,?_⟩
 ·exact Blk.new _ _ _
 ·exact EL

/-- What comes back is a sequence of the type and with the numbers that are told. -/
def IsSeq (F:Nat→Prop) (w:World) (c:Nat) (xs:List Nat) (e:Ending) (w':World):Prop:=∃ p n cap,e=.returned (.agg #[.int .u8 c,.slice p n cap])∧FlSl F w' (.slice p n cap) xs∧Bel w w'

set_option maxHeartbeats 1000000 in
set_option maxRecDepth 100000 in
theorem sequence_any (F:Nat→Prop) (p:Option Addr) (n cap:Nat) (xs:List Nat) (dim:Int) (w:World) (hF:New F w) (h:FlSl F w (.slice p n cap) xs) (h31:n≤2147483647) :
  Calls Tryz.prog 164 #[.slice p n cap,.int .i64 dim] w (IsSeq F w (ct dim) (xs.take (n - n % wd (ct dim)))):=by
 have hc:=ct_le dim
 have hdo:=dimOf_any dim
 generalize ct dim=c at *
 have HDO:=Lib.hid hdo
 clear hdo
 have hdim:=fun w=>dimension_any c hc w
 have HD:=Lib.hid hdim
 clear hdim
 have hd:=wd_bd c
 have hns:=newSequence_any (some ⟨w.heap.size+1,0,none⟩) (n - n % wd c) (n - n % wd c) c hc (by omega) (by
  have:=Nat.div_add_mod n (wd c)
  have e:n - n % wd c=wd c*(n / wd c):=by omega
  rw [e,Nat.mul_mod_right])
 have HNS:=Lib.hid hns
 clear hns
 have hq0:((n:Int) % (wd c:Int))=((n % wd c:Nat):Int):=(Int.natCast_emod _ _).symm
 have hq1:n % wd c≤n:=Nat.mod_le _ _
 generalize n % wd c=q at *
 generalize wd c=d at *
 obtain ⟨hd1,hd2⟩:=hd
 have HX:=Lib.hid h
 have hlen:=h.len
 have HL:=Lib.hid hlen.1
 obtain ⟨-,hl1,hl2⟩:=hlen
 clear h
 obtain ⟨i0,hi,hz0,hz1,hz2⟩:=info_parts infoF
 have hmi:(n:Int) - (q:Int)=((n - q:Nat):Int):=by omega
 have HMI:=Lib.hid hmi
 clear hmi
 go_enter Tryz.func164,Tryz.ntmps164
 go_wp2_with (first
  | (go_at_call 166;refine (HDO.out _).mono ?_;rintro e w' ⟨rfl,rfl⟩)
  | (go_at_call 161;refine (HD.out _).mono ?_;rintro e w' ⟨rfl,rfl⟩)
  | (at_make;refine wpList_make_full _ rfl (.tmp 18) (.tmp 18) 22 rfl w.heap.size 27 i0 (.float .f64 0) 1 Tryz.underlying22 hi hz0 hz1 .i64 .i64 _ _ (n - q) rfl rfl HMI.out HMI.out ?b2 ?b3 ?b4 ?_;(case b2=>(rw [hz2];omega));(case b3=>(unfold maxLen;omega));(case b4=>simp);intro w1 hown hgrow;obtain ⟨cs0,hB0,hs0⟩:=hown.blk;rw [show (w.alloc (Obj.cells #[.int .u8 0,.slice none 0 0] 109)).heap.size=w.heap.size+1 by simp] at hB0;have HB0:=Lib.hid hB0;have HS0:=Lib.hid hs0;have HW1:Hid (Bel (w.alloc (Obj.cells #[.int .u8 0,.slice none 0 0] 109)) w1):=Lib.hid (Bel.of_grown0 hgrow);clear hown hgrow hB0 hs0)
  | (with_reducible refine wpList_copy_splice rfl (.tmp 20) (.tmp 21) 22 22 rfl 27 Tryz.underlying22 infoF1 _ _ _ _ _ _ rfl rfl (w.heap.size+1) 0 cs0.toList 27 ?g1 ((xs.take (n - q)).map flv) ?g2 ?g3 ?g4 (flv_one _) (w.heap.size+1) w1 (Below.refl _ _) (Nat.le_refl _) ?_;(case g1=>(have:=HB0.out;unfold Blk at this;simpa using this));(case g2=>(have:=HL.out;simp;omega));(case g3=>exact fun h0=>⟨rfl,(HX.out.bel ((Bel.alloc1 _ _).trans HW1.out)).src h0⟩);(case g4=>(have:=HS0.out;have:=HL.out;simp;omega));intro w2 hg2 hb2;have HG2:=Lib.hid hg2.out;have HB2:=Lib.hid hb2;clear hg2 hb2)
  | (go_at_call 202;refine (HNS.out _).mono ?_;rintro e w3 ⟨rfl,hb3⟩;have HB3:=Lib.hid hb3;have B3:=(((Blk.new w #[.int .u8 0,.slice none 0 0] 109).bel HW1.out).below HB2.out (by omega)).bel hb3;clear hb3;obtain ⟨r3,z3,l3⟩:=B3.facts))
 refine post_ret (results_one rfl (resIs_agg (n:=2) (cs:=#[.int .u8 c,.slice (some ⟨w.heap.size+1,0,none⟩) (n - q) (n - q)]) (by rfl) Tryz.underlying109 (by kernel_rfl) (T:=109) ?_ rfl)) ?_
 ·exact (B3.set 0 _).set 1 _
 ·have hlen:=HL.out
  have hB2:Blk w2 (w.heap.size+1) ((xs.take (n - q)).map flv).toArray 27:=by
   have:=HG2.out
   rw [splice_all _ _ (by rw [Array.length_toList,HS0.out,List.length_map,List.length_take];omega)] at this
   exact this
  exact ⟨_,_,_,rfl,FlSl.of_blk (((hB2.bel HB3.out).other (a:=⟨w.heap.size,0,none⟩) (by simp) _).other (a:=⟨w.heap.size,1,none⟩) (by simp) _) (by rw [List.length_take];omega) (by omega) (hF _ (by omega)),
   ((((((Bel.alloc1 w _).trans HW1.out).below HB2.out (by omega)).trans HB3.out).setCell (by simp) _).setCell (by simp) _)⟩

/-- A line string has its sequence's cells. -/
theorem newLineString_any (c:Int) (p:Option Addr) (n cap:Nat) (w:World) :
  Calls Tryz.prog 167 #[.agg #[.int .u8 c,.slice p n cap]] w fun e w'=>e=.returned (.agg #[.int .u8 c,.slice p n cap])∧Bel w w':=by
 go_enter Tryz.func167,Tryz.ntmps167
 go_wp2
 refine post_ret (results_one rfl (resIs_agg (n:=2) (cs:=#[.int .u8 c,.slice p n cap]) (by rfl) Tryz.underlying111 (by kernel_rfl) (T:=111) ?_ rfl)) ⟨rfl,?_⟩
 ·exact Blk.new' _ _ _ (by simp)
 ·exact EL

/-- The numbers that fill whole places. -/
def wholeNums (c:Nat) (xs:List Nat):List Nat:=xs.take (xs.length - xs.length % wd c)

theorem line_any (F:Nat→Prop) (p:Option Addr) (n cap:Nat) (xs:List Nat) (dim:Int) (pk:Option Addr) (nk ck:Nat) (w:World) (hF:New F w) (h:FlSl F w (.slice p n cap) xs) (h31:n≤2147483647) :
  Calls Tryz.prog 86 #[.agg #[.int .i64 2,.int .i64 dim,.slice p n cap,.slice pk nk ck]] w (IsSeq F w (ct dim) (wholeNums (ct dim) xs)):=by
 have HX:=Lib.hid h
 have hl:=h.len.1
 have hw:wholeNums (ct dim) xs=xs.take (n - n % wd (ct dim)):=by unfold wholeNums;rw [hl]
 rw [hw]
 clear h hl hw
 go_enter Tryz.func86,Tryz.ntmps86
 go_wp2_with (first
  | (go_at_call 164;refine (sequence_any (Loc F w.heap.size 2) p n cap xs dim _ ?hn ((HX.out.loc 2).bel ?hb) h31).mono ?_;(case hn=>exact hF.loc (by simp));(case hb=>exact EL);rintro e w1 ⟨p1,n1,c1,rfl,hf1,hb1⟩;have HF1:=Lib.hid hf1;have HB1:=Lib.hid hb1;clear hf1 hb1)
  | (go_at_call 167;refine (newLineString_any _ _ _ _ _).mono ?_;rintro e w2 ⟨rfl,hb2⟩;have HB2:=Lib.hid hb2;have B3:=((Blk.new' (w.alloc _) #[.int .u8 0,.slice none 0 0] 111 (b:=w.heap.size+1) (by simp)).bel HB1.out).bel hb2;clear hb2;obtain ⟨r3,z3,l3⟩:=B3.facts))
 refine post_ret (results_one rfl (resIs_agg (n:=2) (cs:=#[.int .u8 (ct dim),.slice p1 n1 c1]) (by rfl) Tryz.underlying111 (by kernel_rfl) (T:=111) ?_ rfl)) ?_
 ·exact (B3.set 0 _).set 1 _
 ·exact ⟨_,_,_,rfl,(((HF1.out.bel HB2.out).set (Loc.not (by omega) (by omega)) _ _).set (Loc.not (by omega) (by omega)) _ _).out,((((((Bel.refl w).alloc _).alloc _).trans HB1.out).trans HB2.out).setCell (by simp) _).setCell (by simp) _⟩

theorem length_any (p:Option Addr) (n cap c:Nat) (hc:c≤3) (hn:n≤9223372036854775807) (w:World) :
  Calls Tryz.prog 126 #[.agg #[.int .u8 c,.slice p n cap]] w fun e w'=>e=.returned (.int .i64 (n / wd c:Nat))∧Bel w w':=by
 have hd:=wd_bd c
 have hq0:((n:Int) / (wd c:Int))=((n / wd c:Nat):Int):=(Int.natCast_ediv _ _).symm
 have hq1:n / wd c≤n:=Nat.div_le_self _ _
 have hdim:=fun w=>dimension_any c hc w
 have HD:=Lib.hid hdim
 clear hdim
 generalize n / wd c=q at *
 generalize wd c=d at *
 obtain ⟨hd1,hd2⟩:=hd
 go_enter Tryz.func126,Tryz.ntmps126
 go_wp2
 go_quiet ((go_at_call 161;exact Calls.quiet_of_same ((HD.out _).mono fun _ _ h=>⟨h.1,h.2.symm⟩)))
 go_wp2
 go_ret
 exact ⟨rfl,by exact EL⟩

/-- Place i of a sequence. -/
theorem getXY_any (F:Nat→Prop) (p:Option Addr) (n cap c i:Nat) (xs:List Nat) (hc:c≤3) (w:World) (h:FlSl F w (.slice p n cap) xs) (hi:i*wd c+1<n) (h31:n≤2147483647) (x y:Nat) (hx:xs[i*wd c]?=some x) (hy:xs[i*wd c+1]?=some y) :
  Calls Tryz.prog 207 #[.agg #[.int .u8 c,.slice p n cap],.int .i64 i] w fun e w'=>e=.returned (.agg #[.float .f64 x,.float .f64 y])∧Bel w w':=by
 have hd:=wd_bd c
 have hdim:=fun w=>dimension_any c hc w
 have HD:=Lib.hid hdim
 clear hdim
 have hl:=h.len
 obtain ⟨-,hl1,hl2⟩:=hl
 obtain ⟨b,off,rfl,hlt,-,hq⟩:=h.cells (by omega)
 have c1:=hq _ _ hx
 have c2:=hq _ _ hy
 have C1:=Lib.hid c1
 have C2:=Lib.hid c2
 clear hq h hx hy c1 c2
 have hm:((i:Int)*(wd c:Int))=((i*wd c:Nat):Int):=(Int.natCast_mul _ _).symm
 have hi2:i≤i*wd c:=Nat.le_mul_of_pos_right _ (by omega)
 generalize hj:i*wd c=j at *
 clear hj
 generalize wd c=d at *
 obtain ⟨hd1,hd2⟩:=hd
 have w1e:IntKind.i64.wrap (j:Int)=(j:Int):=IntWalk.i64_in _ (by omega)
 have w2e:IntKind.i64.wrap ((j:Int)+1)=(j:Int)+1:=IntWalk.i64_in _ (by omega)
 have b0:(0:Int)≤(j:Int):=by omega
 have b1:(j:Int)<(n:Int):=by omega
 have b2:(0:Int)≤(j:Int)+1:=by omega
 have b3:(j:Int)+1<(n:Int):=by omega
 have b4:((j:Int)+1).toNat=j+1:=by omega
 go_enter Tryz.func207,Tryz.ntmps207
 go_wp2_with (go_at_call 161;refine (HD.out _).mono ?_;rintro e w' ⟨rfl,rfl⟩)
 go_region_held3 (fun w'=>w'.cell? ⟨b,off+j,none⟩=some (.float .f64 x)∧w'.cell? ⟨b,off+(j+1),none⟩=some (.float .f64 y)∧(∀ o,w'.cell? ⟨w.heap.size,o,none⟩=(#[Value.int .u8 c,.slice (some ⟨b,off,none⟩) n cap]:Array Value)[o]?)∧Blk w' w.heap.size #[.int .u8 c,.slice (some ⟨b,off,none⟩) n cap] 109∧Bel w w')
  ((refine keepD2 hlt hlt C1.out C2.out ?_ ?_<;>(first|(exact KL;done)|(exact EL;done))))
  (fail)
 go_wp2
 refine post_ret (results_one rfl (resIs_agg (n:=2) (cs:=#[.float .f64 x,.float .f64 y]) (by rfl) Tryz.underlying79 (by kernel_rfl) (T:=79) ?_ rfl)) ⟨rfl,?_⟩
 ·exact KL
 ·exact EL
end Go.Proofs.YtpipehenfcbjbaaGreatDoor
