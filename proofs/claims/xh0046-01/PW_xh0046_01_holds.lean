import PyProof.Rows.All
import Wide.All
import OpenK.AllK
import Wide.FinOn
import PySem.Challenge.RW_xh0046_01
open PySem PySem.W PyProof.Rows
set_option Elab.async false
set_option linter.all false
set_option maxRecDepth 100000
namespace Mine
section
namespace FM
open Float64
noncomputable def sel {α:Type} (b:Bool) (x y:α):α:=match b with
 | true=>x
 | false=>y
theorem sel_ble {α:Type} (a b:Nat) (x y:α):sel (Nat.ble a b) x y=if a≤b then x else y:=by
 unfold sel
 cases h:Nat.ble a b with
 | true=>rw [if_pos (Nat.le_of_ble_eq_true h)]
 | false=>rw [if_neg (Nat.not_le_of_not_ble_eq_true (by rw [h]; decide))]
theorem sel_beq {α:Type} (a b:Nat) (x y:α):sel (Nat.beq a b) x y=if a=b then x else y:=by
 unfold sel
 cases h:Nat.beq a b with
 | true=>rw [if_pos (Nat.eq_of_beq_eq_true h)]
 | false=>rw [if_neg (Nat.ne_of_beq_eq_false h)]
noncomputable def halfE (n d:Nat):Nat:=sel (Nat.ble (2*(n % d)+n / d % 2) d) (n / d) (n / d+1)
theorem halfE_eq (n d:Nat):halfE n d=halfEven n d:=by
 unfold halfE halfEven
 rw [sel_ble]
 have h2:n / d % 2=0 ∨ n / d % 2=1:=by lia
 by_cases h:2*(n % d)+n / d % 2≤d
 ·rw [if_pos h]
  have:¬ (decide (2*(n % d) > d) || (2*(n % d) == d&&n / d % 2 == 1))=true:=by
   simp only [Bool.or_eq_true,Bool.and_eq_true,decide_eq_true_eq,beq_iff_eq]
   lia
  simp only [this]
  rfl
 ·rw [if_neg h]
  have:(decide (2*(n % d) > d) || (2*(n % d) == d&&n / d % 2 == 1))=true:=by
   simp only [Bool.or_eq_true,Bool.and_eq_true,decide_eq_true_eq,beq_iff_eq]
   lia
  simp only [this]
  rfl
noncomputable def shf (n d:Nat) (k:Int):Nat × Nat:=match k with
 | .ofNat j=>(n*2 ^ j,d)
 | .negSucc j=>(n,d*2 ^ (j+1))
theorem shf_eq (n d:Nat) (k:Int):shf n d k=shift n d k:=by
 unfold shf shift
 cases k with
 | ofNat j=>rw [if_pos (show Int.ofNat j ≥ 0 from Int.natCast_nonneg j)]; rfl
 | negSucc j=>rw [if_neg (show ¬ Int.negSucc j ≥ 0 from by lia)]; rfl
noncomputable def bleI (a b:Int):Bool:=match b - a with
 | .ofNat _=>true
 | .negSucc _=>false
theorem sel_bleI {α:Type} (a b:Int) (x y:α):sel (bleI a b) x y=if a≤b then x else y:=by
 unfold bleI
 cases h:b - a with
 | ofNat n=>simp only [Int.ofNat_eq_natCast] at h; rw [if_pos (by lia)]; rfl
 | negSucc n=>rw [if_neg (by lia)]; rfl
noncomputable def mxI (a b:Int):Int:=sel (bleI a b) b a
theorem mxI_eq (a b:Int):mxI a b=max a b:=by
 unfold mxI
 rw [sel_bleI,Int.max_def]
noncomputable def mnN (a b:Nat):Nat:=sel (Nat.ble a b) a b
theorem mnN_eq (a b:Nat):mnN a b=min a b:=by
 unfold mnN
 rw [sel_ble,Nat.min_def]
noncomputable def rm2 (n d:Nat) (e:Int):Nat:=match shf n d (-e) with
 | (a,b)=>mnN infMag ((e+1074).toNat*2 ^ 52+halfE a b)
noncomputable def rm1 (n d:Nat) (l:Int):Nat:=match shf n d (-l) with
 | (a,b)=>rm2 n d (mxI (sel (Nat.ble b a) (l - 52) (l - 53)) (-1074))
noncomputable def lg (f:Nat):Nat→Nat:=Nat.rec (motive:=fun _=>Nat→Nat) (fun _=>0) (fun f r n=>sel (Nat.ble (2 ^ 2 ^ f) n) (2 ^ f+r (n / 2 ^ 2 ^ f)) (r n)) f
theorem log2_div {n k:Nat} (h:2 ^ k≤n):k+(n / 2 ^ k).log2=n.log2:=by
 have p:0 < 2 ^ k:=Nat.pow_pos (by decide)
 have hm:n / 2 ^ k ≠ 0:=Nat.ne_of_gt (Nat.div_pos h p)
 have hn:n ≠ 0:=Nat.ne_of_gt (Nat.lt_of_lt_of_le p h)
 have h1:=(Nat.le_log2 hm).mp (Nat.le_refl _)
 have h2:=(Nat.log2_lt hm).mp (Nat.lt_succ_self _)
 refine Nat.le_antisymm ((Nat.le_log2 hn).mpr ?_) (Nat.le_of_lt_succ ((Nat.log2_lt hn).mpr ?_))
 ·rw [Nat.pow_add,Nat.mul_comm]
  exact (Nat.le_div_iff_mul_le p).mp h1
 ·rw [← Nat.add_succ,Nat.pow_add,Nat.mul_comm]
  exact (Nat.div_lt_iff_lt_mul p).mp h2
theorem lg_eq (f:Nat):∀ n,n < 2 ^ 2 ^ f→lg f n=n.log2:=by
 induction f with
 | zero =>
  intro n h
  show 0=_
  rcases n with _ | _ | n
  ·rfl
  ·rfl
  ·exact absurd h (Nat.not_lt_of_le (Nat.le_add_left 2 n))
 | succ f ih =>
  intro n h
  show sel (Nat.ble (2 ^ 2 ^ f) n) (2 ^ f+lg f (n / 2 ^ 2 ^ f)) (lg f n)=_
  rw [sel_ble]
  by_cases hn:2 ^ 2 ^ f≤n
  ·rw [if_pos hn,ih _ ((Nat.div_lt_iff_lt_mul (Nat.pow_pos (by decide))).mpr (by rwa [← Nat.pow_add,← Nat.two_mul,Nat.mul_comm,← Nat.pow_succ])),log2_div hn]
  ·rw [if_neg hn,ih n (Nat.lt_of_not_le hn)]
noncomputable def lg2 (n:Nat):Nat:=sel (Nat.ble (2 ^ 2 ^ 12) n) n.log2 (lg 12 n)
theorem lg2_eq (n:Nat):lg2 n=n.log2:=by
 unfold lg2
 rw [sel_ble]
 split
 ·rfl
 ·rename_i h
  exact lg_eq 12 n (Nat.lt_of_not_le h)
noncomputable def rm (n d:Nat):Nat:=sel (Nat.beq n 0) 0 (rm1 n d (Int.subNatNat (lg2 n) (lg2 d)))
theorem beq_nat (a b:Nat):(a == b)=Nat.beq a b:=by rw [Bool.eq_iff_iff,beq_iff_eq,Nat.beq_eq]
theorem rm_eq (n d:Nat):rm n d=roundMag n d:=by
 unfold rm roundMag
 rw [sel_beq]
 by_cases h:n=0
 ·rw [if_pos h,if_pos (by simpa using h)]
 ·rw [if_neg h,if_neg (by simpa using h)]
  unfold rm1 rm2
  rw [Int.subNatNat_eq_coe,lg2_eq,lg2_eq]
  generalize (n.log2:Int) - (d.log2:Int)=l
  simp only [shf_eq,mxI_eq,sel_ble,mnN_eq,halfE_eq]
noncomputable def pk (neg:Bool) (mag:Nat):UInt64:=sel neg ((9223372036854775808+mag).toUInt64) mag.toUInt64
theorem pk_eq (neg:Bool) (mag:Nat):pk neg mag=pack neg mag:=by
 have:(2:Nat) ^ 63=9223372036854775808:=by decide +kernel
 unfold pk pack
 rw [this]
 cases neg
 ·simp only [Bool.false_eq_true,if_false,Nat.zero_add,sel]
 ·simp only [if_true,sel]
noncomputable def ofFr (neg:Bool) (n d:Nat):UInt64:=pk neg (rm n d)
theorem ofFr_eq (neg:Bool) (n d:Nat):ofFr neg n d=ofFrac neg n d:=by unfold ofFr ofFrac; rw [pk_eq,rm_eq]
noncomputable def ofB (neg:Bool) (m:Nat) (e:Int):UInt64:=match shf m 1 e with
 | (n,d)=>ofFr neg n d
theorem ofB_eq (neg:Bool) (m:Nat) (e:Int):ofB neg m e=ofBin neg m e:=by unfold ofB ofBin; rw [shf_eq]; simp only [ofFr_eq]
noncomputable def dec3 (neg:Bool) (ex fr:Nat):Num:=sel (Nat.beq ex 2047) (sel (Nat.beq fr 0) (.inf neg) .nan) (sel (Nat.beq ex 0) (.fin neg fr (-1074)) (.fin neg (4503599627370496+fr) (Int.subNatNat ex 1075)))
noncomputable def dec0 (n:Nat):Num:=dec3 (Nat.beq (n / 9223372036854775808) 1) (n / 4503599627370496 % 2048) (n % 4503599627370496)
noncomputable def dec (x:UInt64):Num:=dec0 x.toNat
theorem dec_eq (x:UInt64):dec x=decode x:=by
 have p63:(2:Nat) ^ 63=9223372036854775808:=by decide +kernel
 have p52:(2:Nat) ^ 52=4503599627370496:=by decide +kernel
 unfold decode dec dec0
 rw [p63,p52]
 generalize x.toNat / 4503599627370496 % 2048=ex
 generalize x.toNat % 4503599627370496=fr
 rw [beq_nat (x.toNat / 9223372036854775808) 1]
 generalize Nat.beq (x.toNat / 9223372036854775808) 1=neg
 unfold dec3
 simp only [sel_beq,beq_iff_eq]
 rw [Int.subNatNat_eq_coe]
 rfl
noncomputable def sg (neg:Bool) (m:Nat):Int:=sel neg (Int.negOfNat m) (Int.ofNat m)
theorem sg_eq (neg:Bool) (m:Nat):sg neg m=sgn neg m:=by
 unfold sg sgn sel
 cases neg
 ·rfl
 ·simp only [if_true]; exact Int.negOfNat_eq
noncomputable def addF (a b:Bool) (s:Int) (g:Int):UInt64:=match s with
 | .ofNat n=>sel (Nat.beq n 0) (pk (and a b) 0) (ofB false n g)
 | .negSucc n=>ofB true (n+1) g
noncomputable def addC (a:Bool) (m:Nat) (e:Int) (b:Bool) (k:Nat) (f:Int):UInt64:=match e - f with
 | .ofNat j=>addF a b (sg a (m*2 ^ j)+sg b k) f
 | .negSucc j=>addF a b (sg a m+sg b (k*2 ^ (j+1))) e
theorem addF_eq (a b:Bool) (s g:Int):addF a b s g=if s == 0 then zero (a&&b) else ofBin (s < 0) s.natAbs g:=by
 unfold addF
 cases s with
 | ofNat n =>
  simp only [sel_beq,ofB_eq,pk_eq,zero]
  by_cases h:n=0
  ·subst h; rfl
  ·have:(Int.ofNat n == 0)=false:=by simp; lia
   have h2:decide (Int.ofNat n < 0)=false:=by simp
   rw [if_neg h,this,h2]
   simp only [Bool.false_eq_true,if_false]
   rfl
 | negSucc n =>
  have:(Int.negSucc n == 0)=false:=by simp
  have h2:decide (Int.negSucc n < 0)=true:=by simp
  simp only [ofB_eq,this,h2,Bool.false_eq_true,if_false]
  rfl
theorem addC_eq (a:Bool) (m:Nat) (e:Int) (b:Bool) (k:Nat) (f:Int):addC a m e b k f=(let (p,q,g):=align a m e b k f; if p+q == 0 then zero (a&&b) else ofBin (p+q < 0) (p+q).natAbs g):=by
 unfold addC align
 cases h:e - f with
 | ofNat j =>
  simp only [Int.ofNat_eq_natCast] at h
  have h1:min e f=f:=by lia
  have h2:(e - f).toNat=j:=by lia
  have h3:(f - f).toNat=0:=by lia
  simp only [h1,addF_eq,sg_eq,h2,h3,Nat.pow_zero,Nat.mul_one]
 | negSucc j =>
  have h1:min e f=e:=by lia
  have h2:(f - e).toNat=j+1:=by lia
  have h3:(e - e).toNat=0:=by lia
  simp only [h1,addF_eq,sg_eq,h2,h3,Nat.pow_zero,Nat.mul_one]
noncomputable def add (x y:UInt64):UInt64:=match dec x with
 | .nan=>nan
 | .inf a=>match dec y with
  | .nan=>nan
  | .inf b=>if a == b then x else nan
  | .fin ..=>x
 | .fin a m e=>match dec y with
  | .nan=>nan
  | .inf _=>y
  | .fin b k f=>addC a m e b k f
theorem add_eq (x y:UInt64):add x y=Float64.add x y:=by
 unfold add
 rw [dec_eq,dec_eq]
 cases hx:decode x <;> cases hy:decode y <;> try (unfold Float64.add; rw [hx,hy]; done)
 unfold Float64.add
 rw [hx,hy]
 exact addC_eq ..
noncomputable def mul (x y:UInt64):UInt64:=match dec x with
 | .fin a m e=>match dec y with
  | .fin b k f=>ofB (xor a b) (m*k) (e+f)
  | _=>Float64.mul x y
 | _=>Float64.mul x y
theorem mul_eq (x y:UInt64):mul x y=Float64.mul x y:=by
 unfold mul
 rw [dec_eq,dec_eq]
 cases h:decode x <;> cases h':decode y <;> first | rfl | (unfold Float64.mul; rw [h,h']; simp only [ofB_eq])
noncomputable def div (x y:UInt64):UInt64:=match dec x with
 | .fin a m e=>match dec y with
  | .fin b k f=>sel (Nat.beq k 0) (Float64.div x y) (match shf m k (e - f) with
   | (n,d)=>ofFr (xor a b) n d)
  | _=>Float64.div x y
 | _=>Float64.div x y
theorem div_eq (x y:UInt64):div x y=Float64.div x y:=by
 unfold div
 rw [dec_eq,dec_eq]
 cases h:decode x <;> cases h':decode y <;> try rfl
 rename_i a m e b k f
 simp only [sel_beq]
 by_cases hk:k=0
 ·rw [if_pos hk]
 ·rw [if_neg hk]
  unfold Float64.div
  rw [h,h']
  have:(k == 0)=false:=by simpa using hk
  simp only [this,shf_eq,ofFr_eq,Bool.false_eq_true,if_false]
noncomputable def cmpF (p q:Int):Ordering:=match p - q with
 | .ofNat n=>sel (Nat.beq n 0) .eq .gt
 | .negSucc _=>.lt
theorem cmpF_eq (p q:Int):cmpF p q=compare p q:=by
 unfold cmpF
 have:compare p q=if p < q then .lt else if p=q then .eq else .gt:=rfl
 rw [this]
 cases h:p - q with
 | ofNat n =>
  simp only [Int.ofNat_eq_natCast] at h
  simp only [sel_beq]
  have h1:¬ p < q:=by lia
  rw [if_neg h1]
  by_cases h0:n=0
  ·have h2:p=q:=by lia
   rw [if_pos h0,if_pos h2]
  ·have h2:¬ p=q:=by lia
   rw [if_neg h0,if_neg h2]
 | negSucc n =>
  have h1:p < q:=by lia
  rw [if_pos h1]
noncomputable def cmpC (a:Bool) (m:Nat) (e:Int) (b:Bool) (k:Nat) (f:Int):Ordering:=match e - f with
 | .ofNat j=>cmpF (sg a (m*2 ^ j)) (sg b k)
 | .negSucc j=>cmpF (sg a m) (sg b (k*2 ^ (j+1)))
theorem cmpC_eq (a:Bool) (m:Nat) (e:Int) (b:Bool) (k:Nat) (f:Int):cmpC a m e b k f=(let (p,q,_):=align a m e b k f; compare p q):=by
 unfold cmpC align
 cases h:e - f with
 | ofNat j =>
  simp only [Int.ofNat_eq_natCast] at h
  have h1:min e f=f:=by lia
  have h2:(e - f).toNat=j:=by lia
  have h3:(f - f).toNat=0:=by lia
  simp only [h1,cmpF_eq,sg_eq,h2,h3,Nat.pow_zero,Nat.mul_one]
 | negSucc j =>
  have h1:min e f=e:=by lia
  have h2:(f - e).toNat=j+1:=by lia
  have h3:(e - e).toNat=0:=by lia
  simp only [h1,cmpF_eq,sg_eq,h2,h3,Nat.pow_zero,Nat.mul_one]
noncomputable def cmp (x y:UInt64):Option Ordering:=match dec x with
 | .fin a m e=>match dec y with
  | .fin b k f=>some (cmpC a m e b k f)
  | _=>Float64.cmp x y
 | _=>Float64.cmp x y
theorem cmp_eq (x y:UInt64):cmp x y=Float64.cmp x y:=by
 unfold cmp
 rw [dec_eq,dec_eq]
 cases h:decode x <;> cases h':decode y <;> first | rfl | (unfold Float64.cmp; rw [h,h']; simp only [cmpC_eq])
noncomputable def fmod (x y:UInt64):UInt64:=match dec x with
 | .fin a m e=>match dec y with
  | .fin _ k f=>sel (Nat.beq k 0) nan (match e - f with
   | .ofNat j=>ofB a ((m*2 ^ j) % k) f
   | .negSucc j=>ofB a (m % (k*2 ^ (j+1))) e)
  | _=>Float64.fmod x y
 | _=>Float64.fmod x y
theorem fmod_eq (x y:UInt64):fmod x y=Float64.fmod x y:=by
 unfold fmod
 rw [dec_eq,dec_eq]
 cases h:decode x <;> cases h':decode y <;> try rfl
 rename_i a m e b k f
 unfold Float64.fmod
 rw [h,h']
 simp only [sel_beq,beq_iff_eq]
 by_cases hk:k=0
 ·rw [if_pos hk,if_pos hk]
 ·rw [if_neg hk,if_neg hk]
  unfold align
  cases hh:e - f with
  | ofNat j =>
   simp only [Int.ofNat_eq_natCast] at hh
   have h1:min e f=f:=by lia
   have h2:(e - f).toNat=j:=by lia
   have h3:(f - f).toNat=0:=by lia
   simp only [h1,h2,h3,Nat.pow_zero,Nat.mul_one,ofB_eq,sgn,Bool.false_eq_true,if_false,Int.toNat_natCast]
  | negSucc j =>
   have h1:min e f=e:=by lia
   have h2:(f - e).toNat=j+1:=by lia
   have h3:(e - e).toNat=0:=by lia
   simp only [h1,h2,h3,Nat.pow_zero,Nat.mul_one,ofB_eq,sgn,Bool.false_eq_true,if_false,Int.toNat_natCast]
noncomputable def md (x y:UInt64):UInt64:=(fun m=>if isZero m then copysign (zero false) y else if lt y (zero false) != lt m (zero false) then add m y else m) (fmod x y)
theorem md_eq (x y:UInt64):md x y=(Float64.divmod x y).2:=by
 unfold md Float64.divmod
 simp only [fmod_eq,add_eq]
 by_cases h:isZero (Float64.fmod x y)=true
 ·simp only [h,if_true]
 ·simp only [h,Bool.false_eq_true,if_false]
  by_cases h2:(lt y (zero false) != lt (Float64.fmod x y) (zero false))=true
  ·simp only [h2,if_true]
  ·simp only [h2,Bool.false_eq_true,if_false]
noncomputable def sb (x y:UInt64):UInt64:=add x (Float64.neg y)
theorem sb_eq (x y:UInt64):sb x y=Float64.sub x y:=by unfold sb Float64.sub; rw [add_eq]
noncomputable def ofI (i:Int):UInt64:=match i with
 | .ofNat n=>ofFr false n 1
 | .negSucc n=>ofFr true (n+1) 1
theorem ofI_eq (i:Int):ofI i=Float64.ofInt i:=by
 unfold ofI Float64.ofInt
 cases i with
 | ofNat n =>
  have:decide (Int.ofNat n < 0)=false:=by simp
  rw [this]; exact ofFr_eq ..
 | negSucc n =>
  have:decide (Int.negSucc n < 0)=true:=by simp
  rw [this]; exact ofFr_eq ..
noncomputable def isZ (x:UInt64):Bool:=match dec x with
 | .fin _ m _=>Nat.beq m 0
 | _=>false
theorem isZ_eq (x:UInt64):isZ x=isZero x:=by
 unfold isZ isZero
 rw [dec_eq]
 cases decode x with
 | fin a m e =>
  cases m with
  | zero=>rfl
  | succ m=>rfl
 | _=>rfl
noncomputable def isN (x:UInt64):Bool:=match dec x with
 | .nan=>true
 | _=>false
theorem isN_eq (x:UInt64):isN x=Float64.isNaN x:=by
 unfold isN Float64.isNaN
 rw [dec_eq]
 cases decode x <;> rfl
noncomputable def ab (x:UInt64):UInt64:=match dec x with
 | .nan=>nan
 | _=>pk false (x.toNat % 9223372036854775808)
theorem ab_eq (x:UInt64):ab x=Float64.abs x:=by
 have p63:(2:Nat) ^ 63=9223372036854775808:=by decide +kernel
 unfold ab Float64.abs Float64.isNaN
 rw [dec_eq,p63]
 cases decode x <;> simp only [pk_eq,if_true,Bool.false_eq_true,if_false]
noncomputable def cmpI (x:UInt64) (i:Int):Option Ordering:=match dec x with
 | .fin a m e=>match e with
  | .ofNat j=>some (cmpF (sg a m*Int.ofNat (2 ^ j)) i)
  | .negSucc j=>some (cmpF (sg a m) (i*Int.ofNat (2 ^ (j+1))))
 | _=>Float64.cmpInt x i
theorem cmpI_eq (x:UInt64) (i:Int):cmpI x i=Float64.cmpInt x i:=by
 have hp:∀ j:Nat,Int.ofNat (2 ^ j)=(2:Int) ^ j:=fun j=>by rw [Int.ofNat_eq_natCast,Int.natCast_pow]; rfl
 unfold cmpI
 rw [dec_eq]
 cases h:decode x with
 | fin a m e =>
  unfold Float64.cmpInt
  rw [h]
  cases e with
  | ofNat j=>simp only [cmpF_eq,sg_eq,hp]; rw [if_pos (show Int.ofNat j ≥ 0 from Int.natCast_nonneg j)]; rfl
  | negSucc j=>simp only [cmpF_eq,sg_eq,hp]; rw [if_neg (show ¬ Int.negSucc j ≥ 0 from by lia)]; rfl
 | _=>rfl
end FM
end
section
noncomputable abbrev pw:Program:=PySem.Challenge.pw_xh0046_01
set_option genSizeOf false
set_option genSizeOfSpec false
inductive D where
 | none
 | bool (b:Bool)
 | int (i:Int)
 | flt (x:UInt64)
 | str (s:List Nat)
 | tup (l:List D)
 | lst (l:List D)
 | dctS (ks:List (List Nat)) (vs:List D)
 | dctI (ks:List Int) (vs:List D)
 | cmp (l:D)
 | notes
noncomputable abbrev S (l:List Nat):Str:=⟨l.toArray⟩
structure G where
 X:Addr→Prop
 na:Option Addr
 fl:Tok→Option UInt64
 tc:Addr
 gf:List (Tok × UInt64)
 log:List D
noncomputable def PT (h:Heap) (a:Addr) (vs:Array Value):Prop:=∃ n,IsT h a vs n
noncomputable def PL (h:Heap) (a:Addr) (vs:Array Value):Prop:=∃ n,IsL h a vs n
theorem PT.isTuple {h:Heap} {a:Addr} {vs:Array Value} (x:PT h a vs):h.IsTuple a vs:=let ⟨n,e⟩:=x; ⟨_,e,rfl,n,rfl⟩
theorem PL.isList {h:Heap} {a:Addr} {vs:Array Value} (x:PL h a vs):h.IsList a vs:=let ⟨n,e⟩:=x; ⟨_,e,rfl,n,rfl⟩
theorem PT.at {h h':Heap} {a:Addr} {vs:Array Value} (x:PT h a vs) (k:∀ o,h.get? a=some o→h'.get? a=some o):PT h' a vs:=let ⟨n,e⟩:=x; ⟨n,k _ e⟩
theorem PL.at {h h':Heap} {a:Addr} {vs:Array Value} (x:PL h a vs) (k:∀ o,h.get? a=some o→h'.get? a=some o):PL h' a vs:=let ⟨n,e⟩:=x; ⟨n,k _ e⟩
theorem PT.live {h:Heap} {a:Addr} {vs:Array Value} (x:PT h a vs):∃ o,h.get? a=some o:=let ⟨_,e⟩:=x; ⟨_,e⟩
theorem PL.live {h:Heap} {a:Addr} {vs:Array Value} (x:PL h a vs):∃ o,h.get? a=some o:=let ⟨_,e⟩:=x; ⟨_,e⟩
noncomputable def cmpNs (v:Value):Str→Option Value:=fun y=>if y=("comp_select_list":Str) then some v else Option.none
theorem inst_dict {h:Heap} {a C:Addr} {m:Str→Option Value} (I:h.Inst a C m) {o:Obj} {dx:Addr} (e:h.get? a=some o) (ed:o.dict=some dx):∃ o',h.get? dx=some o':=by
 obtain ⟨o',e',_,_,hd⟩:=I
 rw [e] at e'; cases e'
 rcases hd with ⟨hd,_⟩ | ⟨d,hd,_,oo,_,_,hh,_⟩
 ·rw [ed] at hd; cases hd
 ·rw [ed] at hd; cases hd; exact ⟨_,hh⟩
theorem inst_at {h h':Heap} {a C:Addr} {m:Str→Option Value} (I:h.Inst a C m) (k1:∀ o,h.get? a=some o→h'.get? a=some o) (k2:∀ o dx,h.get? a=some o→o.dict=some dx→∀ o',h.get? dx=some o'→h'.get? dx=some o'):h'.Inst a C m:=by
 obtain ⟨o,e,hc,hn,hd⟩:=I
 refine ⟨o,k1 o e,hc,hn,hd.imp id ?_⟩
 rintro ⟨d,hd,hne,hns⟩
 exact ⟨d,hd,hne,hns.at (k2 o d e hd)⟩
mutual
inductive Rep (w:World) (g:G) (h:Heap):Value→D→Prop where
 | none:Rep w g h .none .none
 | bool (b:Bool):Rep w g h (.bool b) (.bool b)
 | int (i:Int) (t:Tok):Rep w g h (.int i t) (.int i)
 | flt (x:UInt64) (t:Tok) (ht:t ≠ 0) (hf:g.fl t=some x):Rep w g h (.float x t) (.flt x)
 | str (s:List Nat) (t:Tok):Rep w g h (.str (S s) t) (.str s)
 | tup {a:Addr} {vs:Array Value} {ds:List D} (hx:¬ g.X a) (ho:PT h a vs) (hs:vs.size≤65536) (hr:RepL w g h vs.toList ds):Rep w g h (.ref a) (.tup ds)
 | lst {a:Addr} {vs:Array Value} {ds:List D} (hx:¬ g.X a) (ho:PL h a vs) (hs:vs.size≤65536) (hr:RepL w g h vs.toList ds):Rep w g h (.ref a) (.lst ds)
 | dctS {a:Addr} {kvs:List (Str × Value)} {vs:List D} (hx:¬ g.X a) (hm:(a == sysModules)=false) (ho:h.DictOf (strKind pw w) a kvs) (hs:kvs.length≤65536)
   {ks:List (List Nat)} (hk:kvs.map (·.1)=ks.map S) (hr:RepL w g h (kvs.map (·.2)) vs):Rep w g h (.ref a) (.dctS ks vs)
 | dctI {a:Addr} {kvs:List (Int × Value)} {vs:List D} (hx:¬ g.X a) (hm:(a == sysModules)=false) (ho:h.DictOf (intKind pw w) a kvs) (hs:kvs.length≤65536)
   {ks:List Int} (hk:kvs.map (·.1)=ks) (hr:RepL w g h (kvs.map (·.2)) vs):Rep w g h (.ref a) (.dctI ks vs)
 | cmp {a:Addr} {v:Value} {d:D} (hx:¬ g.X a) (ho:h.Inst a g.tc (cmpNs v)) (hy:∀ o dx,h.get? a=some o→o.dict=some dx→¬ g.X dx) (hr:Rep w g h v d):Rep w g h (.ref a) (.cmp d)
 | notes {a:Addr} (hn:g.na=some a):Rep w g h (.ref a) .notes
inductive RepL (w:World) (g:G) (h:Heap):List Value→List D→Prop where
 | nil:RepL w g h [] []
 | cons {v:Value} {d:D} {vs:List Value} {ds:List D} (h1:Rep w g h v d) (h2:RepL w g h vs ds):RepL w g h (v::vs) (d::ds)
end
structure Le (g:G) (h:Heap) (g':G) (h':Heap):Prop where
 obj:∀ a o,¬ g.X a→h.get? a=some o→¬ g'.X a∧h'.get? a=some o
 fl:∀ t x,g.fl t=some x→g'.fl t=some x
 na:g'.na=g.na
 tc:g'.tc=g.tc
theorem Le.rfl' {g:G} {h:Heap}:Le g h g h:=⟨fun _ _ a b=>⟨a,b⟩,fun _ _ e=>e,rfl,rfl⟩
theorem Le.trans {g g' g'':G} {h h' h'':Heap} (a:Le g h g' h') (b:Le g' h' g'' h''):Le g h g'' h'' :=
 ⟨fun x o n e=>let ⟨n',e'⟩:=a.obj x o n e; b.obj x o n' e',fun t x e=>b.fl t x (a.fl t x e),b.na.trans a.na,b.tc.trans a.tc⟩
variable {w:World}
theorem Le.ns {g g':G} {h h':Heap} (L:Le g h g' h') {a:Addr} {m:Str→Option Value} (hx:¬ g.X a) (x:h.Ns a m):h'.Ns a m:=x.at' fun o e=>(L.obj a o hx e).2
theorem dictOf_live {K:Type} [DecidableEq K] {knd:KeyKind pw w K} {h:Heap} {a:Addr} {kvs:List (K × Value)} (x:h.DictOf knd a kvs):∃ o,h.get? a=some o:=let ⟨o,_,_,e,_⟩:=x; ⟨o,e⟩
theorem ns_live {h:Heap} {a:Addr} {m:Str→Option Value} (x:h.Ns a m):∃ o,h.get? a=some o:=let ⟨o,_,_,e,_⟩:=x; ⟨o,e⟩
theorem Rep.le_cmp {g g':G} {h h':Heap} (L:Le g h g' h') {a:Addr} {v:Value} {d:D} (hx:¬ g.X a) (ho:h.Inst a g.tc (cmpNs v)) (hy:∀ o dx,h.get? a=some o→o.dict=some dx→¬ g.X dx) (hr:Rep w g' h' v d):Rep w g' h' (.ref a) (.cmp d):=by
 obtain ⟨o,e,hc,hn,hd⟩:=id ho
 have e':=L.obj _ _ hx e
 refine .cmp e'.1 (by rw [L.tc]; exact inst_at ho (fun o e=>(L.obj _ o hx e).2) fun o dx e ed o' e2=>(L.obj dx o' (hy o dx e ed) e2).2) (fun o2 dx e2 ed=>?_) hr
 rw [e'.2] at e2; cases e2
 obtain ⟨o',h2⟩:=inst_dict ho e ed
 exact (L.obj dx o' (hy _ _ e ed) h2).1
section
variable {g g':G} {h h':Heap} (L:Le g h g' h')
include L
theorem Rep.le {v:Value} {d:D} (r:Rep w g h v d):Rep w g' h' v d :=
 Rep.rec (motive_1:=fun v d _=>Rep w g' h' v d) (motive_2:=fun vs ds _=>RepL w g' h' vs ds) .none .bool .int (fun x t ht hf=>.flt x t ht (L.fl t x hf)) .str
  (fun hx ho hs _ hr=>.tup (L.obj _ _ hx ho.live.choose_spec).1 (ho.at fun o e=>(L.obj _ o hx e).2) hs hr)
  (fun hx ho hs _ hr=>.lst (L.obj _ _ hx ho.live.choose_spec).1 (ho.at fun o e=>(L.obj _ o hx e).2) hs hr)
  (fun hx hm ho hs _ hk _ hr=>.dctS (L.obj _ _ hx (dictOf_live ho).choose_spec).1 hm (ho.at fun o e=>(L.obj _ o hx e).2) hs hk hr)
  (fun hx hm ho hs _ hk _ hr=>.dctI (L.obj _ _ hx (dictOf_live ho).choose_spec).1 hm (ho.at fun o e=>(L.obj _ o hx e).2) hs hk hr)
  (fun hx ho hy _ hr=>Rep.le_cmp L hx ho hy hr) (fun hn=>.notes (by rw [L.na]; exact hn)) .nil (fun _ _ a b=>.cons a b) r
theorem RepL.le {vs:List Value} {ds:List D} (r:RepL w g h vs ds):RepL w g' h' vs ds :=
 RepL.rec (motive_1:=fun _ _ _=>True) (motive_2:=fun vs ds _=>RepL w g' h' vs ds) trivial (fun _=>trivial) (fun _ _=>trivial) (fun _ _ _ _=>trivial) (fun _ _=>trivial)
  (fun _ _ _ _ _=>trivial) (fun _ _ _ _ _=>trivial) (fun _ _ _ _ _ _ _ _=>trivial) (fun _ _ _ _ _ _ _ _=>trivial) (fun _ _ _ _ _=>trivial) (fun _=>trivial) .nil (fun a _ _ b=>.cons (a.le L) b) r
end
section
variable {g:G} {h:Heap} {v:Value}
theorem Rep.none_inv (r:Rep w g h v .none):v=.none:=by cases r; rfl
theorem Rep.bool_inv {b:Bool} (r:Rep w g h v (.bool b)):v=.bool b:=by cases r; rfl
theorem Rep.int_inv {i:Int} (r:Rep w g h v (.int i)):∃ t,v=.int i t:=by cases r; exact ⟨_,rfl⟩
inductive FltI (g:G) (v:Value) (x:UInt64):Prop
 | mk (t:Tok) (e:v=.float x t) (n:t ≠ 0) (f:g.fl t=some x)
theorem Rep.flt_inv {x:UInt64} (r:Rep w g h v (.flt x)):FltI g v x:=by cases r; exact ⟨_,rfl,‹_›,‹_›⟩
theorem Rep.str_inv {l:List Nat} (r:Rep w g h v (.str l)):∃ t,v=.str (S l) t:=by cases r; exact ⟨_,rfl⟩
inductive SeqI (w:World) (g:G) (h:Heap) (v:Value) (K:Heap→Addr→Array Value→Prop) (ds:List D):Prop
 | mk (a:Addr) (vs:Array Value) (e:v=.ref a) (n:¬ g.X a) (o:K h a vs) (z:vs.size≤65536) (r:RepL w g h vs.toList ds)
theorem Rep.tup_inv {ds:List D} (r:Rep w g h v (.tup ds)):SeqI w g h v PT ds:=by cases r; exact ⟨_,_,rfl,‹_›,‹_›,‹_›,‹_›⟩
theorem Rep.lst_inv {ds:List D} (r:Rep w g h v (.lst ds)):SeqI w g h v PL ds:=by cases r; exact ⟨_,_,rfl,‹_›,‹_›,‹_›,‹_›⟩
inductive DctI (w:World) (g:G) (h:Heap) (v:Value) {α:Type} [DecidableEq α] (kd:KeyKind pw w α) (ks:List α) (vs:List D):Prop
 | mk (a:Addr) (kvs:List (α × Value)) (e:v=.ref a) (n:¬ g.X a) (m:(a == sysModules)=false) (o:h.DictOf kd a kvs) (z:kvs.length≤65536) (k:kvs.map (·.1)=ks) (r:RepL w g h (kvs.map (·.2)) vs)
theorem Rep.dctS_inv {ks:List (List Nat)} {vs:List D} (r:Rep w g h v (.dctS ks vs)):DctI w g h v (strKind pw w) (ks.map S) vs:=by cases r; exact ⟨_,_,rfl,‹_›,‹_›,‹_›,‹_›,‹_›,‹_›⟩
theorem Rep.dctI_inv {ks:List Int} {vs:List D} (r:Rep w g h v (.dctI ks vs)):DctI w g h v (intKind pw w) ks vs:=by cases r; exact ⟨_,_,rfl,‹_›,‹_›,‹_›,‹_›,‹_›,‹_›⟩
theorem Rep.notes_inv (r:Rep w g h v .notes):∃ a,v=.ref a∧g.na=some a:=by cases r; exact ⟨_,rfl,‹_›⟩
end
theorem RepL.ind {g:G} {h:Heap} {P:List Value→List D→Prop} (h0:P [] []) (h1:∀ v d vs ds,Rep w g h v d→RepL w g h vs ds→P vs ds→P (v::vs) (d::ds)) {vs:List Value} {ds:List D} (r:RepL w g h vs ds):P vs ds :=
 RepL.rec (motive_1:=fun _ _ _=>True) (motive_2:=fun vs ds _=>P vs ds) trivial (fun _=>trivial) (fun _ _=>trivial) (fun _ _ _ _=>trivial) (fun _ _=>trivial)
  (fun _ _ _ _ _=>trivial) (fun _ _ _ _ _=>trivial) (fun _ _ _ _ _ _ _ _=>trivial) (fun _ _ _ _ _ _ _ _=>trivial) (fun _ _ _ _ _=>trivial) (fun _=>trivial) h0 (fun a b _ c=>h1 _ _ _ _ a b c) r
section
variable {g:G} {h:Heap} {vs us:List Value} {ds es:List D} (r:RepL w g h vs ds)
include r
theorem RepL.length:vs.length=ds.length:=RepL.ind (P:=fun vs ds=>vs.length=ds.length) rfl (fun _ _ _ _ _ _ e=>congrArg Nat.succ e) r
theorem RepL.append (q:RepL w g h us es):RepL w g h (vs++us) (ds++es):=RepL.ind (P:=fun vs ds=>RepL w g h (vs++us) (ds++es)) q (fun _ _ _ _ a _ c=>.cons a c) r
theorem RepL.get:∀ (i:Nat) (d:D),ds[i]?=some d→∃ v,vs[i]?=some v∧Rep w g h v d :=
 RepL.ind (P:=fun vs ds=>∀ (i:Nat) (d:D),ds[i]?=some d→∃ v,vs[i]?=some v∧Rep w g h v d) (fun i d e=>nomatch e) (fun v d vs ds a _ ih i d' e=>by
  cases i with
  | zero=>exact ⟨v,rfl,Option.some.inj e ▸ a⟩
  | succ i=>exact ih i d' e) r
theorem RepL.getV:∀ (i:Nat) (v:Value),vs[i]?=some v→∃ d,ds[i]?=some d∧Rep w g h v d :=
 RepL.ind (P:=fun vs ds=>∀ (i:Nat) (v:Value),vs[i]?=some v→∃ d,ds[i]?=some d∧Rep w g h v d) (fun i d e=>nomatch e) (fun v d vs ds a _ ih i v' e=>by
  cases i with
  | zero=>exact ⟨d,rfl,Option.some.inj e ▸ a⟩
  | succ i=>exact ih i v' e) r
theorem RepL.take (n:Nat):RepL w g h (vs.take n) (ds.take n) :=
 RepL.ind (P:=fun vs ds=>∀ n,RepL w g h (vs.take n) (ds.take n)) (fun n=>by rw [List.take_nil,List.take_nil]; exact .nil) (fun v d vs ds a _ ih n=>by
  cases n with
  | zero=>exact .nil
  | succ n=>exact .cons a (ih n)) r n
theorem RepL.drop (n:Nat):RepL w g h (vs.drop n) (ds.drop n) :=
 RepL.ind (P:=fun vs ds=>RepL w g h vs ds∧∀ n,RepL w g h (vs.drop n) (ds.drop n)) ⟨.nil,fun n=>by rw [List.drop_nil,List.drop_nil]; exact .nil⟩ (fun v d vs ds a b ih=>⟨.cons a b,fun n=>by
  cases n with
  | zero=>exact .cons a b
  | succ n=>exact ih.2 n⟩) r |>.2 n
end
theorem RepL.nil_i {g:G} {h:Heap} {vs:List Value} (r:RepL w g h vs []):vs=[]:=by cases r; rfl
inductive ConsI (w:World) (g:G) (h:Heap) (vs:List Value) (d:D) (ds:List D):Prop
 | mk (v:Value) (us:List Value) (e:vs=v::us) (a:Rep w g h v d) (b:RepL w g h us ds)
theorem RepL.cons_i {g:G} {h:Heap} {vs:List Value} {d:D} {ds:List D} (r:RepL w g h vs (d::ds)):ConsI w g h vs d ds:=by cases r with | cons a b=>exact ⟨_,_,rfl,a,b⟩
structure Inv (w:World) (K:Frag) (g:G) (s:Shared):Prop where
 gens:s.gens=#[]
 xb:∀ a,g.X a→∃ o,s.heap.get? a=some o
 kin:K.In s.heap
 kx:∀ a o,K.lookup a=some o→¬ g.X a
 na:∀ a,g.na=some a→g.X a∧∃ vs,PL s.heap a vs∧RepL w g s.heap vs.toList g.log
 na0:g.na=none→g.log=[]
 tk:∀ t,s.toks≤t→g.fl t=none
 tk0:0 < s.toks
 gf:∀ p ∈ g.gf,g.fl p.1=some p.2∧p.1 ≠ 0
 big:64≤s.heap.objs.size
structure SteP (w:World) (K:Frag) (P:Addr→Prop) (g:G) (s:Shared) (g':G) (s':Shared) (l:List D):Prop where
 X:∀ b,b < s.heap.objs.size→(g'.X b ↔ g.X b)
 na:g'.na=g.na
 tc:g'.tc=g.tc
 gf:g'.gf=g.gf
 log:g'.log=g.log++l
 fl:∀ t x,g.fl t=some x→g'.fl t=some x
 keep:∀ b o,¬ P b→g.na ≠ some b→s.heap.get? b=some o→s'.heap.get? b=some o
 same:∃ h tk,s'={ s with heap:=h,toks:=tk }
 inv:Inv w K g' s'
 size:s.heap.objs.size≤s'.heap.objs.size
 toks:s.toks≤s'.toks
noncomputable abbrev Ste (w:World) (K:Frag) (g:G) (s:Shared) (g':G) (s':Shared) (l:List D):Prop:=SteP w K (fun _=>False) g s g' s' l
section
variable {K:Frag} {g g' g'':G} {s s' s'':Shared} {l l':List D} {P P':Addr→Prop}
theorem SteP.refl (I:Inv w K g s):SteP w K P g s g s []:=⟨fun _ _=>.rfl,rfl,rfl,rfl,by simp,fun _ _ e=>e,fun _ _ _ _ e=>e,⟨_,_,rfl⟩,I,Nat.le_refl _,Nat.le_refl _⟩
theorem SteP.trans' (a:SteP w K P g s g' s' l) (b:SteP w K P' g' s' g'' s'' l') (hP:∀ b,P' b→P b ∨ s.heap.objs.size≤b):SteP w K P g s g'' s'' (l++l') where
 X:=fun c h=>(b.X c (Nat.lt_of_lt_of_le h a.size)).trans (a.X c h)
 na:=b.na.trans a.na
 tc:=b.tc.trans a.tc
 gf:=b.gf.trans a.gf
 log:=by rw [b.log,a.log,List.append_assoc]
 fl:=fun t x e=>b.fl t x (a.fl t x e)
 keep:=fun c o p n e=>b.keep c o (fun q=>(hP c q).elim p fun h=>Nat.lt_irrefl _ (Nat.lt_of_lt_of_le (Heap.lt_size e) h)) (by rw [a.na]; exact n) (a.keep c o p n e)
 same:=by obtain ⟨h,tk,rfl⟩:=a.same; obtain ⟨h',tk',rfl⟩:=b.same; exact ⟨h',tk',rfl⟩
 inv:=b.inv
 size:=Nat.le_trans a.size b.size
 toks:=Nat.le_trans a.toks b.toks
theorem SteP.trans (a:SteP w K P g s g' s' l) (b:SteP w K P g' s' g'' s'' l'):SteP w K P g s g'' s'' (l++l'):=a.trans' b fun _=>.inl
theorem Ste.trans (a:Ste w K g s g' s' l) (b:Ste w K g' s' g'' s'' l'):Ste w K g s g'' s'' (l++l'):=SteP.trans a b
theorem Ste.refl (I:Inv w K g s):Ste w K g s g s []:=SteP.refl I
theorem SteP.mono (a:SteP w K P g s g' s' l) (h:∀ b,P b→P' b):SteP w K P' g s g' s' l:={ a with keep:=fun c o p n e=>a.keep c o (fun q=>p (h c q)) n e }
theorem Ste.of (a:Ste w K g s g' s' l):SteP w K P g s g' s' l:=SteP.mono a fun _=>False.elim
theorem Inv.xlt (I:Inv w K g s) {a:Addr} (h:g.X a):a < s.heap.objs.size:=let ⟨_,e⟩:=I.xb a h; Heap.lt_size e
theorem Inv.nax (I:Inv w K g s) {a:Addr} (hx:¬ g.X a):g.na ≠ some a:=fun e=>hx (I.na a e).1
theorem SteP.le (I:Inv w K g s) (a:SteP w K P g s g' s' l) (hP:∀ b,P b→g.X b):Le g s.heap g' s'.heap where
 obj:=fun b o n e=>⟨fun h=>n ((a.X b (Heap.lt_size e)).mp h),a.keep b o (fun p=>n (hP b p)) (I.nax n) e⟩
 fl:=a.fl
 na:=a.na
 tc:=a.tc
theorem SteP.le0 (I:Inv w K g s) (a:Ste w K g s g' s' l):Le g s.heap g' s'.heap:=SteP.le I a fun _=>False.elim
theorem Ste.le (I:Inv w K g s) (a:Ste w K g s g' s' l):Le g s.heap g' s'.heap:=SteP.le I a fun _=>False.elim
theorem Ste.grow (I:Inv w K g s) {h':Heap} {tk:Nat} (hk:∀ b o,s.heap.get? b=some o→h'.get? b=some o) (hs:s.heap.objs.size≤h'.objs.size) (ht:s.toks≤tk) :
  Ste w K g s g { s with heap:=h',toks:=tk } [] where
 X:=fun _ _=>.rfl
 na:=rfl
 tc:=rfl
 gf:=rfl
 log:=by simp
 fl:=fun _ _ e=>e
 keep:=fun b o _ _ e=>hk b o e
 same:=⟨_,_,rfl⟩
 inv:={
  gens:=I.gens
  xb:=fun a h=>let ⟨o,e⟩:=I.xb a h; ⟨o,hk a o e⟩
  kin:=I.kin.keeps hk
  kx:=I.kx
  na:=fun a e=>let ⟨x,vs,hl,hr⟩:=I.na a e; ⟨x,vs,hl.at fun o e=>hk a o e,hr.le ⟨fun b o n e=>⟨n,hk b o e⟩,fun _ _ e=>e,rfl,rfl⟩⟩
  na0:=I.na0
  tk:=fun t h=>I.tk t (Nat.le_trans ht h)
  tk0:=Nat.lt_of_lt_of_le I.tk0 ht
  gf:=I.gf
  big:=Nat.le_trans I.big hs }
 size:=hs
 toks:=ht
noncomputable def G.float (g:G) (t:Tok) (x:UInt64):G:={ g with fl:=fun u=>if u=t then some x else g.fl u }
theorem Ste.float (I:Inv w K g s) (x:UInt64):Ste w K g s (g.float s.toks x) { s with toks:=s.toks+1 } []:=by
 have hf:∀ t y,g.fl t=some y→(g.float s.toks x).fl t=some y:=fun t y e=>by
  show (if t=s.toks then some x else g.fl t)=some y
  rw [if_neg (fun q=>by rw [q,I.tk _ (Nat.le_refl _)] at e; cases e)]; exact e
 have L:Le g s.heap (g.float s.toks x) s.heap:=⟨fun _ _ n e=>⟨n,e⟩,hf,rfl,rfl⟩
 exact {
  X:=fun _ _=>.rfl,na:=rfl,tc:=rfl,gf:=rfl,log:=by simp [G.float],fl:=hf,keep:=fun _ _ _ _ e=>e,same:=⟨_,_,rfl⟩,size:=Nat.le_refl _,toks:=Nat.le_succ _
  inv:={
   gens:=I.gens,xb:=I.xb,kin:=I.kin,kx:=I.kx
   na:=fun a e=>let ⟨y,vs,hl,hr⟩:=I.na a e; ⟨y,vs,hl,hr.le L⟩
   na0:=I.na0
   tk:=fun t h=>by
    have h':s.toks+1≤t:=h
    show (if t=s.toks then some x else g.fl t)=none
    rw [if_neg (by omega)]; exact I.tk t (by omega)
   tk0:=Nat.succ_pos _
   gf:=fun p hp=>⟨hf _ _ (I.gf p hp).1,(I.gf p hp).2⟩
   big:=I.big } }
theorem Rep.newFloat (I:Inv w K g s) (x:UInt64) (h:Heap):Rep w (g.float s.toks x) h (.float x s.toks) (.flt x) :=
 .flt x _ (Nat.ne_of_gt I.tk0) (by show (if s.toks=s.toks then some x else g.fl s.toks)=some x; rw [if_pos rfl])
end
end
section
noncomputable def forceN {α:Type} (n:Nat) (f:Nat→α):α:=Nat.rec (motive:=fun _=>α) (f 0) (fun k _=>f (Nat.succ k)) n
noncomputable def fD (x:UInt64):Option D:=forceN x.toNat fun n=>some (.flt (UInt64.ofNat n))
theorem fD_eq (x:UInt64):fD x=some (.flt x):=(show ∀ (n:Nat) (f:Nat→Option D),forceN n f=f n from fun n f=>by cases n <;> rfl) _ _ |>.trans (congrArg (fun y=>some (D.flt y)) UInt64.ofNat_toNat)
theorem fD_ {x y:UInt64} {c:D} (e:fD x=some c) (h:x=y):some (D.flt y)=some c:=h ▸ (fD_eq x).symm.trans e
noncomputable def okI (a:Int):Bool:=decide (-1000000000000000000 < a)&&decide (a < 1000000000000000000)
noncomputable def b2i (b:Bool):Int:=if b then 1 else 0
inductive OnI {α κ:Type} (d:D) (k:κ→D) (f:κ→Option α) (z:α):Prop
 | mk (i:κ) (e:d=k i) (h:f i=some z)
inductive OnI2 {α κ τ:Type} (d:D) (k:κ→τ→D) (f:κ→τ→Option α) (z:α):Prop
 | mk (i:κ) (j:τ) (e:d=k i j) (h:f i j=some z)
inductive BO1 {α β:Type} (x:Option α) (f:α→Option β) (z:β):Prop
 | mk (a:α) (e:x=some a) (h:f a=some z)
inductive BO2 {α β γ:Type} (x:Option (α × β)) (f:α × β→Option γ) (z:γ):Prop
 | mk (a:α) (b:β) (e:x=some (a,b)) (h:f (a,b)=some z)
inductive D1I {β α:Type} (l:List β) (f:β→Option α) (z:α):Prop
 | mk (a:β) (e:l=[a]) (h:f a=some z)
inductive D2I {β α:Type} (l:List β) (f:β→β→Option α) (z:α):Prop
 | mk (a b:β) (e:l=[a,b]) (h:f a b=some z)
inductive D3I {β α:Type} (l:List β) (f:β→β→β→Option α) (z:α):Prop
 | mk (a b c:β) (e:l=[a,b,c]) (h:f a b c=some z)
section
variable {α β:Type}
theorem elim_i {p:Prop} [Decidable p] {f:p→Option α} {z:α} (h:(if h:p then f h else none)=some z):p:=Decidable.byContradiction fun q=>by rw [dif_neg q] at h; cases h
noncomputable def dI (d:D) (f:Int→Option α):Option α:=if h:d.ctorIdx=2 then D.int.elim d h f else none
theorem onI_i {d:D} {f:Int→Option α} {z:α} (h:dI d f=some z):OnI d .int f z :=
 D.int.elim (motive_1:=fun d=>dI d f=some z→OnI d .int f z) d (elim_i h) (fun i h=>⟨i,rfl,h⟩) h
noncomputable def dF (d:D) (f:UInt64→Option α):Option α:=if h:d.ctorIdx=3 then D.flt.elim d h f else none
theorem onF_i {d:D} {f:UInt64→Option α} {z:α} (h:dF d f=some z):OnI d .flt f z :=
 D.flt.elim (motive_1:=fun d=>dF d f=some z→OnI d .flt f z) d (elim_i h) (fun i h=>⟨i,rfl,h⟩) h
noncomputable def dS (d:D) (f:List Nat→Option α):Option α:=if h:d.ctorIdx=4 then D.str.elim d h f else none
theorem onS_i {d:D} {f:List Nat→Option α} {z:α} (h:dS d f=some z):OnI d .str f z :=
 D.str.elim (motive_1:=fun d=>dS d f=some z→OnI d .str f z) d (elim_i h) (fun i h=>⟨i,rfl,h⟩) h
noncomputable def dT (d:D) (f:List D→Option α):Option α:=if h:d.ctorIdx=5 then D.tup.elim d h f else none
theorem onT_i {d:D} {f:List D→Option α} {z:α} (h:dT d f=some z):OnI d .tup f z :=
 D.tup.elim (motive_1:=fun d=>dT d f=some z→OnI d .tup f z) d (elim_i h) (fun i h=>⟨i,rfl,h⟩) h
noncomputable def dL (d:D) (f:List D→Option α):Option α:=if h:d.ctorIdx=6 then D.lst.elim d h f else none
theorem onL_i {d:D} {f:List D→Option α} {z:α} (h:dL d f=some z):OnI d .lst f z :=
 D.lst.elim (motive_1:=fun d=>dL d f=some z→OnI d .lst f z) d (elim_i h) (fun i h=>⟨i,rfl,h⟩) h
noncomputable def dB (d:D) (f:Bool→Option α):Option α:=if h:d.ctorIdx=1 then D.bool.elim d h f else none
theorem onB_i {d:D} {f:Bool→Option α} {z:α} (h:dB d f=some z):OnI d .bool f z :=
 D.bool.elim (motive_1:=fun d=>dB d f=some z→OnI d .bool f z) d (elim_i h) (fun i h=>⟨i,rfl,h⟩) h
noncomputable def dD (d:D) (f:List (List Nat)→List D→Option α):Option α:=if h:d.ctorIdx=7 then D.dctS.elim d h f else none
theorem onD_i {d:D} {f:List (List Nat)→List D→Option α} {z:α} (h:dD d f=some z):OnI2 d .dctS f z :=
 D.dctS.elim (motive_1:=fun d=>dD d f=some z→OnI2 d .dctS f z) d (elim_i h) (fun i j h=>⟨i,j,rfl,h⟩) h
noncomputable def dN (d:D) (f:Int→Option α) (k:UInt64→Option α):Option α:=if d.ctorIdx=2 then dI d f else dF d k
theorem onN_i {d:D} {f:Int→Option α} {k:UInt64→Option α} {z:α} (h:dN d f k=some z):OnI d .int f z ∨ OnI d .flt k z:=by
 unfold dN at h
 by_cases p:d.ctorIdx=2
 ·rw [if_pos p] at h; exact .inl (onI_i h)
 ·rw [if_neg p] at h; exact .inr (onF_i h)
noncomputable def dC (d:D) (f:D→Option α):Option α:=if h:d.ctorIdx=9 then D.cmp.elim d h f else none
theorem onC_i {d:D} {f:D→Option α} {z:α} (h:dC d f=some z):OnI d .cmp f z :=
 D.cmp.elim (motive_1:=fun d=>dC d f=some z→OnI d .cmp f z) d (elim_i h) (fun i h=>⟨i,rfl,h⟩) h
noncomputable def d1 (l:List β) (f:β→Option α):Option α:=match l with
 | [a]=>f a
 | _=>none
noncomputable def d2 (l:List β) (f:β→β→Option α):Option α:=match l with
 | a::l=>d1 l (f a)
 | []=>none
noncomputable def d3 (l:List β) (f:β→β→β→Option α):Option α:=match l with
 | a::l=>d2 l (f a)
 | []=>none
theorem d1_i {l:List β} {f:β→Option α} {z:α} (h:d1 l f=some z):D1I l f z:=by
 cases l with
 | nil=>cases h
 | cons a l=>cases l with
  | nil=>exact ⟨a,rfl,h⟩
  | cons _ _=>cases h
theorem d2_i {l:List β} {f:β→β→Option α} {z:α} (h:d2 l f=some z):D2I l f z:=by
 cases l with
 | nil=>cases h
 | cons a l=>obtain ⟨b,rfl,h⟩:=d1_i (l:=l) h; exact ⟨a,b,rfl,h⟩
theorem d3_i {l:List β} {f:β→β→β→Option α} {z:α} (h:d3 l f=some z):D3I l f z:=by
 cases l with
 | nil=>cases h
 | cons a l=>obtain ⟨b,c,rfl,h⟩:=d2_i (l:=l) h; exact ⟨a,b,c,rfl,h⟩
theorem dI_ (i:Int) (f:Int→Option α):dI (.int i) f=f i:=rfl
theorem dF_ (i:UInt64) (f:UInt64→Option α):dF (.flt i) f=f i:=rfl
theorem dS_ (i:List Nat) (f:List Nat→Option α):dS (.str i) f=f i:=rfl
theorem dT_ (i:List D) (f:List D→Option α):dT (.tup i) f=f i:=rfl
theorem dL_ (i:List D) (f:List D→Option α):dL (.lst i) f=f i:=rfl
theorem dB_ (i:Bool) (f:Bool→Option α):dB (.bool i) f=f i:=rfl
theorem dC_ (i:D) (f:D→Option α):dC (.cmp i) f=f i:=rfl
theorem dD_ (i:List (List Nat)) (j:List D) (f:List (List Nat)→List D→Option α):dD (.dctS i j) f=f i j:=rfl
theorem dN_i (i:Int) (f:Int→Option α) (k:UInt64→Option α):dN (.int i) f k=f i:=rfl
theorem dN_f (i:UInt64) (f:Int→Option α) (k:UInt64→Option α):dN (.flt i) f k=k i:=rfl
theorem d1_ (a:β) (f:β→Option α):d1 [a] f=f a:=rfl
theorem d2_ (a b:β) (f:β→β→Option α):d2 [a,b] f=f a b:=rfl
theorem d3_ (a b c:β) (f:β→β→β→Option α):d3 [a,b,c] f=f a b c:=rfl
theorem bo {γ:Type} {x:Option (α × β)} {f:α × β→Option γ} {z:γ} (h:x.bind f=some z):BO2 x f z:=by
 obtain ⟨⟨a,b⟩,h1,h2⟩:=Option.bind_eq_some_iff.mp h
 exact ⟨a,b,h1,h2⟩
theorem b1o {x:Option α} {f:α→Option β} {z:β} (h:x.bind f=some z):BO1 x f z:=(Option.bind_eq_some_iff.mp h).elim fun a h=>⟨a,h.1,h.2⟩
theorem sp {a c:α} {b d:β} (h:some (a,b)=some (c,d)):a=c∧b=d:=by cases h; exact ⟨rfl,rfl⟩
theorem if_n {c:Prop} [Decidable c] {x:Option α} {z:α} (h:(if c then none else x)=some z):¬ c∧x=some z:=by
 by_cases p:c
 ·rw [if_pos p] at h; cases h
 ·rw [if_neg p] at h; exact ⟨p,h⟩
theorem if_e {c:Prop} [Decidable c] {x y:Option α} {z:α} (h:(if c then x else y)=some z):x=some z ∨ y=some z:=by
 by_cases p:c
 ·rw [if_pos p] at h; exact .inl h
 ·rw [if_neg p] at h; exact .inr h
theorem if_s {c:Prop} [Decidable c] {x:Option α} {z:α} (h:(if c then x else none)=some z):c∧x=some z:=by
 by_cases p:c
 ·rw [if_pos p] at h; exact ⟨p,h⟩
 ·rw [if_neg p] at h; cases h
end
noncomputable def addD (a b:D):Option D:=match a with
 | .int a=>dI b fun b=>some (.int (a+b))
 | .flt a=>dN b (fun b=>if Float64.isInf (FM.ofI b) then none else fD (FM.add a (FM.ofI b))) fun b=>fD (FM.add a b)
 | .str a=>dS b fun b=>if decide (a.length+b.length≤65536) then some (.str (a++b)) else none
 | .lst a=>dL b fun b=>if decide (a.length+b.length≤65536) then some (.lst (a++b)) else none
 | .tup a=>dT b fun b=>if !a.isEmpty&&!b.isEmpty&&decide (a.length+b.length≤65536) then some (.tup (a++b)) else none
 | _=>none
noncomputable def subtD (a b:D):Option D:=match a with
 | .int a=>dN b (fun b=>some (.int (a - b))) fun b=>if Float64.isInf (FM.ofI a) then none else fD (FM.sb (FM.ofI a) b)
 | .flt a=>dN b (fun b=>if Float64.isInf (FM.ofI b) then none else fD (FM.sb a (FM.ofI b))) fun b=>fD (FM.sb a b)
 | .bool a=>dB b fun b=>some (.int (b2i a - b2i b))
 | _=>none
noncomputable def mulD (a b:D):Option D:=match a with
 | .int a=>dN b (fun b=>if okI a || okI b then some (.int (a*b)) else none) fun b=>if Float64.isInf (FM.ofI a) then none else fD (FM.mul (FM.ofI a) b)
 | .flt a=>dN b (fun b=>if Float64.isInf (FM.ofI b) then none else fD (FM.mul a (FM.ofI b))) fun b=>fD (FM.mul a b)
 | .str a=>dI b fun b=>if decide (0≤b)&&decide (b≤65536)&&decide (a.length*b.toNat≤65536) then some (.str (List.replicate b.toNat a).flatten) else none
 | .lst a=>dI b fun b=>if decide (0≤b)&&decide (b≤65536)&&decide (a.length*b.toNat≤65536) then some (.lst (List.replicate b.toNat a).flatten) else none
 | _=>none
noncomputable def divD (a b:D):Option D:=match a with
 | .int a=>dI b fun b=>if b == 0 || Float64.isInf (FM.ofFr (decide (a < 0) != decide (b < 0)) a.natAbs b.natAbs) then none else fD (FM.ofFr (decide (a < 0) != decide (b < 0)) a.natAbs b.natAbs)
 | .flt a=>dN b (fun b=>if Float64.isInf (FM.ofI b) || FM.isZ (FM.ofI b) then none else fD (FM.div a (FM.ofI b))) fun b=>if FM.isZ b then none else fD (FM.div a b)
 | _=>none
noncomputable def modD (a b:D):Option D:=match a with
 | .int a=>dI b fun b=>if b == 0 then none else some (.int (a.fmod b))
 | .flt a=>dF b fun b=>if FM.isZ b then none else fD (FM.md a b)
 | _=>none
noncomputable def binD (o:Operator) (a b:D):Option D:=match o with
 | .Add=>addD a b
 | .Sub=>subtD a b
 | .Mult=>mulD a b
 | .Div=>divD a b
 | .Mod=>modD a b
 | .FloorDiv=>dI a fun a=>dI b fun b=>if b == 0 || !okI b then none else some (.int (a.fdiv b))
 | .Pow=>dI a fun a=>dI b fun b=>if decide (2≤a)&&okI a&&decide (0≤b)&&decide (b < 64) then some (.int (a ^ b.toNat)) else none
 | _=>none
noncomputable def lookK {α:Type} [DecidableEq α] (k:α):List α→List D→Option D
 | x::xs,d::ds=>if x=k then some d else lookK k xs ds
 | _,_=>none
noncomputable def eqLf (f:D→D→Option Bool):List D→List D→Option Bool
 | [],[]=>some true
 | a::as,b::bs=>do
  let x ← f a b
  let y ← eqLf f as bs
  some (x&&y)
 | _,_=>some false
noncomputable def eqKf (f:D→D→Option Bool):List (List Nat)→List D→List (List Nat)→List D→Option Bool
 | k::ks,v::vs,ks',vs'=>do
  let v' ← lookK k ks' vs'
  let x ← f v v'
  let y ← eqKf f ks vs ks' vs'
  some (x&&y)
 | [],[],_,_=>some true
 | _,_,_,_=>none
noncomputable def eqF (a b:D):Option Bool:=match a with
 | .bool a=>dB b fun b=>some (a == b)
 | .int a=>dI b fun b=>some (a == b)
 | .flt x=>dN b (fun b=>some (FM.cmpI x b == some .eq)) fun y=>if FM.isN x || FM.isN y then none else some (FM.cmp x y == some .eq)
 | .str a=>dS b fun b=>some (a == b)
 | _=>none
noncomputable def eqD:Nat→D→D→Option Bool
 | 0,a,b=>eqF a b
 | n+1,a,b=>match a with
  | .tup as=>dT b fun bs=>eqLf (eqD n) as bs
  | .lst as=>dL b fun bs=>eqLf (eqD n) as bs
  | _=>eqF a b
noncomputable def eqE (a b:D):Option Bool:=match a with
 | .dctS ks vs=>dD b fun ks' vs'=>if ks.length == ks'.length then eqKf (eqD 4) ks vs ks' vs' else some false
 | _=>eqD 7 a b
theorem eqE_dd (ks ks':List (List Nat)) (vs vs':List D):eqE (.dctS ks vs) (.dctS ks' vs')=if ks.length == ks'.length then eqKf (eqD 4) ks vs ks' vs' else some false:=rfl
noncomputable def eqN (a b:D):Option Bool:=match a with
 | .dctS ks vs=>dD b fun ks' vs'=>eqE (.dctS ks vs) (.dctS ks' vs')
 | .tup as=>dT b fun bs=>if as.length == bs.length then eqLf eqE as bs else none
 | _=>eqD 8 a b
noncomputable def inI (x:Int):List D→Option Bool
 | []=>some false
 | .int y::ys=>(inI x ys).map (decide (y=x) || ·)
 | _=>none
noncomputable def inS (s t:List Nat):Option Bool:=match s with
 | [a]=>some (t.contains a)
 | _=>none
noncomputable def cmpD (o:CmpOp) (a b:D):Option Bool:=match o with
 | .Eq=>eqD 8 a b
 | .NotEq=>(eqN a b).map (!·)
 | .Lt=>match a with
  | .int a=>dI b fun b=>some (decide (a < b))
  | .flt a=>dN b (fun b=>some (FM.cmpI a b == some .lt)) fun b=>some (FM.cmp a b == some .lt)
  | _=>none
 | .Gt=>match a with
  | .int a=>dI b fun b=>some (decide (a > b))
  | .flt a=>dF b fun b=>some (FM.cmp a b == some .gt)
  | _=>none
 | .LtE=>match a with
  | .int a=>dN b (fun b=>some (decide (a≤b))) fun b=>some (FM.cmpI b a == some .gt || FM.cmpI b a == some .eq)
  | .flt a=>dF b fun b=>some (FM.cmp a b == some .lt || FM.cmp a b == some .eq)
  | _=>none
 | .Is=>dB a fun a=>dB b fun b=>some (a == b)
 | .IsNot=>match b with
  | .none=>match a with
   | .none=>some false
   | .str _=>some true
   | _=>none
  | _=>none
 | .In=>match a with
  | .str s=>dS b fun t=>inS s t
  | .int a=>dL b (inI a)
  | _=>none
 | .NotIn=>dI a fun a=>dL b fun l=>(inI a l).map (!·)
 | _=>none
end
section
variable {w:World} {K:Frag} {g:G} {s:Shared} {A:Around} {E:Value→Shared→Prop} {Q:Value→Shared→Prop}
noncomputable abbrev Post (w:World) (K:Frag) (g:G) (s:Shared) (d:D) (Q:Value→Shared→Prop):Prop :=
 ∀ g' s' v,Ste w K g s g' s' []→Rep w g' s'.heap v d→Q v s'
theorem Post.here {v:Value} {d:D} (I:Inv w K g s) (h:Post w K g s d Q) (r:Rep w g s.heap v d):Q v s:=h g s v (Ste.refl I) r
theorem Post.int {i:Int} (I:Inv w K g s) (h:Post w K g s (.int i) Q):Q (.int i s.toks) { s with toks:=s.toks+1 } :=
 h g _ _ (Ste.grow I (fun _ _ e=>e) (Nat.le_refl _) (Nat.le_succ _)) (.int ..)
theorem Post.bool {b:Bool} (I:Inv w K g s) (h:Post w K g s (.bool b) Q):Q (.bool b) s:=h g s _ (Ste.refl I) (.bool b)
theorem Post.flt {x:UInt64} (I:Inv w K g s) (h:Post w K g s (.flt x) Q):Q (.float x s.toks) { s with toks:=s.toks+1 } :=
 h _ _ _ (Ste.float I x) (Rep.newFloat I x _)
theorem Post.str {l:List Nat} (I:Inv w K g s) (h:Post w K g s (.str l) Q):Q (.str (S l) s.toks) { s with toks:=s.toks+1 } :=
 h g _ _ (Ste.grow I (fun _ _ e=>e) (Nat.le_refl _) (Nat.le_succ _)) (.str ..)
theorem Post.strAt {l:List Nat} (I:Inv w K g s) (h:Post w K g s (.str l) Q) (t k:Nat) (hk:s.toks≤k):Q (.str (S l) t) { s with toks:=k } :=
 h g _ _ (Ste.grow I (fun _ _ e=>e) (Nat.le_refl _) hk) (.str ..)
theorem push_new {h:Heap} {o:Obj} (ho:o.isFreed=false:=by rfl):(h.push o).get? h.objs.size=some o:=Heap.get?_push_size _ ho
theorem Inv.notX (I:Inv w K g s):¬ g.X s.heap.objs.size:=fun e=>Nat.lt_irrefl _ (I.xlt e)
theorem Ste.push (I:Inv w K g s) (o:Obj) {k:Nat} (hk:s.toks≤k):Ste w K g s g { s with heap:=s.heap.push o,toks:=k } [] :=
 Ste.grow I (fun _ _ e=>Heap.get?_push_of_some o e) (by rw [Heap.size_push]; exact Nat.le_succ _) hk
theorem Post.tup {vs:Array Value} {ds:List D} (I:Inv w K g s) (h:Post w K g s (.tup ds) Q) (hr:RepL w g s.heap vs.toList ds) (hs:vs.size≤65536) :
  Q (.ref s.heap.objs.size) { s with heap:=s.heap.push { cls:=.type "tuple",data:=.seq vs } } :=
 have S:=Ste.push I { cls:=.type "tuple",data:=.seq vs } (Nat.le_refl s.toks)
 h g _ _ S (.tup I.notX ⟨0,push_new⟩ hs (hr.le (S.le I)))
theorem Post.lst {vs:Array Value} {ds:List D} (I:Inv w K g s) (h:Post w K g s (.lst ds) Q) (hr:RepL w g s.heap vs.toList ds) (hs:vs.size≤65536) :
  Q (.ref s.heap.objs.size) { s with heap:=s.heap.push { cls:=.type "list",data:=.seq vs } } :=
 have S:=Ste.push I { cls:=.type "list",data:=.seq vs } (Nat.le_refl s.toks)
 h g _ _ S (.lst I.notX ⟨0,push_new⟩ hs (hr.le (S.le I)))
theorem okI_bits {a:Int} (h:okI a=true):Builtin.Int.intBits a≤64:=by
 unfold okI at h
 simp only [Bool.and_eq_true,decide_eq_true_eq] at h
 exact intBits_le_64 (by omega) (by omega)
theorem okI_mul {a b:Int} (h:(okI a || okI b)=true):IntMulOk a b:=by
 rcases Bool.or_eq_true_iff.mp h with h | h
 ·exact IntMulOk.of_left (okI_bits h)
 ·exact IntMulOk.of_right (okI_bits h)
theorem okI_div {a b:Int} (h:okI b=true):¬ Builtin.divisionGoesByPylong a b=true:=by
 unfold okI at h
 simp only [Bool.and_eq_true,decide_eq_true_eq] at h
 unfold Builtin.divisionGoesByPylong
 have:b.natAbs.log2≤64:=by
  by_cases hb:b.natAbs=0
  ·rw [hb]; decide
  ·have:b.natAbs < 2 ^ 64:=by omega
   have:=(Nat.log2_lt hb).mpr this
   omega
 simp only [Bool.and_eq_true,decide_eq_true_eq,not_and]
 intro h1
 exfalso
 split at h1 <;> omega
theorem S_append (a b:List Nat):(S a++S b:Str)=S (a++b):=by
 apply Str.ext'
 rw [Str.cps_append]
 simp
theorem S_length (a:List Nat):(S a).length=a.length:=by simp [Str.length]
theorem foldl_cat (x:Array Nat):∀ (n:Nat) (acc:Array Nat),((List.replicate n x).foldl (·++·) acc).toList=acc.toList++(List.replicate n x.toList).flatten
 | 0,acc=>by simp
 | n+1,acc=>by rw [List.replicate_succ,List.foldl_cons,foldl_cat x n,List.replicate_succ,List.flatten_cons]; simp
theorem foldl_catV (x:Array Value):∀ (n:Nat) (acc:Array Value),((List.replicate n x).foldl (fun x1 x2=>x1++x2) acc).toList=acc.toList++(List.replicate n x.toList).flatten
 | 0,acc=>by simp
 | n+1,acc=>by rw [List.replicate_succ,List.foldl_cons,foldl_catV x n,List.replicate_succ,List.flatten_cons]; simp
theorem RepL.rep {h:Heap} {vs:List Value} {ds:List D} (r:RepL w g h vs ds):∀ n,RepL w g h (List.replicate n vs).flatten (List.replicate n ds).flatten
 | 0=>.nil
 | n+1=>by rw [List.replicate_succ,List.replicate_succ,List.flatten_cons,List.flatten_cons]; exact r.append (r.rep n)
theorem txt_mul (l:List Nat) (n:Int) (h:0≤n):Txt.mul (S l) n=S (List.replicate n.toNat l).flatten:=by
 unfold Txt.mul
 by_cases h1:n < 1
 ·rw [if_pos h1]
  have:n=0:=by omega
  subst this; rfl
 ·rw [if_neg h1]
  split
  ·rename_i hc
   rcases Bool.or_eq_true_iff.mp hc with e | e
   ·have:n=1:=by simpa using e
    subst this; simp
   ·rw [S_length] at e
    have:l=[]:=by simpa using e
    subst this
    apply Str.ext'
    simp
  ·apply Str.ext'
   apply Array.toList_inj.mp
   rw [foldl_cat]; simp
theorem SB.post_add' {x y:Str} {t u:Tok} (hsz:x.length+y.length≤sizeLine) (h:∀ t' k,s.toks≤k→Q (.str (x++y) t') { s with toks:=k }) :
  (if x.length == 0 then Made.val (.str y u) else if y.length == 0 then Made.val (.str x t) else Made.str (x++y)).post Q s:=by
 by_cases hx:(x.length == 0)=true
 ·rw [if_pos hx]; have h':=h u s.toks (Nat.le_refl _); rw [Str.append_left_empty hx] at h'; exact h'
 ·rw [if_neg hx]
  by_cases hy:(y.length == 0)=true
  ·rw [if_pos hy]; have h':=h t s.toks (Nat.le_refl _); rw [Str.append_right_empty hy] at h'; exact h'
  ·rw [if_neg hy]; exact ⟨by rw [Str.length_append]; exact hsz,h _ _ (Nat.le_succ _)⟩
theorem pow_ok {x y:Int} {t u:Tok} (h2:2≤x) (ho:okI x=true) (h0:0≤y) (h64:y < 64) (h:Q (.int (x ^ y.toNat) s.toks) { s with toks:=s.toks+1 }) :
  wpAny (model pw w) A (binaryOp .Pow (.int x t) (.int y u)) Q E s:=by
 by_cases hy:(y == 0)=true
 ·have:y=0:=by simpa using hy
  subst this
  exact AutoIntOps.pow_0 (by omega) (by rfl) (by have h':=h; rw [show x ^ Int.toNat 0=1 by simp] at h'; exact h')
 ·refine AutoIntOps.pow_4 (by omega) hy ?_ ?_ ?_ h
  ·simp only [Bool.or_eq_true,beq_iff_eq]; omega
  ·simp only [beq_iff_eq]; omega
  ·have hb:=okI_bits ho
   unfold Builtin.Int.intTooBig bitsLine
   simp only [gt_iff_lt,decide_eq_true_eq,Int.not_lt]
   have:((Builtin.Int.intBits x:Nat):Int)*y≤64*y:=Int.mul_le_mul_of_nonneg_right (by omega) h0
   omega
theorem str_mul_ok {l:List Nat} {n:Int} {t u:Tok} (h0:0≤n) (hn:n≤65536) (hs:l.length*n.toNat≤65536) (h:∀ t' k,Q (.str (S (List.replicate n.toNat l).flatten) t') { s with toks:=k }) :
  wpAny (model pw w) A (binaryOp .Mult (.str (S l) t) (.int n u)) Q E s:=by
 refine SB.mul ⟨by simp; omega,fun h1 _=>?_,fun _ _=>?_⟩ fun t' k=>by rw [txt_mul _ _ h0]; exact h t' k
 ·rw [S_length]
  have hl2:l.length≤65536:=by
   have:l.length*1≤l.length*n.toNat:=Nat.mul_le_mul_left _ (by omega)
   omega
  have:(65536:Int)≤(2 ^ 63 - 1) / n:=by
   apply (Int.le_ediv_iff_mul_le (by omega)).mpr
   omega
  omega
 ·rw [S_length]
  simp [PySem.Builtin.Str.tooLong,sizeLine]; omega
theorem list_mul_ok {a:Addr} {vs:Array Value} {ds:List D} {n:Int} {u:Tok} (I:Inv w K g s) (ho:PL s.heap a vs) (hr:RepL w g s.heap vs.toList ds) (h0:0≤n) (hn:n≤65536) (hs:ds.length*n.toNat≤65536)
  (h:Post w K g s (.lst (List.replicate n.toNat ds).flatten) Q):wpAny (model pw w) A (binaryOp .Mult (.ref a) (.int n u)) Q E s:=by
 obtain ⟨k,ho⟩:=ho
 have l1:=hr.length
 rw [Array.length_toList] at l1
 have hsz:vs.size*n.toNat≤65536:=by rw [l1]; exact hs
 refine wpAny_binaryOp_repeat_ref (T:="list") (U:="int") (by decide) ⟨_,ho,rfl⟩ (fun s'=>typeIs_int s' n u) noFill_list_mul F.fills_int_mul F.slot_int_rmul repeat_list F.slot_int_index.lookup
  (call_meets F.slot_int_rmul (typeIs_int s n u) F.entry_int_rmul (F.args_int_rmul_2 _ _) (lm_int_rmul_list_any n u a vs k none #[])
   ⟨ho,rfl,⟨_,ho,rfl⟩,call_meets F.slot_list_mul ⟨_,ho,rfl⟩ F.entry_list_mul (F.args_list_mul_2 _ _)
    (lm_list_mul_any a vs k none #[] n u (by simp [Builtin.List.listFitsIndex]; omega) (by omega) (by simp [Builtin.List.listTooLong,sizeLine]; omega))
    ⟨ho,?_⟩⟩)
 have e:(List.foldl (fun x1 x2=>x1++x2) #[] (List.replicate (if vs.isEmpty=true then 0 else n.toNat) vs)).toList=(List.replicate n.toNat vs.toList).flatten:=by
  by_cases he:vs.isEmpty=true
  ·rw [if_pos he]
   have:vs=#[]:=by simpa using he
   subst this; simp
  ·rw [if_neg he,foldl_catV]; simp
 refine Post.lst I h ?_ ?_
 ·rw [e]; exact hr.rep _
 ·rw [← Array.length_toList,e]; simp; rw [Nat.mul_comm]; omega
theorem Post.of {c d:D} (e:some d=some c) (h:Post w K g s c Q):Post w K g s d Q:=by cases e; exact h
section
variable {a b c:D} {va vb:Value} (I:Inv w K g s) (ha:Rep w g s.heap va a) (hb:Rep w g s.heap vb b) (h:Post w K g s c Q)
include I ha hb h
theorem add_sound (e:addD a b=some c):wpAny (model pw w) A (binaryOp .Add va vb) Q E s:=by
 cases a with
 | int a =>
  obtain ⟨b,rfl,e⟩:=onI_i e
  obtain ⟨t,rfl⟩:=ha.int_inv; obtain ⟨u,rfl⟩:=hb.int_inv
  exact AutoIntOps.add_0 (Post.int I (h.of e))
 | flt a =>
  obtain ⟨t,rfl,_⟩:=ha.flt_inv
  rcases onN_i e with ⟨b,rfl,q⟩ | ⟨b,rfl,q⟩
  ·rw [FM.ofI_eq] at q
   obtain ⟨hk,q⟩:=if_n q
   obtain ⟨u,rfl⟩:=hb.int_inv
   exact AutoFloatOpsIf.add_fi (by rw [if_neg hk]; exact Post.flt I (h.of (fD_ q (FM.add_eq _ _))))
  ·obtain ⟨u,rfl,_⟩:=hb.flt_inv
   exact AutoFloatOps.add_0 (Post.flt I (h.of (fD_ q (FM.add_eq _ _))))
 | str a =>
  obtain ⟨b,rfl,e⟩:=onS_i e
  obtain ⟨hk,e⟩:=if_s e
  obtain ⟨t,rfl⟩:=ha.str_inv; obtain ⟨u,rfl⟩:=hb.str_inv
  refine P.add_str (SB.post_add' (by rw [S_length,S_length]; exact Nat.le_trans (of_decide_eq_true hk) (by decide)) (fun t' k hk'=>?_))
  rw [S_append]; exact Post.strAt I (h.of e) t' k hk'
 | lst a =>
  obtain ⟨b,rfl,e⟩:=onL_i e
  obtain ⟨hk,e⟩:=if_s e
  obtain ⟨_,vs,rfl,_,⟨n,ho⟩,_,hr⟩:=ha.lst_inv
  obtain ⟨_,us,rfl,_,⟨n',ho'⟩,_,hr'⟩:=hb.lst_inv
  have hk:vs.size+us.size≤65536:=by rw [← Array.length_toList,← Array.length_toList,hr.length,hr'.length]; exact of_decide_eq_true hk
  exact P.add_list ho ho' (Post.lst I (h.of e) (by rw [Array.toList_append]; exact hr.append hr') (by rw [Array.size_append]; exact hk)) (by rw [sizeLine_eq]; exact Nat.le_trans hk (by decide))
 | tup a =>
  obtain ⟨b,rfl,e⟩:=onT_i e
  obtain ⟨hk,e⟩:=if_s e
  obtain ⟨_,vs,rfl,_,⟨n,ho⟩,_,hr⟩:=ha.tup_inv
  obtain ⟨_,us,rfl,_,⟨n',ho'⟩,_,hr'⟩:=hb.tup_inv
  simp only [Bool.and_eq_true,Bool.not_eq_true'] at hk
  have hl:vs.size+us.size≤65536:=by rw [← Array.length_toList,← Array.length_toList,hr.length,hr'.length]; exact of_decide_eq_true hk.2
  have ne:∀ {xs:Array Value} {ds:List D},RepL w g s.heap xs.toList ds→ds.isEmpty=false→¬ (xs.size == 0)=true:=fun {xs ds} r h q=>by
   have:=r.length
   rw [Array.length_toList,eq_of_beq q] at this
   rw [List.length_eq_zero_iff.mp this.symm] at h; cases h
  exact P.add_tuple ho ho' (ne hr hk.1.1) (ne hr' hk.1.2) (Post.tup I (h.of e) (by rw [Array.toList_append]; exact hr.append hr') (by rw [Array.size_append]; exact hl)) (by rw [sizeLine_eq]; exact Nat.le_trans hl (by decide))
 | _=>cases e
theorem subt_sound (e:subtD a b=some c):wpAny (model pw w) A (binaryOp .Sub va vb) Q E s:=by
 cases a with
 | int a =>
  obtain ⟨t,rfl⟩:=ha.int_inv
  rcases onN_i e with ⟨b,rfl,q⟩ | ⟨b,rfl,q⟩
  ·obtain ⟨u,rfl⟩:=hb.int_inv
   exact AutoIntOps.sub_0 (Post.int I (h.of q))
  ·rw [FM.ofI_eq] at q
   obtain ⟨hk,q⟩:=if_n q
   obtain ⟨u,rfl,_⟩:=hb.flt_inv
   exact AutoFloatOpsIf.sub_if (by rw [if_neg hk]; exact Post.flt I (h.of (fD_ q (FM.sb_eq _ _))))
 | flt a =>
  obtain ⟨t,rfl,_⟩:=ha.flt_inv
  rcases onN_i e with ⟨b,rfl,q⟩ | ⟨b,rfl,q⟩
  ·rw [FM.ofI_eq] at q
   obtain ⟨hk,q⟩:=if_n q
   obtain ⟨u,rfl⟩:=hb.int_inv
   exact AutoFloatOpsIf.sub_fi (by rw [if_neg hk]; exact Post.flt I (h.of (fD_ q (FM.sb_eq _ _))))
  ·obtain ⟨u,rfl,_⟩:=hb.flt_inv
   exact AutoFloatOps.sub_0 (Post.flt I (h.of (fD_ q (FM.sb_eq _ _))))
 | bool a =>
  obtain ⟨b,rfl,e⟩:=onB_i e
  cases ha.bool_inv; cases hb.bool_inv
  exact PyProof.Rows.sub_bool (Post.int I (h.of e))
 | _=>cases e
theorem mul_sound (e:mulD a b=some c):wpAny (model pw w) A (binaryOp .Mult va vb) Q E s:=by
 cases a with
 | int a =>
  obtain ⟨t,rfl⟩:=ha.int_inv
  rcases onN_i e with ⟨b,rfl,q⟩ | ⟨b,rfl,q⟩
  ·obtain ⟨hk,q⟩:=if_s q
   obtain ⟨u,rfl⟩:=hb.int_inv
   exact AutoIntOps.mul_0 (Post.int I (h.of q)) (okI_mul hk)
  ·rw [FM.ofI_eq] at q
   obtain ⟨hk,q⟩:=if_n q
   obtain ⟨u,rfl,_⟩:=hb.flt_inv
   exact AutoFloatOpsIf.mul_if (by rw [if_neg hk]; exact Post.flt I (h.of (fD_ q (FM.mul_eq _ _))))
 | flt a =>
  obtain ⟨t,rfl,_⟩:=ha.flt_inv
  rcases onN_i e with ⟨b,rfl,q⟩ | ⟨b,rfl,q⟩
  ·rw [FM.ofI_eq] at q
   obtain ⟨hk,q⟩:=if_n q
   obtain ⟨u,rfl⟩:=hb.int_inv
   exact AutoFloatOpsIf.mul_fi (by rw [if_neg hk]; exact Post.flt I (h.of (fD_ q (FM.mul_eq _ _))))
  ·obtain ⟨u,rfl,_⟩:=hb.flt_inv
   exact AutoFloatOps.mul_0 (Post.flt I (h.of (fD_ q (FM.mul_eq _ _))))
 | str a =>
  obtain ⟨b,rfl,e⟩:=onI_i e
  obtain ⟨hk,e⟩:=if_s e
  obtain ⟨t,rfl⟩:=ha.str_inv; obtain ⟨u,rfl⟩:=hb.int_inv
  simp only [Bool.and_eq_true,decide_eq_true_eq] at hk
  exact wpAny_with_toks (Nat.le_refl _) (str_mul_ok hk.1.1 hk.1.2 hk.2 fun t' k hk'=>Post.strAt I (h.of e) t' k hk')
 | lst a =>
  obtain ⟨b,rfl,e⟩:=onI_i e
  obtain ⟨hk,e⟩:=if_s e
  obtain ⟨_,vs,rfl,_,ho,_,hr⟩:=ha.lst_inv
  obtain ⟨u,rfl⟩:=hb.int_inv
  simp only [Bool.and_eq_true,decide_eq_true_eq] at hk
  exact list_mul_ok I ho hr hk.1.1 hk.1.2 hk.2 (h.of e)
 | _=>cases e
theorem bin_sound {o:Operator} (e:binD o a b=some c):wpAny (model pw w) A (binaryOp o va vb) Q E s:=by
 cases o with
 | Add=>exact add_sound I ha hb h e
 | Sub=>exact subt_sound I ha hb h e
 | Mult=>exact mul_sound I ha hb h e
 | Div=>cases a with
  | int a =>
   obtain ⟨b,rfl,q⟩:=onI_i e
   rw [FM.ofFr_eq] at q
   obtain ⟨hk,e⟩:=if_n q
   obtain ⟨t,rfl⟩:=ha.int_inv; obtain ⟨u,rfl⟩:=hb.int_inv
   rw [Bool.or_eq_true,not_or] at hk
   exact AutoIntOps.truediv_2 hk.1 hk.2 (Post.flt I (h.of (fD_ e rfl)))
  | flt a =>
   obtain ⟨t,rfl,_⟩:=ha.flt_inv
   rcases onN_i e with ⟨b,rfl,q⟩ | ⟨b,rfl,q⟩
   ·rw [FM.ofI_eq,FM.isZ_eq] at q
    obtain ⟨hk,q⟩:=if_n q
    obtain ⟨u,rfl⟩:=hb.int_inv
    rw [Bool.or_eq_true,not_or] at hk
    exact AutoFloatOpsIf.truediv_fi (by rw [if_neg hk.1,if_neg hk.2]; exact Post.flt I (h.of (fD_ q (FM.div_eq _ _))))
   ·rw [FM.isZ_eq] at q
    obtain ⟨hk,q⟩:=if_n q
    obtain ⟨u,rfl,_⟩:=hb.flt_inv
    exact AutoFloatOps.truediv_1 hk (Post.flt I (h.of (fD_ q (FM.div_eq _ _))))
  | _=>cases e
 | Mod=>cases a with
  | int a =>
   obtain ⟨b,rfl,e⟩:=onI_i e
   obtain ⟨hk,e⟩:=if_n e
   obtain ⟨t,rfl⟩:=ha.int_inv; obtain ⟨u,rfl⟩:=hb.int_inv
   exact AutoIntOps.mod_1 hk (Post.int I (h.of e))
  | flt a =>
   obtain ⟨b,rfl,q⟩:=onF_i e
   rw [FM.isZ_eq] at q
   obtain ⟨hk,e⟩:=if_n q
   obtain ⟨t,rfl,_⟩:=ha.flt_inv; obtain ⟨u,rfl,_⟩:=hb.flt_inv
   exact AutoFloatOps.mod_1 hk (Post.flt I (h.of (fD_ e (FM.md_eq _ _))))
  | _=>cases e
 | FloorDiv =>
  obtain ⟨a,rfl,e⟩:=onI_i (d:=a) e
  obtain ⟨b,rfl,e⟩:=onI_i (d:=b) e
  obtain ⟨hk,e⟩:=if_n e
  obtain ⟨t,rfl⟩:=ha.int_inv; obtain ⟨u,rfl⟩:=hb.int_inv
  simp only [Bool.or_eq_true,not_or,Bool.not_eq_true',Bool.not_eq_false] at hk
  exact AutoIntOps.floordiv_1 hk.1 (okI_div hk.2) (Post.int I (h.of e))
 | Pow =>
  obtain ⟨a,rfl,e⟩:=onI_i (d:=a) e
  obtain ⟨b,rfl,e⟩:=onI_i (d:=b) e
  obtain ⟨hk,e⟩:=if_s e
  obtain ⟨t,rfl⟩:=ha.int_inv; obtain ⟨u,rfl⟩:=hb.int_inv
  simp only [Bool.and_eq_true,decide_eq_true_eq] at hk
  exact pow_ok hk.1.1.1 hk.1.1.2 hk.1.2 hk.2 (Post.int I (h.of e))
 | _=>cases e
end
end
section
variable {w:World} {K:Frag} {g:G} {s:Shared} {A:Around} {E:Value→Shared→Prop} {Q:Value→Shared→Prop}
structure Kit (K:Frag):Prop where
 nolimit:∀ h:Heap,K.In h→h.NoLimit
 share:∀ h:Heap,K.In h→∃ mc,h.Ns cStatics mc∧mc sharingNotToldKey=none
theorem cmp_self {x:UInt64} (h:Float64.isNaN x=false):Float64.cmp x x=some .eq:=by
 unfold Float64.isNaN at h
 unfold Float64.cmp
 split at h
 ·cases h
 ·rename_i hn
  cases hd:Float64.decode x with
  | nan=>exact absurd hd hn
  | inf a=>simp only [Std.ReflCmp.compare_self]
  | fin a m e =>
   simp only [Float64.align]
   simp
theorem eqAt_flt (kit:Kit K) (I:Inv w K g s) {x y:UInt64} {t u:Tok} (ht:t ≠ 0) (hu:u ≠ 0) (fx:g.fl t=some x) (fy:g.fl u=some y) (nx:Float64.isNaN x=false) (ny:Float64.isNaN y=false) :
  SeqAt.EqAt A s (.float x t) (.float y u) (Float64.cmp x y == some .eq):=fun prog w' E Q h=>by
 obtain ⟨mc,hns,hno⟩:=kit.share _ I.kin
 unfold eqBool
 refine wpAny_holding ?_
 have key:x=y→Float64.cmp x y == some Ordering.eq:=fun e=>by rw [← e,cmp_self nx]; rfl
 refine wpAny_ite_split (fun hab=>?_) (fun _=>?_)
 ·have e:=eq_of_beq hab
  injection e with e1 e2
  have k:=key e1
  rw [k] at h
  exact wpAny_bind (wpAny_rule (wpAny_pure h))
 ·show wpAny _ _ (isSame (.float x t) (.float y u) >>= _) _ _ _
  refine wpAny_bind ?_
  have rest:wpAny (model prog w') A (richCompare .Eq (.float x t) (.float y u) >>= fun r=>truthOfDropped r) Q E s :=
   wpAny_bind (AutoFloatOps.eq_0 (a:=x) (b:=y) (wpAny_truthy_bool h))
  show wpAny _ _ (isSame.created (x == y&&!Float64.isNaN x) t u) _ _ _
  unfold isSame.created
  refine wpAny_ite_false (by simp [ht,hu]) ?_
  refine wpAny_ite_split (fun htu=>?_) (fun htu=>?_)
  ·have htu:=eq_of_beq htu
   subst htu
   rw [fx] at fy
   have k:=key (Option.some.inj fy)
   rw [k] at h
   exact wpAny_pure (by simpa using wpAny_pure h)
  ·refine wpAny_ite_split (fun _=>?_) (fun hc=>?_)
   ·exact wpAny_pure (by simpa using rest)
   ·have hxy:x=y:=by
     simp only [Bool.not_eq_true,Bool.not_eq_false',Bool.and_eq_true,beq_iff_eq] at hc
     exact hc.1
    have nt:∀ (t:Tok) {α:Type} {f:Bool→Sem α} {Q':α→Shared→Prop},wpAny (model prog w') A (f false) Q' E s→wpAny (model prog w') A (sharingNotTold t >>= f) Q' E s:=fun t α f Q' hf=>by
     unfold sharingNotTold
     refine wpAny_bind (wpAny_bind (wpAny_nsGet hns ?_))
     rw [hno]
     exact wpAny_pure hf
    refine nt t ?_
    refine wpAny_ite_false (by simp) ?_
    refine nt u ?_
    refine wpAny_ite_false (by simp) ?_
    refine wpAny_bind (wpAny_rule (wpAny_bind (wpAny_askSetting ?_)))
    refine wpAny_pure ?_
    have k:=key hxy
    split
    ·rw [k] at h; exact wpAny_pure h
    ·exact rest
end
section
variable {w:World} {K:Frag} {g:G} {s:Shared} {A:Around} {E:Value→Shared→Prop} {Q:Value→Shared→Prop}
theorem S_inj {a b:List Nat} (h:S a=S b):a=b:=by
 have:=congrArg (fun x:Str=>x.cps.toList) h
 simpa using this
theorem S_beq (a b:List Nat):(S a == S b)=(a == b):=by
 by_cases h:a=b
 ·subst h; simp
 ·have:¬ S a=S b:=fun e=>h (S_inj e)
  rw [beq_eq_false_iff_ne.mpr this,beq_eq_false_iff_ne.mpr h]
theorem mapS_inj {a b:List (List Nat)} (h:a.map S=b.map S):a=b:=List.map_inj_right (fun _ _=>S_inj) |>.mp h
theorem lookK_cons {α:Type} [DecidableEq α] (k x:α) (xs:List α) (d:D) (ds:List D):lookK k (x::xs) (d::ds)=if x=k then some d else lookK k xs ds:=rfl
theorem valueAt_cons {α:Type} [DecidableEq α] (k x:α) (v:Value) (l:List (α × Value)):valueAt ((x,v)::l) k=if x=k then some v else valueAt l k:=by
 unfold valueAt
 rw [List.find?_cons]
 by_cases h:x=k
 ·rw [if_pos h,decide_eq_true h]; rfl
 ·rw [if_neg h,decide_eq_false h]
theorem valueAt_rep {α:Type} [DecidableEq α] {h:Heap} {k:α} {d:D}:∀ {kvs:List (α × Value)} {vs:List D},RepL w g h (kvs.map (·.2)) vs→lookK k (kvs.map (·.1)) vs=some d→∃ v,valueAt kvs k=some v∧Rep w g h v d:=by
 intro kvs
 induction kvs with
 | nil=>intro vs r e; cases e
 | cons p kvs ih =>
  intro vs r e
  obtain ⟨x,v⟩:=p
  cases vs with
  | nil=>cases e
  | cons y ys =>
   obtain ⟨_,_,q,r1,r2⟩:=r.cons_i
   cases q
   rw [List.map_cons,lookK_cons] at e
   rw [valueAt_cons]
   by_cases hk:x=k
   ·rw [if_pos hk] at e ⊢; exact ⟨v,rfl,Option.some.inj e ▸ r1⟩
   ·rw [if_neg hk] at e ⊢; exact ih r2 e
theorem lookK_map {k:List Nat}:∀ {ks:List (List Nat)} {vs:List D},lookK (S k) (ks.map S) vs=lookK k ks vs:=by
 intro ks
 induction ks with
 | nil=>intro vs; rfl
 | cons x ks ih =>
  intro vs
  cases vs with
  | nil=>rfl
  | cons y ys =>
   rw [List.map_cons,lookK_cons,lookK_cons,ih]
   by_cases h:x=k
   ·rw [if_pos h,if_pos (by rw [h])]
   ·rw [if_neg h,if_neg fun q=>h (S_inj q)]
theorem lookK_rep {h:Heap} {kvs:List (Str × Value)} {ks:List (List Nat)} {vs:List D} (e:kvs.map (·.1)=ks.map S) (r:RepL w g h (kvs.map (·.2)) vs) {k:List Nat} {d:D} (hd:lookK k ks vs=some d):∃ v,valueAt kvs (S k)=some v∧Rep w g h v d :=
 valueAt_rep r (by rw [e,lookK_map]; exact hd)
theorem pairs_det {knd:KeyKind pw w Str} {es:List DictEntry}:∀ {ka kb:List (Str × Value)},Pairs knd es ka→Pairs knd es kb→ka=kb:=by
 induction es with
 | nil=>intro ka kb x y; cases x; cases y; rfl
 | cons e es ih =>
  intro ka kb x y
  cases x with
  | cons a1 a2 a3=>cases y with
   | cons b1 b2 b3=>rw [ih a3 b3,Prod.ext (knd.inj _ _ _ a1 b1) (a2.symm.trans b2)]
theorem dictOf_det {knd:KeyKind pw w Str} {h:Heap} {a:Addr} {ka kb:List (Str × Value)} (x:h.DictOf knd a ka) (y:h.DictOf knd a kb):ka=kb:=by
 obtain ⟨o,es,ep,e1,_,e2,_,p,_⟩:=x
 obtain ⟨o',es',ep',f1,_,f2,_,q,_⟩:=y
 rw [e1] at f1; cases f1
 rw [e2] at f2; cases f2
 exact pairs_det p q
theorem lookK_at {α:Type} [DecidableEq α] {k:α} {d:D}:∀ {ks:List α} {vs:List D} (i:Nat),ks.Nodup→ks[i]?=some k→vs[i]?=some d→lookK k ks vs=some d:=by
 intro ks
 induction ks with
 | nil=>intro vs i _ e; cases e
 | cons x ks ih =>
  intro vs i n e e'
  cases vs with
  | nil=>cases e'
  | cons y vs =>
   rw [List.nodup_cons] at n
   rw [lookK_cons]
   cases i with
   | zero=>rw [if_pos (Option.some.inj e)]; exact e'
   | succ i=>rw [if_neg fun q:x=k=>n.1 (q ▸ List.mem_of_getElem? e)]; exact ih i n.2 e e'
theorem eqLf_cons {f:D→D→Option Bool} {a b:D} {as bs:List D} {r:Bool} (h:eqLf f (a::as) (b::bs)=some r):∃ x y,f a b=some x∧eqLf f as bs=some y∧(x&&y)=r:=by
 obtain ⟨x,hx,h⟩:=b1o (f:=fun x=>(eqLf f as bs).bind fun y=>some (x&&y)) h
 obtain ⟨y,hy,h⟩:=b1o h
 exact ⟨x,y,hx,hy,Option.some.inj h⟩
theorem refl_list {f:D→D→Option Bool} {h:Heap} (hf:∀ v d d' r,f d d'=some r→Rep w g h v d→Rep w g h v d'→r=true) {vs:List Value} {ds:List D} (x:RepL w g h vs ds) :
  ∀ (ds':List D) (r:Bool),eqLf f ds ds'=some r→RepL w g h vs ds'→r=true :=
 RepL.ind (P:=fun vs ds=>∀ (ds':List D) (r:Bool),eqLf f ds ds'=some r→RepL w g h vs ds'→r=true) (fun ds' r e y=>by
   cases ds' with
   | nil=>exact (Option.some.inj e).symm
   | cons=>have:=y.length; cases this) (fun v d vs ds a b ih ds' r e y=>by
   cases ds' with
   | nil=>have:=y.length; cases this
   | cons d' ds' =>
    obtain ⟨_,_,q,a',b'⟩:=y.cons_i
    cases q
    obtain ⟨p,q,h1,h2,rfl⟩:=eqLf_cons e
    rw [hf _ _ _ _ h1 a a',ih _ _ h2 b']; rfl) x
theorem eqKf_cons {f:D→D→Option Bool} {k:List Nat} {ks:List (List Nat)} {v:D} {vs:List D} {KS:List (List Nat)} {VS:List D} {r:Bool} (h:eqKf f (k::ks) (v::vs) KS VS=some r) :
  ∃ v' x y,lookK k KS VS=some v'∧f v v'=some x∧eqKf f ks vs KS VS=some y∧(x&&y)=r:=by
 obtain ⟨v',hv,h⟩:=b1o (f:=fun v'=>(f v v').bind fun x=>(eqKf f ks vs KS VS).bind fun y=>some (x&&y)) h
 obtain ⟨x,hx,h⟩:=b1o h
 obtain ⟨y,hy,h⟩:=b1o h
 exact ⟨v',x,y,hv,hx,hy,Option.some.inj h⟩
theorem drop_some {α:Type} {l r:List α} {x:α} {i:Nat} (h:l.drop i=x::r):l[i]?=some x∧l.drop (i+1)=r:=by
 have h0:(l.drop i)[0]?=some x:=by rw [h]; rfl
 rw [List.getElem?_drop] at h0
 refine ⟨h0,?_⟩
 rw [← List.drop_drop,h]; rfl
theorem refl_dct {f:D→D→Option Bool} {h:Heap} (hf:∀ v d d' r,f d d'=some r→Rep w g h v d→Rep w g h v d'→r=true) {KS:List (List Nat)} {VS:List D} (hn:KS.Nodup) {us:List Value} {vs:List D} (x:RepL w g h us vs) :
  ∀ (ks:List (List Nat)) (r:Bool) (i:Nat),eqKf f ks vs KS VS=some r→KS.drop i=ks→RepL w g h us (VS.drop i)→r=true :=
 RepL.ind (P:=fun us vs=>∀ (ks:List (List Nat)) (r:Bool) (i:Nat),eqKf f ks vs KS VS=some r→KS.drop i=ks→RepL w g h us (VS.drop i)→r=true) (fun ks r i e _ _=>by
   cases ks with
   | nil=>exact (Option.some.inj e).symm
   | cons=>cases e) (fun v d us vs a b ih ks r i e hk hv=>by
   cases ks with
   | nil=>cases e
   | cons k ks =>
    obtain ⟨v',p,q,h1,h2,h3,rfl⟩:=eqKf_cons e
    obtain ⟨k1,k2⟩:=drop_some hk
    cases hq:VS.drop i with
    | nil=>rw [hq] at hv; have:=hv.length; cases this
    | cons d' vs' =>
     rw [hq] at hv
     obtain ⟨_,_,z,a',b'⟩:=hv.cons_i
     cases z
     obtain ⟨q1,q2⟩:=drop_some hq
     have:=Option.some.inj (h1.symm.trans (lookK_at i hn k1 q1))
     subst this
     rw [hf _ _ _ _ h2 a a',ih ks _ (i+1) h3 k2 (q2 ▸ b')]; rfl) x
theorem nodup_of_map {α β:Type} (f:α→β) {l:List α} (h:(l.map f).Nodup):l.Nodup:=by
 induction l with
 | nil=>exact .nil
 | cons x l ih =>
  rw [List.map_cons,List.nodup_cons] at h
  exact List.nodup_cons.mpr ⟨fun q=>h.1 (List.mem_map_of_mem q),ih h.2⟩
theorem nodup_keys {h:Heap} {a:Addr} {kvs:List (Str × Value)} {ks:List (List Nat)} (x:h.DictOf (strKind pw w) a kvs) (e:kvs.map (·.1)=ks.map S):ks.Nodup:=by
 obtain ⟨_,_,_,_,_,_,_,_,n⟩:=x
 exact nodup_of_map S (e ▸ n)
theorem refl_flat {h:Heap} {v:Value} {d d':D} {r:Bool} (e:eqF d d'=some r) (x:Rep w g h v d) (y:Rep w g h v d'):r=true:=by
 cases d with
 | bool a =>
  obtain ⟨b,rfl,e⟩:=onB_i e
  cases x.bool_inv; cases y.bool_inv
  rw [← Option.some.inj e,beq_self_eq_true]
 | int a =>
  obtain ⟨b,rfl,e⟩:=onI_i e
  obtain ⟨t,rfl⟩:=x.int_inv
  obtain ⟨u,h⟩:=y.int_inv
  cases h
  rw [← Option.some.inj e,beq_self_eq_true]
 | str a =>
  obtain ⟨b,rfl,e⟩:=onS_i e
  obtain ⟨t,rfl⟩:=x.str_inv
  obtain ⟨u,h⟩:=y.str_inv
  rw [← Option.some.inj e,S_inj (Value.str.inj h).1,beq_self_eq_true]
 | flt a =>
  obtain ⟨t,rfl,_⟩:=x.flt_inv
  rcases onN_i e with ⟨b,rfl,e⟩ | ⟨b,rfl,e⟩
  ·obtain ⟨u,h⟩:=y.int_inv; cases h
  ·obtain ⟨u,h,_⟩:=y.flt_inv
   cases h
   obtain ⟨hc,e⟩:=if_n e
   rw [FM.isN_eq,Bool.or_self,Bool.not_eq_true] at hc
   rw [← Option.some.inj e,FM.cmp_eq,cmp_self hc]; rfl
 | _=>cases e
theorem refl_eq {h:Heap} (n:Nat):∀ (v:Value) (d d':D) (r:Bool),eqD n d d'=some r→Rep w g h v d→Rep w g h v d'→r=true:=by
 induction n with
 | zero=>exact fun v d d' r e x y=>refl_flat e x y
 | succ n ih =>
  intro v d d' r e x y
  cases d with
  | tup a =>
   obtain ⟨b,rfl,e⟩:=onT_i e
   obtain ⟨a,vs,rfl,_,⟨k,ho⟩,_,hr⟩:=x.tup_inv
   obtain ⟨a',vs',e2,_,⟨k',ho'⟩,_,hr'⟩:=y.tup_inv
   cases e2; cases ho.symm.trans ho'
   exact refl_list ih hr _ _ e hr'
  | lst a =>
   obtain ⟨b,rfl,e⟩:=onL_i e
   obtain ⟨a,vs,rfl,_,⟨k,ho⟩,_,hr⟩:=x.lst_inv
   obtain ⟨a',vs',e2,_,⟨k',ho'⟩,_,hr'⟩:=y.lst_inv
   cases e2; cases ho.symm.trans ho'
   exact refl_list ih hr _ _ e hr'
  | _=>refine refl_flat ?_ x y; exact e
theorem eqLf_min {f:D→D→Option Bool}:∀ {as bs:List D} {r:Bool},eqLf f as bs=some r →
  ∃ e:Nat→Bool,(∀ (i:Nat) (a b:D),as[i]?=some a→bs[i]?=some b→f a b=some (e i))∧r=((List.range (min as.length bs.length)).all e&&as.length == bs.length):=by
 intro as
 induction as with
 | nil=>intro bs r h; cases bs <;> exact ⟨fun _=>true,(fun i a b h=>nomatch h),(Option.some.inj h).symm⟩
 | cons a as ih =>
  intro bs r h
  cases bs with
  | nil=>exact ⟨fun _=>true,(fun i a b _ h=>nomatch h),(Option.some.inj h).symm⟩
  | cons b bs =>
   obtain ⟨x,y,hx,hy,rfl⟩:=eqLf_cons h
   obtain ⟨e,he,rfl⟩:=ih hy
   refine ⟨fun i=>Nat.casesOn i x e,fun i p q hp hq=>?_,?_⟩
   ·cases i with
    | zero=>cases hp; cases hq; exact hx
    | succ i=>exact he i p q hp hq
   ·rw [List.length_cons,List.length_cons,Nat.add_min_add_right,List.range_succ_eq_map,List.all_cons,List.all_map,← Bool.and_assoc]
    congr 1
    simp
theorem eqLf_get {f:D→D→Option Bool} {as bs:List D} {r:Bool} (h:eqLf f as bs=some r) (hl:as.length=bs.length) :
  ∃ e:Nat→Bool,(∀ (i:Nat) (a b:D),as[i]?=some a→bs[i]?=some b→f a b=some (e i))∧r=(List.range as.length).all e:=by
 obtain ⟨e,he,hr⟩:=eqLf_min h
 refine ⟨e,he,?_⟩
 rw [hr,← hl,Nat.min_self,beq_self_eq_true,Bool.and_true]
noncomputable def EqAll (A:Around) (s:Shared) (x y:Value) (r:Bool):Prop:=SeqAt.EqAt A s x y r∧SeqAt.RcAt A s x y r∧SeqAt.RcNeAt A s x y (!r)
theorem hits_of {f:D→D→Option Bool} {kb:List (Str × Value)} {KS:List (List Nat)} {VS:List D} (hkb:kb.map (·.1)=KS.map S) (hrb:RepL w g s.heap (kb.map (·.2)) VS)
  (hf:∀ v v' d d' r,f d d'=some r→Rep w g s.heap v d→Rep w g s.heap v' d'→SeqAt.EqAt A s v v' r) :
  ∀ {ka:List (Str × Value)} {ks:List (List Nat)} {vs:List D} {r:Bool},ka.map (·.1)=ks.map S→RepL w g s.heap (ka.map (·.2)) vs→eqKf f ks vs KS VS=some r→PySem.W.KeqHits A s kb ka r:=by
 intro ka
 induction ka with
 | nil =>
  intro ks vs r e rr h
  cases ks with
  | cons=>cases e
  | nil =>
   cases vs with
   | nil=>exact Option.some.inj h ▸ .nil
   | cons=>have:=rr.length; cases this
 | cons p ka ih =>
  intro ks vs r e rr h
  cases ks with
  | nil=>cases e
  | cons k' ks =>
   cases vs with
   | nil=>cases h
   | cons d ds =>
    obtain ⟨e1,e2⟩:=List.cons.inj e
    have e1:p.1=S k':=e1
    obtain ⟨_,_,q,r1,r2⟩:=rr.cons_i
    obtain ⟨q1,q2⟩:=List.cons.inj q
    subst q1 q2
    obtain ⟨v',x,y,hv,hx,hy,rfl⟩:=eqKf_cons h
    obtain ⟨u,hu,ru⟩:=lookK_rep hkb hrb hv
    exact .hit (e1.symm ▸ hu) (hf _ _ _ _ _ hx r1 ru) (ih e2 r2 hy)
theorem eqAll_refs {a b:Addr} {r:Bool} (hs:a=b→r=true) (h1:SeqAt.RcAt A s (.ref a) (.ref b) r) (h2:SeqAt.RcNeAt A s (.ref a) (.ref b) (!r)):EqAll A s (.ref a) (.ref b) r:=by
 refine ⟨?_,h1,h2⟩
 by_cases h:a=b
 ·have:=hs h
  subst h; subst this
  exact SeqAt.EqAt.same _
 ·exact SeqAt.EqAt.of_refs h h1
theorem eqAt_fi {x:UInt64} {t:Tok} {i:Int} {u:Tok}:SeqAt.EqAt A s (.float x t) (.int i u) (Float64.cmpInt x i == some .eq):=fun prog w' E Q h=>by
 unfold eqBool
 refine wpAny_holding ?_
 refine wpAny_ite_split (fun hab=>?_) (fun _=>?_)
 ·have e:=eq_of_beq hab
  cases e
 ·exact wpAny_bind (PyProof.Rows.eq_fi (wpAny_truthy_bool h))
theorem eq_flat (kit:Kit K) (I:Inv w K g s) (A:Around) {v v':Value} {d d':D} {r:Bool} (e:eqF d d'=some r) (x:Rep w g s.heap v d) (y:Rep w g s.heap v' d'):EqAll A s v v' r:=by
 cases d with
 | bool a =>
  obtain ⟨b,rfl,e⟩:=onB_i e
  cases e
  cases x.bool_inv; cases y.bool_inv
  exact ⟨SeqAt.EqAt.bool_bool a b,fun _ _ _ _ h=>PyProof.Rows.eq_bool h,fun _ _ _ _ h=>PyProof.Rows.ne_bool h⟩
 | int a =>
  obtain ⟨b,rfl,e⟩:=onI_i e
  cases e
  obtain ⟨t,rfl⟩:=x.int_inv
  obtain ⟨u,rfl⟩:=y.int_inv
  exact ⟨SeqAt.EqAt.int_int a t b u,fun _ _ _ _ h=>PyProof.Rows.eq_int h,fun _ _ _ _ h=>PyProof.Rows.ne_int h⟩
 | flt a =>
  obtain ⟨t,rfl,h1,h2⟩:=x.flt_inv
  rcases onN_i e with ⟨b,rfl,e⟩ | ⟨b,rfl,e⟩
  ·cases e
   obtain ⟨u,rfl⟩:=y.int_inv
   rw [FM.cmpI_eq]
   exact ⟨eqAt_fi,fun _ _ _ _ h=>PyProof.Rows.eq_fi h,fun _ _ _ _ h=>PyProof.Rows.ne_fi h⟩
  ·obtain ⟨hc,e⟩:=if_n e
   cases e
   rw [FM.isN_eq,FM.isN_eq,Bool.or_eq_true,not_or,Bool.not_eq_true,Bool.not_eq_true] at hc
   rw [FM.cmp_eq]
   obtain ⟨u,rfl,h3,h4⟩:=y.flt_inv
   exact ⟨eqAt_flt kit I h1 h3 h2 h4 hc.1 hc.2,fun _ _ _ _ h=>AutoFloatOps.eq_0 h,fun _ _ _ _ h=>AutoFloatOps.ne_0 h⟩
 | str a =>
  obtain ⟨b,rfl,e⟩:=onS_i e
  cases e
  obtain ⟨t,rfl⟩:=x.str_inv
  obtain ⟨u,rfl⟩:=y.str_inv
  refine ⟨?_,fun _ _ _ _ h=>P.eq_str h,fun _ _ _ _ h=>P.ne_str h⟩
  rw [← S_beq]
  exact SeqAt.EqAt.str_str (A:=A) (s:=s) (S a) t (S b) u
 | _=>cases e
theorem size_eq {h:Heap} {vs:Array Value} {ds:List D} (r:RepL w g h vs.toList ds):vs.size=ds.length:=by rw [← Array.length_toList]; exact r.length
theorem eq_sound (kit:Kit K) (I:Inv w K g s) (n:Nat):∀ (A:Around) (v v':Value) (d d':D) (r:Bool),eqD n d d'=some r→Rep w g s.heap v d→Rep w g s.heap v' d'→A.units+n < cLine→EqAll A s v v' r:=by
 induction n with
 | zero=>exact fun A v v' d d' r e x y _=>eq_flat kit I A e x y
 | succ n ih =>
  intro A v v' d d' r e x y hu
  have hu1:A.in1.units+n < cLine:=by rw [show A.in1.units=A.units+1 from rfl]; omega
  have hu2:A.units < cLine:=Nat.lt_of_le_of_lt (Nat.le_add_right ..) hu
  have items:∀ {vs us:Array Value} {as bs:List D} {q:Nat→Bool},RepL w g s.heap vs.toList as→RepL w g s.heap us.toList bs→(∀ (i:Nat) (a b:D),as[i]?=some a→bs[i]?=some b→eqD n a b=some (q i)) →
    ∀ j (h1:j < vs.size) (h2:j < us.size),SeqAt.EqAt A.in1 s vs[j] us[j] (q j):=fun {vs us as bs q} hr hr' hq j h1 h2=>by
   obtain ⟨p,hp,rp⟩:=hr.getV j vs[j] (by simp [h1])
   obtain ⟨p',hp',rp'⟩:=hr'.getV j us[j] (by simp [h2])
   exact (ih A.in1 _ _ _ _ _ (hq j p p' hp hp') rp rp' hu1).1
  have self:v'=v→r=true:=fun h=>refl_eq (n+1) v d d' r e x (h ▸ y)
  cases d with
  | tup as =>
   obtain ⟨bs,rfl,e⟩:=onT_i e
   obtain ⟨a,vs,rfl,_,ho,_,hr⟩:=x.tup_inv
   obtain ⟨b,us,rfl,_,ho',_,hr'⟩:=y.tup_inv
   obtain ⟨q,hq,rfl⟩:=eqLf_min e
   rw [← size_eq hr,← size_eq hr'] at self ⊢
   exact eqAll_refs (fun hab=>self (congrArg Value.ref hab.symm)) (SeqAt.RcAt.tuples ho.isTuple ho'.isTuple hu2 (items hr hr' hq)) (SeqAt.RcNeAt.tuples ho.isTuple ho'.isTuple hu2 (items hr hr' hq))
  | lst as =>
   obtain ⟨bs,rfl,e⟩:=onL_i e
   obtain ⟨a,vs,rfl,_,ho,_,hr⟩:=x.lst_inv
   obtain ⟨b,us,rfl,_,ho',_,hr'⟩:=y.lst_inv
   refine eqAll_refs (fun hab=>self (congrArg Value.ref hab.symm)) ?_ ?_
   all_goals by_cases hl:as.length=bs.length
   ·obtain ⟨q,hq,rfl⟩:=eqLf_get e hl
    rw [← size_eq hr]
    exact SeqAt.RcAt.lists ho.isList ho'.isList (by rw [size_eq hr,size_eq hr',hl]) hu2 (items hr hr' hq)
   ·obtain ⟨q,hq,hr0⟩:=eqLf_min e
    rw [hr0,beq_eq_false_iff_ne.mpr hl,Bool.and_false]
    exact SeqAt.RcAt.lists_lengths ho.isList ho'.isList (by rw [size_eq hr,size_eq hr']; exact bne_iff_ne.mpr hl) hu2
   ·obtain ⟨q,hq,rfl⟩:=eqLf_get e hl
    rw [← size_eq hr]
    exact SeqAt.RcNeAt.lists ho.isList ho'.isList (by rw [size_eq hr,size_eq hr',hl]) hu2 (items hr hr' hq)
   ·obtain ⟨q,hq,hr0⟩:=eqLf_min e
    rw [hr0,beq_eq_false_iff_ne.mpr hl,Bool.and_false]
    exact SeqAt.RcNeAt.lists_lengths ho.isList ho'.isList (by rw [size_eq hr,size_eq hr']; exact bne_iff_ne.mpr hl) hu2
  | _=>refine eq_flat kit I A ?_ x y; exact e
end
section
variable {w:World} {K:Frag} {g:G} {s:Shared} {A:Around} {E:Value→Shared→Prop} {Q:Value→Shared→Prop}
noncomputable def EqIn (w:World) (A:Around) (s:Shared) (v v':Value) (r:Bool):Prop:=∀ (E:Value→Shared→Prop) (Q:Bool→Shared→Prop),Q r s→wpAny (model pw w) A (eqBool v v') Q E s
theorem dct_hits (kit:Kit K) (I:Inv w K g s) {ks ks':List (List Nat)} {vs vs':List D} {ka kb:List (Str × Value)} {r:Bool} (hu:A.units+20 < cLine)
  (hk:ka.map (·.1)=ks.map S) (hr:RepL w g s.heap (ka.map (·.2)) vs) (hk':kb.map (·.1)=ks'.map S) (hr':RepL w g s.heap (kb.map (·.2)) vs')
  (e:eqE (.dctS ks vs) (.dctS ks' vs')=some r):∃ r',(ka.length=kb.length→PySem.W.KeqHits A s kb ka r')∧(ka.length == kb.length&&r')=r:=by
 have l1:ka.length=ks.length:=by have:=congrArg List.length hk; simpa using this
 have l2:kb.length=ks'.length:=by have:=congrArg List.length hk'; simpa using this
 rw [eqE_dd] at e
 by_cases hl:ks.length=ks'.length
 ·rw [if_pos (by simpa using hl)] at e
  refine ⟨r,fun _=>hits_of hk' hr' (fun v v' d d' r hd rv rv'=>(eq_sound kit I 4 A v v' d d' r hd rv rv' (by omega)).1) hk hr e,?_⟩
  rw [l1,l2,hl]; simp
 ·rw [if_neg (by simpa using hl)] at e
  cases e
  refine ⟨false,fun q=>absurd (l1.symm.trans (q.trans l2)) hl,?_⟩
  simp
theorem refl_dctS {a:Addr} {ks ks':List (List Nat)} {vs vs':List D} {h:Heap} {r:Bool} (x:Rep w g h (.ref a) (.dctS ks vs)) (y:Rep w g h (.ref a) (.dctS ks' vs')) (e:eqE (.dctS ks vs) (.dctS ks' vs')=some r):r=true:=by
 obtain ⟨a,kvs,e1,_,_,ho,_,hk,hr⟩:=x.dctS_inv
 obtain ⟨a',kvs',e2,_,_,ho',_,hk',hr'⟩:=y.dctS_inv
 cases e1; cases e2
 have:=dictOf_det ho ho'
 subst this
 have:=mapS_inj (hk.symm.trans hk')
 subst this
 rw [eqE_dd,if_pos (beq_self_eq_true _)] at e
 exact refl_dct (refl_eq 4) (nodup_keys ho hk) hr _ _ 0 e rfl hr'
theorem eqE_sound (kit:Kit K) (I:Inv w K g s) {v v':Value} {d d':D} {r:Bool} (e:eqE d d'=some r) (x:Rep w g s.heap v d) (y:Rep w g s.heap v' d') (hu:A.units+40 < cLine):EqIn w A s v v' r:=by
 have flat:eqD 7 d d'=some r→EqIn w A s v v' r:=fun e E Q h=>(eq_sound kit I 7 A v v' d d' r e x y (by omega)).1 pw w E Q h
 cases d with
 | dctS ks vs =>
  obtain ⟨ks',vs',rfl,e'⟩:=onD_i (d:=d') e
  obtain ⟨a,ka,rfl,_,hm,ho,_,hk,hr⟩:=x.dctS_inv
  obtain ⟨b,kb,rfl,_,hm',ho',_,hk',hr'⟩:=y.dctS_inv
  intro E Q h
  unfold eqBool
  refine wpAny_holding ?_
  refine wpAny_ite_split (fun hab=>?_) (fun hab=>?_)
  ·cases eq_of_beq hab
   rw [refl_dctS x y e] at h
   exact wpAny_bind (wpAny_rule (wpAny_pure h))
  ·obtain ⟨r',h1,h2⟩:=dct_hits (A:=A.in1) kit I (by rw [show A.in1.units=A.units+1 from rfl]; omega) hk hr hk' hr' e
   rw [← h2] at h
   exact wpAny_bind (PySem.W.keq_eq hm hm' ho ho' (by omega) h1 (wpAny_truthy_bool h))
 | _=>exact flat e
set_option maxRecDepth 100000 in
theorem tuple_ne_fixed {A:Around} {Q:Value→Shared→Prop} {l b:Addr} {items items2:Array Value} {n n2:Nat} {e:Nat→Bool} (hl:IsT s.heap l items n) (hb:IsT s.heap b items2 n2)
  (he:∀ j (h1:j < items.size) (h2:j < items2.size),EqIn w A.in1 s items[j] items2[j] (e j))
  (h:Q (.bool (!((List.range (min items.size items2.size)).all e&&items.size == items2.size))) s) :
  wpAny (model pw w) A.in1 (Builtin.«tuple.__ne__» ⟨[.ref l,.ref b],[]⟩) (fun fin s'=>∃ v,fin=.done (.ret v)∧Q v s') E s:=by
 obtain ⟨hp,g,d,tk,os⟩:=s
 have f2:=AutoSeq1.sub_tuple_tuple
 have hZ:(items.toList.zip items2.toList).length=min items.size items2.size:=by simp
 wp_walk using wpAny_loadPart' hl,wpAny_loadPart' hb,wpAny_forIn_list _ (fun rest b s'=>b.1=none∧s'=⟨hp,g,d,tk,os⟩∧∃ i,rest=(items.toList.zip items2.toList).drop i ∧
   Q (.bool (!(((List.range (min items.size items2.size)).drop i).all e&&items.size == items2.size))) ⟨hp,g,d,tk,os⟩) _
 case turn =>
  rintro ⟨y,x⟩ rest b s' ⟨hb',rfl,i,hz,hR⟩
  have hlt:i < (items.toList.zip items2.toList).length:=by
   rcases Nat.lt_or_ge i (items.toList.zip items2.toList).length with h' | h'
   ·exact h'
   ·rw [List.drop_of_length_le h'] at hz; cases hz
  have hm:i < min items.size items2.size:=hZ ▸ hlt
  have h1:i < items.size:=Nat.lt_of_lt_of_le hm (Nat.min_le_left _ _)
  have h2:i < items2.size:=Nat.lt_of_lt_of_le hm (Nat.min_le_right _ _)
  rw [List.drop_eq_getElem_cons hlt] at hz
  injection hz with hyx hrest
  have hy:y=items[i]:=by have:=congrArg Prod.fst hyx; simpa using this
  have hx:x=items2[i]:=by have:=congrArg Prod.snd hyx; simpa using this
  subst hy hx
  have hd:(List.range (min items.size items2.size)).drop i=i::(List.range (min items.size items2.size)).drop (i+1):=by simp [List.drop_eq_getElem_cons,hm]
  rw [hd,List.all_cons] at hR
  refine wpAny_bind (he i h1 h2 _ _ ?_)
  cases hy:e i with
  | true =>
   rw [hy] at hR
   wp_walk
   exact ⟨rfl,rfl,i+1,hrest,by simpa using hR⟩
  | false =>
   rw [hy] at hR
   wp_walk
   exact ⟨_,rfl,by simpa using hR⟩
 case fin =>
  rintro ⟨b1,b2⟩ s' ⟨hb',rfl,i,hz,hR⟩
  simp only at hb'
  subst hb'
  have hge:min items.size items2.size≤i:=by
   rcases Nat.lt_or_ge i (items.toList.zip items2.toList).length with h' | h'
   ·rw [List.drop_eq_getElem_cons h'] at hz; cases hz
   ·exact hZ ▸ h'
  rw [List.drop_of_length_le (by simpa using hge)] at hR
  wp_walk
  exact ⟨_,rfl,by simpa [Builtin.Tuple.tupleCompareSizes,bne] using hR⟩
 case h =>
  exact ⟨rfl,rfl,0,rfl,by simpa using h⟩
theorem ne_tuples {A:Around} {l b:Addr} {items items2:Array Value} {e:Nat→Bool} (hl:PT s.heap l items) (hb:PT s.heap b items2)
  (he:∀ j (h1:j < items.size) (h2:j < items2.size),EqIn w A.in1 s items[j] items2[j] (e j)) (hu:A.units < cLine)
  (h:Q (.bool (!((List.range (min items.size items2.size)).all e&&items.size == items2.size))) s) :
  wpAny (model pw w) A (richCompare .NotEq (.ref l) (.ref b)) Q E s:=by
 obtain ⟨n,hl⟩:=hl
 obtain ⟨n2,hb⟩:=hb
 have t1:s.TypeIs (.ref l) "tuple":=⟨_,hl,rfl⟩
 have t2:s.TypeIs (.ref b) "tuple":=⟨_,hb,rfl⟩
 refine wpAny_richCompare_same_room (op:=.NotEq) t1 t2 PySem.F.slot_tuple_ne (wpAny_call_entry PySem.F.slot_tuple_ne t1 PySem.F.entry_tuple_ne ?_ (PySem.F.args_tuple_ne_2 _ _)) hu
 exact tuple_ne_fixed (Q:=fun v s'=>v ≠ .notImplemented∧Q v s') hl hb he ⟨(fun x=>nomatch x),h⟩
theorem eqN_sound (kit:Kit K) (I:Inv w K g s) {v v':Value} {d d':D} {r:Bool} (e:eqN d d'=some r) (x:Rep w g s.heap v d) (y:Rep w g s.heap v' d') (hu:A.units+50 < cLine)
  (h:Q (.bool (!r)) s):wpAny (model pw w) A (richCompare .NotEq v v') Q E s:=by
 have flat:eqD 8 d d'=some r→wpAny (model pw w) A (richCompare .NotEq v v') Q E s:=fun e=>(eq_sound kit I 8 A v v' d d' r e x y (by omega)).2.2 pw w E Q h
 cases d with
 | dctS ks vs =>
  obtain ⟨ks',vs',rfl,e⟩:=onD_i (d:=d') e
  obtain ⟨a,ka,rfl,_,hm,ho,_,hk,hr⟩:=x.dctS_inv
  obtain ⟨b,kb,rfl,_,hm',ho',_,hk',hr'⟩:=y.dctS_inv
  obtain ⟨r',h1,h2⟩:=dct_hits (A:=A.in1) kit I (by rw [show A.in1.units=A.units+1 from rfl]; omega) hk hr hk' hr' e
  rw [← h2] at h
  exact PySem.W.keq_ne hm hm' ho ho' (by omega) h1 h
 | tup as =>
  obtain ⟨bs,rfl,e⟩:=onT_i (d:=d') e
  obtain ⟨hl,e⟩:=if_s e
  obtain ⟨a,vs,rfl,_,ho,_,hr⟩:=x.tup_inv
  obtain ⟨b,us,rfl,_,ho',_,hr'⟩:=y.tup_inv
  obtain ⟨q,hq,rfl⟩:=eqLf_get e (eq_of_beq hl)
  have hsz:vs.size=us.size:=by rw [size_eq hr,size_eq hr',eq_of_beq hl]
  rw [← size_eq hr] at h
  refine ne_tuples ho ho' (e:=q) (fun j h1 h2=>?_) (by omega) (by rw [← hsz,Nat.min_self,beq_self_eq_true,Bool.and_true]; exact h)
  obtain ⟨p,hp,rp⟩:=hr.getV j vs[j] (by simp [h1])
  obtain ⟨p',hp',rp'⟩:=hr'.getV j us[j] (by simp [h2])
  exact eqE_sound kit I (hq j p p' hp hp') rp rp' (by rw [show A.in1.units=A.units+1 from rfl]; omega)
 | _=>exact flat e
end
section
variable {w:World} {K:Frag} {g:G} {s:Shared} {A:Around} {E:Value→Shared→Prop} {Q:Value→Shared→Prop}
theorem inI_any {h:Heap} {x:Int}:∀ {vs:List Value} {ds:List D} {r:Bool},inI x ds=some r→RepL w g h vs ds →
  (∀ v ∈ vs,∃ y t,v=.int y t)∧vs.any (fun v=>match v with | .int y _=>decide (y=x) | _=>false)=r
 | _,[],r,e,.nil=>by simp [inI] at e; subst e; simp
 | _,d::ds,r,e,.cons (v:=v) h1 h2=>by
  cases d with
  | int y =>
   obtain ⟨t,rfl⟩:=h1.int_inv
   simp only [inI] at e
   obtain ⟨q,hq,rfl⟩:=Option.map_eq_some_iff.mp e
   obtain ⟨a,b⟩:=inI_any hq h2
   refine ⟨fun v hv=>?_,by simp [b]⟩
   cases hv with
   | head=>exact ⟨_,_,rfl⟩
   | tail _ hv=>exact a v hv
  | _=>simp [inI] at e
theorem cmp_sound (kit:Kit K) (I:Inv w K g s) {o:CmpOp} {a b:D} {va vb:Value} {r:Bool} (ha:Rep w g s.heap va a) (hb:Rep w g s.heap vb b) (e:cmpD o a b=some r) (hu:A.units+60 < cLine) (h:Q (.bool r) s) :
  wpAny (model pw w) A (compareOp o va vb) Q E s:=by
 cases o with
 | Eq=>exact (eq_sound kit I 8 A va vb a b r e ha hb (by omega)).2.1 pw w E Q h
 | NotEq =>
  obtain ⟨q,hq,rfl⟩:=Option.map_eq_some_iff.mp e
  exact eqN_sound kit I hq ha hb (by omega) h
 | Lt=>cases a with
  | int a =>
   obtain ⟨b,rfl,e⟩:=onI_i (d:=b) e
   cases e; obtain ⟨t,rfl⟩:=ha.int_inv; obtain ⟨u,rfl⟩:=hb.int_inv
   exact PyProof.Rows.lt_int h
  | flt a =>
   obtain ⟨t,rfl,_⟩:=ha.flt_inv
   rcases onN_i (d:=b) e with ⟨b,rfl,e⟩ | ⟨b,rfl,e⟩
   ·cases e; obtain ⟨u,rfl⟩:=hb.int_inv
    exact PyProof.Rows.lt_fi (by rw [FM.cmpI_eq] at h; exact h)
   ·cases e; obtain ⟨u,rfl,_⟩:=hb.flt_inv
    exact AutoFloatOps.lt_0 (by rw [FM.cmp_eq] at h; exact h)
  | _=>cases e
 | Gt=>cases a with
  | int a =>
   obtain ⟨b,rfl,e⟩:=onI_i (d:=b) e
   cases e; obtain ⟨t,rfl⟩:=ha.int_inv; obtain ⟨u,rfl⟩:=hb.int_inv
   exact PyProof.Rows.gt_int h
  | flt a =>
   obtain ⟨b,rfl,e⟩:=onF_i (d:=b) e
   cases e; obtain ⟨t,rfl,_⟩:=ha.flt_inv; obtain ⟨u,rfl,_⟩:=hb.flt_inv
   exact AutoFloatOps.gt_0 (by rw [FM.cmp_eq] at h; exact h)
  | _=>cases e
 | LtE=>cases a with
  | int a =>
   obtain ⟨t,rfl⟩:=ha.int_inv
   rcases onN_i (d:=b) e with ⟨b,rfl,e⟩ | ⟨b,rfl,e⟩
   ·cases e; obtain ⟨u,rfl⟩:=hb.int_inv
    exact PyProof.Rows.le_int h
   ·cases e; obtain ⟨u,rfl,_⟩:=hb.flt_inv
    exact PyProof.Rows.le_if (by rw [FM.cmpI_eq] at h; exact h)
  | flt a =>
   obtain ⟨b,rfl,e⟩:=onF_i (d:=b) e
   cases e; obtain ⟨t,rfl,_⟩:=ha.flt_inv; obtain ⟨u,rfl,_⟩:=hb.flt_inv
   exact AutoFloatOps.le_0 (by rw [FM.cmp_eq] at h; exact h)
  | _=>cases e
 | Is =>
  obtain ⟨p,rfl,e⟩:=onB_i (d:=a) e
  obtain ⟨q,rfl,e⟩:=onB_i (d:=b) e
  cases e; rw [ha.bool_inv,hb.bool_inv]
  refine wpAny_is_plain rfl ?_
  cases p <;> cases q <;> exact h
 | IsNot=>cases b with
  | none =>
   rw [hb.none_inv]
   cases a with
   | none=>cases e; rw [ha.none_inv]; exact PySem.isNot_none h
   | str s=>cases e; obtain ⟨t,rfl⟩:=ha.str_inv; exact PySem.isNot_none h
   | _=>cases e
  | _=>cases e
 | In=>cases a with
  | str x =>
   obtain ⟨l,rfl,e⟩:=onS_i (d:=b) e
   cases x with
   | nil=>cases e
   | cons c x=>cases x with
    | cons _ _=>cases e
    | nil =>
     cases e; obtain ⟨t,rfl⟩:=ha.str_inv; obtain ⟨u,rfl⟩:=hb.str_inv
     refine PyProof.Rows.in_str ?_
     rw [show (S [c]:Str)=⟨#[c]⟩ from rfl,PySem.StrLaws.found_one (S l) c,show decide (c ∈ (S l).cps.toList)=l.contains c by simp]
     exact h
  | int x =>
   obtain ⟨l,rfl,e⟩:=onL_i (d:=b) e
   obtain ⟨t,rfl⟩:=ha.int_inv; obtain ⟨p,vs,rfl,_,ho,_,hr⟩:=hb.lst_inv
   obtain ⟨hi,hv⟩:=inI_any e hr
   refine SeqAt.in_listAt _ ho.isList (fun y hy=>?_) (by rw [← Array.any_toList,hv]; exact h)
   obtain ⟨z,u,rfl⟩:=hi y (by simpa using hy)
   exact SeqAt.EqAt.int_int (A:=A.in1) (s:=s) z u x t
  | _=>cases e
 | NotIn =>
  obtain ⟨x,rfl,e⟩:=onI_i (d:=a) e
  obtain ⟨l,rfl,e⟩:=onL_i (d:=b) e
  obtain ⟨q,hq,rfl⟩:=Option.map_eq_some_iff.mp e
  obtain ⟨t,rfl⟩:=ha.int_inv; obtain ⟨p,vs,rfl,_,ho,_,hr⟩:=hb.lst_inv
  obtain ⟨hi,hv⟩:=inI_any hq hr
  refine SeqAt.notIn_listAt _ ho.isList (fun y hy=>?_) (by rw [← Array.any_toList,hv]; exact h)
  obtain ⟨z,u,rfl⟩:=hi y (by simpa using hy)
  exact SeqAt.EqAt.int_int (A:=A.in1) (s:=s) z u x t
 | _=>cases e
end
section
theorem size_up (h:Heap) (a:Addr) (f:Obj→Obj):(h.update a f).objs.size=h.objs.size:=by
 cases h; simp [Heap.update]
theorem size_pu (h:Heap) (o:Obj):(h.push o).objs.size=h.objs.size+1:=by
 cases h; simp [Heap.push]
theorem runs_size {M:Model} {Γ:Ctx} {p:Pos} {t:Sem PySem.Fin} {fs:List Frame} {s s':Shared} {e:End} (h:Runs M Γ p t fs s e s'):s.heap.objs.size≤s'.heap.objs.size:=by
 induction h <;> (try simp only [Shared.setGen,size_up,size_pu] at *) <;> (try omega)
theorem wakes_size {M:Model} {Γ:Ctx} {p:Pos} {g:Nat} {r:Resume} {s s':Shared} {res:GenResult} (h:Wakes M Γ p g r s res s'):s.heap.objs.size≤s'.heap.objs.size:=by
 unfold Wakes at h
 split at h
 ·exact h.elim
 ·split at h
  ·obtain ⟨e₁,s₁,hr,_,_,rfl⟩:=h; exact (runs_size hr:(s.setGen g .running).heap.objs.size≤s₁.heap.objs.size)
  ·rw [h.2]; exact Nat.le_refl _
  ·rw [h.2]; exact Nat.le_refl _
 ·obtain ⟨e₁,s₁,hr,_,_,rfl⟩:=h; exact (runs_size hr:(s.setGen g .running).heap.objs.size≤s₁.heap.objs.size)
 ·rw [h.2]; exact Nat.le_refl _
 ·rw [h.2]; exact Nat.le_refl _
theorem wp_size {α:Type} (M:Model) (Γ:Ctx) (n:Nat) (t:Sem α):∀ (Q:α→Pos→Shared→Prop) (E:Value→Pos→Shared→Prop) (p:Pos) (s:Shared),n≤s.heap.objs.size→Sem.wp M Γ t Q E p s →
  Sem.wp M Γ t (fun a p' s'=>n≤s'.heap.objs.size∧Q a p' s') (fun e p' s'=>n≤s'.heap.objs.size∧E e p' s') p s:=by
 induction t with
 | pure a=>intro Q E p s hn h; exact ⟨hn,h⟩
 | raise e=>intro Q E p s hn h; exact ⟨hn,h⟩
 | unsupported _=>intro Q E p s _ h; exact h
 | finish _=>intro Q E p s _ h; exact h
 | rule _ k ih=>intro Q E p s hn h; exact ih () Q E p s hn h
 | «at» p' k ih=>intro Q E p s hn h; exact ih () Q E p' s hn h
 | load a _ k ih=>intro Q E p s hn h; obtain ⟨o,ho,h⟩:=h; exact ⟨o,ho,ih o Q E p s hn h⟩
 | update a _ f k ih=>intro Q E p s hn h; exact ⟨h.1,ih () Q E p _ (by rw [show ({ s with heap:=s.heap.update a f }:Shared).heap.objs.size=s.heap.objs.size from size_up ..]; exact hn) h.2⟩
 | loadIfAlive a k ih=>intro Q E p s hn h; exact ih _ Q E p s hn h
 | point _ k ih=>intro Q E p s hn h; exact ih () Q E p s hn h
 | register _ _=>intro Q E p s _ h; exact h
 | alloc o k ih=>intro Q E p s hn h; exact ih _ Q E p _ (by rw [show ({ s with heap:=s.heap.push o }:Shared).heap.objs.size=s.heap.objs.size+1 from size_pu ..]; omega) h
 | fresh k ih=>intro Q E p s hn h; exact ih _ Q E p _ hn h
 | ask k ih=>intro Q E p s hn h; exact ih _ Q E p s hn h
 | choose src m k ih=>intro Q E p s hn h; exact ⟨h.1,ih _ Q E p _ hn h.2⟩
 | os q _ k ih=>intro Q E p s hn h; exact ih _ Q E p _ hn h
 | call c hd _ _ k ih=>intro Q E p s hn h; obtain ⟨r,s',hr,h⟩:=h; exact ⟨r,s',hr,ih r Q E p s' (Nat.le_trans hn (runs_size hr)) h⟩
 | handled own k ih=>intro Q E p s hn h; exact ih _ Q E p s hn h
 | genState g k ih=>intro Q E p s hn h; obtain ⟨st,hs,h⟩:=h; exact ⟨st,hs,ih _ Q E p s hn h⟩
 | newGen c k ih=>intro Q E p s hn h; exact ih _ Q E p _ hn h
 | resume g r _ k ih=>intro Q E p s hn h; obtain ⟨res,s',hw,h⟩:=h; exact ⟨res,s',hw,ih res Q E p s' (Nat.le_trans hn (wakes_size hw)) h⟩
 | yield _ _ _ _=>intro Q E p s _ h; exact h
 | stack k ih=>intro Q E p s hn h; exact ih _ Q E p s hn h
 | fork _ _=>intro Q E p s _ h; exact h
 | thread k ih=>intro Q E p s hn h; exact ih _ Q E p s hn h
 | await _ _ _ _ _=>intro Q E p s _ h; exact h
section
variable {α:Type} {M:Model} {A:Around} {s:Shared}
theorem wpAny_grows {t:Sem α} {Q:α→Shared→Prop} {E:Value→Shared→Prop}
  (h:wpAny M A t (fun a s'=>s.heap.objs.size≤s'.heap.objs.size→s.toks≤s'.toks→Q a s') E s):wpAny M A t Q E s :=
 wpAny_with_toks (Nat.le_refl _) fun Γ p hΓ=>by
  have:=wp_size M Γ s.heap.objs.size t _ _ p s (Nat.le_refl _) (h Γ p hΓ)
  exact Sem.wp_mono M Γ t (fun _ _ _ x ht=>x.2 x.1 ht) (fun _ _ _ x _=>x.2) _ _ this
end
end
section
set_option genSizeOf false
set_option genSizeOfSpec false
set_option genInjectivity false
inductive Bi where
 | len | max1 | min1 | max3 | min3 | abs | int | str | ord | chr | isTup | isBool | tuple | sum
inductive Mt where
 | lower | index | join
 | replace (y:List Nat) (i:Int)
inductive Tg where
 | name (n:Nat)
 | tup (l:List Tg)
mutual
inductive X where
 | none
 | bool (b:Bool)
 | int (i:Int)
 | flt (x:UInt64)
 | str (l:List Nat)
 | var (n:Nat)
 | gflt (nm:Str) (x:UInt64)
 | bin (o:Operator) (a b:X)
 | neg (a:X)
 | cmp (o:CmpOp) (a b:X)
 | cmp2 (o p:CmpOp) (a b c:X)
 | ife (t a b:X)
 | not (a:X)
 | and (a b:X)
 | or (l:List X)
 | tup (l:List X)
 | lst (l:List X)
 | dct0
 | dct1 (k v:X)
 | sub (a i:X)
 | slc (a:X) (n:Nat)
 | subo (n:Nat) (i:X)
 | ino (neg:Bool) (a:X) (n:Nat)
 | bi (f:Bi) (l:List X)
 | mth (f:Mt) (a:X) (l:List X)
 | listr (i:It)
 | inset (a:X)
 | b3 (a:X)
 | call (f:Nat) (l:List X)
 | mk (a:X)
 | attr (a:X)
 | compare (a b c:X)
 | lc (e:X) (t:Tg) (i:It) (c:Option X) (fs:List Nat)
 | lc2 (e:X) (t:Tg) (i:It) (t':Tg) (i':It) (fs:List Nat)
 | dc (k v:X) (t:Tg) (i:It) (fs:List Nat)
inductive It where
 | val (a:X)
 | lsts (a:X)
 | rng1 (a:X)
 | rng2 (a b:X)
 | rng3 (a b:X)
 | enum (a:X)
 | zip (a b:X)
 | items (a:X)
 | values (a:X)
end
inductive St where
 | asg (n:Nat) (e:X)
 | own (n:Nat) (e:X)
 | own2 (n m:Nat) (a b:X)
 | unp (l:List Nat) (e:X)
 | swp (l:List Nat) (es:List X)
 | popd (r d p:Nat) (i b:X)
 | aug (n:Nat) (o:Operator) (e:X)
 | augo (n:Nat) (i:X) (o:Operator) (e:X)
 | seto (n:Nat) (i e:X)
 | app (n:Nat) (e:X)
 | note (n:Nat) (e:X)
 | ite (t:X) (a b:List St)
 | for_ (t:Tg) (i:It) (b:List St)
 | ret (e:X)
 | reto (n:Nat)
 | dead
set_option genInjectivity true
inductive B where
 | val (d:D)
 | own (d:D)
 | free
noncomputable abbrev Rho:=Nat→Option B
inductive Fl where
 | next
 | ret (d:D)
noncomputable abbrev R1:=Option (D × List D)
noncomputable def getV (r:Rho) (n:Nat):Option D:=match r n with
 | some (.val d)=>some d
 | _=>none
noncomputable def getO (r:Rho) (n:Nat):Option D:=match r n with
 | some (.own d)=>some d
 | _=>none
noncomputable def isFree (r:Rho) (n:Nat):Bool:=match r n with
 | some .free=>true
 | _=>false
noncomputable def setB (r:Rho) (k:Nat) (b:B):Rho:=fun n=>cond (Nat.beq n k) (some b) (r n)
noncomputable abbrev setV (r:Rho) (k:Nat) (d:D):Rho:=setB r k (.val d)
noncomputable abbrev setO (r:Rho) (k:Nat) (d:D):Rho:=setB r k (.own d)
theorem setB_at (r:Rho) (k:Nat) (b:B) (n:Nat):(n=k∧setB r k b n=some b) ∨ (n ≠ k∧setB r k b n=r n):=by
 unfold setB
 cases h:Nat.beq n k with
 | true=>exact .inl ⟨Nat.eq_of_beq_eq_true h,rfl⟩
 | false=>exact .inr ⟨Nat.ne_of_beq_eq_false h,rfl⟩
theorem setB_comm (r:Rho) {k m:Nat} (b c:B) (h:k ≠ m):setB (setB r k b) m c=setB (setB r m c) k b:=funext fun n=>by
 have e:∀ x y,(x ≠ y)→Nat.beq x y=false:=fun x y q=>Bool.eq_false_iff.mpr fun p=>q (Nat.eq_of_beq_eq_true p)
 unfold setB
 by_cases p:n=k
 ·subst p; rw [e _ _ h]; rfl
 ·rw [e _ _ p]; rfl
noncomputable def unb (r:Rho) (k:Nat):Rho:=fun n=>cond (Nat.beq n k) none (r n)
theorem unb_i {r:Rho} {k n:Nat} {b:B} (h:unb r k n=some b):n ≠ k∧r n=some b:=by
 unfold unb at h
 cases q:Nat.beq n k <;> rw [q] at h
 ·exact ⟨Nat.ne_of_beq_eq_false q,h⟩
 ·cases h
theorem setB_unb (r:Rho) (k:Nat) (b:B):setB (unb r k) k b=setB r k b:=funext fun n=>by
 unfold setB unb
 cases Nat.beq n k <;> rfl
noncomputable def mask (fs:List Nat) (r:Rho):Rho:=fun n=>cond (fs.contains n) (r n) none
theorem mask_get {fs:List Nat} {r:Rho} {n:Nat} {b:B} (h:mask fs r n=some b):fs.contains n=true∧r n=some b:=by
 unfold mask at h
 cases q:fs.contains n <;> rw [q] at h
 ·cases h
 ·exact ⟨rfl,h⟩
noncomputable def entry:List D→Rho
 | [],_=>some .free
 | d::_,0=>some (.val d)
 | _::ds,n+1=>entry ds n
noncomputable def getN {α:Type} (l:List α) (i:Int):Option α:=match i with
 | .ofNat n=>l[n]?
 | .negSucc _=>none
noncomputable def getI {α:Type} (l:List α) (i:Int):Option α:=match i with
 | .ofNat n=>l[n]?
 | .negSucc n=>if n < l.length then l[l.length - (n+1)]? else none
noncomputable def setI {α:Type} (l:List α) (i:Int) (x:α):Option (List α):=match i with
 | .ofNat n=>if n < l.length then some (l.set n x) else none
 | .negSucc _=>none
noncomputable def subD (a b:D):Option D:=match a with
 | .tup l=>dI b (getN l)
 | .lst l=>dI b (getI l)
 | .str l=>dI b fun i=>if okI i then (getN l i).map fun c=>.str [c] else none
 | .dctS ks vs=>dS b fun k=>lookK k ks vs
 | .dctI ks vs=>dI b fun k=>lookK k ks vs
 | _=>none
noncomputable def slcD (d:D) (k:Nat):Option D:=match d with
 | .tup l=>if 0 < k∧k < l.length then some (.tup (l.take k)) else none
 | .lst l=>some (.lst (l.take k))
 | _=>none
noncomputable def inoD (a b:D):Option Bool:=match b with
 | .dctS ks _=>if a.ctorIdx=4 then dS a fun k=>some (ks.contains k) else dI a fun _=>if ks.isEmpty then some false else none
 | .dctI ks _=>if a.ctorIdx=2 then dI a fun k=>some (ks.contains k) else dS a fun _=>if ks.isEmpty then some false else none
 | _=>none
noncomputable def truthD:D→Option Bool
 | .bool b=>some b
 | .int i=>some (i != 0)
 | .lst l=>some (!l.isEmpty)
 | _=>none
noncomputable def isTupD:D→Bool
 | .tup _=>true
 | _=>false
noncomputable def seqE:D→Option (List D)
 | .lst l=>some l
 | .tup l=>some l
 | .str s=>some (s.map fun c=>.str [c])
 | _=>none
noncomputable def seqD:D→Option (List D)
 | .lst l=>some l
 | .tup l=>some l
 | .str s=>some (s.map fun c=>.str [c])
 | .dctS ks _=>some (ks.map .str)
 | _=>none
noncomputable def bestD (o:CmpOp):D→List D→Option D
 | b,[]=>some b
 | b,x::xs=>do
  let r ← cmpD o x b
  bestD o (if r then x else b) xs
noncomputable def isI:D→Bool
 | .int _=>true
 | _=>false
noncomputable def isF:D→Bool
 | .flt _=>true
 | _=>false
noncomputable def homD (l:List D):Bool:=l.all isI || l.all isF
noncomputable def sumD:List D→Option Int
 | []=>some 0
 | .int i::l=>(sumD l).map (i+·)
 | .bool b::l=>(sumD l).map (b2i b+·)
 | _=>none
noncomputable def strsD:List D→Option (List (List Nat))
 | []=>some []
 | .str s::l=>(strsD l).map (s::·)
 | _=>none
noncomputable def biD (f:Bi) (l:List D):Option D:=match f with
 | .len=>d1 l fun d=>match d with
  | .str l=>if l.length≤65536 then some (.int l.length) else none
  | .lst l=>some (.int l.length)
  | .tup l=>some (.int l.length)
  | _=>none
 | .max1=>d1 l fun d=>dL d fun l=>match l with
  | x::l=>if homD (x::l) then bestD .Gt x l else none
  | []=>none
 | .min1=>d1 l fun d=>dL d fun l=>match l with
  | x::l=>if homD (x::l) then bestD .Lt x l else none
  | []=>none
 | .max3=>d3 l fun a b c=>if homD [a,b,c] then bestD .Gt a [b,c] else none
 | .min3=>d3 l fun a b c=>if homD [a,b,c] then bestD .Lt a [b,c] else none
 | .abs=>d1 l fun d=>dF d fun x=>fD (FM.ab x)
 | .int=>d1 l fun d=>match d with
  | .bool b=>some (.int (b2i b))
  | .flt x=>match FM.dec x with
   | .fin sg m e=>some (.int (Float64.truncOf sg m e))
   | _=>none
  | _=>none
 | .str=>d1 l fun d=>dI d fun i=>if okI i then some (.str ((Str.ofString (toString i)).cps.toList)) else none
 | .ord=>d1 l fun d=>dS d fun s=>d1 s fun c=>some (.int c)
 | .chr=>d1 l fun d=>dI d fun i=>if 0≤i∧i < 1114112 then some (.str [i.toNat]) else none
 | .isTup=>d1 l fun d=>match d with
  | .tup _=>some (.bool true)
  | .int _=>some (.bool false)
  | _=>none
 | .isBool=>d1 l fun d=>match d with
  | .int _=>some (.bool false)
  | .bool _=>some (.bool true)
  | _=>none
 | .tuple=>d1 l fun d=>dL d fun l=>match l with
  | x::l=>some (.tup (x::l))
  | []=>none
 | .sum=>d1 l fun d=>dL d fun l=>(sumD l).map .int
noncomputable def rangeD (a:Int):Nat→List D
 | 0=>[]
 | n+1=>.int a::rangeD (a+1) n
noncomputable def downD (a:Int):Nat→List D
 | 0=>[]
 | n+1=>.int a::downD (a - 1) n
noncomputable def enumD (i:Int):List D→List D
 | []=>[]
 | d::ds=>.tup [.int i,d]::enumD (i+1) ds
noncomputable def zipD:List D→List D→List D
 | a::as,b::bs=>.tup [a,b]::zipD as bs
 | _,_=>[]
noncomputable def mtD (f:Mt) (d:D) (xs:List D):Option D:=dS d fun l=>match f with
 | .lower=>if xs.isEmpty∧l.length≤65536 then some (.str (Txt.lower (S l)).cps.toList) else none
 | .index=>d1 xs fun y=>dS y fun y=>if Txt.contains (S l) (S y) then some (.int (Txt.find (S l) (S y))) else none
 | .replace y i=>if xs.isEmpty∧l.length≤65536 then some (.str (Txt.replace (S l) (S y) (S [i.toNat])).cps.toList) else none
 | .join=>d1 xs fun y=>dL y fun ds=>(strsD ds).bind fun ts=>if l=[]∧(ts.map List.length).sum≤65536∧ts.length≤65536 then some (.str ts.flatten) else none
structure Ora where
 call:Nat→List D→R1
 b1:Int→Bool
 b3:Int→Option (List Nat)
noncomputable def evL (f:X→R1):List X→Option (List D × List D)
 | []=>some ([],[])
 | x::xs=>do
  let (d,l) ← f x
  let (ds,l') ← evL f xs
  some (d::ds,l++l')
noncomputable def evO (f:X→R1):List X→R1
 | []=>some (.bool false,[])
 | x::xs=>do
  let (d,l) ← f x
  let q ← truthD d
  if q then some (.bool true,l) else
   let (b,l') ← evO f xs
   some (b,l++l')
noncomputable def itr (f:X→R1):It→Option (List D × List D)
 | .val a=>do
  let (d,l) ← f a
  let ds ← seqD d
  some (ds,l)
 | .lsts a=>do
  let (d,l) ← f a
  dL d fun ds=>if ds.all isTupD then some (ds,l) else none
 | .rng1 a=>do
  let (d,l) ← f a
  dI d fun i=>if okI i∧i≤65536 then some (rangeD 0 i.toNat,l) else none
 | .rng2 a b=>do
  let (d,l) ← f a
  let (d',l') ← f b
  dI d fun i=>dI d' fun j=>if okI i∧okI j∧j - i≤65536 then some (rangeD i (j - i).toNat,l++l') else none
 | .rng3 a b=>do
  let (d,l) ← f a
  let (d',l') ← f b
  dI d fun i=>dI d' fun j=>if okI i∧okI j∧i - j≤65536 then some (downD i (i - j).toNat,l++l') else none
 | .enum a=>do
  let (d,l) ← f a
  let ds ← seqE d
  some (enumD 0 ds,l)
 | .zip a b=>do
  let (d,l) ← f a
  let (d',l') ← f b
  dL d fun x=>dL d' fun y=>some (zipD x y,l++l')
 | .items a=>do
  let (d,l) ← f a
  dD d fun ks vs=>some (zipD (ks.map .str) vs,l)
 | .values a=>do
  let (d,l) ← f a
  dD d fun _ vs=>some (vs,l)
mutual
noncomputable def asgT:Tg→D→Rho→Option Rho
 | .name n,d,r=>some (setV r n d)
 | .tup l,.tup ds,r=>asgTs l ds r
 | .tup _,_,_=>none
noncomputable def asgTs:List Tg→List D→Rho→Option Rho
 | [],[],r=>some r
 | t::ts,d::ds,r=>(asgT t d r).bind (asgTs ts ds)
 | _,_,_=>none
end
noncomputable def asgNs (ns:List Nat) (ds:List D) (r:Rho):Option Rho:=asgTs (ns.map .name) ds r
noncomputable def turns {α:Type} (t:Tg) (c:Rho→Option (Bool × List D)) (e:Rho→Option (α × List D)):List D→Rho→Option (List α × List D)
 | [],_=>some ([],[])
 | d::ds,r=>do
  let r ← asgT t d r
  let (b,l) ← c r
  if b then
   let (x,l') ← e r
   let (xs,l'') ← turns t c e ds r
   some (x::xs,l++(l'++l''))
  else
   let (xs,l'') ← turns t c e ds r
   some (xs,l++l'')
noncomputable def ofB (r:Option Bool) (l:List D):R1:=r.map fun b=>(.bool b,l)
noncomputable def puts {α:Type} (put:D→α→Option D):D→List α→Option D
 | d,[]=>some d
 | d,x::xs=>(put d x).bind fun d=>puts put d xs
noncomputable def dput (d:D) (p:D × D):Option D:=dD d fun ks vs=>dS p.1 fun k=>if ks.contains k || Nat.ble 65536 ks.length then none else some (.dctS (ks++[k]) (vs++[p.2]))
noncomputable def dctOf (l:List (D × D)):Option D:=puts dput (.dctS [] []) l
noncomputable def condD (f:X→R1) (c:Option X):Option (Bool × List D):=match c with
 | none=>some (true,[])
 | some c=>do
  let (x,l) ← f c
  let b ← truthD x
  some (b,l)
noncomputable def ev (F:Ora):Nat→X→Rho→R1
 | 0,_,_=>none
 | _+1,.none,_=>some (.none,[])
 | _+1,.bool b,_=>some (.bool b,[])
 | _+1,.int i,_=>some (.int i,[])
 | _+1,.flt x,_=>some (.flt x,[])
 | _+1,.str l,_=>some (.str l,[])
 | _+1,.var n,r=>(getV r n).map fun d=>(d,[])
 | _+1,.gflt _ x,_=>some (.flt x,[])
 | n+1,.bin o a b,r=>do
  let (x,l) ← ev F n a r
  let (y,l') ← ev F n b r
  let z ← binD o x y
  some (z,l++l')
 | n+1,.neg a,r=>do
  let (x,l) ← ev F n a r
  dI x fun i=>some (.int (-i),l)
 | n+1,.cmp o a b,r=>do
  let (x,l) ← ev F n a r
  let (y,l') ← ev F n b r
  ofB (cmpD o x y) (l++l')
 | n+1,.cmp2 o p a b c,r=>do
  let (x,l) ← ev F n a r
  let (y,l') ← ev F n b r
  let q ← cmpD o x y
  if q then
   let (z,l'') ← ev F n c r
   ofB (cmpD p y z) (l++(l'++l''))
  else some (.bool false,l++l')
 | n+1,.ife t a b,r=>do
  let (x,l) ← ev F n t r
  let q ← truthD x
  let (y,l') ← ev F n (if q then a else b) r
  some (y,l++l')
 | n+1,.not a,r=>do
  let (x,l) ← ev F n a r
  ofB ((truthD x).map (!·)) l
 | n+1,.and a b,r=>do
  let (x,l) ← ev F n a r
  let q ← truthD x
  if q then
   let (y,l') ← ev F n b r
   ofB (truthD y) (l++l')
  else some (.bool false,l)
 | n+1,.or as,r=>evO (fun a=>ev F n a r) as
 | n+1,.tup as,r=>do
  let (xs,l) ← evL (fun a=>ev F n a r) as
  if !xs.isEmpty&&decide (xs.length≤65536) then some (.tup xs,l) else none
 | n+1,.lst as,r=>do
  let (xs,l) ← evL (fun a=>ev F n a r) as
  if xs.length≤65536 then some (.lst xs,l) else none
 | _+1,.dct0,_=>some (.dctS [] [],[])
 | n+1,.dct1 k v,r=>do
  let (x,l) ← ev F n k r
  let (y,l') ← ev F n v r
  dS x fun k=>some (.dctS [k] [y],l++l')
 | n+1,.sub a i,r=>do
  let (x,l) ← ev F n a r
  let (y,l') ← ev F n i r
  let z ← subD x y
  some (z,l++l')
 | n+1,.slc a k,r=>do
  let (x,l) ← ev F n a r
  let z ← slcD x k
  some (z,l)
 | n+1,.subo k i,r=>do
  let x ← getO r k
  let (y,l) ← ev F n i r
  let z ← subD x y
  some (z,l)
 | n+1,.ino neg a k,r=>do
  let (y,l) ← ev F n a r
  let x ← getO r k
  ofB ((inoD y x).map (xor neg)) l
 | n+1,.bi f as,r=>do
  let (xs,l) ← evL (fun a=>ev F n a r) as
  let z ← biD f xs
  some (z,l)
 | n+1,.mth f a as,r=>do
  let (x,l) ← ev F n a r
  let (xs,l') ← evL (fun a=>ev F n a r) as
  let z ← mtD f x xs
  some (z,l++l')
 | n+1,.listr i,r=>do
  let (xs,l) ← itr (fun a=>ev F n a r) i
  some (.lst xs,l)
 | n+1,.inset a,r=>do
  let (x,l) ← ev F n a r
  dI x fun i=>some (.bool (F.b1 i),l)
 | n+1,.b3 a,r=>do
  let (x,l) ← ev F n a r
  dI x fun i=>some (match F.b3 i with | some t=>.str t | none=>.none,l)
 | n+1,.call f as,r=>do
  let (xs,l) ← evL (fun a=>ev F n a r) as
  let (z,l') ← F.call f xs
  some (z,l++l')
 | n+1,.mk a,r=>do
  let (x,l) ← ev F n a r
  some (.cmp x,l)
 | n+1,.attr a,r=>do
  let (x,l) ← ev F n a r
  dC x fun d=>some (d,l)
 | n+1,.compare a b c,r=>do
  let (x,l) ← ev F n a r
  let (xs,l') ← evL (fun a=>ev F n a r) [b,c]
  dC x fun x=>do
   let (v,l3) ← F.call 14 (.cmp x::xs)
   some (v,l++(l'++l3))
 | n+1,.lc e t i c fs,r=>do
  let (ds,l) ← itr (fun a=>ev F n a r) i
  let (xs,l') ← turns t (fun r=>condD (fun a=>ev F n a r) c) (ev F n e) ds (mask fs r)
  if xs.length≤65536 then some (.lst xs,l++l') else none
 | n+1,.lc2 e t i t' i' fs,r=>do
  let (ds,l) ← itr (fun a=>ev F n a r) i
  let (xs,l') ← turns t (fun _=>some (true,[])) (fun r=>do
   let (ds',l) ← itr (fun a=>ev F n a r) i'
   let (xs,l') ← turns t' (fun _=>some (true,[])) (ev F n e) ds' r
   some (xs,l++l')) ds (mask fs r)
  if xs.flatten.length≤65536 then some (.lst xs.flatten,l++l') else none
 | n+1,.dc k v t i fs,r=>do
  let (ds,l) ← itr (fun a=>ev F n a r) i
  let (xs,l') ← turns t (fun _=>some (true,[])) (fun r=>do
   let (x,l) ← ev F n k r
   let (y,l') ← ev F n v r
   some ((x,y),l++l')) ds (mask fs r)
  let z ← dctOf xs
  some (z,l++l')
end
noncomputable abbrev R2:=Option (Fl × Rho × List D)
noncomputable def forD (f:Rho→R2) (t:Tg):List D→Rho→R2
 | [],r=>some (.next,r,[])
 | d::ds,r=>do
  let r ← asgT t d r
  let (fl,r,l) ← f r
  match fl with
  | .ret v=>some (.ret v,r,l)
  | .next=>do
   let (fl,r,l') ← forD f t ds r
   some (fl,r,l++l')
noncomputable def exB (f:St→Rho→R2):List St→Rho→R2
 | [],r=>some (.next,r,[])
 | s::ss,r=>do
  let (fl,r,l) ← f s r
  match fl with
  | .ret v=>some (.ret v,r,l)
  | .next=>do
   let (fl,r,l') ← exB f ss r
   some (fl,r,l++l')
noncomputable def putK {α:Type} [DecidableEq α] (k:α) (v:D):List α→List D→List D
 | x::xs,d::ds=>(if x=k then v else d)::putK k v xs ds
 | _,_=>[]
noncomputable def putD {α:Type} [DecidableEq α] (mk:List α→List D→D) (ks:List α) (vs:List D) (v:D) (k:α):Option D:=if ks.contains k then some (mk ks (putK k v ks vs)) else if ks.length < 65536 then some (mk (ks++[k]) (vs++[v])) else none
noncomputable def setD (c i v:D):Option D:=match c with
 | .dctS ks vs=>if i.ctorIdx=4 then dS i (putD .dctS ks vs v) else dI i fun k=>if ks.isEmpty&&vs.isEmpty then putD .dctI [] [] v k else none
 | .dctI ks vs=>dI i (putD .dctI ks vs v)
 | .lst l=>dI i fun i=>(setI l i v).map .lst
 | _=>none
noncomputable def isCont (d:D):Bool:=match d with
 | .lst _=>true
 | .dctS ks vs=>ks.isEmpty&&vs.isEmpty
 | _=>false
noncomputable def iopD (o:Operator) (a b:D):Option D:=match o with
 | .Add=>dI a fun a=>dI b fun b=>some (.int (a+b))
 | .Sub=>dI a fun a=>dI b fun b=>some (.int (a - b))
 | _=>none
noncomputable def EF:Nat:=14
noncomputable def ex (F:Ora):Nat→St→Rho→R2
 | 0,_,_=>none
 | _+1,.asg k e,r=>do
  let (d,l) ← ev F EF e r
  some (.next,setV r k d,l)
 | _+1,.own k e,r=>do
  let (d,l) ← ev F EF e r
  if isCont d&&isFree r k then some (.next,setO r k d,l) else none
 | _+1,.own2 a b x y,r=>do
  let (d,l) ← ev F EF x r
  let (d',l') ← ev F EF y r
  if isCont d&&isCont d'&&isFree r a&&isFree r b&&a != b then some (.next,setO (setO r a d) b d',l++l') else none
 | _+1,.unp ks e,r=>do
  let (d,l) ← ev F EF e r
  let ds ← (match d with
   | .tup ds=>some ds
   | .lst ds=>some ds
   | _=>none)
  let r ← asgNs ks ds r
  some (.next,r,l)
 | _+1,.swp ks es,r=>do
  let (ds,l) ← evL (fun e=>ev F EF e r) es
  let r ← asgNs ks ds r
  some (.next,r,l)
 | _+1,.popd k m p i b,r=>do
  let s ← getV r k
  let (j,l) ← ev F EF i r
  let c ← getO r p
  dS s fun s=>dI j fun j=>dL c fun ds=>if 0≤j then do
    let t ← ds[j.toNat]?
    dS t fun t=>if s.length+t.length≤65536 then do
      let r:=setO r p (.lst (ds.eraseIdx j.toNat))
      let (y,l') ← ev F EF b r
      some (.next,setV (setV r k (.str (s++t))) m y,l++l')
     else none
   else none
 | _+1,.aug k o e,r=>do
  let x ← getV r k
  let (y,l) ← ev F EF e r
  let z ← iopD o x y
  some (.next,setV r k z,l)
 | _+1,.augo k i o e,r=>do
  let c ← getO r k
  let (j,l) ← ev F EF i r
  let x ← subD c j
  let (y,l') ← ev F EF e r
  let z ← iopD o x y
  let c ← setD c j z
  some (.next,setO r k c,l++l')
 | _+1,.seto k i e,r=>do
  let (y,l) ← ev F EF e r
  let c ← getO r k
  let (j,l') ← ev F EF i r
  let c ← setD c j y
  some (.next,setO r k c,l++l')
 | _+1,.app k e,r=>do
  let (y,l) ← ev F EF e r
  let c ← getO r k
  dL c fun ds=>if ds.length < 65536 then some (.next,setO r k (.lst (ds++[y])),l) else none
 | _+1,.note k e,r=>do
  let (y,l) ← ev F EF e r
  let c ← getV r k
  if c.ctorIdx=10 then some (.next,r,l++[y]) else none
 | n+1,.ite t a b,r=>do
  let (x,l) ← ev F EF t r
  let q ← truthD x
  let (fl,r,l') ← exB (ex F n) (if q then a else b) r
  some (fl,r,l++l')
 | n+1,.for_ t i b,r=>do
  let (ds,l) ← itr (fun a=>ev F EF a r) i
  let (fl,r,l') ← forD (exB (ex F n) b) t ds r
  some (fl,r,l++l')
 | _+1,.ret e,r=>do
  let (d,l) ← ev F EF e r
  some (.ret d,r,l)
 | _+1,.reto k,r=>do
  let d ← getO r k
  some (.ret d,r,[])
 | _+1,.dead,_=>none
structure Fn where
 params:Nat
 names:Nat
 body:List St
noncomputable def runFn (F:Ora) (f:Fn) (args:List D):R1 :=
 if args.length=f.params then do
  let (fl,_,l) ← exB (ex F 8) f.body (entry args)
  match fl with
  | .ret d=>some (d,l)
  | .next=>some (.none,l)
 else none
noncomputable def oraN (fs:Nat→Option Fn) (b1:Int→Bool) (b3:Int→Option (List Nat)):Nat→Ora
 | 0=>⟨fun _ _=>none,b1,b3⟩
 | n+1=>⟨fun k args=>(fs k).bind fun f=>runFn (oraN fs b1 b3 n) f args,b1,b3⟩
section
variable {w:World} {K:Frag} {g g':G} {s:Shared} {A:Around}
structure Frm where
 env:Env
 T:List Str
 V:List Nat
 own:List (Nat × Addr)
 top:Bool
noncomputable def VarAt (env:Env) (h:Heap) (x:Str) (v:Value):Prop :=
 (env.kindOf x=some .local∧∃ m,h.Ns env.locals m∧m x=some v) ∨
 ((env.kindOf x=some .cell ∨ env.kindOf x=some .free)∧∃ c,env.cells.lookup x=some c∧h.IsCell c (some v))
noncomputable def OwnRep (w:World) (g:G) (h:Heap) (a:Addr):D→Prop
 | .lst ds=>∃ vs,PL h a vs∧vs.size≤65536∧RepL w g h vs.toList ds
 | .dctS ks ds=>(a == sysModules)=false∧∃ kvs,h.DictOf (strKind pw w) a kvs∧kvs.length≤65536∧kvs.map (·.1)=ks.map S∧RepL w g h (kvs.map (·.2)) ds
 | .dctI ks ds=>(a == sysModules)=false∧∃ kvs,h.DictOf (intKind pw w) a kvs∧kvs.length≤65536∧kvs.map (·.1)=ks∧RepL w g h (kvs.map (·.2)) ds
 | _=>False
noncomputable def Frm.priv (F:Frm):List Addr:=F.env.locals::(F.env.cells.map (·.2)++F.own.map (·.2))
noncomputable def Frm.wr (F:Frm) (b:Addr):Prop:=if F.top then b ∈ F.priv else b=F.env.locals
noncomputable def BV (w:World) (g:G) (h:Heap) (F:Frm) (n:Nat) (v:Value):B→Prop
 | .val d=>Rep w g h v d
 | .own d=>∃ a,v=.ref a∧F.own.lookup n=some a∧OwnRep w g h a d
 | .free=>False
noncomputable def Bnd (w:World) (g:G) (h:Heap) (F:Frm) (n:Nat):B→Prop
 | .val d=>n ∈ F.V∧∃ x v,F.T[n]?=some x∧VarAt F.env h x v∧Rep w g h v d
 | .own d=>n ∈ F.V∧∃ x a,F.T[n]?=some x∧F.own.lookup n=some a∧VarAt F.env h x (.ref a)∧OwnRep w g h a d
 | .free=>F.own.lookup n=none
structure EnvOk (w:World) (g:G) (h:Heap) (F:Frm) (r:Rho):Prop where
 kind:F.env.scope.kind=.function
 glob:F.env.globals=mainGlobals∧F.env.builtins=builtinsNs
 loc:∃ m,h.Ns F.env.locals m
 cel:∀ c ∈ F.env.cells.map (·.2),∃ o,h.IsCell c o
 nodup:F.priv.Nodup
 px:∀ a ∈ F.priv,g.X a∧g.na ≠ some a
 inj:∀ n m x,n ∈ F.V→m ∈ F.V→F.T[n]?=some x→F.T[m]?=some x→n=m
 bnd:∀ n b,r n=some b→Bnd w g h F n b
theorem OwnRep.le {h h':Heap} (L:Le g h g' h') {a:Addr} (k:∀ o,h.get? a=some o→h'.get? a=some o) {d:D} (x:OwnRep w g h a d):OwnRep w g' h' a d:=by
 cases d with
 | lst=>exact x.elim fun vs x=>⟨vs,x.1.at k,x.2.1,x.2.2.le L⟩
 | dctS=>exact ⟨x.1,x.2.elim fun vs x=>⟨vs,x.1.at k,x.2.1,x.2.2.1,x.2.2.2.le L⟩⟩
 | dctI=>exact ⟨x.1,x.2.elim fun vs x=>⟨vs,x.1.at k,x.2.1,x.2.2.1,x.2.2.2.le L⟩⟩
 | _=>exact x
theorem isCell_at {h h':Heap} {c:Addr} {o:Option Value} (x:h.IsCell c o) (k:∀ o,h.get? c=some o→h'.get? c=some o):h'.IsCell c o:=x.elim fun ob x=>⟨ob,k _ x.1,x.2⟩
theorem lookup_mem {κ α:Type} [BEq κ] [LawfulBEq κ] {l:List (κ × α)} {x:κ} {a:α} (h:l.lookup x=some a):a ∈ l.map (·.2):=by
 obtain ⟨l1,l2,rfl,_⟩:=List.lookup_eq_some_iff.mp h
 rw [List.map_append]
 exact List.mem_append_right _ (List.mem_cons_self ..)
theorem lookup_inj {κ α:Type} [BEq κ] [LawfulBEq κ] {x y:κ} {a:α}:∀ {l:List (κ × α)},(l.map (·.2)).Nodup→l.lookup x=some a→l.lookup y=some a→x=y:=by
 intro l
 induction l with
 | nil=>intro _ h; cases h
 | cons p l ih =>
  intro n h h'
  obtain ⟨n1,n2⟩:=List.nodup_cons.mp n
  have n1:p.2 ∉ l.map (·.2):=n1
  rw [List.lookup_cons] at h h'
  cases e:x == p.1 <;> cases e':y == p.1 <;> rw [e] at h <;> rw [e'] at h'
  ·exact ih n2 h h'
  ·exact absurd (Option.some.inj h'.symm ▸ lookup_mem h) n1
  ·exact absurd (Option.some.inj h.symm ▸ lookup_mem h') n1
  ·rw [eq_of_beq e,eq_of_beq e']
theorem VarAt.at {env:Env} {h h':Heap} {x:Str} {v:Value} (y:VarAt env h x v) (kl:∀ o,h.get? env.locals=some o→h'.get? env.locals=some o)
  (kc:∀ c ∈ env.cells.map (·.2),∀ o,h.get? c=some o→h'.get? c=some o):VarAt env h' x v :=
 y.imp (fun y=>⟨y.1,y.2.imp fun m y=>⟨y.1.at' kl,y.2⟩⟩) fun y=>⟨y.1,y.2.imp fun c y=>⟨y.1,isCell_at y.2 (kc _ (lookup_mem y.1))⟩⟩
section
variable {F:Frm} {r:Rho} {h h':Heap} {n:Nat} {b:B} {v:Value}
theorem EnvOk.cells_mem (x:EnvOk w g h F r) {c:Addr} (hc:c ∈ F.env.cells.map (·.2)):c ∈ F.priv:=List.mem_cons_of_mem _ (List.mem_append_left _ hc)
theorem Frm.own_mem {c:Addr} (hc:c ∈ F.own.map (·.2)):c ∈ F.priv:=List.mem_cons_of_mem _ (List.mem_append_right _ hc)
theorem BV.bnd {x:Str} (L:Le g h g' h') (k:∀ a,F.own.lookup n=some a→∀ o,h.get? a=some o→h'.get? a=some o) (hV:n ∈ F.V) (hx:F.T[n]?=some x) (hv:VarAt F.env h' x v) (y:BV w g h F n v b):Bnd w g' h' F n b:=by
 cases b with
 | val d=>exact ⟨hV,x,v,hx,hv,Rep.le L y⟩
 | own d=>obtain ⟨a,rfl,e,r⟩:=y; exact ⟨hV,x,a,hx,e,hv,r.le L (k a e)⟩
 | free=>exact y.elim
theorem Bnd.le (L:Le g h g' h') (k:∀ a,F.own.lookup n=some a→∀ o,h.get? a=some o→h'.get? a=some o) (q:∀ x v,n ∈ F.V→F.T[n]?=some x→VarAt F.env h x v→VarAt F.env h' x v) (x:Bnd w g h F n b):Bnd w g' h' F n b:=by
 cases b with
 | val d=>exact ⟨x.1,x.2.imp fun y z=>z.imp fun v z=>⟨z.1,q y v x.1 z.1 z.2.1,Rep.le L z.2.2⟩⟩
 | own d=>exact ⟨x.1,x.2.imp fun y z=>z.imp fun a z=>⟨z.1,z.2.1,q y _ x.1 z.1 z.2.2.1,z.2.2.2.le L (k a z.2.1)⟩⟩
 | free=>exact x
theorem EnvOk.var (x:EnvOk w g h F r) (n:Nat) (d:D) (e:r n=some (.val d)):n ∈ F.V∧∃ x v,F.T[n]?=some x∧VarAt F.env h x v∧Rep w g h v d:=x.bnd n _ e
theorem EnvOk.own (x:EnvOk w g h F r) (n:Nat) (d:D) (e:r n=some (.own d)):n ∈ F.V∧∃ x a,F.T[n]?=some x∧F.own.lookup n=some a∧VarAt F.env h x (.ref a)∧OwnRep w g h a d:=x.bnd n _ e
theorem free_iff {o:Option B} (e:(match o with | some .free=>true | _=>false)=true):o=some .free:=by
 cases o with
 | none=>cases e
 | some b=>cases b <;> first | rfl | cases e
theorem EnvOk.free (x:EnvOk w g h F r) (e:isFree r n=true):F.own.lookup n=none:=x.bnd n _ (free_iff e)
theorem EnvOk.le (x:EnvOk w g h F r) (L:Le g h g' h') (k:∀ b ∈ F.priv,∀ o,h.get? b=some o→h'.get? b=some o) (px:∀ a ∈ F.priv,g'.X a):EnvOk w g' h' F r where
 kind:=x.kind
 glob:=x.glob
 loc:=x.loc.imp fun m n=>n.at' (k _ (List.mem_cons_self ..))
 cel:=fun c hc=>(x.cel c hc).imp fun o y=>isCell_at y (k c (x.cells_mem hc))
 nodup:=x.nodup
 px:=fun a ha=>⟨px a ha,by rw [L.na]; exact (x.px a ha).2⟩
 inj:=x.inj
 bnd:=fun n b e=>(x.bnd n b e).le L (fun a e=>k a (Frm.own_mem (lookup_mem e))) fun _ _ _ _ y=>y.at (k _ (List.mem_cons_self ..)) fun c hc=>k c (x.cells_mem hc)
theorem EnvOk.live (x:EnvOk w g s.heap F r) (I:Inv w K g s) {b:Addr} (hb:b ∈ F.priv):b < s.heap.objs.size:=I.xlt (x.px b hb).1
theorem EnvOk.ste {s':Shared} {l:List D} (x:EnvOk w g s.heap F r) (I:Inv w K g s) (a:Ste w K g s g' s' l):EnvOk w g' s'.heap F r :=
 x.le (a.le I) (fun b hb o e=>a.keep b o (fun f=>f) (x.px b hb).2 e) fun b hb=>(a.X b (x.live I hb)).mpr (x.px b hb).1
theorem EnvOk.put (y:EnvOk w g h F r) {a:Addr} {x:Str} (hp:a ∈ F.priv) (ho:a ∉ F.own.map (·.2)) (hs:Heap.SameBut a h h') (hl:∃ m,h'.Ns F.env.locals m) (hcs:∀ c ∈ F.env.cells.map (·.2),∃ o,h'.IsCell c o) (hv:VarAt F.env h' x v)
  (hother:∀ x' v',x' ≠ x→VarAt F.env h x' v'→VarAt F.env h' x' v') (hn:n ∈ F.V) (hx:F.T[n]?=some x) (hb:BV w g h F n v b):EnvOk w g h' F (setB r n b):=by
 have L:Le g h g h':=⟨fun b o n e=>⟨n,(hs.2 b (fun q=>n (q ▸ (y.px a hp).1))).trans e⟩,fun _ _ e=>e,rfl,rfl⟩
 have ko:∀ m a',F.own.lookup m=some a'→∀ o,h.get? a'=some o→h'.get? a'=some o:=fun m a' e o e'=>(hs.2 a' fun q=>ho (q ▸ lookup_mem e)).trans e'
 refine ⟨y.kind,y.glob,hl,hcs,y.nodup,y.px,y.inj,fun m c e=>?_⟩
 rcases setB_at r n b m with ⟨rfl,q⟩ | ⟨q,p⟩
 ·exact Option.some.inj (q.symm.trans e) ▸ hb.bnd L (ko m) hn hx hv
 ·rw [p] at e
  exact (y.bnd m c e).le L (ko m) fun x' v' hV e1=>hother x' v' fun q'=>q (y.inj m n x hV hn (q' ▸ e1) hx)
end
theorem inv_same (I:Inv w K g s) {a:Addr} (ha:g.X a) (hn:g.na ≠ some a) {h':Heap} {tk:Nat} (hv:∃ o,h'.get? a=some o) (hs:Heap.SameBut a s.heap h') (ht:s.toks≤tk):Inv w K g { s with heap:=h',toks:=tk } where
 gens:=I.gens
 xb:=fun b hb=>by
  by_cases q:b=a
  ·rw [q]; exact hv
  ·obtain ⟨o,e⟩:=I.xb b hb; exact ⟨o,(hs.2 b q).trans e⟩
 kin:=fun b o e=>(hs.2 b (fun q=>I.kx b o e (q ▸ ha))).trans (I.kin b o e)
 kx:=I.kx
 na:=fun b e=>by
  obtain ⟨x,vs,hl,hr⟩:=I.na b e
  refine ⟨x,vs,hl.at fun o e'=>(hs.2 b (fun q=>hn (q ▸ e))).trans e',hr.le ⟨fun c o n e'=>⟨n,(hs.2 c (fun q=>n (q ▸ ha))).trans e'⟩,fun _ _ e=>e,rfl,rfl⟩⟩
 na0:=I.na0
 tk:=fun t h=>I.tk t (Nat.le_trans ht h)
 tk0:=Nat.lt_of_lt_of_le I.tk0 ht
 gf:=I.gf
 big:=by show 64≤h'.objs.size; rw [hs.1]; exact I.big
theorem ste_same (I:Inv w K g s) {a:Addr} {P:Addr→Prop} (hP:P a) (ha:g.X a) (hn:g.na ≠ some a) {h':Heap} {tk:Nat} (hv:∃ o,h'.get? a=some o) (hs:Heap.SameBut a s.heap h') (ht:s.toks≤tk) :
  SteP w K P g s g { s with heap:=h',toks:=tk } [] where
 X:=fun _ _=>.rfl
 na:=rfl
 tc:=rfl
 gf:=rfl
 log:=by simp
 fl:=fun _ _ e=>e
 keep:=fun b o p _ e=>(hs.2 b (fun q=>p (q ▸ hP))).trans e
 same:=⟨_,_,rfl⟩
 inv:=inv_same I ha hn hv hs ht
 size:=by show s.heap.objs.size≤h'.objs.size; rw [hs.1]; exact Nat.le_refl _
 toks:=ht
theorem le_same {a:Addr} (ha:g.X a) {h h':Heap} (hs:Heap.SameBut a h h'):Le g h g h':=⟨fun b o n e=>⟨n,(hs.2 b (fun q=>n (q ▸ ha))).trans e⟩,fun _ _ e=>e,rfl,rfl⟩
theorem getV_iff {r:Rho} {n:Nat} {d:D}:getV r n=some d ↔ r n=some (.val d):=by
 unfold getV
 cases r n with
 | none=>exact ⟨fun e=>(by cases e),fun e=>(by cases e)⟩
 | some b=>cases b with
  | val b=>exact ⟨fun e=>congrArg (fun e=>e.map B.val) e,fun e=>congrArg (fun e=>e.bind fun | .val d=>some d | _=>none) e⟩
  | _=>exact ⟨fun e=>(by cases e),fun e=>(by cases e)⟩
theorem getO_iff {r:Rho} {n:Nat} {d:D}:getO r n=some d ↔ r n=some (.own d):=by
 unfold getO
 cases r n with
 | none=>exact ⟨fun e=>(by cases e),fun e=>(by cases e)⟩
 | some b=>cases b with
  | own b=>exact ⟨fun e=>congrArg (fun e=>e.map B.own) e,fun e=>congrArg (fun e=>e.bind fun | .own d=>some d | _=>none) e⟩
  | _=>exact ⟨fun e=>(by cases e),fun e=>(by cases e)⟩
theorem eval_var {F:Frm} {r:Rho} {x:Str} {p:Pos} {v:Value} {E:Value→Shared→Prop} {Q:Value→Shared→Prop} (y:EnvOk w g s.heap F r) (hv:VarAt F.env s.heap x v) (hd:(x == ("__debug__":Str))=false)
  (hc:(x == ("__classdict__":Str))=false) (h:Q v s):wpAny (model pw w) A (eval (.Name x p) F.env) Q E s:=by
 refine wpAny_Name ?_ hd
 rcases hv with ⟨a,m,b,c⟩ | ⟨a | a,c,b,d⟩
 ·exact wpAny_loadName_local y.kind a b c h
 ·exact wpAny_loadName_cell y.kind a b d h
 ·exact wpAny_loadName_free y.kind a b d h hc
theorem ns_det {h:Heap} {a:Addr} {m m':Str→Option Value} (x:h.Ns a m) (y:h.Ns a m'):m=m':=by
 obtain ⟨o,es,ep,e1,e2,_,e3⟩:=x
 obtain ⟨o',es',ep',f1,f2,_,f3⟩:=y
 rw [e1] at f1; cases f1
 rw [e2] at f2; cases f2
 exact funext fun x=>(e3 x).symm.trans (f3 x)
section
variable {F:Frm} {r:Rho} {n:Nat} {x:Str} {v:Value} {b:B} {E:Value→Shared→Prop} {Q:Unit→Shared→Prop} (I:Inv w K g s) (y:EnvOk w g s.heap F r) (hn:n ∈ F.V) (hx:F.T[n]?=some x) (hb:BV w g s.heap F n v b)
 (h:∀ s',SteP w K F.wr g s g s' []→EnvOk w g s'.heap F (setB r n b)→Q () s')
include I y hn hx hb h
theorem store_local (hk:F.env.kindOf x=some .local):wpAny (model pw w) A (storeName F.env x v) Q E s:=by
 obtain ⟨m,hm⟩:=y.loc
 obtain ⟨nd1,_⟩:=List.nodup_cons.mp y.nodup
 refine wpAny_storeName_local hk hm (fun h' hn' hs'=>?_) (by rw [y.kind]; rfl)
 have p:=y.px _ (List.mem_cons_self ..)
 refine h _ (ste_same I ?_ p.1 p.2 (ns_live hn') hs' (Nat.le_succ _)) (y.put (List.mem_cons_self ..) (fun q=>nd1 (List.mem_append_right _ q)) hs' ⟨_,hn'⟩ (fun c hc=>?_) (.inl ⟨hk,_,hn',by simp⟩) (fun x' v' ne hv=>?_) hn hx hb)
 ·unfold Frm.wr; split
  ·exact List.mem_cons_self ..
  ·rfl
 ·exact (y.cel c hc).imp fun o ho=>isCell_at ho fun o e=>(hs'.2 c fun q=>nd1 (List.mem_append_left _ (q ▸ hc))).trans e
 ·refine hv.imp (fun ⟨a,m',b,c⟩=>⟨a,_,hn',?_⟩) fun ⟨a,c,b,d⟩=>⟨a,c,b,isCell_at d fun o e=>(hs'.2 c fun q=>nd1 (List.mem_append_left _ (q ▸ lookup_mem b))).trans e⟩
  rw [if_neg ne,← c,ns_det b hm]
theorem store_cell (hk:F.env.kindOf x=some .cell) (ht:F.top=true) (hc:(F.env.cells.lookup x).isSome=true):wpAny (model pw w) A (storeName F.env x v) Q E s:=by
 obtain ⟨c,hc⟩:=Option.isSome_iff_exists.mp hc
 have cm:=lookup_mem hc
 obtain ⟨o,ho⟩:=y.cel c cm
 obtain ⟨nd1,nd2⟩:=List.nodup_cons.mp y.nodup
 obtain ⟨ndc,_,nd2⟩:=List.nodup_append.mp nd2
 have ncl:F.env.locals ≠ c:=fun q=>nd1 (List.mem_append_left _ (q ▸ cm))
 have p:=y.px _ (y.cells_mem cm)
 refine wpAny_storeName_cell y.kind hk hc ho fun h' hc' hs'=>?_
 refine h _ (ste_same I ?_ p.1 p.2 (hc'.imp fun _ e=>e.1) hs' (Nat.le_refl _)) (y.put (y.cells_mem cm) (fun q=>nd2 _ cm _ q rfl) hs' (y.loc.imp fun m hm=>hm.at' fun o e=>(hs'.2 _ ncl).trans e) (fun c' hm=>?_) (.inr ⟨.inl hk,c,hc,hc'⟩)
  (fun x' v' ne hv=>hv.imp (fun ⟨a,m',b,c2⟩=>⟨a,m',b.at' fun o e=>(hs'.2 _ ncl).trans e,c2⟩) fun ⟨a,c',b,d⟩=>⟨a,c',b,isCell_at d fun o e=>(hs'.2 c' fun q=>ne (lookup_inj ndc b (q ▸ hc))).trans e⟩) hn hx hb)
 ·unfold Frm.wr; rw [if_pos ht]; exact y.cells_mem cm
 ·by_cases q:c'=c
  ·exact q ▸ ⟨_,hc'⟩
  ·exact (y.cel c' hm).imp fun o ho=>isCell_at ho fun o e=>(hs'.2 c' q).trans e
theorem store_any (hk:F.env.kindOf x=some .local ∨ (F.env.kindOf x=some .cell∧F.top=true∧(F.env.cells.lookup x).isSome=true)):wpAny (model pw w) A (storeName F.env x v) Q E s :=
 hk.elim (store_local I y hn hx hb h) fun k=>store_cell I y hn hx hb h k.1 k.2.1 k.2.2
end
end
section
structure Cx where
 w:World
 K:Frag
 gf:List (Tok × UInt64)
 tc:Addr
 O:Ora
structure Good (C:Cx) (g:G) (s:Shared):Prop where
 inv:Inv C.w C.K g s
 gf:g.gf=C.gf
 tc:g.tc=C.tc
theorem Good.ste {C:Cx} {g g':G} {s s':Shared} {P:Addr→Prop} {l:List D} (G:Good C g s) (a:SteP C.w C.K P g s g' s' l):Good C g' s':=⟨a.inv,a.gf.trans G.gf,a.tc.trans G.tc⟩
structure At (C:Cx) (F:Frm) (r:Rho) (g:G) (s:Shared) (l:List D):Prop where
 good:Good C g s
 ev:EnvOk C.w g s.heap F r
 lg:g.log.length+l.length≤65536
section
variable {C:Cx} {F:Frm} {r:Rho} {g g':G} {s s':Shared} {l l':List D}
theorem At.inv (H:At C F r g s l):Inv C.w C.K g s:=H.good.inv
theorem lg_l {a:Nat} (h:a+(l++l').length≤65536):a+l.length≤65536:=Nat.le_trans (Nat.add_le_add_left (List.length_append ▸ Nat.le_add_right ..) a) h
theorem lg_r {a:List D} (h:a.length+(l++l').length≤65536):(a++l).length+l'.length≤65536:=by rwa [List.length_append,Nat.add_assoc,← List.length_append]
theorem At.a (H:At C F r g s (l++l')):At C F r g s l:=⟨H.good,H.ev,lg_l H.lg⟩
theorem At.b (H:At C F r g s (l++l')) (S:Ste C.w C.K g s g' s' l):At C F r g' s' l':=⟨H.good.ste S,H.ev.ste H.inv S,S.log ▸ lg_r H.lg⟩
theorem At.done (H:At C F r g s l) (S:Ste C.w C.K g s g' s' l):At C F r g' s' []:=((List.append_nil l).symm ▸ H:At C F r g s (l++[])).b S
theorem Ste.trans0 {w:World} {K:Frag} {P:Addr→Prop} {g'':G} {s'':Shared} (S:SteP w K P g s g' s' l) (S':SteP w K P g' s' g'' s'' []):SteP w K P g s g'' s'' l:=List.append_nil l ▸ S.trans S'
theorem Ste.trans0' {w:World} {K:Frag} {P P':Addr→Prop} {g'':G} {s'':Shared} (S:SteP w K P g s g' s' l) (S':SteP w K P' g' s' g'' s'' []) (h:∀ b,P' b→P b ∨ s.heap.objs.size≤b):SteP w K P g s g'' s'' l:=List.append_nil l ▸ S.trans' S' h
theorem Ste.trans3 {w:World} {K:Frag} {P:Addr→Prop} {g'':G} {s'':Shared} {l'':List D} (S:SteP w K P g s g' s' (l++l')) (S':SteP w K P g' s' g'' s'' l''):SteP w K P g s g'' s'' (l++(l'++l'')):=List.append_assoc .. ▸ S.trans S'
end
noncomputable def EvOk (C:Cx) (A:Around) (F:Frm) (r:Rho) (m:Sem Value) (d:D) (l:List D):Prop :=
 ∀ (g:G) (s:Shared) (E Q:Value→Shared→Prop),At C F r g s l →
  (∀ g' s' v,Ste C.w C.K g s g' s' l→Rep C.w g' s'.heap v d→Q v s')→wpAny (model pw C.w) A m Q E s
noncomputable def EvsOk (C:Cx) (A:Around) (F:Frm) (r:Rho) (m:Sem (List Value)) (ds:List D) (l:List D):Prop :=
 ∀ (g:G) (s:Shared) (E:Value→Shared→Prop) (Q:List Value→Shared→Prop),At C F r g s l →
  (∀ g' s' vs,Ste C.w C.K g s g' s' l→RepL C.w g' s'.heap vs ds→Q vs s')→wpAny (model pw C.w) A m Q E s
noncomputable def TestOk (C:Cx) (A:Around) (F:Frm) (r:Rho) (m:Sem Bool) (b:Bool) (l:List D):Prop :=
 ∀ (g:G) (s:Shared) (E:Value→Shared→Prop) (Q:Bool→Shared→Prop),At C F r g s l →
  (∀ g' s',Ste C.w C.K g s g' s' l→Q b s')→wpAny (model pw C.w) A m Q E s
section
variable {C:Cx} {A:Around} {F:Frm} {r:Rho} {a b:Expr} {d d':D} {l l':List D} {g:G} {s:Shared} {E:Value→Shared→Prop}
theorem EvOk.two {ma mb:Sem Value} (x:EvOk C A F r ma d l) (y:EvOk C A F r mb d' l') (H:At C F r g s (l++l'))
  {Q:Value→Value→Shared→Prop} (h:∀ g' s' v v',Ste C.w C.K g s g' s' (l++l')→At C F r g' s' []→Rep C.w g' s'.heap v d→Rep C.w g' s'.heap v' d'→Q v v' s') :
  wpAny (model pw C.w) A ma (fun v s₁=>wpAny (model pw C.w) A mb (fun v' s₂=>Q v v' s₂) E s₁) E s :=
 x g s E _ H.a fun g₁ s₁ v S₁ r₁=>y g₁ s₁ E _ (H.b S₁) fun g₂ s₂ v' S₂ r₂=>h g₂ s₂ v v' (S₁.trans S₂) ((H.b S₁).done S₂) (r₁.le (S₂.le S₁.inv)) r₂
theorem Ste.addPost0 {g':G} {s':Shared} {Q:Value→Shared→Prop} {l:List D} (S:Ste C.w C.K g s g' s' l) (h:∀ g' s' v,Ste C.w C.K g s g' s' l→Rep C.w g' s'.heap v d→Q v s') :
  Post C.w C.K g' s' d Q:=fun g₂ s₂ v S₂ r=>h g₂ s₂ v (Ste.trans0 S S₂) r
theorem ok_none {k p}:EvOk C A F r (eval (.Constant .none k p) F.env) .none []:=fun g s E Q H h=>wpAny_Constant_none (Post.here H.inv h .none)
theorem ok_bool {b k p}:EvOk C A F r (eval (.Constant (.bool b) k p) F.env) (.bool b) []:=fun g s E Q H h=>wpAny_Constant_bool (Post.bool H.inv h)
theorem ok_int {i k p}:EvOk C A F r (eval (.Constant (.int i) k p) F.env) (.int i) []:=fun g s E Q H h=>wpAny_Constant_int (Post.int H.inv h)
theorem ok_flt {x k p}:EvOk C A F r (eval (.Constant (.float x) k p) F.env) (.flt x) []:=fun g s E Q H h=>AutoFloatOps.wpAny_Constant_float (Post.flt H.inv h)
theorem ok_str {x:List Nat} {k p}:EvOk C A F r (eval (.Constant (.str (S x)) k p) F.env) (.str x) []:=fun g s E Q H h=>wpAny_Constant_str (Post.str H.inv h)
theorem ok_var {n:Nat} {x:Str} {p:Pos} (hx:F.T[n]?=some x) (hd:(x == ("__debug__":Str))=false) (hc:(x == ("__classdict__":Str))=false) (hv:getV r n=some d) :
  EvOk C A F r (eval (.Name x p) F.env) d []:=fun g s E Q H h=>by
 obtain ⟨_,y,v,hy,hva,hr⟩:=H.ev.var n d (getV_iff.mp hv)
 rw [Option.some.inj (hx.symm.trans hy)] at hd hc ⊢
 exact eval_var H.ev hva hd hc (h g s v (Ste.refl H.inv) hr)
theorem ok_bin {o:Operator} {p:Pos} {c:D} (x:EvOk C A F r (eval a F.env) d l) (y:EvOk C A F r (eval b F.env) d' l') (hb:binD o d d'=some c) :
  EvOk C A F r (eval (.BinOp a o b p) F.env) c (l++l'):=fun g s E Q H h =>
 wpAny_BinOp (x.two y H fun g' s' v v' S H' ra rb=>bin_sound H'.inv ra rb (S.addPost0 h) hb)
theorem ok_neg {p:Pos} {i:Int} (x:EvOk C A F r (eval a F.env) (.int i) l):EvOk C A F r (eval (.UnaryOp .USub a p) F.env) (.int (-i)) l:=fun g s E Q H h =>
 wpAny_UnaryOp (x g s E _ H fun g' s' v S ra=>by
  obtain ⟨t,rfl⟩:=ra.int_inv
  exact PyProof.Rows.neg_int (Post.int S.inv (S.addPost0 h)))
section
variable (kit:Kit C.K) (hu:A.units+60 < cLine) {o:CmpOp} {p:Pos} {q:Bool} (x:EvOk C A F r (eval a F.env) d l) (y:EvOk C A F r (eval b F.env) d' l') (hb:cmpD o d d'=some q)
include kit hu x y hb
theorem ok_cmp (hm:behindInMarks o b=false):EvOk C A F r (eval (.Compare a [o] [b] p) F.env) (.bool q) (l++l'):=fun g s E Q H h =>
 wpAny_Compare1 (x.two y H fun g' s' v v' S H' ra rb=>cmp_sound kit H'.inv ra rb hb hu (Post.bool H'.inv (S.addPost0 h))) hm
theorem ok_cmpT {m:Sem Value} (hm:behindInMarks o b=false):TestOk C A F r (isTrue (.Compare a [o] [b] p) F.env m) q (l++l'):=fun g s E Q H h =>
 wpAny_isTrue_Compare1 (x.two y H fun g' s' v v' S H' ra rb=>cmp_sound kit H'.inv ra rb hb hu (wpAny_truthy_bool (h g' s' S))) hm
theorem cmp2_pre {o':CmpOp} {c:Expr} (hm:lastMarks [o,o'] [b,c]=false) (H:At C F r g s (l++l')) {Q:Value→Shared→Prop}
  (h:∀ g' s' v',Ste C.w C.K g s g' s' (l++l')→Rep C.w g' s'.heap v' d'→if q=true then wpAny (model pw C.w) A (compareChain p v' [o'] [eval c F.env]) Q E s' else Q (.bool q) s') :
  wpAny (model pw C.w) A (eval (.Compare a [o,o'] [b,c] p) F.env) Q E s:=by
 refine PyProof.Rows.Compare_chain (x g s E _ H.a fun g₁ s₁ v S₁ ra=>PyProof.Rows.chain_link (y g₁ s₁ E _ (H.b S₁) fun g₂ s₂ v' S₂ rb=>?_)) hm
 exact cmp_sound kit S₂.inv (ra.le (S₂.le S₁.inv)) rb hb hu (wpAny_truthy_bool (h g₂ s₂ v' (S₁.trans S₂) rb))
end
section
variable (kit:Kit C.K) (hu:A.units+60 < cLine) {o o':CmpOp} {p:Pos} {c:Expr} {q':Bool} {d'':D} {l'':List D} (hm:lastMarks [o,o'] [b,c]=false) (x:EvOk C A F r (eval a F.env) d l) (y:EvOk C A F r (eval b F.env) d' l')
include kit hu hm x y
theorem ok_cmp2F (hb:cmpD o d d'=some false):EvOk C A F r (eval (.Compare a [o,o'] [b,c] p) F.env) (.bool false) (l++l'):=fun g s E Q H h =>
 cmp2_pre kit hu x y hb hm H fun g' s' v' S rb=>h g' s' _ S (.bool false)
theorem ok_cmp2T (hb:cmpD o d d'=some true) (z:EvOk C A F r (eval c F.env) d'' l'') (hz:cmpD o' d' d''=some q'):EvOk C A F r (eval (.Compare a [o,o'] [b,c] p) F.env) (.bool q') (l++(l'++l'')):=fun g s E Q H h =>
 have H:At C F r g s ((l++l')++l''):=(List.append_assoc l l' l'').symm ▸ H
 cmp2_pre kit hu x y hb hm H.a fun g' s' v' S rb=>PyProof.Rows.chain_last (z g' s' E _ (H.b S) fun g₃ s₃ v₃ S₃ r₃=>cmp_sound kit S₃.inv (rb.le (S₃.le S.inv)) r₃ hz hu (h g₃ s₃ _ (Ste.trans3 S S₃) (.bool q')))
end
theorem fit63 {n:Nat} (h:n≤65536):(n:Int) < 2 ^ 63:=Int.lt_of_le_of_lt (Int.ofNat_le.mpr h) (by decide)
theorem truth_sound {d:D} {v:Value} {q:Bool} {Q:Bool→Shared→Prop} (I:Inv C.w C.K g s) (rv:Rep C.w g s.heap v d) (hq:truthD d=some q) (h:∀ s',Ste C.w C.K g s g s' []→Q q s') :
  wpAny (model pw C.w) A (truthy v) Q E s:=by
 cases d with
 | bool b=>rw [rv.bool_inv]; cases hq; exact wpAny_truthy_bool (h s (Ste.refl I))
 | int i=>obtain ⟨t,rfl⟩:=rv.int_inv; cases hq; exact PyProof.Rows.truthy_int (h s (Ste.refl I))
 | lst ds =>
  obtain ⟨a,vs,rfl,_,ho,hs,hr⟩:=rv.lst_inv
  refine wpAny_truthy_list ho.isList (fit63 hs) ?_
  have e:vs.isEmpty=ds.isEmpty:=by
   rw [show vs.isEmpty=decide (vs.size=0) from rfl,size_eq hr]
   cases ds <;> rfl
  rw [e,Option.some.inj hq]
  exact h _ (Ste.grow I (fun _ _ e=>e) (Nat.le_refl _) (Nat.le_add_right _ 2))
 | _=>cases hq
noncomputable def valTest (e:Expr):Bool:=!(Nat.beq e.ctorIdx 0 || Nat.beq e.ctorIdx 3 || Nat.beq e.ctorIdx 5 || Nat.beq e.ctorIdx 15)
theorem isTrue_val {e:Expr} (h:valTest e=true) (env:Env) (m:Sem Value):isTrue e env m=(do let v ← m; standAt e.pos; holding [v] (truthy v)):=by
 cases e <;> first | rfl | (cases h; done)
theorem ok_valT {e:Expr} {q:Bool} (hv:valTest e=true) (x:EvOk C A F r (eval e F.env) d l) (hq:truthD d=some q):TestOk C A F r (isTrue e F.env (eval e F.env)) q l:=fun g s E Q H h =>
 wpAny_isTrue_value (x g s E _ H fun g' s' v S rv=>truth_sound S.inv rv hq fun s₂ S₂=>h g' s₂ (Ste.trans0 S S₂)) (isTrue_val hv _ _)
theorem ok_notT {e:Expr} {q:Bool} {p:Pos} {m:Sem Value} (x:TestOk C A F r (isTrue e F.env (eval e F.env)) q l):TestOk C A F r (isTrue (.UnaryOp .Not e p) F.env m) (!q) l:=fun g s E Q H h =>
 wpAny_isTrue_Not (x g s E _ H h)
section
variable {p:Pos} {m:Sem Value}
theorem ok_andF (x:TestOk C A F r (isTrue a F.env (eval a F.env)) false l):TestOk C A F r (isTrue (.BoolOp .And [a,b] p) F.env m) false l:=fun g s E Q H h =>
 wpAny_isTrue_BoolOp (wpAny_allTrue_And_cons (x g s E _ H h))
theorem ok_andT {q:Bool} (x:TestOk C A F r (isTrue a F.env (eval a F.env)) true l) (y:TestOk C A F r (isTrue b F.env (eval b F.env)) q l'):TestOk C A F r (isTrue (.BoolOp .And [a,b] p) F.env m) q (l++l'):=fun g s E Q H h =>
 wpAny_isTrue_BoolOp (wpAny_allTrue_And_cons (x g s E _ H.a fun g₁ s₁ S₁=>wpAny_allTrue_And_cons (y g₁ s₁ E _ (H.b S₁) fun g₂ s₂ S₂=>by
  have h:=h g₂ s₂ (S₁.trans S₂)
  cases q
  ·exact h
  ·exact wpAny_allTrue_And_nil h)))
theorem ok_ife {t:Expr} {q:Bool} (x:TestOk C A F r (isTrue t F.env (eval t F.env)) q l) (y:EvOk C A F r (eval (if q then a else b) F.env) d l') :
  EvOk C A F r (eval (.IfExp t a b p) F.env) d (l++l'):=fun g s E Q H h =>
 wpAny_IfExp (x g s E _ H.a fun g₁ s₁ S₁=>by
  have:=y g₁ s₁ E Q (H.b S₁) fun g₂ s₂ v S₂ rv=>h g₂ s₂ v (S₁.trans S₂) rv
  cases q <;> exact this)
end
noncomputable def noStar (e:Expr):Bool:=!Nat.beq e.ctorIdx 22
theorem starEach_cons {e:Expr} {es:List Expr} {env:Env} (h:noStar e=true):starEach (e::es) env=(false,eval e env)::starEach es env:=by
 cases e <;> first | rfl | (cases h; done)
theorem oks_nil {p:Pos}:EvsOk C A F r (spliced (backTo p (starEach [] F.env))) [] []:=fun g s E Q H h=>wpAny_items_nil (h g s [] (Ste.refl H.inv) .nil)
theorem oks_cons {p:Pos} {es:List Expr} {ds:List D} (hs:noStar a=true) (x:EvOk C A F r (eval a F.env) d l) (y:EvsOk C A F r (spliced (backTo p (starEach es F.env))) ds l') :
  EvsOk C A F r (spliced (backTo p (starEach (a::es) F.env))) (d::ds) (l++l'):=fun g s E Q H h =>
 wpAny_items_cons (x g s E _ H.a fun g₁ s₁ v S₁ rv=>y g₁ s₁ E _ (H.b S₁) fun g₂ s₂ vs S₂ rs=>h g₂ s₂ (v::vs) (S₁.trans S₂) (.cons (rv.le (S₂.le S₁.inv)) rs)) (starEach_cons hs)
theorem ok_tup {p:Pos} {k:Nat} {es:List Expr} {ds:List D} (hd:ds.length≤65536) (x:EvsOk C A F r (spliced (backTo p (starEach es F.env))) ds l):EvOk C A F r (eval (.Tuple es k p) F.env) (.tup ds) l:=fun g s E Q H h =>
 wpAny_Tuple (x g s E _ H fun g' s' vs S rs =>
  have hn:vs.length≤65536:=rs.length ▸ hd
  ⟨Nat.le_trans hn (by decide),Post.tup (vs:=vs.toArray) S.inv (S.addPost0 h) rs hn⟩)
end
end
section
noncomputable def G.mut (g:G) (a:Addr):G:={ g with X:=fun b=>b=a ∨ g.X b }
noncomputable def G.frz (g:G) (a:Addr):G:={ g with X:=fun b=>b ≠ a∧g.X b }
theorem is_str {w:World} (x:Str) (t:Tok):(PySem.strKind pw w).is x (.str x t)=true:=by show Value.isStrOf x (.str x t)=true; simp [Value.isStrOf]
theorem is_int {w:World} (x:Int) (t:Tok):(PySem.intKind pw w).is x (.int x t)=true:=by show Value.isInt x (.int x t)=true; simp [Value.isInt]
theorem frz_not {g:G} {a:Addr}:¬ (g.frz a).X a:=fun (q:a ≠ a∧g.X a)=>q.1 rfl
theorem ne_sys {h:Heap} (hb:64≤h.objs.size):(h.objs.size == sysModules)=false:=beq_eq_false_iff_ne.mpr (by show h.objs.size ≠ 1; omega)
theorem le_frz {g:G} {h:Heap} {a:Addr}:Le g h (g.frz a) h:=⟨fun b o n e=>⟨fun x=>n x.2,e⟩,fun _ _ e=>e,rfl,rfl⟩
section
variable {w:World} {K:Frag} {g g':G} {s s':Shared} {l:List D} {P:Addr→Prop}
theorem Ste.mutPush (I:Inv w K g s) (o:Obj) {k:Nat} (hk:s.toks≤k) (ho:o.isFreed=false:=by rfl):Ste w K g s (g.mut s.heap.objs.size) { s with heap:=s.heap.push o,toks:=k } []:=by
 have S:=Ste.push I o hk
 have nl:∀ b o,s.heap.get? b=some o→b ≠ s.heap.objs.size:=fun b o e=>Nat.ne_of_lt (Heap.lt_size e)
 have L:Le g s.heap (g.mut s.heap.objs.size) (s.heap.push o):=⟨fun b o' n e=>⟨fun x=>x.elim (nl b o' e) n,Heap.get?_push_of_some _ e⟩,fun _ _ e=>e,rfl,rfl⟩
 exact {
  X:=fun b hb=>⟨fun x=>x.resolve_left (Nat.ne_of_lt hb),.inr⟩
  na:=rfl,tc:=rfl,gf:=rfl,log:=by simp [G.mut],fl:=fun _ _ e=>e,keep:=S.keep,same:=S.same,size:=S.size,toks:=S.toks
  inv:={
   gens:=I.gens
   xb:=fun b hb=>by
    rcases hb with rfl | hb
    ·exact ⟨o,push_new ho⟩
    ·obtain ⟨o',e⟩:=I.xb b hb; exact ⟨o',Heap.get?_push_of_some _ e⟩
   kin:=S.inv.kin
   kx:=fun b o e=>by
    rintro (rfl | hb)
    ·exact nl _ _ (I.kin _ o e) rfl
    ·exact I.kx b o e hb
   na:=fun b e=>let ⟨x,vs,hl,hr⟩:=I.na b e; ⟨.inr x,vs,hl.at fun o e=>Heap.get?_push_of_some _ e,hr.le L⟩
   na0:=I.na0,tk:=S.inv.tk,tk0:=S.inv.tk0,gf:=I.gf,big:=S.inv.big } }
theorem Ste.frz (S:Ste w K g s g' s' l) {a:Addr} (ha:s.heap.objs.size≤a) (hn:g.na ≠ some a):Ste w K g s (g'.frz a) s' l where
 X:=fun b hb=>⟨fun x=>(S.X b hb).mp x.2,fun x=>⟨Nat.ne_of_lt (Nat.lt_of_lt_of_le hb ha),(S.X b hb).mpr x⟩⟩
 na:=S.na
 tc:=S.tc
 gf:=S.gf
 log:=S.log
 fl:=S.fl
 keep:=S.keep
 same:=S.same
 size:=S.size
 toks:=S.toks
 inv:={
  gens:=S.inv.gens
  xb:=fun b hb=>S.inv.xb b hb.2
  kin:=S.inv.kin
  kx:=fun b o e hb=>S.inv.kx b o e hb.2
  na:=fun b e=>let ⟨x,vs,hl,hr⟩:=S.inv.na b e; ⟨⟨fun q=>hn (by rw [← q]; exact (S.na ▸ e:g.na=some b)),x⟩,vs,hl,hr.le le_frz⟩
  na0:=S.inv.na0,tk:=S.inv.tk,tk0:=S.inv.tk0,gf:=S.inv.gf,big:=S.inv.big }
theorem Ste.upd (S:Ste w K g s g' s' l) {a:Addr} (ha:s.heap.objs.size≤a) (hx:g'.X a) (hn:g'.na ≠ some a) {h':Heap} {tk:Nat} (hv:∃ o,h'.get? a=some o) (hs:Heap.SameBut a s'.heap h') (ht:s'.toks≤tk) :
  Ste w K g s g' { s' with heap:=h',toks:=tk } l:=by
 have S2:=ste_same (P:=fun b=>b=a) S.inv rfl hx hn hv hs ht
 exact List.append_nil l ▸ SteP.trans' S S2 fun b hb=>.inr (hb.symm ▸ ha)
theorem OwnRep.frozen {h:Heap} {a:Addr} {d:D} (x:OwnRep w g h a d):Rep w (g.frz a) h (.ref a) d:=by
 cases d with
 | lst=>obtain ⟨vs,x,b,c⟩:=x; exact .lst frz_not x b (c.le le_frz)
 | dctS=>obtain ⟨m,kvs,x,b,c,e⟩:=x; exact .dctS frz_not m x b c (e.le le_frz)
 | dctI=>obtain ⟨m,kvs,x,b,c,e⟩:=x; exact .dctI frz_not m x b c (e.le le_frz)
 | _=>exact x.elim
theorem Inv.na_new (I:Inv w K g s):g.na ≠ some s.heap.objs.size:=I.nax I.notX
end
noncomputable def NewOk (C:Cx) (A:Around) (F:Frm) (r:Rho) (m:Sem Value) (d:D) (l:List D):Prop :=
 ∀ (g:G) (s:Shared) (E Q:Value→Shared→Prop),At C F r g s l →
  (∀ g' s' a,Ste C.w C.K g s g' s' l→s.heap.objs.size≤a→g'.X a→g'.na ≠ some a→OwnRep C.w g' s'.heap a d→Q (.ref a) s')→wpAny (model pw C.w) A m Q E s
theorem NewOk.ev {C:Cx} {A:Around} {F:Frm} {r:Rho} {m:Sem Value} {d:D} {l:List D} (x:NewOk C A F r m d l):EvOk C A F r m d l:=fun g s E Q H h =>
 x g s E Q H fun g' s' a S ha hx hn ho=>h (g'.frz a) s' _ (S.frz ha (by rw [← S.na]; exact hn)) ho.frozen
section
variable {C:Cx} {A:Around} {F:Frm} {r:Rho} {a b:Expr} {d d':D} {l l':List D} {g:G} {s:Shared} {E:Value→Shared→Prop}
theorem ok_lstN {p:Pos} {es:List Expr} {ds:List D} (hd:ds.length≤65536) (x:EvsOk C A F r (spliced (backTo p (starEach es F.env))) ds l):NewOk C A F r (eval (.List es p) F.env) (.lst ds) l:=fun g s E Q H h =>
 wpAny_List (x g s E _ H fun g' s' vs S rs =>
  have hn:vs.length≤65536:=rs.length ▸ hd
  have S2:=Ste.mutPush S.inv { cls:=.type "list",data:=.seq vs.toArray } (Nat.le_refl _)
  ⟨Nat.le_trans hn (by decide),h _ _ _ (Ste.trans0 S S2) S.size (.inl rfl) S.inv.na_new ⟨vs.toArray,⟨0,push_new⟩,hn,rs.le (S2.le S.inv)⟩⟩)
theorem ok_dct0N {p:Pos}:NewOk C A F r (eval (.Dict [] [] p) F.env) (.dctS [] []) []:=fun g s E Q H h=>by
 refine wpAny_Dict_empty ?_
 have S:=Ste.mutPush H.inv { cls:=.type "dict",data:=.dict #[] } (Nat.le_refl _)
 refine h _ _ _ S (Nat.le_refl _) (.inl rfl) H.inv.na_new ⟨ne_sys H.inv.big,[],Heap.DictOf.new _,by simp,rfl,.nil⟩
theorem ok_dct1 {k v:Expr} {p:Pos} {x:List Nat} (hk:EvOk C A F r (eval k F.env) (.str x) l) (hv:EvOk C A F r (eval v F.env) d l'):NewOk C A F r (eval (.Dict [some k] [v] p) F.env) (.dctS [x] [d]) (l++l'):=fun g s E Q H h=>by
 refine wpAny_Dict_pairs (knd:=strKind pw C.w) (pairs:=[(eval k F.env,(do let x ← eval v F.env; standAt p; pure x))]) rfl (by simp) (by simp) ?_
 have S0:=Ste.mutPush H.inv { cls:=.type "dict",data:=.dict #[] } (Nat.le_refl _)
 have H0:At C F r _ _ (l++l'):=At.b (l:=[]) H S0
 refine wpAny_bind (hk _ _ E _ H0.a fun g₁ s₁ kv S1 rk=>wpAny_bind (wpAny_holding (wpAny_bind (hv _ _ E _ (H0.b S1) fun g₂ s₂ vv S2 rv=>wpAny_bind (wpAny_standAt (wpAny_pure ?_))))))
 refine wpAny_bind (wpAny_holding (wpAny_pure (wpAny_pure ?_)))
 obtain ⟨t,rfl⟩:=(rk.le (S2.le S1.inv)).str_inv
 have S:=S1.trans S2
 have hd0:(s.heap.push { cls:=.type "dict",data:=.dict #[] }).DictOf (strKind pw C.w) s.heap.objs.size []:=Heap.DictOf.new _
 refine ⟨[(Mine.S x,vv)],⟨is_str _ _,rfl,trivial⟩,hd0.at fun o e=>S.keep _ o (fun f=>f) H.inv.na_new e,fun h' hd hs=>?_⟩
 have hx2:g₂.X s.heap.objs.size:=(S.X _ (by rw [show _=s.heap.objs.size+1 from Heap.size_push ..]; exact Nat.lt_succ_self _)).mpr (.inl rfl)
 have SS:Ste C.w C.K g s g₂ s₂ (l++l'):=(SteP.trans S0 S:Ste C.w C.K g s g₂ s₂ ([]++(l++l')))
 have hn2:g₂.na ≠ some s.heap.objs.size:=SS.na ▸ H.inv.na_new
 exact h g₂ _ _ (SS.upd (Nat.le_refl _) hx2 hn2 (dictOf_live hd) hs (Nat.le_add_right s₂.toks ([(Value.str (Mine.S x) t,vv)]:List (Value × Value)).length)) (Nat.le_refl _) hx2 hn2 ⟨ne_sys H.inv.big,[(Mine.S x,vv)],hd,by simp,rfl,.cons (rv.le (le_same hx2 hs)) .nil⟩
end
end
section
section
variable {w:World} {A:Around} {E:Value→Shared→Prop} {s:Shared} {env:Env}
theorem adjust_to (k n:Nat) (ha:k≤n):Builtin.Slice.sliceAdjust none (some (k:Int)) 1 (n:Int)=(0,(k:Int)):=by
 unfold Builtin.Slice.sliceAdjust
 have h2:¬ ((k:Int) < 0):=Int.not_lt.mpr (Int.natCast_nonneg k)
 have h3:¬ ((1:Int) < 0):=by decide
 simp only [h2,h3,if_false]
 congr 1
 exact Int.min_eq_left (Int.ofNat_le.mpr ha)
theorem places_to (k:Nat):Builtin.Slice.slicePlaces 0 (k:Int) 1=k:=by
 unfold Builtin.Slice.slicePlaces
 have h1:(1:Int) > 0:=by decide
 simp only [h1,if_true,Int.ediv_one]
 split <;> lia
theorem sliceApplied_to {sl:Addr} {k n:Nat} {u:Tok} {Q:Int × Int × Nat→Shared→Prop} (hs:s.heap.IsSliceOf sl .none (.int k u) .none) (ha:k≤n) (h:Q (0,1,k) s) :
  wpAny (model pw w) A (Builtin.Slice.sliceApplied (.ref sl) (pure (n:Int))) Q E s:=by
 obtain ⟨os,hos,hcs,hds⟩:=id hs
 unfold Builtin.Slice.sliceApplied Builtin.Slice.sliceFields
 refine wpAny_bind (wpAny_bind (wpAny_field hos hds (x:=.none) rfl (wpAny_bind (wpAny_field hos hds (x:=.int k u) rfl (wpAny_bind (wpAny_field hos hds (x:=.none) rfl (wpAny_pure ?_)))))))
 refine wpAny_bind (slicePart_none ?_)
 show wpAny _ _ (if ((1:Int) == 0)=true then _ else _) _ _ s
 rw [if_neg (by decide)]
 refine wpAny_bind (slicePart_none (wpAny_bind (slicePart_int (wpAny_bind (wpAny_pure ?_)))))
 show wpAny _ _ (match Builtin.Slice.sliceAdjust none (some (k:Int)) 1 (n:Int) with | (lo,hi)=>pure (lo,(1:Int),Builtin.Slice.slicePlaces lo hi 1)) _ _ s
 rw [adjust_to k n ha]
 show wpAny _ _ (pure ((0:Int),(1:Int),Builtin.Slice.slicePlaces (0:Int) (k:Int) 1)) _ _ s
 rw [places_to k]
 exact wpAny_pure h
theorem pick_to (xs:Array Value) (k:Nat):((List.range k).filterMap fun (j:Nat)=>xs[((0:Int)+(j:Int)*1).toNat]?).toArray=(xs.toList.take k).toArray:=by
 have e:(fun (j:Nat)=>xs[((0:Int)+(j:Int)*1).toNat]?)=(xs[·]?) ∘ (0+·):=funext fun j=>by
  rw [Int.zero_add,Int.mul_one,Int.toNat_natCast]
  exact congrArg (xs[·]?) (Nat.zero_add j).symm
 rw [e,← List.filterMap_map,pick_run xs 0 k]; rfl
theorem getItem_tuple_to {t sl:Addr} {items:Array Value} {k:Nat} {u:Tok} {Q:Value→Shared→Prop} (ht:PT s.heap t items) (hs:s.heap.IsSliceOf sl .none (.int k u) .none) (hk:k < items.size) (hsz:items.size≤65536)
  (h:Q (.ref s.heap.objs.size) { s with heap:=s.heap.push { cls:=.type "tuple",data:=.seq (items.toList.take k).toArray } }):wpAny (model pw w) A (getItem (.ref t) (.ref sl)) Q E s:=by
 have hdrop:sizeOk (.seq (items.toList.take k).toArray):=by
  show (items.toList.take k).toArray.size≤sizeLine
  rw [List.size_toArray,List.length_take,Array.length_toList]
  exact Nat.le_trans (Nat.min_le_right _ _) (Nat.le_trans hsz (by decide))
 obtain ⟨n,ht⟩:=ht
 have ht':IsTup s.heap t items:=⟨_,ht,rfl,n,rfl⟩
 obtain ⟨os,hos,hcs,hds⟩:=id hs
 have hTs:s.TypeIs (.ref sl) "slice":=⟨os,hos,hcs⟩
 unfold getItem
 try with_reducible refine wpAny_holding ?_
 first | refine wpAny_bind (wpAny_pure ?_) | skip
 refine wpAny_bind (wpAny_sequenceKey ht'.typeIs (by decide) ?_)
 refine wpAny_bind (wpAny_callSpecial?_slot (name:=Str.ofString "__getitem__") ht'.typeIs slot_tuple_getitem
  (wpAny_call_entry slot_tuple_getitem ht'.typeIs entry_tuple_getitem ?_ (args_tuple_getitem _ _)))
 show wpAny _ _ (Builtin.Tuple.tupleItemsOf (.ref t) >>= _) _ _ s
 refine wpAny_bind (tupleItemsOf_ ht' ?_)
 refine wpAny_bind (wpAny_typeOf hTs ?_)
 rw [if_pos (by decide)]
 refine wpAny_bind (sliceApplied_to hs (Nat.le_of_lt hk) ?_)
 have hno:¬ (((0:Int) == 0&&(1:Int) == 1&&k == items.size)=true):=by
  have:(k == items.size)=false:=by rw [beq_eq_false_iff_ne]; omega
  rw [this]; simp
 show wpAny _ _ (if ((0:Int) == 0&&(1:Int) == 1&&k == items.size)=true then _ else _) _ _ s
 rw [if_neg hno,pick_to items k]
 first
  | exact wpAny_bind (m:=Builtin.Tuple.tupleExact _) (wpAny_newObj_type (wpAny_pure ⟨_,rfl,wpAny_pure h⟩) hdrop)
  | exact wpAny_bind (m:=Builtin.Tuple.tupleExact _) (wpAny_newObj_type (wpAny_bind (wpAny_pure (wpAny_pure ⟨_,rfl,wpAny_pure h⟩))) hdrop)
  | exact wpAny_bind (wpAny_bind (m:=Builtin.Tuple.tupleExact _) (wpAny_newObj_type (wpAny_pure (wpAny_pure ⟨_,rfl,wpAny_pure h⟩)) hdrop))
  | exact wpAny_bind (wpAny_bind (m:=Builtin.Tuple.tupleExact _) (wpAny_newObj_type (wpAny_pure ⟨_,rfl,wpAny_pure h⟩) hdrop))
noncomputable def noSlice (e:Expr):Bool:=!Nat.beq e.ctorIdx 26
theorem subscripted_plain {e:Expr} (h:noSlice e=true) (o i:Value):subscripted e false o i=operate [o,i] (getItem o i):=by
 cases e <;> first | rfl | (cases h; done)
theorem sub_tail {value slice:Expr} {o i:Value} {T id:String} {ops:List Value} {Q:Value→Shared→Prop} (hT:s.TypeIs o T)
  (hl:typeLookup (.type T) "__getitem__"=pure (some (.builtin id))) (hs:subscripted slice false o i=operate ops (getItem o i)) (h:wpAny (model pw w) A (getItem o i) Q E s) :
  wpAny (model pw w) A (subscriptTail value slice o i) Q E s:=by
 unfold subscriptTail
 refine wpAny_bind ?_
 rw [getitemInPython_of_ne hT.not_modules]
 refine wpAny_bind (wpAny_specialOf hT hl ?_)
 have fin:wpAny (model pw w) A (subscripted slice false o i) (fun r s₃=>wpAny (model pw w) A (letTemporaryGo value o r >>= fun _=>pure r) Q E s₃) E s:=by
  rw [hs]
  exact wpAny_operating (wpAny_mono h (fun r s₃ h₃=>wpAny_bind (wpAny_letTemporaryGo (wpAny_pure h₃))) fun _ _ x=>x)
 first
  | exact wpAny_pure (wpAny_bind fin)
  | exact wpAny_bind (wpAny_pure (wpAny_bind fin))
  | exact wpAny_bind fin
end
theorem seqI {j n:Nat} (h:j < n):seqIndex? (Int.ofNat j) n=some j:=by
 unfold seqIndex?
 have h0:¬ Int.ofNat j < 0:=Int.not_lt.mpr (Int.natCast_nonneg j)
 simp only [h0,if_false]
 have h1:0≤Int.ofNat j:=Int.natCast_nonneg j
 have h2:Int.ofNat j < n:=Int.ofNat_lt.mpr h
 rw [decide_eq_true h1,decide_eq_true h2]
 rfl
theorem at_lt {α:Type} {l:List α} {n:Nat} {x:α} (h:l[n]?=some x):n < l.length:=(List.getElem?_eq_some_iff.mp h).1
section
variable {w:World} {K:Frag} {g:G} {s:Shared} {A:Around} {E Q:Value→Shared→Prop}
noncomputable def CanRead (w:World) (g:G) (h:Heap) (v:Value) (d:D):Prop:=Rep w g h v d ∨ ∃ a,v=.ref a∧OwnRep w g h a d
theorem Rep.own {d:D} {h:Heap} {v:Value} (x:Rep w g h v d) (hd:Nat.ble 6 d.ctorIdx&&Nat.ble d.ctorIdx 8=true):∃ a,v=.ref a∧¬ g.X a∧OwnRep w g h a d:=by
 cases d with
 | lst=>obtain ⟨a,vs,e,n,b,c,d⟩:=x.lst_inv; exact ⟨a,e,n,vs,b,c,d⟩
 | dctS=>obtain ⟨a,kvs,e,n,b,c,d,f,g⟩:=x.dctS_inv; exact ⟨a,e,n,b,kvs,c,d,f,g⟩
 | dctI=>obtain ⟨a,kvs,e,n,b,c,d,f,g⟩:=x.dctI_inv; exact ⟨a,e,n,b,kvs,c,d,f,g⟩
 | _=>cases hd
theorem rd_own {d:D} {h:Heap} {v:Value} (x:CanRead w g h v d) (hd:Nat.ble 6 d.ctorIdx&&Nat.ble d.ctorIdx 8=true):∃ a,v=.ref a∧OwnRep w g h a d:=x.elim (fun x=>(x.own hd).imp fun _ y=>⟨y.1,y.2.2⟩) id
theorem rd_rep {d:D} {h:Heap} {v:Value} (x:CanRead w g h v d) (hd:∀ a,OwnRep w g h a d→False):Rep w g h v d:=x.elim id fun ⟨a,_,x⟩=>(hd a x).elim
theorem lt63 {n:Nat} (h:n < 65536):Int.ofNat n < 2 ^ 63:=fit63 (Nat.le_of_lt h)
theorem gt63 (n:Nat):-(2 ^ 63)≤Int.ofNat n:=Int.le_trans (by decide) (Int.natCast_nonneg n)
theorem neg_at {n m:Nat} (h:n < m):(Int.negSucc n+(m:Int)).toNat=m - (n+1):=(congrArg Int.toNat (Int.subNatNat_eq_coe:Int.subNatNat m (n+1)=_)).trans (Int.toNat_sub m (n+1))
theorem item_lst {a:Addr} {ds:List D} {i:Int} {t:Tok} {z:D} (I:Inv w K g s) (x:OwnRep w g s.heap a (.lst ds)) (e:getI ds i=some z) (h:Post w K g s z Q):wpAny (model pw w) A (getItem (.ref a) (.int i t)) Q E s:=by
 obtain ⟨vs,ho,hz,hr⟩:=x
 cases i with
 | ofNat n =>
  obtain ⟨u,hu,ru⟩:=hr.get n _ e
  rw [Array.getElem?_toList] at hu
  exact wpAny_getItem_list ho.isList (Int.natCast_nonneg n) (lt63 (Nat.lt_of_lt_of_le (size_eq hr ▸ at_lt e) hz)) hu (Post.here I h ru)
 | negSucc n =>
  obtain ⟨hn,e⟩:=if_s e
  obtain ⟨u,hu,ru⟩:=hr.get _ _ e
  rw [← size_eq hr] at hn hu
  rw [Array.getElem?_toList] at hu
  exact wpAny_getItem_list_neg ho.isList (Int.negSucc_lt_zero n) (by lia) (by lia) (by rw [neg_at hn]; exact hu) (Post.here I h ru)
theorem item_sound {d i z:D} {v vi:Value} (I:Inv w K g s) (x:CanRead w g s.heap v d) (y:Rep w g s.heap vi i) (e:subD d i=some z) (h:Post w K g s z Q) :
  (∃ T id,s.TypeIs v T∧typeLookup (.type T) "__getitem__"=pure (some (.builtin id)))∧wpAny (model pw w) A (getItem v vi) Q E s:=by
 have S:=Ste.grow I (fun _ _ e=>e) (Nat.le_refl _) (Nat.le_succ s.toks)
 cases d with
 | tup ds =>
  obtain ⟨i,rfl,e⟩:=onI_i (d:=i) e
  obtain ⟨a,vs,rfl,_,⟨n,ho⟩,hz,hr⟩:=(rd_rep x fun _=>id).tup_inv
  obtain ⟨t,rfl⟩:=y.int_inv
  cases i with
  | ofNat j =>
   obtain ⟨u,hu,ru⟩:=hr.get j _ e
   have hj:=size_eq hr ▸ at_lt e
   exact ⟨⟨_,_,⟨_,ho,rfl⟩,slot_tuple_getitem.lookup⟩,P.getItem_tuple ho (gt63 j) (lt63 (Nat.lt_of_lt_of_le hj hz)) (seqI hj) (by rw [← Array.getElem?_toList]; exact hu) (Post.here I h ru)⟩
  | negSucc=>cases e
 | lst ds =>
  obtain ⟨i,rfl,e⟩:=onI_i (d:=i) e
  obtain ⟨a,rfl,q⟩:=rd_own x rfl
  obtain ⟨t,rfl⟩:=y.int_inv
  exact ⟨⟨_,_,q.choose_spec.1.isList.typeIs,slot_list_getitem.lookup⟩,item_lst I q e h⟩
 | str l =>
  obtain ⟨i,rfl,e⟩:=onI_i (d:=i) e
  obtain ⟨t,rfl⟩:=(rd_rep x fun _=>id).str_inv
  obtain ⟨u,rfl⟩:=y.int_inv
  obtain ⟨hb,e⟩:=if_s e
  obtain ⟨c,hc,rfl⟩:=Option.map_eq_some_iff.mp e
  refine ⟨⟨_,_,typeIs_str _ _ _,PySem.F.slot_str_getitem.lookup⟩,?_⟩
  cases i with
  | ofNat j =>
   refine PyProof.Rows.getItem_str (c:=c) ?_ ?_ (Post.str (l:=[c]) I h)
   ·unfold okI at hb
    simp only [Bool.and_eq_true,decide_eq_true_eq] at hb
    rw [Bool.or_eq_false_iff,decide_eq_false_iff_not,decide_eq_false_iff_not]
    exact ⟨Int.not_lt.mpr (gt63 j),Int.not_le.mpr (Int.lt_trans hb.2 (by decide))⟩
   ·rw [S_length,seqI (at_lt hc)]
    exact List.getElem?_toArray.trans hc
  | negSucc=>cases hc
 | dctS ks vs =>
  obtain ⟨k,rfl,e⟩:=onS_i (d:=i) e
  obtain ⟨a,rfl,hm,kvs,ho,hz,hk,hr⟩:=rd_own x rfl
  obtain ⟨t,rfl⟩:=y.str_inv
  obtain ⟨u,hu,ru⟩:=lookK_rep hk hr e
  exact ⟨⟨_,_,ho.typeIs,PySem.F.slot_dict_getitem.lookup⟩,wpAny_getItem_of (strKind_is pw w _ _) ho.mapOf hu (h g _ _ S ru)⟩
 | dctI ks vs =>
  obtain ⟨k,rfl,e⟩:=onI_i (d:=i) e
  obtain ⟨a,rfl,hm,kvs,ho,hz,hk,hr⟩:=rd_own x rfl
  obtain ⟨t,rfl⟩:=y.int_inv
  obtain ⟨u,hu,ru⟩:=valueAt_rep hr (hk.symm ▸ e)
  exact ⟨⟨_,_,ho.typeIs,PySem.F.slot_dict_getitem.lookup⟩,wpAny_getItem_of (intKind_is pw w _ _) ho.mapOf hu (h g _ _ S ru)⟩
 | _=>cases e
theorem getItem_sound {d i z:D} {v vi:Value} (I:Inv w K g s) (x:CanRead w g s.heap v d) (y:Rep w g s.heap vi i) (e:subD d i=some z) (h:Post w K g s z Q):wpAny (model pw w) A (getItem v vi) Q E s:=(item_sound I x y e h).2
theorem sub_sound {d i z:D} {v vi:Value} {value slice:Expr} (I:Inv w K g s) (x:CanRead w g s.heap v d) (y:Rep w g s.heap vi i) (e:subD d i=some z) (hs:noSlice slice=true)
  (h:Post w K g s z Q):wpAny (model pw w) A (subscriptTail value slice v vi) Q E s :=
 (item_sound I x y e h).elim fun ⟨_,_,h1,h2⟩ q=>sub_tail h1 h2 (subscripted_plain hs _ _) q
end
section
variable {C:Cx} {A:Around} {F:Frm} {r:Rho} {a b:Expr} {d d':D} {l l':List D}
theorem ok_sub {p:Pos} {z:D} (hs:noSlice b=true) (x:EvOk C A F r (eval a F.env) d l) (y:EvOk C A F r (eval b F.env) d' l') (hz:subD d d'=some z) :
  EvOk C A F r (eval (.Subscript a b p) F.env) z (l++l'):=fun g s E Q H h =>
 PyProof.Rows.Subscript_ (x.two y H fun g' s' v v' S H' ra rb=>sub_sound H'.inv (.inl ra) rb hz hs (S.addPost0 h))
theorem ok_subo {p p':Pos} {n:Nat} {x:Str} {z:D} (hs:noSlice b=true) (hx:F.T[n]?=some x) (hd:(x == ("__debug__":Str))=false) (hc:(x == ("__classdict__":Str))=false) (hv:getO r n=some d)
  (y:EvOk C A F r (eval b F.env) d' l') (hz:subD d d'=some z):EvOk C A F r (eval (.Subscript (.Name x p') b p) F.env) z l':=fun g s E Q H h=>by
 obtain ⟨_,x',a,hx',ha,hva,_⟩:=H.ev.own n d (getO_iff.mp hv)
 have:=Option.some.inj (hx.symm.trans hx')
 subst this
 refine PyProof.Rows.Subscript_ (eval_var H.ev hva hd hc (y g s E _ H fun g' s' v' S rv=>?_))
 obtain ⟨_,_,a',_,ha',_,ho⟩:=(H.ev.ste H.inv S).own n d (getO_iff.mp hv)
 exact sub_sound S.inv (.inr ⟨a,rfl,Option.some.inj (ha'.symm.trans ha) ▸ ho⟩) rv hz hs (S.addPost0 h)
theorem size_take {vs:Array Value} {k:Nat} (h:vs.size≤65536):(vs.toList.take k).toArray.size≤65536:=Nat.le_trans (List.length_take_le' ..) h
theorem ok_slc {p p' p'':Pos} {k kk:Nat} {z:D} (x:EvOk C A F r (eval a F.env) d l) (hz:slcD d k=some z):EvOk C A F r (eval (.Subscript a (.Slice none (some (.Constant (.int k) kk p'')) none p') p) F.env) z l:=fun g s E Q H h=>by
 refine PyProof.Rows.Subscript_ (x g s E _ H fun g' s' v S rv=>wpAny_Slice ?_)
 rw [evalPart_none]
 refine wpAny_pure ?_
 show wpAny _ A (eval (.Constant (.int k) kk p'') F.env) _ _ _
 refine wpAny_Constant_int (wpAny_pure ?_)
 have S1:=Ste.push S.inv { cls:=.type "slice",data:=.fields #[.none,.int k s'.toks,.none] } (Nat.le_succ s'.toks)
 have hs:(s'.heap.push { cls:=.type "slice",data:=.fields #[.none,.int k s'.toks,.none] }).IsSliceOf s'.heap.objs.size .none (.int k s'.toks) .none:=Heap.IsSliceOf.new ..
 have rv:=rv.le (S1.le S.inv)
 have P:=Ste.addPost0 (Ste.trans0 S S1) h
 generalize s'.heap.push { cls:=.type "slice",data:=.fields #[.none,.int k s'.toks,.none] }=hp at *
 cases d with
 | tup ds =>
   obtain ⟨hk,hz⟩:=if_s (α:=D) hz
   obtain ⟨t,vs,rfl,_,ho,hsz,hr⟩:=rv.tup_inv
   exact sub_tail (T:="tuple") ⟨_,ho.choose_spec,rfl⟩ slot_tuple_getitem.lookup rfl (getItem_tuple_to ho hs (size_eq hr ▸ hk.2) hsz (Post.tup S1.inv (P.of hz) (hr.take k) (size_take hsz)))
 | lst ds =>
  obtain ⟨t,vs,rfl,_,ho,hsz,hr⟩:=rv.lst_inv
  refine sub_tail (T:="list") ho.isList.typeIs slot_list_getitem.lookup rfl (wpAny_getItem_list_slice ho.isList hs .none (.int _ _) .none (by simp) ?_ (Nat.le_trans hsz (by decide)))
  rw [slicePick_upto']
  exact Post.lst S1.inv (P.of hz) (hr.take k) (size_take hsz)
 | _=>cases hz
end
end
open PySem.Calls
section
noncomputable def GlobIs (K:Frag) (x:Str) (v:Value):Prop:=∀ h:Heap,K.In h→∃ mg mb,h.Ns mainGlobals mg∧h.Ns builtinsNs mb∧(mg x=some v ∨ (mg x=none∧mb x=some v))
section
variable {C:Cx} {A:Around} {F:Frm} {r:Rho} {a b:Expr} {d d':D} {l l':List D} {g:G} {s:Shared} {E:Value→Shared→Prop}
theorem eval_glob {x:Str} {p:Pos} {v:Value} {Q:Value→Shared→Prop} (I:Inv C.w C.K g s) (ev:EnvOk C.w g s.heap F r) (hg:GlobIs C.K x v) (hk:F.env.kindOf x=some .globalImplicit) (hd:(x == ("__debug__":Str))=false) (h:Q v s) :
  wpAny (model pw C.w) A (eval (.Name x p) F.env) Q E s:=by
 obtain ⟨mg,mb,h1,h2,h3⟩:=hg s.heap I.kin
 rw [← ev.glob.1] at h1
 rw [← ev.glob.2] at h2
 refine Name_function_global ev.kind hk ?_ hd
 rcases h3 with h3 | ⟨h3,h4⟩
 ·exact loadGlobal_global h1 h3 h
 ·exact loadGlobal_builtin h1 h3 h2 h4 h
theorem ok_gflt {x:Str} {p:Pos} {t:Tok} {y:UInt64} (hg:GlobIs C.K x (.float y t)) (hgf:(t,y) ∈ C.gf) (hk:F.env.kindOf x=some .globalImplicit) (hd:(x == ("__debug__":Str))=false) :
  EvOk C A F r (eval (.Name x p) F.env) (.flt y) []:=fun g s E Q H h =>
 have q:=H.inv.gf (t,y) (H.good.gf ▸ hgf)
 eval_glob H.inv H.ev hg hk hd (h g s _ (Ste.refl H.inv) (.flt y t q.2 q.1))
theorem any_backTo {es:List Expr} {env:Env} {p:Pos} (h:es.all noStar=true):(backTo p (starEach es env)).any (·.1)=false:=by
 induction es with
 | nil=>rfl
 | cons e es ih =>
  obtain ⟨h1,h2⟩:=Bool.and_eq_true_iff.mp (List.all_cons ▸ h)
  rw [starEach_cons h1]
  exact ih h2
noncomputable def plainFn:Value→Bool
 | .builtin _=>true
 | .type _=>true
 | _=>false
theorem call_name {x:Str} {p p':Pos} {f:Value} {e:Expr} {es:List Expr} {ds:List D} {Q:Value→Shared→Prop} (hg:GlobIs C.K x f) (hf:plainFn f=true) (hk:F.env.kindOf x=some .globalImplicit) (hd:(x == ("__debug__":Str))=false)
  (hs:(e::es).all noStar=true) (he:EvsOk C A F r (spliced (backTo p (starEach (e::es) F.env))) ds l) (H:At C F r g s l)
  (h:∀ g' s' vs,Ste C.w C.K g s g' s' l→RepL C.w g' s'.heap vs ds→wpAny (model pw C.w) A (call f vs) Q E s') :
  wpAny (model pw C.w) A (eval (.Call (.Name x p') (e::es) [] p) F.env) Q E s:=by
 refine PySem.wpAny_Call_NameR (eval_glob H.inv H.ev hg hk hd ?_)
 have ha:=he g s E (fun vs s'=>wpAny (model pw C.w) A (call f vs) Q E s') H h
 have hp:=any_backTo (p:=p) (env:=F.env) hs
 rw [starEach_cons (Bool.and_eq_true_iff.mp (List.all_cons ▸ hs)).1] at ha hp ⊢
 cases f with
 | builtin _=>exact callWith_builtin hp (evalArgs_plain ha)
 | type _=>exact PySem.callWith_type hp (evalArgs_plain ha)
 | _=>cases hf
end
section
variable {w:World} {K:Frag} {g:G} {s:Shared} {A:Around} {E Q:Value→Shared→Prop}
theorem post_keeps {d:D} {v:Value} {h':Heap} {tk:Nat} (I:Inv w K g s) (h:Post w K g s d Q) (hk:∀ b o,s.heap.get? b=some o→h'.get? b=some o) (hs:s.heap.objs.size≤h'.objs.size) (ht:s.toks≤tk)
  (r:Rep w g h' v d):Q v { s with heap:=h',toks:=tk }:=h g _ v (Ste.grow I hk hs ht) r
theorem argBest_best {o:CmpOp} {ds:List D} (bt:Nat→Nat→Bool) (hb:∀ i j x y,ds[i]?=some x→ds[j]?=some y→∀ q,cmpD o x y=some q→bt i j=q) :
  ∀ (xs:List D) (k:Nat) (b z:D),ds.drop (k+1)=xs→ds[argBest bt k]?=some b→bestD o b xs=some z→ds[argBest bt (xs.length+k)]?=some z:=by
 intro xs
 induction xs with
 | nil=>intro k b z _ h e; rw [List.length_nil,Nat.zero_add,h]; exact e
 | cons x xs ih =>
  intro k b z hd h e
  obtain ⟨q,hq,e⟩:=b1o (f:=fun r:Bool=>bestD o (if r then x else b) xs) e
  obtain ⟨hx,hd⟩:=drop_some hd
  have hn:ds[argBest bt (k+1)]?=some (if q then x else b):=by
   show ds[if bt (k+1) (argBest bt k)=true then k+1 else argBest bt k]?=_
   rw [hb (k+1) (argBest bt k) x b hx h q hq]
   cases q
   ·exact h
   ·exact hx
  rw [List.length_cons,Nat.succ_add]
  exact ih (k+1) _ z hd hn e
noncomputable def btD (o:CmpOp) (ds:List D) (i j:Nat):Bool:=cmpD o (ds.getD i .none) (ds.getD j .none) == some true
theorem btD_eq {o:CmpOp} {ds:List D} {i j:Nat} {x y:D} (hx:ds[i]?=some x) (hy:ds[j]?=some y) (q:Bool) (h:cmpD o x y=some q):btD o ds i j=q:=by
 unfold btD
 rw [List.getD_eq_getElem?_getD,List.getD_eq_getElem?_getD,hx,hy,Option.getD_some,Option.getD_some,h]
 cases q <;> rfl
theorem isI_i {d:D} (h:isI d=true):∃ i,d=.int i:=by cases d <;> first | exact ⟨_,rfl⟩ | cases h
theorem isF_i {d:D} (h:isF d=true):∃ i,d=.flt i:=by cases d <;> first | exact ⟨_,rfl⟩ | cases h
theorem cmpOf_hom {o:CmpOp} (ho:o=.Gt ∨ o=.Lt) {ds:List D} {vs:Array Value} {h:Heap} (hh:homD ds=true) (r:RepL w g h vs.toList ds):CmpOf pw w A o (fun i v=>vs[i]?=some v) (btD o ds):=by
 intro i j vi vj s Q E hi hj hQ
 obtain ⟨di,e1,r1⟩:=r.getV i vi (Array.getElem?_toList ▸ hi)
 obtain ⟨dj,e2,r2⟩:=r.getV j vj (Array.getElem?_toList ▸ hj)
 have m1:=List.mem_of_getElem? e1
 have m2:=List.mem_of_getElem? e2
 rcases Bool.or_eq_true_iff.mp hh with hh | hh
 ·obtain ⟨a,rfl⟩:=isI_i (List.all_eq_true.mp hh _ m1)
  obtain ⟨b,rfl⟩:=isI_i (List.all_eq_true.mp hh _ m2)
  obtain ⟨t,rfl⟩:=r1.int_inv
  obtain ⟨u,rfl⟩:=r2.int_inv
  rcases ho with rfl | rfl <;> rw [btD_eq e1 e2 _ rfl] at hQ
  ·exact PyProof.Rows.gt_int hQ
  ·exact PyProof.Rows.lt_int hQ
 ·obtain ⟨a,rfl⟩:=isF_i (List.all_eq_true.mp hh _ m1)
  obtain ⟨b,rfl⟩:=isF_i (List.all_eq_true.mp hh _ m2)
  obtain ⟨t,rfl,_⟩:=r1.flt_inv
  obtain ⟨u,rfl,_⟩:=r2.flt_inv
  rcases ho with rfl | rfl <;> rw [btD_eq e1 e2 _ rfl,FM.cmp_eq] at hQ
  ·exact AutoFloatOps.gt_0 hQ
  ·exact AutoFloatOps.lt_0 hQ
theorem best_get {o:CmpOp} {x z:D} {ds:List D} (e:bestD o x ds=some z):(x::ds)[argBest (btD o (x::ds)) ds.length]?=some z :=
 argBest_best (ds:=x::ds) (btD o (x::ds)) (fun i j a b h1 h2 q hq=>btD_eq h1 h2 q hq) ds 0 x z rfl rfl e
theorem not_mem_wr {s:Shared} {b:Addr} {o:Obj} (e:s.heap.get? b=some o):b ∉ [s.heap.objs.size]:=fun h=>Nat.ne_of_lt (Heap.lt_size e) (List.mem_singleton.mp h)
noncomputable def BestW (w:World) (A:Around) (o:CmpOp) (s:Shared) (Q:Value→Shared→Prop) (it:Value) (s₂:Shared):Prop :=
 ∃ I fp wr n P St bt,it=.ref I∧Walks pw w A.in1 I fp wr n P St∧St 0 s₂.heap∧(∀ b ∈ fp,b < s₂.heap.objs.size)∧0 < n∧CmpOf pw w A.in1 o P bt ∧
  ∀ v h' tk,P (argBest bt (n - 1)) v→(∀ b o,b ∉ wr→s₂.heap.get? b=some o→h'.get? b=some o)→s.heap.objs.size≤h'.objs.size→s.toks≤tk→Q v { s₂ with heap:=h',toks:=tk }
theorem lt_two {h:Heap} {a:Addr} {o:Obj} (ha:a < h.objs.size):∀ b ∈ [h.objs.size,a],b < (h.push o).objs.size:=fun b hb=>by
 rw [Heap.size_push]
 rcases List.mem_cons.mp hb with rfl | hb
 ·exact Nat.lt_succ_self _
 ·exact List.mem_singleton.mp hb ▸ Nat.lt_succ_of_lt ha
theorem best_fin {o:CmpOp} {x z:D} {ds:List D} {vs:Array Value} {h':Heap} {tk:Nat} {v:Value} (I:Inv w K g s) (hr:RepL w g s.heap vs.toList (x::ds)) (e:bestD o x ds=some z) (h:Post w K g s z Q)
  (hv:vs[argBest (btD o (x::ds)) (vs.size - 1)]?=some v) (hk:∀ b o,s.heap.get? b=some o→h'.get? b=some o) (hs:s.heap.objs.size≤h'.objs.size) (ht:s.toks≤tk):Q v { s with heap:=h',toks:=tk }:=by
 have S:=Ste.grow I hk hs ht
 obtain ⟨v',hv',rv⟩:=hr.get _ _ (best_get e)
 rw [size_eq hr,← Array.getElem?_toList] at hv
 have:=Option.some.inj (hv'.symm.trans hv)
 exact h g _ v S (this ▸ rv.le (S.le I))
theorem best_sound {o:CmpOp} {nm:String} {x z:D} {ds:List D} {va:Value} (hh:A.handled=none) (I:Inv w K g s) (hn:(o=.Gt∧nm="max") ∨ (o=.Lt∧nm="min")) (r:Rep w g s.heap va (.lst (x::ds))) (hm:homD (x::ds)=true)
  (e:bestD o x ds=some z) (h:Post w K g s z Q):wpAny (model pw w) A (call (.builtin nm) [va]) Q E s:=by
 obtain ⟨a,vs,rfl,_,ho,hz,hr⟩:=r.lst_inv
 have ha:=Heap.lt_size ho.live.choose_spec
 have W:wpAny (model pw w) A.in1 (pyIter (.ref a)) (BestW w A o s Q) E s:=wpAny_pyIter_list ho.isList ⟨s.heap.objs.size,[s.heap.objs.size,a],[s.heap.objs.size],vs.size,fun i v=>vs[i]?=some v,fun i h=>h.IsListIter s.heap.objs.size a i∧h.IsList a vs,btD o (x::ds),rfl,
  Walks.list (A:=A.in1) hh _ a (Nat.ne_of_lt ha) vs,⟨⟨_,Heap.get?_push_size _ rfl,rfl,rfl⟩,ho.isList.push _⟩,lt_two ha,size_eq hr ▸ Nat.succ_pos _,cmpOf_hom (hn.imp (·.1) (·.1)) hm hr,fun v h' tk hv hk hs ht=>best_fin (s:=s) I hr e h hv (fun b o e=>hk b o (not_mem_wr e) (Heap.get?_push_of_some _ e)) hs ht⟩
 refine wpAny_grows ?_
 rcases hn with ⟨rfl,rfl⟩ | ⟨rfl,rfl⟩
 ·exact call_max_walk W
 ·exact call_min_walk W
theorem best3_sound {o:CmpOp} {nm:String} {x y u z:D} {va vb vc:Value} (hh:A.handled=none) (I:Inv w K g s) (hn:(o=.Gt∧nm="max") ∨ (o=.Lt∧nm="min")) (r1:Rep w g s.heap va x) (r2:Rep w g s.heap vb y) (r3:Rep w g s.heap vc u) (hm:homD [x,y,u]=true)
  (e:bestD o x [y,u]=some z) (h:Post w K g s z Q):wpAny (model pw w) A (call (.builtin nm) [va,vb,vc]) Q E s:=by
 have hr:RepL w g s.heap (#[va,vb,vc]:Array Value).toList [x,y,u]:=.cons r1 (.cons r2 (.cons r3 .nil))
 have W:wpAny (model pw w) A.in1 (pyIter (.ref s.heap.objs.size)) (BestW w A o s Q) E { s with heap:=s.heap.push { cls:=.type "tuple",data:=.seq #[va,vb,vc] } }:=by
  have ht:(s.heap.push { cls:=.type "tuple",data:=.seq #[va,vb,vc] }).IsTuple s.heap.objs.size #[va,vb,vc]:=⟨_,Heap.get?_push_size _ rfl,rfl,0,rfl⟩
  have hk:∀ b o,s.heap.get? b=some o→(s.heap.push { cls:=.type "tuple",data:=.seq #[va,vb,vc] }).get? b=some o:=fun b o e=>Heap.get?_push_of_some _ e
  have hl:s.heap.objs.size < (s.heap.push { cls:=.type "tuple",data:=.seq #[va,vb,vc] }).objs.size:=by rw [Heap.size_push]; exact Nat.lt_succ_self _
  refine wpAny_pyIter_tuple ht ?_
  generalize s.heap.push { cls:=.type "tuple",data:=.seq #[va,vb,vc] }=H at *
  exact ⟨H.objs.size,[H.objs.size,s.heap.objs.size],[H.objs.size],3,fun i v=>(#[va,vb,vc]:Array Value)[i]?=some v,fun i h=>h.IsTupleIter H.objs.size s.heap.objs.size i∧h.IsTuple s.heap.objs.size #[va,vb,vc],btD o [x,y,u],rfl,
   Walks.tuple (A:=A.in1) hh _ _ (Nat.ne_of_lt hl) #[va,vb,vc],⟨⟨_,Heap.get?_push_size _ rfl,rfl,rfl⟩,ht.at fun o e=>Heap.get?_push_of_some _ e⟩,lt_two hl,Nat.succ_pos _,cmpOf_hom (hn.imp (·.1) (·.1)) hm hr,
   fun v h' tk hv hk' hs ht=>best_fin (s:=s) I hr e h hv (fun b o e=>hk' b o (fun q=>Nat.ne_of_lt (Heap.lt_size (hk b o e)) (List.mem_singleton.mp q)) (Heap.get?_push_of_some _ (hk b o e))) hs ht⟩
 refine wpAny_grows ?_
 rcases hn with ⟨rfl,rfl⟩ | ⟨rfl,rfl⟩
 ·exact call_max_three W
 ·exact call_min_three W
end
end
section
section
variable {w:World} {K:Frag} {g:G} {s:Shared} {A:Around} {E Q:Value→Shared→Prop}
noncomputable def valD:D→Int
 | .int i=>i
 | .bool b=>b2i b
 | _=>0
theorem preSum_shift (f:Nat→Int):∀ n,preSum f (n+1)=f 0+preSum (fun i=>f (i+1)) n
 | 0=>by simp [preSum]
 | n+1=>by
  show preSum f (n+1)+f (n+1)=_
  rw [preSum_shift f n]
  show _=f 0+(preSum (fun i=>f (i+1)) n+f (n+1))
  exact Int.add_assoc ..
theorem sumD_i {d:D} {l:List D} {z:Int} (h:sumD (d::l)=some z):((∃ i,d=.int i) ∨ ∃ b,d=.bool b)∧∃ y,sumD l=some y∧valD d+y=z:=by
 cases d with
 | int i=>exact ⟨.inl ⟨i,rfl⟩,Option.map_eq_some_iff.mp h⟩
 | bool i=>exact ⟨.inr ⟨i,rfl⟩,Option.map_eq_some_iff.mp h⟩
 | _=>cases h
theorem sumD_pre:∀ {l:List D} {z:Int},sumD l=some z→preSum (fun i=>valD (l.getD i .none)) l.length=z:=by
 intro l
 induction l with
 | nil=>intro z h; exact Option.some.inj h
 | cons d l ih =>
  intro z h
  obtain ⟨_,y,hy,rfl⟩:=sumD_i h
  rw [List.length_cons,preSum_shift]
  exact congrArg (valD d+·) (ih hy)
theorem sumD_num {l:List D} {z:Int} (h:sumD l=some z):∀ d ∈ l,(∃ i,d=.int i) ∨ ∃ b,d=.bool b:=by
 induction l generalizing z with
 | nil=>exact fun d h=>nomatch h
 | cons d l ih =>
  obtain ⟨hd,y,hy,_⟩:=sumD_i h
  exact fun d' hm=>(List.mem_cons.mp hm).elim (fun q=>q ▸ hd) (ih hy d')
theorem sum_sound {z:Int} {ds:List D} {va:Value} (hh:A.handled=none) (I:Inv w K g s) (r:Rep w g s.heap va (.lst ds)) (e:sumD ds=some z) (h:Post w K g s (.int z) Q) :
  wpAny (model pw w) A (call (.builtin "sum") [va]) Q E s:=by
 obtain ⟨a,vs,rfl,_,ho,hz,hr⟩:=r.lst_inv
 have ha:=Heap.lt_size ho.live.choose_spec
 refine wpAny_grows (call_sum_walkAnyB (wpAny_pyIter_list ho.isList ⟨s.heap.objs.size,[s.heap.objs.size,a],[s.heap.objs.size],_,vs.size,fun i v=>vs[i]?=some v,_,fun i=>valD (ds.getD i .none),rfl,
  (Walks.list (A:=A.in1) hh _ a (Nat.ne_of_lt ha) vs).toS,⟨⟨_,Heap.get?_push_size _ rfl,rfl,rfl⟩,ho.isList.push _⟩,lt_two ha,fun i v hv=>?_,fun s' t' hm hs ht=>?_⟩))
 ·obtain ⟨d,hd,rd⟩:=hr.getV i v (Array.getElem?_toList ▸ hv)
  show NumOf (valD (ds.getD i .none)) v
  rw [List.getD_eq_getElem?_getD,hd]
  rcases sumD_num e d (List.mem_of_getElem? hd) with ⟨i,rfl⟩ | ⟨b,rfl⟩
  ·obtain ⟨t,rfl⟩:=rd.int_inv
   exact .inl ⟨t,rfl⟩
  ·rw [rd.bool_inv]
   exact .inr ⟨b,rfl,rfl⟩
 ·rw [size_eq hr,sumD_pre e]
  obtain ⟨m1,m2,m3,m4,m5⟩:=hm
  obtain ⟨hp,gg,dd,tk,os⟩:=s'
  cases m2; cases m3; cases m4
  exact h g _ _ (Ste.grow I (fun b o e=>m1 b o (not_mem_wr e) (Heap.get?_push_of_some _ e)) hs ht) (.int z t')
noncomputable def biNm (f:Bi):String:=["len","max","min","max","min","abs","int","str","ord","chr","isinstance","isinstance","tuple","sum"].getD f.ctorIdx ""
noncomputable abbrev biName (f:Bi):Str:=Str.ofString (biNm f)
noncomputable def biVal (f:Bi):Value:=if Nat.beq f.ctorIdx 6 || Nat.beq f.ctorIdx 7 || Nat.beq f.ctorIdx 12 then .type (biNm f) else .builtin (biNm f)
noncomputable def biMore:Bi→List Value
 | .isTup=>[.type "tuple"]
 | .isBool=>[.type "bool"]
 | _=>[]
theorem RepL.one {h:Heap} {vs:List Value} {d:D} (r:RepL w g h vs [d]):∃ v,vs=[v]∧Rep w g h v d:=by
 obtain ⟨v,us,rfl,a,b⟩:=r.cons_i
 cases b.nil_i
 exact ⟨_,rfl,a⟩
theorem Post.intAt {i:Int} (I:Inv w K g s) (h:Post w K g s (.int i) Q) (t k:Nat) (hk:s.toks≤k):Q (.int i t) { s with toks:=k } :=
 h g _ _ (Ste.grow I (fun _ _ e=>e) (Nat.le_refl _) hk) (.int ..)
theorem Post.boolAt {b:Bool} (I:Inv w K g s) (h:Post w K g s (.bool b) Q) (k:Nat) (hk:s.toks≤k):Q (.bool b) { s with toks:=k } :=
 h g _ _ (Ste.grow I (fun _ _ e=>e) (Nat.le_refl _) hk) (.bool b)
theorem S_cps (x:Str):S x.cps.toList=x:=by cases x; simp
theorem okI_log {a:Int} (h:okI a=true):a.natAbs.log2 < 1920:=by
 unfold okI at h
 simp only [Bool.and_eq_true,decide_eq_true_eq] at h
 by_cases hb:a.natAbs=0
 ·rw [hb]; decide
 ·have h1:a.natAbs < 2 ^ 64:=by omega
  have:=(Nat.log2_lt hb).mpr h1
  omega
inductive OneI (w:World) (g:G) (h:Heap) (vs:List Value) (f:D→Option D) (z:D):Prop
 | mk (v:Value) (d:D) (e:vs=[v]) (r:Rep w g h v d) (h:f d=some z)
theorem one_i {vs:List Value} {ds:List D} {f:D→Option D} {z:D} (r:RepL w g s.heap vs ds) (e:d1 ds f=some z):OneI w g s.heap vs f z:=by
 obtain ⟨d,rfl,e⟩:=d1_i e
 obtain ⟨v,rfl,q⟩:=r.one
 exact ⟨v,d,rfl,q,e⟩
inductive ThreeI (w:World) (g:G) (h:Heap) (vs:List Value) (f:D→D→D→Option D) (z:D):Prop
 | mk (v1 v2 v3:Value) (a b c:D) (e:vs=[v1,v2,v3]) (r1:Rep w g h v1 a) (r2:Rep w g h v2 b) (r3:Rep w g h v3 c) (h:f a b c=some z)
theorem three_i {vs:List Value} {ds:List D} {f:D→D→D→Option D} {z:D} (r:RepL w g s.heap vs ds) (e:d3 ds f=some z):ThreeI w g s.heap vs f z:=by
 obtain ⟨a,b,c,rfl,e⟩:=d3_i e
 obtain ⟨_,_,rfl,r1,q⟩:=r.cons_i
 obtain ⟨_,_,rfl,r2,p⟩:=q.cons_i
 obtain ⟨v,rfl,r3⟩:=p.one
 exact ⟨_,_,_,a,b,c,rfl,r1,r2,r3,e⟩
theorem len_one {d z:D} {v:Value} (I:Inv w K g s) (q:Rep w g s.heap v d) (h:Post w K g s z Q) (e:biD .len [d]=some z):wpAny (model pw w) A (call (.builtin "len") [v]) Q E s:=by
 cases d with
 | str l =>
  obtain ⟨hi,e⟩:=if_s (α:=D) e
  cases e; obtain ⟨t,rfl⟩:=q.str_inv
  refine P.len_str (by rw [S_length]; exact Int.not_le.mpr (fit63 hi)) ?_
  rw [S_length]
  exact Post.intAt I h _ _ (Nat.le_add_right s.toks 2)
 | lst l =>
  cases e; obtain ⟨a,vs,rfl,_,ho,hz,hr⟩:=q.lst_inv
  refine call_len_list ho.isList (fit63 hz) ?_
  rw [size_eq hr]
  exact Post.intAt I h _ _ (Nat.le_add_right s.toks 2)
 | tup l =>
  cases e; obtain ⟨a,vs,rfl,_,⟨n,ho⟩,hz,hr⟩:=q.tup_inv
  refine P.len_tuple ho (Int.not_le.mpr (fit63 hz)) ?_
  rw [size_eq hr]
  exact Post.intAt I h _ _ (Nat.le_add_right s.toks 2)
 | _=>cases e
theorem tuple_one {l:List D} {v:Value} (I:Inv w K g s) (q:Rep w g s.heap v (.lst l)) (h:Post w K g s (.tup l) Q):wpAny (model pw w) A (call (.type "tuple") [v]) Q E s:=by
 obtain ⟨a,vs,rfl,_,ho,hz,hr⟩:=q.lst_inv
 refine wpAny_grows (call_tuple_list ho.isList (fun h' hk hs ht=>?_) (Nat.le_trans hz (by decide)))
 have S1:=Ste.grow I (h':=h'.push { cls:=.type "tuple",data:=.seq vs }) (fun b o e=>Heap.get?_push_of_some _ (hk b o e)) hs ht
 refine h g _ _ S1 (.tup (fun q=>?_) ⟨0,push_new⟩ hz (hr.le (S1.le I)))
 obtain ⟨o,e⟩:=I.xb _ q
 exact Nat.lt_irrefl _ (Heap.lt_size (hk _ o e))
theorem int_one {d z:D} {v:Value} (I:Inv w K g s) (q:Rep w g s.heap v d) (h:Post w K g s z Q) (e:biD .int [d]=some z):wpAny (model pw w) A (call (.type "int") [v]) Q E s:=by
 cases d with
 | bool b=>cases e; rw [q.bool_inv]; exact call_int_bool (Post.int I h)
 | flt x =>
  obtain ⟨t,rfl,_⟩:=q.flt_inv
  have e:(match FM.dec x with | .fin sg m e=>some (.int (Float64.truncOf sg m e)) | _=>none)=some z:=e
  cases hd:FM.dec x with
  | fin sg m p=>rw [hd] at e; exact call_int_float ((FM.dec_eq x).symm.trans hd) (Post.int I (h.of e))
  | _=>rw [hd] at e; cases e
 | _=>cases e
theorem bi_sound {f:Bi} {ds:List D} {z:D} {vs:List Value} (hh:A.handled=none) (I:Inv w K g s) (r:RepL w g s.heap vs ds) (e:biD f ds=some z) (h:Post w K g s z Q) :
  wpAny (model pw w) A (call (biVal f) (vs++biMore f)) Q E s:=by
 cases f with
 | max3 =>
  obtain ⟨_,_,_,a,b,c,rfl,r1,r2,r3,e⟩:=three_i r e
  obtain ⟨hm,e⟩:=if_s e
  exact best3_sound hh I (.inl ⟨rfl,rfl⟩) r1 r2 r3 hm e h
 | min3 =>
  obtain ⟨_,_,_,a,b,c,rfl,r1,r2,r3,e⟩:=three_i r e
  obtain ⟨hm,e⟩:=if_s e
  exact best3_sound hh I (.inr ⟨rfl,rfl⟩) r1 r2 r3 hm e h
 | len =>
  obtain ⟨d,rfl,_⟩:=d1_i e
  obtain ⟨v,rfl,q⟩:=r.one
  exact len_one I q h e
 | int =>
  obtain ⟨d,rfl,_⟩:=d1_i e
  obtain ⟨v,rfl,q⟩:=r.one
  exact int_one I q h e
 | max1 =>
  obtain ⟨v,d,rfl,q,e⟩:=one_i r e
  obtain ⟨l,rfl,e⟩:=onL_i e
  cases l with
  | nil=>cases e
  | cons x l=>obtain ⟨hm,e⟩:=if_s (α:=D) e; exact best_sound hh I (.inl ⟨rfl,rfl⟩) q hm e h
 | min1 =>
  obtain ⟨v,d,rfl,q,e⟩:=one_i r e
  obtain ⟨l,rfl,e⟩:=onL_i e
  cases l with
  | nil=>cases e
  | cons x l=>obtain ⟨hm,e⟩:=if_s (α:=D) e; exact best_sound hh I (.inr ⟨rfl,rfl⟩) q hm e h
 | abs =>
  obtain ⟨v,d,rfl,q,e⟩:=one_i r e
  obtain ⟨x,rfl,e⟩:=onF_i e
  obtain ⟨t,rfl,_⟩:=q.flt_inv
  exact Flt.call_abs_float (Post.flt I (h.of (fD_ e (FM.ab_eq _))))
 | str =>
  obtain ⟨v,d,rfl,q,e⟩:=one_i r e
  obtain ⟨x,rfl,e⟩:=onI_i e
  obtain ⟨hi,e⟩:=if_s e
  obtain ⟨t,rfl⟩:=q.int_inv
  refine P.str_of_int (okI_log hi) ?_
  have:=Post.str I (h.of e)
  rwa [S_cps] at this
 | ord =>
  obtain ⟨v,d,rfl,q,e⟩:=one_i r e
  obtain ⟨x,rfl,e⟩:=onS_i e
  obtain ⟨c,rfl,e⟩:=d1_i e
  obtain ⟨t,rfl⟩:=q.str_inv
  exact P.ord_of_char (Post.int I (h.of e))
 | chr =>
  obtain ⟨v,d,rfl,q,e⟩:=one_i r e
  obtain ⟨x,rfl,e⟩:=onI_i e
  obtain ⟨hi,e⟩:=if_s e
  obtain ⟨t,rfl⟩:=q.int_inv
  exact P.chr_of_int (by simp; omega) (Post.str (l:=[_]) I (h.of e))
 | isTup =>
  obtain ⟨v,d,rfl,q,e⟩:=one_i r e
  cases d with
  | tup l=>cases e; obtain ⟨a,vs,rfl,_,ho,hz,hr⟩:=q.tup_inv; exact IsiPair.tuple_tuple ho.choose_spec rfl (Post.bool I h)
  | int i=>cases e; obtain ⟨t,rfl⟩:=q.int_inv; exact IsiPair.int_tuple (Post.boolAt I h _ (Nat.le_succ _))
  | _=>cases e
 | isBool =>
  obtain ⟨v,d,rfl,q,e⟩:=one_i r e
  cases d with
  | int i=>cases e; obtain ⟨t,rfl⟩:=q.int_inv; exact IsiPair.int_bool (Post.boolAt I h _ (Nat.le_succ _))
  | bool b=>cases e; rw [q.bool_inv]; exact IsiPair.bool_bool (Post.bool I h)
  | _=>cases e
 | tuple =>
  obtain ⟨v,d,rfl,q,e⟩:=one_i r e
  obtain ⟨l,rfl,e⟩:=onL_i e
  cases l with
  | nil=>cases e
  | cons x l=>cases e; exact tuple_one I q h
 | sum =>
  obtain ⟨v,d,rfl,q,e⟩:=one_i r e
  obtain ⟨l,rfl,e⟩:=onL_i e
  obtain ⟨y,hy,rfl⟩:=Option.map_eq_some_iff.mp e
  exact sum_sound hh I q hy h
end
end
section
structure Tabs (C:Cx):Prop where
 b1:∃ a,GlobIs C.K "b1_set" (.ref a)∧∀ h:Heap,C.K.In h→∃ n,h.SetOf (PySem.intKind pw C.w) a C.O.b1 n
 b3:∃ a,GlobIs C.K "b3_exceptions" (.ref a)∧(a == sysModules)=false∧∀ h:Heap,C.K.In h→∃ kvs,h.DictOf (PySem.intKind pw C.w) a kvs ∧
  ∀ i,match C.O.b3 i with
   | some t=>∃ tk,valueAt kvs i=some (.str (S t) tk)
   | none=>valueAt kvs i=none
noncomputable def plainBase (e:Expr):Bool:=!Nat.beq e.ctorIdx 16
theorem base_plain {o:Expr} (h:plainBase o=true) (attr:Str) (env:Env) (m:Sem Value):attributeBase o attr env m=m:=by
 cases o <;> first | rfl | (cases h; done)
section
variable {C:Cx} {A:Around} {F:Frm} {r:Rho} {a b:Expr} {d d':D} {l l':List D}
theorem ok_call {x:Str} {p p':Pos} {f:Bi} {e:Expr} {es:List Expr} {ds:List D} {z:D} (hh:A.handled=none) (hg:GlobIs C.K x (biVal f)) (hm:biMore f=[]) (hk:F.env.kindOf x=some .globalImplicit) (hd:(x == ("__debug__":Str))=false)
  (hs:(e::es).all noStar=true) (he:EvsOk C A F r (spliced (backTo p (starEach (e::es) F.env))) ds l) (hz:biD f ds=some z):EvOk C A F r (eval (.Call (.Name x p') (e::es) [] p) F.env) z l:=fun g s E Q H h =>
 call_name hg (by cases f <;> rfl) hk hd hs he H fun g' s' vs S rs=>by
  have:=bi_sound hh S.inv rs hz (S.addPost0 h) (E:=E)
  rwa [hm,List.append_nil] at this
theorem ok_isT {x y:Str} {p p' p'':Pos} {f:Bi} {T:String} {e:Expr} {z:D} (hh:A.handled=none) (hg:GlobIs C.K x (biVal f)) (hgT:GlobIs C.K y (.type T)) (hm:biMore f=[.type T]) (hk:F.env.kindOf x=some .globalImplicit) (hd:(x == ("__debug__":Str))=false)
  (hk':F.env.kindOf y=some .globalImplicit) (hd':(y == ("__debug__":Str))=false) (hs:noStar e=true) (he:EvOk C A F r (eval e F.env) d l) (hz:biD f [d]=some z) :
  EvOk C A F r (eval (.Call (.Name x p') [e,.Name y p''] [] p) F.env) z l:=fun g s E Q H h=>by
 refine PySem.wpAny_Call_NameR (eval_glob H.inv H.ev hg hk hd ?_)
 have e1:=starEach_cons (es:=[.Name y p'']) (env:=F.env) hs
 have e2:=starEach_cons (e:=.Name y p'') (es:=[]) (env:=F.env) rfl
 have ha:wpAny (model pw C.w) A (spliced (backTo p (starEach [e,.Name y p''] F.env))) (fun vs s'=>wpAny (model pw C.w) A (call (biVal f) vs) Q E s') E s:=by
  refine wpAny_items_cons (he g s E _ H fun g' s' v S rv=>?_) e1
  refine wpAny_items_cons (eval_glob S.inv (H.ev.ste H.inv S) hgT hk' hd' ?_) e2
  refine wpAny_items_nil ?_
  have:=bi_sound hh S.inv (.cons rv .nil) hz (S.addPost0 h) (E:=E)
  rwa [hm] at this
 have hp:=any_backTo (p:=p) (env:=F.env) (es:=[e,.Name y p'']) (by simp [hs]; rfl)
 rw [e1] at ha hp ⊢
 have hb:∃ id,biVal f=.builtin id:=by cases f <;> first | exact ⟨_,rfl⟩ | (cases hm; done)
 obtain ⟨id,hb⟩:=hb
 rw [hb] at ha ⊢
 exact callWith_builtin hp (evalArgs_plain ha)
theorem ok_lower {p p':Pos} {x:List Nat} (hb:plainBase a=true) (hline:(p'.endLine == p.line)=true) (hx:EvOk C A F r (eval a F.env) (.str x) l) (hn:x.length≤65536) :
  EvOk C A F r (eval (.Call (.Attribute a "lower" p') [] [] p) F.env) (.str (Txt.lower (S x)).cps.toList) l:=fun g s E Q H h=>by
 refine PySem.Call_method0 (base_plain hb _ _ _) hline (hx g s E _ H fun g' s' v S rv=>?_)
 obtain ⟨t,rfl⟩:=rv.str_inv
 refine SBL.lower (by rw [S_length]; exact Nat.le_trans hn (by decide)) fun _=>?_
 have:=Post.str S.inv (S.addPost0 h)
 rwa [S_cps] at this
theorem ok_index {p p':Pos} {x y:List Nat} (hb:plainBase a=true) (hline:(p'.endLine == p.line)=true) (hs:noStar b=true) (hx:EvOk C A F r (eval a F.env) (.str x) l) (hy:EvOk C A F r (eval b F.env) (.str y) l')
  (hc:Txt.contains (S x) (S y)=true):EvOk C A F r (eval (.Call (.Attribute a "index" p') [b] [] p) F.env) (.int (Txt.find (S x) (S y))) (l++l'):=fun g s E Q H h=>by
 refine PySem.Call_method1 (base_plain hb _ _ _) (starEach_cons hs) hline ?_
 refine hx g s E _ H.a fun g₁ s₁ v S₁ rv=>?_
 obtain ⟨t,rfl⟩:=rv.str_inv
 refine SB.indexFound (hy g₁ s₁ E _ (H.b S₁) fun g₂ s₂ v' S₂ rv'=>?_)
 obtain ⟨u,rfl⟩:=rv'.str_inv
 exact ⟨S y,u,rfl,hc,Post.int S₂.inv (Ste.addPost0 (S₁.trans S₂) h)⟩
theorem strsD_i {d:D} {ds:List D} {ts:List (List Nat)} (e:strsD (d::ds)=some ts):∃ x us,d=.str x∧strsD ds=some us∧x::us=ts:=by
 cases d with
 | str x=>obtain ⟨us,h1,h2⟩:=Option.map_eq_some_iff.mp e; exact ⟨x,us,rfl,h1,h2⟩
 | _=>cases e
theorem strsAre_of {w:World} {g:G} {h:Heap} {vs:List Value} {ds:List D} (r:RepL w g h vs ds):∀ {ts:List (List Nat)},strsD ds=some ts→StrsAre vs (ts.map S) :=
 RepL.ind (P:=fun vs ds=>∀ {ts:List (List Nat)},strsD ds=some ts→StrsAre vs (ts.map S)) (fun e=>Option.some.inj e ▸ .nil) (fun v d vs ds a _ ih ts e=>by
  obtain ⟨x,us,rfl,h,rfl⟩:=strsD_i e
  obtain ⟨t,rfl⟩:=a.str_inv
  exact .cons _ _ (ih h)) r
theorem glued_flat:∀ (l:List (List Nat)) (acc:Array Nat),((l.map S).foldl (fun acc p=>acc++(S []).cps++p.cps) acc).toList=acc.toList++l.flatten
 | [],acc=>by simp
 | x::l,acc=>by
  rw [List.map_cons,List.foldl_cons,glued_flat l]
  simp
theorem join_flat (l:List (List Nat)):Txt.join (S []) (l.map S)=S l.flatten:=by
 cases l with
 | nil=>rfl
 | cons x l =>
  show Str.mk ((l.map S).foldl (fun acc p=>acc++(S []).cps++p.cps) (S x).cps)=Str.mk ((x::l).flatten).toArray
  refine congrArg Str.mk (Array.ext' ?_)
  rw [glued_flat]
  simp
theorem ok_join {p p':Pos} {ds:List D} {ts:List (List Nat)} (hb:plainBase a=true) (hline:(p'.endLine == p.line)=true) (hs:noStar b=true) (hx:EvOk C A F r (eval a F.env) (.str []) l) (hy:EvOk C A F r (eval b F.env) (.lst ds) l')
  (ht:strsD ds=some ts) (hn:(ts.map List.length).sum≤65536) (hn':ts.length≤65536):EvOk C A F r (eval (.Call (.Attribute a "join" p') [b] [] p) F.env) (.str ts.flatten) (l++l'):=fun g s E Q H h=>by
 refine PySem.Call_method1 (base_plain hb _ _ _) (starEach_cons hs) hline ?_
 refine hx g s E _ H.a fun g₁ s₁ v S₁ rv=>?_
 obtain ⟨t,rfl⟩:=rv.str_inv
 refine ⟨"str",_,PySem.F.plainAttrs_str,PySem.F.slot_str_join,PySem.F.type_str_join,typeIs_str _ _ _,(fun _ e=>nomatch e),?_⟩
 refine callWith_builtin rfl (evalArgs_plain ?_)
 show wpAny _ A (do let v ← eval b F.env; let here ← (pure [v]:Sem (List Value)); return here++(← holding here (spliced []))) _ _ _
 refine wpAny_bind (hy g₁ s₁ E _ (H.b S₁) fun g₂ s₂ v' S₂ rv'=>?_)
 refine wpAny_bind (wpAny_pure (wpAny_bind (wpAny_holding (wpAny_pure (wpAny_pure ?_)))))
 obtain ⟨D,vs,rfl,_,ho,_,hr⟩:=rv'.lst_inv
 have hlen:((ts.map S).map (·.length)).sum=(ts.map List.length).sum:=by rw [List.map_map]; congr 1
 refine wpAny_with_toks (Nat.le_refl _) (PyProof.Rows.join_list ho.isList (strsAre_of hr ht) ?_ fun t' k hk=>?_)
 ·rw [hlen,List.length_map,S_length,List.length_nil,Nat.mul_zero]; exact Nat.le_trans hn (by decide)
 ·rw [join_flat]
  exact Post.strAt S₂.inv (Ste.addPost0 (S₁.trans S₂) h) t' k hk
theorem ok_replace {p p' q1 q2 q3 q4:Pos} {k1 k2:Nat} {x y:List Nat} {i:Int} (hb:plainBase a=true) (hline:(p'.endLine == p.line)=true) (hg:GlobIs C.K "chr" (.builtin "chr")) (hk:F.env.kindOf "chr"=some .globalImplicit)
  (hx:EvOk C A F r (eval a F.env) (.str x) l) (hi:0≤i∧i < 1114112) (hy:(S y == S [i.toNat])=false) (hn:x.length≤65536) :
  EvOk C A F r (eval (.Call (.Attribute a "replace" p') [.Constant (.str (S y)) k1 q1,.Call (.Name "chr" q2) [.Constant (.int i) k2 q3] [] q4] [] p) F.env) (.str (Txt.replace (S x) (S y) (S [i.toNat])).cps.toList) l:=fun g s E Q H h=>by
 refine PySem.Call_method2 (base_plain hb _ _ _) rfl hline ?_
 refine hx g s E _ H fun g₁ s₁ v S₁ rv=>?_
 obtain ⟨t,rfl⟩:=rv.str_inv
 refine ⟨"str",_,PySem.F.plainAttrs_str,PySem.F.slot_str_replace,PySem.F.type_str_replace,typeIs_str _ _ _,(fun _ e=>nomatch e),?_⟩
 refine callWith_builtin rfl (evalArgs_plain ?_)
 have hI:=S₁.inv
 have ev₁:=H.ev.ste H.inv S₁
 refine wpAny_items_cons (env:=F.env) (pos:=p) (e:=.Constant (.str (S y)) k1 q1) (rest:=[.Call (.Name "chr" q2) [.Constant (.int i) k2 q3] [] q4]) (wpAny_Constant_str ?_)
 have S₂:Ste C.w C.K g₁ s₁ g₁ { s₁ with toks:=s₁.toks+1 } []:=Ste.grow hI (fun _ _ e=>e) (Nat.le_refl _) (Nat.le_succ _)
 refine wpAny_items_cons (env:=F.env) (pos:=p) (rest:=[]) ?_
 refine PySem.wpAny_Call_NameR (eval_glob S₂.inv (ev₁.ste hI S₂) hg hk (by decide) ?_)
 refine callWith_builtin rfl (evalArgs_plain ?_)
 refine wpAny_items_cons (env:=F.env) (pos:=q4) (e:=.Constant (.int i) k2 q3) (rest:=[]) (wpAny_Constant_int (wpAny_items_nil ?_))
 refine P.chr_of_int (by simp; omega) (wpAny_items_nil ?_)
 have h0:=hI.tk0
 refine wpAny_with_toks (n:=s₁.toks) (by show s₁.toks≤s₁.toks+1+1+1; omega) ?_
 refine SC.replace (u:=s₁.toks) (v:=s₁.toks+1+1) (Nat.ne_of_gt h0) (Nat.succ_ne_zero _) (Nat.ne_of_lt (Nat.lt_succ_of_lt (Nat.lt_succ_self s₁.toks))) hy (by rw [S_length,S_length]; simp; omega) fun t' k hk'=>?_
 have:=Post.strAt hI (S₁.addPost0 h) t' k hk' (l:=(Txt.replace (S x) (S y) (S [i.toNat])).cps.toList)
 rwa [S_cps] at this
theorem valueAt_has {α:Type} [DecidableEq α] {k:α} {kvs:List (α × Value)}:(valueAt kvs k).isSome=(kvs.map (·.1)).contains k:=by
 induction kvs with
 | nil=>rfl
 | cons p kvs ih =>
  rw [valueAt_cons,List.map_cons,List.contains_cons,← ih]
  by_cases h:p.1=k
  ·rw [if_pos h,beq_iff_eq.mpr h.symm]; rfl
  ·rw [if_neg h,beq_eq_false_iff_ne.mpr (Ne.symm h)]; rfl
theorem contains_S {x:List Nat} {ks:List (List Nat)}:(ks.map S).contains (S x)=ks.contains x:=by
 induction ks with
 | nil=>rfl
 | cons k ks ih=>rw [List.map_cons,List.contains_cons,List.contains_cons,ih,S_beq]
theorem empty_kind {w:World} {α β:Type} [DecidableEq α] [DecidableEq β] {k1:KeyKind pw w α} {k2:KeyKind pw w β} {h:Heap} {a:Addr} (x:h.DictOf k1 a []):h.DictOf k2 a []:=by
 obtain ⟨o,es,ep,a1,a2,a3,a4,a5,a6⟩:=x
 have hL:es.toList=[]:=by
  cases hL:es.toList with
  | nil=>rfl
  | cons=>rw [hL] at a5; cases a5
 have he:es=#[]:=by apply Array.ext'; simpa using hL
 subst he
 exact ⟨o,#[],ep,a1,a2,a3,(by intro e he; simp at he),.nil,by simp⟩
section
variable {w:World} {g:G} {s:Shared} {K:Frag} {E Q:Value→Shared→Prop} {v:Value} {ad:Addr} {q:Bool} {op:CmpOp} {neg:Bool} (ho:(op=.In∧neg=false) ∨ (op=.NotIn∧neg=true)) (I:Inv w K g s) (h:Post w K g s (.bool (xor neg q)) Q)
include ho I h
theorem ino_key {α:Type} [DecidableEq α] {knd:KeyKind pw w α} {k:α} {kvs:List (α × Value)} (hk:knd.is k v=true) (hm:(ad == sysModules)=false) (hd:s.heap.DictOf knd ad kvs) (hq:(valueAt kvs k).isSome=q):wpAny (model pw w) A (compareOp op v (.ref ad)) Q E s:=by
 have P:=Post.boolAt I h (s.toks+1) (Nat.le_succ _)
 subst hq
 rcases ho with ⟨rfl,rfl⟩ | ⟨rfl,rfl⟩
 ·rw [Bool.false_xor] at P; exact wpAny_in_of hk hm hd.mapOf P
 ·rw [Bool.true_xor] at P; exact wpAny_notIn_of hk hm hd.mapOf P
theorem inoD_sound {x c:D} (rv:Rep w g s.heap v x) (rc:OwnRep w g s.heap ad c) (e:inoD x c=some q):wpAny (model pw w) A (compareOp op v (.ref ad)) Q E s:=by
 cases c with
 | dctS ks vs =>
  obtain ⟨hm,kvs,hd,_,hk,_⟩:=rc
  rcases if_e e with e | e
  ·obtain ⟨k,rfl,e⟩:=onS_i e
   obtain ⟨t,rfl⟩:=rv.str_inv
   exact ino_key ho I h (strKind_is pw w _ t) hm hd (by rw [valueAt_has,hk,contains_S]; exact Option.some.inj e)
  ·obtain ⟨k,rfl,e⟩:=onI_i e
   obtain ⟨hn,e⟩:=if_s e
   obtain ⟨t,rfl⟩:=rv.int_inv
   rw [List.isEmpty_iff.mp hn,List.map_nil,List.map_eq_nil_iff] at hk
   subst hk
   exact ino_key ho I h (k:=_) (kvs:=[]) (intKind_is pw w _ t) hm (empty_kind hd) (Option.some.inj e)
 | dctI ks vs =>
  obtain ⟨hm,kvs,hd,_,hk,_⟩:=rc
  rcases if_e e with e | e
  ·obtain ⟨k,rfl,e⟩:=onI_i e
   obtain ⟨t,rfl⟩:=rv.int_inv
   exact ino_key ho I h (intKind_is pw w _ t) hm hd (by rw [valueAt_has,hk]; exact Option.some.inj e)
  ·obtain ⟨k,rfl,e⟩:=onS_i e
   obtain ⟨hn,e⟩:=if_s e
   obtain ⟨t,rfl⟩:=rv.str_inv
   rw [List.isEmpty_iff.mp hn,List.map_eq_nil_iff] at hk
   subst hk
   exact ino_key ho I h (k:=Mine.S _) (kvs:=[]) (strKind_is pw w _ t) hm (empty_kind hd) (Option.some.inj e)
 | _=>cases e
end
end
end
section
noncomputable def FunOk (C:Cx) (A:Around) (f:Value) (k:Nat):Prop :=
 ∀ (g:G) (s:Shared) (E Q:Value→Shared→Prop) (vs:List Value) (ds:List D) (z:D) (l:List D),Good C g s→g.log.length+l.length≤65536→RepL C.w g s.heap vs ds→C.O.call k ds=some (z,l) →
  (∀ g' s' v,Ste C.w C.K g s g' s' l→Rep C.w g' s'.heap v z→Q v s')→wpAny (model pw C.w) A (call f vs) Q E s
noncomputable def FnAt (K:Frag) (a:Addr):Prop:=∃ o fd,K.lookup a=some o∧o.data=.func fd
section
variable {C:Cx} {A:Around} {F:Frm} {r:Rho} {a b:Expr} {d d':D} {l l':List D}
theorem own_at {g:G} {s:Shared} {n:Nat} {x:Str} (ev:EnvOk C.w g s.heap F r) (hx:F.T[n]?=some x) (hv:getO r n=some d):∃ ad,VarAt F.env s.heap x (.ref ad)∧F.own.lookup n=some ad∧OwnRep C.w g s.heap ad d:=by
 obtain ⟨_,x',ad,hx',e1,e2,e3⟩:=ev.own n d (getO_iff.mp hv)
 exact ⟨ad,Option.some.inj (hx'.symm.trans hx) ▸ e2,e1,e3⟩
theorem ok_ino {p p':Pos} {n:Nat} {x:Str} {op:CmpOp} {neg q:Bool} (ho:(op=.In∧neg=false) ∨ (op=.NotIn∧neg=true)) (hx:F.T[n]?=some x) (hd:(x == ("__debug__":Str))=false) (hc:(x == ("__classdict__":Str))=false)
  (hv:getO r n=some d) (y:EvOk C A F r (eval a F.env) d' l) (hz:inoD d' d=some q):EvOk C A F r (eval (.Compare a [op] [.Name x p'] p) F.env) (.bool (xor neg q)) l:=fun g s E Q H h=>by
 refine wpAny_Compare1 (y g s E _ H fun g' s' v S rv=>?_) (by rcases ho with ⟨rfl,_⟩ | ⟨rfl,_⟩ <;> rfl)
 obtain ⟨ad,h1,_,h3⟩:=own_at (H.done S).ev hx hv
 exact eval_var (H.done S).ev h1 hd hc (inoD_sound ho S.inv (S.addPost0 h) rv h3 hz)
theorem ok_inoT {p p':Pos} {n:Nat} {x:Str} {op:CmpOp} {neg q:Bool} {m:Sem Value} (ho:(op=.In∧neg=false) ∨ (op=.NotIn∧neg=true)) (hx:F.T[n]?=some x) (hd:(x == ("__debug__":Str))=false) (hc:(x == ("__classdict__":Str))=false)
  (hv:getO r n=some d) (y:EvOk C A F r (eval a F.env) d' l) (hz:inoD d' d=some q):TestOk C A F r (isTrue (.Compare a [op] [.Name x p'] p) F.env m) (xor neg q) l:=fun g s E Q H h=>by
 refine wpAny_isTrue_Compare1 (y g s E _ H fun g' s' v S rv=>?_) (by rcases ho with ⟨rfl,_⟩ | ⟨rfl,_⟩ <;> rfl)
 obtain ⟨ad,h1,_,h3⟩:=own_at (H.done S).ev hx hv
 exact eval_var (H.done S).ev h1 hd hc (inoD_sound (Q:=fun v s'=>wpAny (model pw C.w) A (truthy v) Q E s') ho S.inv (fun g₂ s₂ v₂ S₂ r₂=>r₂.bool_inv ▸ wpAny_truthy_bool (h g₂ s₂ (Ste.trans0 S S₂))) rv h3 hz)
theorem ok_inset (T:Tabs C) {p p':Pos} {i:Int} (hk:F.env.kindOf "b1_set"=some .globalImplicit) (y:EvOk C A F r (eval a F.env) (.int i) l):EvOk C A F r (eval (.Compare a [.In] [.Name "b1_set" p'] p) F.env) (.bool (C.O.b1 i)) l:=fun g s E Q H h=>by
 obtain ⟨ad,h1,h2⟩:=T.b1
 refine wpAny_Compare1 (y g s E _ H fun g' s' v S rv=>?_) rfl
 obtain ⟨t,rfl⟩:=rv.int_inv
 obtain ⟨n,hn⟩:=h2 s'.heap S.inv.kin
 exact eval_glob S.inv (H.done S).ev h1 hk (by decide) (wpAny_inSet_of (intKind_is pw C.w i t) rfl hn (Post.boolAt S.inv (S.addPost0 h) _ (Nat.le_succ _)))
theorem ok_b3 (T:Tabs C) {p p' p'':Pos} {i:Int} (hk:F.env.kindOf "b3_exceptions"=some .globalImplicit) (hline:(p'.endLine == p.line)=true) (hs:noStar a=true) (y:EvOk C A F r (eval a F.env) (.int i) l) :
  EvOk C A F r (eval (.Call (.Attribute (.Name "b3_exceptions" p'') "get" p') [a] [] p) F.env) (match C.O.b3 i with | some t=>.str t | none=>.none) l:=fun g s E Q H h=>by
 obtain ⟨ad,h1,hm,h2⟩:=T.b3
 refine wpAny_Call_method1_late (base_plain rfl _ _ _) hline (by rw [starEach_cons hs]; rfl) (eval_glob H.inv H.ev h1 hk (by decide) ?_)
 obtain ⟨kvs,hd,_⟩:=h2 s.heap H.inv.kin
 refine ⟨"dict","dict.get",PySem.F.plainAttrs_dict,PySem.F.slot_dict_get,PySem.F.type_dict_get,hd.typeIs,hd.mapOf.noDict,?_⟩
 refine wpAny_dict_get1 (knd:=PySem.intKind pw C.w) hm (y g s E _ H fun g' s' v S rv=>?_)
 obtain ⟨t,rfl⟩:=rv.int_inv
 obtain ⟨kvs,hd,hf⟩:=h2 s'.heap S.inv.kin
 refine ⟨i,valueAt kvs,intKind_is pw C.w i t,hd.mapOf,?_⟩
 have hf:=hf i
 have P:=S.addPost0 h
 have S1:Ste C.w C.K g' s' g' { s' with toks:=s'.toks+1 } []:=Ste.grow S.inv (fun _ _ e=>e) (Nat.le_refl _) (Nat.le_succ _)
 cases hb:C.O.b3 i with
 | none =>
  rw [hb] at hf P
  rw [hf]
  exact P g' _ _ S1 .none
 | some tx =>
  rw [hb] at hf P
  obtain ⟨tk,hf⟩:=hf
  rw [hf]
  exact P g' _ _ S1 (.str tx tk)
theorem ok_callF {x:Str} {p p':Pos} {k:Nat} {e:Expr} {es:List Expr} {ds:List D} {z:D} {fa:Addr} (hg:GlobIs C.K x (.ref fa)) (hf:FnAt C.K fa) (hF:FunOk C A (.ref fa) k) (hk:F.env.kindOf x=some .globalImplicit) (hd:(x == ("__debug__":Str))=false)
  (hs:(e::es).all noStar=true) (he:EvsOk C A F r (spliced (backTo p (starEach (e::es) F.env))) ds l) (hz:C.O.call k ds=some (z,l')):EvOk C A F r (eval (.Call (.Name x p') (e::es) [] p) F.env) z (l++l'):=fun g s E Q H h=>by
 refine PySem.wpAny_Call_NameR (eval_glob H.inv H.ev hg hk hd ?_)
 obtain ⟨o,fd,ho,hfd⟩:=hf
 have ha:=he g s E (fun vs s'=>(s'.heap.get? fa=some o∧o.data=.func fd)∧wpAny (model pw C.w) A (call (.ref fa) vs) Q E s') H.a fun g' s' vs S rs =>
  ⟨⟨S.inv.kin _ _ ho,hfd⟩,hF g' s' E Q vs ds z l' (H.b S).good (H.b S).lg rs hz fun g₂ s₂ v S₂ r=>h g₂ s₂ v (S.trans S₂) r⟩
 have hp:=any_backTo (p:=p) (env:=F.env) hs
 rw [starEach_cons (Bool.and_eq_true_iff.mp (List.all_cons ▸ hs)).1] at ha hp ⊢
 exact callWith_function (evalArgs_plain ha)
end
end
section
noncomputable def ItemIs (tup:Bool) (w:World) (g:G) (h:Heap) (v:Value) (d:D):Prop :=
 if tup then ∃ T vals es,v=.ref T∧h.IsTuple T vals∧d=.tup es∧RepL w g h vals.toList es else Rep w g h v d
noncomputable def G.muts (g:G) (l:List Addr):G:={ g with X:=fun b=>b ∈ l ∨ g.X b }
noncomputable def G.frzs (g:G) (l:List Addr):G:={ g with X:=fun b=>b ∉ l∧g.X b }
section
variable {w:World} {K:Frag} {g g':G} {s s':Shared} {l:List D} {P:Addr→Prop}
theorem Ste.muts (I:Inv w K g s) {h':Heap} {tk:Nat} (hk:∀ b o,s.heap.get? b=some o→h'.get? b=some o) (hs:s.heap.objs.size≤h'.objs.size) (ht:s.toks≤tk) {W:List Addr} (hW:∀ b ∈ W,s.heap.objs.size≤b∧∃ o,h'.get? b=some o) :
  Ste w K g s (g.muts W) { s with heap:=h',toks:=tk } []:=by
 have S:=Ste.grow I hk hs ht
 have nl:∀ b o,s.heap.get? b=some o→b ∉ W:=fun b o e q=>Nat.lt_irrefl _ (Nat.lt_of_lt_of_le (Heap.lt_size e) (hW b q).1)
 have L:Le g s.heap (g.muts W) h':=⟨fun b o' n e=>⟨fun x=>x.elim (nl b o' e) n,hk b o' e⟩,fun _ _ e=>e,rfl,rfl⟩
 exact {
  X:=fun b hb=>⟨fun x=>x.resolve_left fun q=>Nat.lt_irrefl _ (Nat.lt_of_lt_of_le hb (hW b q).1),.inr⟩
  na:=rfl,tc:=rfl,gf:=rfl,log:=by simp [G.muts],fl:=fun _ _ e=>e,keep:=S.keep,same:=S.same,size:=S.size,toks:=S.toks
  inv:={
   gens:=I.gens
   xb:=fun b hb=>by
    rcases hb with hb | hb
    ·exact (hW b hb).2
    ·obtain ⟨o',e⟩:=I.xb b hb; exact ⟨o',hk b o' e⟩
   kin:=S.inv.kin
   kx:=fun b o e=>by
    rintro (hb | hb)
    ·exact nl b o (I.kin b o e) hb
    ·exact I.kx b o e hb
   na:=fun b e=>let ⟨x,vs,hl,hr⟩:=I.na b e; ⟨.inr x,vs,hl.at fun o e=>hk _ o e,hr.le L⟩
   na0:=I.na0,tk:=S.inv.tk,tk0:=S.inv.tk0,gf:=I.gf,big:=S.inv.big } }
theorem SteP.wrote (I:Inv w K g s) {W:List Addr} (hx:∀ b ∈ W,g.X b) (hn:∀ b ∈ W,g.na ≠ some b) {h':Heap} {tk:Nat} (hk:∀ b o,b ∉ W→s.heap.get? b=some o→h'.get? b=some o) (hs:s.heap.objs.size≤h'.objs.size) (ht:s.toks≤tk)
  (hv:∀ b ∈ W,∃ o,h'.get? b=some o):SteP w K (fun b=>b ∈ W) g s g { s with heap:=h',toks:=tk } [] where
 X:=fun _ _=>.rfl
 na:=rfl
 tc:=rfl
 gf:=rfl
 log:=by simp
 fl:=fun _ _ e=>e
 keep:=fun b o p _ e=>hk b o p e
 same:=⟨_,_,rfl⟩
 size:=hs
 toks:=ht
 inv:={
  gens:=I.gens
  xb:=fun b hb=>by
   by_cases q:b ∈ W
   ·exact hv b q
   ·obtain ⟨o,e⟩:=I.xb b hb; exact ⟨o,hk b o q e⟩
  kin:=fun b o e=>hk b o (fun q=>I.kx b o e (hx b q)) (I.kin b o e)
  kx:=I.kx
  na:=fun b e=>by
   obtain ⟨x,vs,hl,hr⟩:=I.na b e
   exact ⟨x,vs,hl.at fun o e'=>hk b o (fun q=>hn b q e) e',hr.le ⟨fun c o n e'=>⟨n,hk c o (fun q=>n (hx c q)) e'⟩,fun _ _ e=>e,rfl,rfl⟩⟩
  na0:=I.na0
  tk:=fun t h=>I.tk t (Nat.le_trans ht h)
  tk0:=Nat.lt_of_lt_of_le I.tk0 ht
  gf:=I.gf
  big:=Nat.le_trans I.big hs }
theorem SteP.lose {s':Shared} (S:SteP w K P g s g' s' l) {W:List Addr} (hW:∀ b ∈ W,s.heap.objs.size≤b) (hx:∀ b ∈ W,g'.X b) (hn:∀ b ∈ W,g'.na ≠ some b) {h':Heap} {tk:Nat}
  (hk:∀ b o,b ∉ W→s'.heap.get? b=some o→h'.get? b=some o) (hs:s'.heap.objs.size≤h'.objs.size) (ht:s'.toks≤tk):SteP w K P g s (g'.frzs W) { s' with heap:=h',toks:=tk } l:=by
 have I:=S.inv
 have L:Le g' s'.heap (g'.frzs W) h':=⟨fun b o n e=>⟨fun x=>n x.2,hk b o (fun q=>n (hx b q)) e⟩,fun _ _ e=>e,rfl,rfl⟩
 exact {
  X:=fun b hb=>⟨fun x=>(S.X b hb).mp x.2,fun x=>⟨fun q=>Nat.lt_irrefl _ (Nat.lt_of_lt_of_le hb (hW b q)),(S.X b hb).mpr x⟩⟩
  na:=S.na
  tc:=S.tc
  gf:=S.gf
  log:=S.log
  fl:=S.fl
  keep:=fun b o p n e=>hk b o (fun q=>Nat.lt_irrefl _ (Nat.lt_of_lt_of_le (Heap.lt_size e) (hW b q))) (S.keep b o p n e)
  same:=by obtain ⟨h,t,rfl⟩:=S.same; exact ⟨h',tk,rfl⟩
  size:=Nat.le_trans S.size hs
  toks:=Nat.le_trans S.toks ht
  inv:={
   gens:=I.gens
   xb:=fun b hb=>let ⟨o,e⟩:=I.xb b hb.2; ⟨o,hk b o hb.1 e⟩
   kin:=fun b o e=>hk b o (fun q=>I.kx b o e (hx b q)) (I.kin b o e)
   kx:=fun b o e hb=>I.kx b o e hb.2
   na:=fun b e=>by
    obtain ⟨x,vs,hl,hr⟩:=I.na b e
    exact ⟨⟨fun q=>hn b q e,x⟩,vs,hl.at fun o e'=>hk b o (fun q=>hn b q e) e',hr.le L⟩
   na0:=I.na0
   tk:=fun t h=>I.tk t (Nat.le_trans ht h)
   tk0:=Nat.lt_of_lt_of_le I.tk0 ht
   gf:=I.gf
   big:=Nat.le_trans I.big hs } }
end
structure Turns (C:Cx) (A:Around) (tg:Expr) (tup sf:Bool) (z:Nat) (g:G) (s:Shared) (I:Addr) (fp wr:List Addr) (P Md:Nat→Value→Heap→Prop) (St:Nat→Heap→Prop) (ds:List D):Prop where
 kt:KTurns pw C.w A tg I fp wr ds.length P Md St
 st:St 0 s.heap
 self:sf=true→∀ (s:Shared) (Q E:Value→Shared→Prop),St 0 s.heap→Q (.ref I) s→wpAny (model pw C.w) A (pyIter (.ref I)) Q E s
 lv:∀ i h,St i h→∀ b ∈ wr,∃ o,h.get? b=some o
 hwr:∀ b ∈ wr,z≤b∧g.X b∧g.na ≠ some b
 hfp:∀ b ∈ fp,b ∈ wr ∨ (¬ g.X b∧∃ o,s.heap.get? b=some o)
 item:∀ i v h gh d,P i v h→ds[i]?=some d→Le g s.heap gh h→ItemIs tup C.w gh h v d
noncomputable def IterOk (C:Cx) (A:Around) (F:Frm) (r:Rho) (ie tg:Expr) (tup sf:Bool) (ds:List D) (l:List D):Prop :=
 ∀ (g:G) (s:Shared) (E Q:Value→Shared→Prop),At C F r g s l →
  (∀ g' s' I fp wr P Md St,Ste C.w C.K g s g' s' l→Turns C A tg tup sf s.heap.objs.size g' s' I fp wr P Md St ds→Q (.ref I) s') →
  wpAny (model pw C.w) A (eval ie F.env) (fun x s₁=>wpAny (model pw C.w) A (pyIter x) Q E s₁) E s
section
variable {C:Cx} {A:Around} {F:Frm} {r:Rho} {a b:Expr} {d d':D} {l l':List D} {tg:Expr}
noncomputable def isName (e:Expr):Bool:=Nat.beq e.ctorIdx 23
theorem letGo_name {tg:Expr} (h:isName tg=true) (it v:Value):letOwnedTupleGo tg it v=pure ():=by
 cases tg <;> first | rfl | (cases h; done)
end
section
variable {C:Cx} {A:Around} {F:Frm} {r:Rho} {a b:Expr} {d d':D} {l l':List D} {tg:Expr} {g g₁:G} {s s₁:Shared}
theorem mk_turns {tup sf:Bool} {I:Addr} {fp wr:List Addr} {P Md:Nat→Value→Heap→Prop} {St:Nat→Heap→Prop} {ds:List D} {h':Heap} {tk:Nat} (S₁:Ste C.w C.K g s g₁ s₁ l) (kt:KTurns pw C.w A tg I fp wr ds.length P Md St)
  (hk:∀ b o,s₁.heap.get? b=some o→h'.get? b=some o) (hs:s₁.heap.objs.size≤h'.objs.size) (ht:s₁.toks≤tk) (hW:∀ b ∈ wr,s₁.heap.objs.size≤b∧∃ o,h'.get? b=some o) (st:St 0 h') (self:sf=true→∀ (s:Shared) (Q E:Value→Shared→Prop),St 0 s.heap→Q (.ref I) s→wpAny (model pw C.w) A (pyIter (.ref I)) Q E s) (lv:∀ i h,St i h→∀ b ∈ wr,∃ o,h.get? b=some o)
  (hfp:∀ b ∈ fp,b ∈ wr ∨ (¬ g₁.X b∧∃ o,s₁.heap.get? b=some o) ∨ (s₁.heap.objs.size≤b∧b ∉ wr∧∃ o,h'.get? b=some o))
  (item:∀ i v h gh d,P i v h→ds[i]?=some d→Le g₁ s₁.heap gh h→ItemIs tup C.w gh h v d) :
  Ste C.w C.K g s (g₁.muts wr) { s₁ with heap:=h',toks:=tk } l∧Turns C A tg tup sf s.heap.objs.size (g₁.muts wr) { s₁ with heap:=h',toks:=tk } I fp wr P Md St ds:=by
 have S₂:=Ste.muts S₁.inv hk hs ht hW
 have L2:=S₂.le S₁.inv
 exact ⟨Ste.trans0 S₁ S₂,kt,st,self,lv,fun b hb=>⟨Nat.le_trans S₁.size (hW b hb).1,.inl hb,fun q=>Nat.lt_irrefl _ (Nat.lt_of_lt_of_le (S₁.inv.xlt (S₁.inv.na _ q).1) (hW b hb).1)⟩,
  fun b hb=>(hfp b hb).imp id fun h=>h.elim (fun h=>h.2.elim fun o e=>(L2.obj b o h.1 e).imp id fun e=>⟨o,e⟩) fun h=>⟨fun q=>q.elim h.2.1 fun q=>Nat.lt_irrefl _ (Nat.lt_of_lt_of_le (S₁.inv.xlt q) h.1),h.2.2⟩,
  fun i v h gh d hP hd L=>item i v h gh d hP hd (L2.trans L)⟩
theorem wr_one {s₁:Shared} {o:Obj} (ho:o.isFreed=false:=by rfl):∀ b ∈ [s₁.heap.objs.size],s₁.heap.objs.size≤b∧∃ o',(s₁.heap.push o).get? b=some o':=fun b hb=>by
 rw [List.mem_singleton] at hb; subst hb; exact ⟨Nat.le_refl _,o,push_new ho⟩
theorem push_le {h:Heap} {o:Obj}:h.objs.size≤(h.push o).objs.size:=by rw [Heap.size_push]; exact Nat.le_succ _
theorem push_keep {h:Heap} {o:Obj}:∀ b o',h.get? b=some o'→(h.push o).get? b=some o':=fun b o' e=>Heap.get?_push_of_some _ e
theorem one_mem {h:Heap} {b a:Addr} (hb:b ∈ [a]) (x:∃ o,h.get? a=some o):∃ o,h.get? b=some o:=List.mem_singleton.mp hb ▸ x
theorem iter_list {ds:List D} {tup:Bool} (hh:A.handled=none) (ht:(tup=false∧isName tg=true) ∨ (tup=true∧∀ d ∈ ds,∃ es,d=.tup es)) (x:EvOk C A F r (eval a F.env) (.lst ds) l):IterOk C A F r a tg tup true ds l:=fun g s E Q H h=>by
 refine x g s E _ H fun g₁ s₁ v S₁ rv=>?_
 obtain ⟨ad,vs,rfl,hx,ho,hz,hr⟩:=rv.lst_inv
 refine wpAny_pyIter_list ho.isList ?_
 have hW:=Walks.list (prog:=pw) (w:=C.w) (A:=A) hh s₁.heap.objs.size ad (Nat.ne_of_lt (Heap.lt_size ho.live.choose_spec)) vs
 have kt:=KTurns.ofWalks (target:=tg) hW fun i v s' Q' E' st hq=>letGo_listiter st.1 hq
 rw [size_eq hr] at kt
 obtain ⟨S,T⟩:=mk_turns (tup:=tup) (sf:=true) (h':=s₁.heap.push { cls:=.type "list_iterator",data:=.fields #[.ref ad,.int 0 0] }) (tk:=s₁.toks) (ds:=ds) S₁ kt push_keep push_le (Nat.le_refl _) wr_one ⟨⟨_,Heap.get?_push_size _ rfl,rfl,rfl⟩,ho.isList.push _⟩
  (fun _ s' Q' E' st hq=>hW.self 0 s' Q' E' st hq) (fun i h st b hb=>one_mem hb (st.1.imp fun o e=>e.1))
  (fun b hb=>(List.mem_cons.mp hb).imp (fun q=>List.mem_singleton.mpr q) fun q=>.inl (by rw [List.mem_singleton.mp q]; exact ⟨hx,ho.live⟩)) (fun i v h gh d hP hd L=>by
   obtain ⟨d',hd',rd⟩:=hr.getV i v (Array.getElem?_toList ▸ hP)
   have rd:=(Option.some.inj (hd'.symm.trans hd) ▸ rd).le L
   rcases ht with ⟨rfl,_⟩ | ⟨rfl,ht⟩
   ·exact rd
   ·obtain ⟨es,rfl⟩:=ht d (List.mem_of_getElem? hd)
    obtain ⟨T,vals,rfl,_,hT,_,hrr⟩:=rd.tup_inv
    exact ⟨T,vals,es,rfl,hT.isTuple,rfl,hrr⟩)
 exact h _ _ _ _ _ _ _ _ S T
end
end
section
section
variable {C:Cx} {A:Around} {F:Frm} {r:Rho} {a b:Expr} {d d':D} {l l':List D} {tg:Expr} {g g₁:G} {s s₁:Shared}
theorem iter_str {x:List Nat} (hh:A.handled=none) (hn:isName tg=true) (hx:EvOk C A F r (eval a F.env) (.str x) l):IterOk C A F r a tg false true (x.map fun c=>.str [c]) l:=fun g s E Q H h=>by
 refine hx g s E _ H fun g₁ s₁ v S₁ rv=>?_
 obtain ⟨t,rfl⟩:=rv.str_inv
 refine wpAny_pyIter_strU ?_
 have fin:∀ T,(∀ I,Walks pw C.w A I [I] [I] (S x).cps.size (SignAt (S x)) (fun i h=>h.IsStrIter I T (S x) t i))→Q (.ref s₁.heap.objs.size) { s₁ with heap:=s₁.heap.push { cls:=.type T,data:=.fields #[.str (S x) t,.int 0 0] } }:=fun T W=>by
  have kt:KTurns pw C.w A tg s₁.heap.objs.size [s₁.heap.objs.size] [s₁.heap.objs.size] (x.map fun c=>D.str [c]).length (fun i v _=>SignAt (S x) i v) (fun i v h=>SignAt (S x) i v∧h.IsStrIter s₁.heap.objs.size T (S x) t (i+1)) (fun i h=>h.IsStrIter s₁.heap.objs.size T (S x) t i):=by
   rw [List.length_map]
   exact KTurns.ofWalks (W s₁.heap.objs.size) fun i v s' Q' E' st hq=>wpAny_of_eq (letGo_name hn _ _) hq
  obtain ⟨S,T⟩:=mk_turns (tup:=false) (sf:=true) (h':=s₁.heap.push { cls:=.type T,data:=.fields #[.str (S x) t,.int 0 0] }) (tk:=s₁.toks) S₁ kt push_keep push_le (Nat.le_refl _) wr_one ⟨_,Heap.get?_push_size _ rfl,rfl,rfl⟩ (fun _ s' Q' E' st hq=>(W s₁.heap.objs.size).self 0 s' Q' E' st hq) (fun i h st b hb=>one_mem hb (st.imp fun _ e=>e.1)) (fun b hb=>.inl hb) (fun i v h gh d hP hd L=>by
    obtain ⟨c,u,h1,rfl⟩:=hP
    have h1:x[i]?=some c:=List.getElem?_toArray.symm.trans h1
    rw [List.getElem?_map,h1] at hd
    exact Option.some.inj hd ▸ .str [c] u)
  exact h _ _ _ _ _ _ _ _ S T
 cases ha:(S x).cps.all (· < 128)
 ·have e:strIterType (S x)="str_iterator":=by unfold strIterType; rw [ha]; rfl
  rw [e]
  exact fin _ fun I=>Walks.strWide hh I (S x) t
 ·have e:strIterType (S x)="str_ascii_iterator":=by unfold strIterType; rw [ha]; rfl
  rw [e]
  exact fin _ fun I=>Walks.strAscii hh I (S x) t
theorem add_shift (a:Int) (i:Nat):a+1+(i:Int)=a+((i+1:Nat):Int):=by rw [Int.add_assoc,Int.add_comm 1]; rfl
theorem rangeD_get:∀ {n:Nat} {a:Int} {i:Nat} {d:D},(rangeD a n)[i]?=some d→d=.int (a+i):=by
 intro n
 induction n with
 | zero=>exact fun h=>nomatch h
 | succ n ih =>
  intro a i d h
  cases i with
  | zero=>rw [← Option.some.inj h]; exact congrArg D.int (Int.add_zero a).symm
  | succ i=>rw [ih h,add_shift]
theorem downD_get:∀ {n:Nat} {a:Int} {i:Nat} {d:D},(downD a n)[i]?=some d→d=.int (a - i):=by
 intro n
 induction n with
 | zero=>exact fun h=>nomatch h
 | succ n ih =>
  intro a i d h
  cases i with
  | zero=>rw [← Option.some.inj h]; exact congrArg D.int (Int.sub_zero a).symm
  | succ i=>rw [ih h,Int.sub_sub,Int.add_comm 1]; rfl
theorem rangeD_len (n:Nat):∀ a:Int,(rangeD a n).length=n:=by
 induction n with
 | zero=>exact fun _=>rfl
 | succ n ih=>exact fun a=>congrArg Nat.succ (ih _)
theorem downD_len (n:Nat):∀ a:Int,(downD a n).length=n:=by
 induction n with
 | zero=>exact fun _=>rfl
 | succ n ih=>exact fun a=>congrArg Nat.succ (ih _)
theorem range_turns {E Q:Value→Shared→Prop} {ra:Addr} {x y c:Int} {t u v:Tok} {n:Nat} {ds:List D} (hh:A.handled=none) (hn:isName tg=true) (S₁:Ste C.w C.K g s g₁ s₁ l) (hr:IsRange s₁.heap ra x y c t u v)
  (hsm:Builtin.Range.small x y c=true) (hsz:Builtin.Range.rangeSize x y c=n) (hl:ds.length=n) (hd:∀ (i:Nat) (d:D),ds[i]?=some d→d=D.int (x+i*c))
  (h:∀ g' s' I fp wr P Md St,Ste C.w C.K g s g' s' l→Turns C A tg false true s.heap.objs.size g' s' I fp wr P Md St ds→Q (.ref I) s'):wpAny (model pw C.w) A (pyIter (.ref ra)) Q E s₁:=by
 refine wpAny_pyIter_range hr hsm ?_
 have kt:KTurns pw C.w A tg s₁.heap.objs.size [s₁.heap.objs.size] [s₁.heap.objs.size] ds.length (fun i v _=>∃ t,v=.int (x+i*c) t) (fun i v h=>(∃ t,v=.int (x+i*c) t)∧IsRangeIter h s₁.heap.objs.size (x+((i+1:Nat):Int)*c) ((n:Int) - ((i+1:Nat):Int)) c) (fun i h=>IsRangeIter h s₁.heap.objs.size (x+(i:Nat)*c) ((n:Int) - (i:Nat)) c):=by
  rw [hl]
  exact KTurns.ofWalks (Walks.range hh s₁.heap.objs.size x c n) fun i v s' Q' E' st hq=>wpAny_of_eq (letGo_name hn _ _) hq
 obtain ⟨S,T⟩:=mk_turns (tup:=false) (sf:=true) (h':=s₁.heap.push { cls:=.type "range_iterator",data:=.fields #[rawInt x,rawInt (Builtin.Range.rangeSize x y c),rawInt c] }) (tk:=s₁.toks) S₁ kt push_keep push_le (Nat.le_refl _) wr_one
  (by show IsRangeIter _ _ _ _ _; unfold IsRangeIter; rw [Heap.get?_push_size _ rfl,hsz]; simp) (fun _ s' Q' E' st hq=>(Walks.range (prog:=pw) (w:=C.w) (A:=A) hh s₁.heap.objs.size x c n).self 0 s' Q' E' st hq) (fun i h st b hb=>one_mem hb ⟨_,st⟩) (fun b hb=>.inl hb) (fun i v h gh d hP hd' L=>by
   obtain ⟨t,rfl⟩:=hP
   rw [hd i d hd']
   exact .int _ t)
 exact h _ _ _ _ _ _ _ _ S T
theorem okI_64 {i:Int} (h:okI i=true):-1000000000000000000 < i∧i < 1000000000000000000:=(Bool.and_eq_true_iff.mp h).imp of_decide_eq_true of_decide_eq_true
theorem size_up_ {x y:Int}:Builtin.Range.rangeSize x y 1=((y - x).toNat:Int):=by
 unfold Builtin.Range.rangeSize
 rw [if_pos (by decide),Int.ediv_one]
 split <;> lia
theorem size_down_ {x y:Int}:Builtin.Range.rangeSize x y (-1)=((x - y).toNat:Int):=by
 unfold Builtin.Range.rangeSize
 rw [if_neg (by decide),Int.neg_neg,Int.ediv_one]
 split <;> lia
theorem fits_ok {i:Int} (h:okI i=true):Builtin.Range.rangeFitsLong i=true:=by
 obtain ⟨a,b⟩:=okI_64 h
 unfold Builtin.Range.rangeFitsLong
 rw [Bool.and_eq_true,decide_eq_true_eq,decide_eq_true_eq]
 lia
theorem fits_size {x y:Int} (hx:okI x=true) (hy:okI y=true):Builtin.Range.rangeFitsLong ((y - x).toNat:Int)=true:=by
 obtain ⟨a,b⟩:=okI_64 hx
 obtain ⟨c,d⟩:=okI_64 hy
 unfold Builtin.Range.rangeFitsLong
 rw [Bool.and_eq_true,decide_eq_true_eq,decide_eq_true_eq]
 lia
theorem small_up {x y:Int} (hx:okI x=true) (hy:okI y=true):Builtin.Range.small x y 1=true:=by
 unfold Builtin.Range.small
 rw [fits_ok hx,fits_ok hy,size_up_,fits_size hx hy,if_pos (by decide),show (1:Int) - 1=0 from rfl,Int.add_zero,fits_ok hy,Bool.or_true]; rfl
theorem small_down {x y:Int} (hx:okI x=true) (hy:okI y=true):Builtin.Range.small x y (-1)=true:=by
 unfold Builtin.Range.small
 rw [fits_ok hx,fits_ok hy,size_down_,fits_size hy hx,if_neg (by decide),show (-1:Int)+1=0 from rfl,Int.add_zero,fits_ok hy,Bool.or_true]; rfl
end
end
section
section
variable {C:Cx} {A:Around} {F:Frm} {r:Rho} {a b:Expr} {d d':D} {l l':List D} {tg:Expr}
section
variable {p:Pos} {c:Expr} {d'':D} {l'':List D}
theorem oks1 (hs:noStar a=true) (hx:EvOk C A F r (eval a F.env) d l):EvsOk C A F r (spliced (backTo p (starEach [a] F.env))) [d] l:=List.append_nil l ▸ oks_cons hs hx oks_nil
theorem oks2 (hs:noStar a=true) (hs':noStar b=true) (hx:EvOk C A F r (eval a F.env) d l) (hy:EvOk C A F r (eval b F.env) d' l'):EvsOk C A F r (spliced (backTo p (starEach [a,b] F.env))) [d,d'] (l++l'):=oks_cons hs hx (oks1 hs' hy)
end
theorem RepL.two {w:World} {g:G} {h:Heap} {vs:List Value} (r:RepL w g h vs [d,d']):∃ v u,vs=[v,u]∧Rep w g h v d∧Rep w g h u d':=by
 obtain ⟨v,_,rfl,x,q⟩:=r.cons_i
 obtain ⟨u,rfl,y⟩:=q.one
 exact ⟨v,u,rfl,x,y⟩
theorem iter_rng1 {p p':Pos} {i:Int} (hh:A.handled=none) (hn:isName tg=true) (hg:GlobIs C.K "range" (.type "range")) (hk:F.env.kindOf "range"=some .globalImplicit) (hs:noStar a=true) (hx:EvOk C A F r (eval a F.env) (.int i) l)
  (hi:okI i=true):IterOk C A F r (.Call (.Name "range" p') [a] [] p) tg false true (rangeD 0 i.toNat) l:=fun g s E Q H h=>by
 refine call_name hg rfl hk (by decide) (by rw [List.all_cons,hs]; rfl) (oks1 hs hx) H fun g₁ s₁ vs S₁ rs=>?_
 obtain ⟨v,rfl,rv⟩:=rs.one
 obtain ⟨t,rfl⟩:=rv.int_inv
 refine call_range_1 ?_
 have S₂:=Ste.push S₁.inv { cls:=.type "range",data:=.fields #[.int 0 s₁.toks,.int i t,.int 1 (s₁.toks+1)] } (Nat.le_add_right s₁.toks 2)
 have S:=Ste.trans0 S₁ S₂
 refine range_turns (n:=i.toNat) hh hn S (Heap.get?_push_size _ rfl) (small_up (by decide) hi) (by rw [size_up_,Int.sub_zero]) (rangeD_len _ _) (fun j d hd=>?_) h
 rw [rangeD_get hd,Int.mul_one]
theorem iter_rng2 {p p':Pos} {i j:Int} (hh:A.handled=none) (hn:isName tg=true) (hg:GlobIs C.K "range" (.type "range")) (hk:F.env.kindOf "range"=some .globalImplicit) (hs:noStar a=true) (hs':noStar b=true) (hx:EvOk C A F r (eval a F.env) (.int i) l)
  (hy:EvOk C A F r (eval b F.env) (.int j) l') (hi:okI i=true) (hj:okI j=true):IterOk C A F r (.Call (.Name "range" p') [a,b] [] p) tg false true (rangeD i (j - i).toNat) (l++l'):=fun g s E Q H h=>by
 refine call_name hg rfl hk (by decide) (by rw [List.all_cons,List.all_cons,hs,hs']; rfl) (oks2 hs hs' hx hy) H fun g₁ s₁ vs S₁ rs=>?_
 obtain ⟨_,v,rfl,r1,r2⟩:=rs.two
 obtain ⟨t,rfl⟩:=r1.int_inv
 obtain ⟨u,rfl⟩:=r2.int_inv
 refine call_range_2 ?_
 have S₂:=Ste.push S₁.inv { cls:=.type "range",data:=.fields #[.int i t,.int j u,.int 1 s₁.toks] } (Nat.le_succ s₁.toks)
 have S:=Ste.trans0 S₁ S₂
 refine range_turns (n:=(j - i).toNat) hh hn S (Heap.get?_push_size _ rfl) (small_up hi hj) size_up_ (rangeD_len _ _) (fun j d hd=>?_) h
 rw [rangeD_get hd,Int.mul_one]
theorem okI_pylong {x c:Int} (hc:okI c=true):Builtin.divisionGoesByPylong x c=false:=by
 exact Bool.eq_false_iff.mpr (okI_div (a:=x) hc)
theorem iter_rng3 {p p' q1 q2:Pos} {k:Nat} {i j:Int} (hh:A.handled=none) (hn:isName tg=true) (hg:GlobIs C.K "range" (.type "range")) (hk:F.env.kindOf "range"=some .globalImplicit) (hs:noStar a=true) (hs':noStar b=true) (hx:EvOk C A F r (eval a F.env) (.int i) l)
  (hy:EvOk C A F r (eval b F.env) (.int j) l') (hi:okI i=true) (hj:okI j=true):IterOk C A F r (.Call (.Name "range" p') [a,b,.UnaryOp .USub (.Constant (.int 1) k q1) q2] [] p) tg false true (downD i (i - j).toNat) (l++l'):=fun g s E Q H h=>by
 have he:EvsOk C A F r (spliced (backTo p (starEach [a,b,.UnaryOp .USub (.Constant (.int 1) k q1) q2] F.env))) [.int i,.int j,.int (-1)] (l++l'):=by
  exact List.append_nil l' ▸ oks_cons (p:=p) hs hx (oks2 hs' (b:=.UnaryOp .USub (.Constant (.int 1) k q1) q2) rfl hy (ok_neg (i:=1) ok_int))
 refine call_name hg rfl hk (by decide) (by rw [List.all_cons,List.all_cons,hs,hs']; rfl) he H fun g₁ s₁ vs S₁ rs=>?_
 obtain ⟨_,_,rfl,r1,q⟩:=rs.cons_i
 obtain ⟨_,v,rfl,r2,r3⟩:=q.two
 obtain ⟨t,rfl⟩:=r1.int_inv
 obtain ⟨u,rfl⟩:=r2.int_inv
 obtain ⟨w,rfl⟩:=r3.int_inv
 refine call_range_3 (by decide) ?_ (.inl (okI_pylong (by decide)))
 have S₂:=Ste.push S₁.inv { cls:=.type "range",data:=.fields #[.int i t,.int j u,.int (-1) w] } (Nat.le_refl s₁.toks)
 have S:=Ste.trans0 S₁ S₂
 refine range_turns (n:=(i - j).toNat) hh hn S (Heap.get?_push_size _ rfl) (small_down hi hj) size_down_ (downD_len _ _) (fun j d hd=>?_) h
 rw [downD_get hd,Int.mul_neg,Int.mul_one]; rfl
theorem repL_of_get {w:World} {g:G} {h:Heap}:∀ {vs:List Value} {ds:List D},vs.length=ds.length→(∀ (i:Nat) (v:Value) (d:D),vs[i]?=some v→ds[i]?=some d→Rep w g h v d)→RepL w g h vs ds:=by
 intro vs
 induction vs with
 | nil=>intro ds hl _; rw [List.length_eq_zero_iff.mp hl.symm]; exact .nil
 | cons v vs ih =>
  intro ds hl h
  cases ds with
  | nil=>cases hl
  | cons d ds=>exact .cons (h 0 v d rfl rfl) (ih (Nat.succ.inj hl) fun i v d a b=>h (i+1) v d a b)
theorem list_range_sound {g:G} {s:Shared} {E Q:Value→Shared→Prop} {ra:Addr} {x y:Int} {t u v:Tok} {n:Nat} (hh:A.handled=none) (I:Inv C.w C.K g s) (hr:IsRange s.heap ra x y 1 t u v) (hi:okI x=true) (hj:okI y=true) (hn:(y - x).toNat=n) (hz:n≤65536)
  (h:Post C.w C.K g s (.lst (rangeD x n)) Q):wpAny (model pw C.w) A (call (.type "list") [.ref ra]) Q E s:=by
 refine wpAny_grows (call_list_range (n:=n) hh hr (small_up hi hj) (by rw [size_up_,hn]) (Nat.le_trans hz (by decide)) fun h' tk acc c' hk ho hitems hs ht=>?_)
 have S:=Ste.grow I hk hs ht
 have hl:=hitems.1
 refine h g _ _ S (.lst I.notX ⟨c',ho⟩ (hl ▸ hz) (repL_of_get (by rw [Array.length_toList,hl,rangeD_len]) fun i v d hv hd=>?_))
 obtain ⟨t,rfl⟩:=hitems.2 i v (Array.getElem?_toList ▸ hv)
 rw [rangeD_get hd,Int.mul_one]
 exact .int _ t
theorem ok_listr1 {p p' q q':Pos} {i:Int} (hh:A.handled=none) (hgl:GlobIs C.K "list" (.type "list")) (hkl:F.env.kindOf "list"=some .globalImplicit) (hg:GlobIs C.K "range" (.type "range")) (hk:F.env.kindOf "range"=some .globalImplicit) (hs:noStar a=true)
  (hx:EvOk C A F r (eval a F.env) (.int i) l) (hi:okI i=true) (hz:i≤65536):EvOk C A F r (eval (.Call (.Name "list" q') [.Call (.Name "range" p') [a] [] p] [] q) F.env) (.lst (rangeD 0 i.toNat)) l:=fun g s E Q H h=>by
 refine PySem.wpAny_Call_NameR (eval_glob H.inv H.ev hgl hkl (by decide) ?_)
 refine PySem.callWith_type rfl (evalArgs_plain ?_)
 refine wpAny_items_cons (env:=F.env) (pos:=q) (e:=.Call (.Name "range" p') [a] [] p) (rest:=[]) ?_
 refine call_name hg rfl hk (by decide) (by rw [List.all_cons,hs]; rfl) (oks1 hs hx) H fun g₁ s₁ vs S₁ rs=>?_
 obtain ⟨v,rfl,rv⟩:=rs.one
 obtain ⟨t,rfl⟩:=rv.int_inv
 refine call_range_1 (wpAny_items_nil ?_)
 have S₂:=Ste.push S₁.inv { cls:=.type "range",data:=.fields #[.int 0 s₁.toks,.int i t,.int 1 (s₁.toks+1)] } (Nat.le_add_right s₁.toks 2)
 have S:=Ste.trans0 S₁ S₂
 exact list_range_sound (n:=i.toNat) hh S.inv (Heap.get?_push_size _ rfl) (by decide) hi (by rw [Int.sub_zero]) (Int.toNat_le.mpr hz) (Ste.addPost0 S h)
theorem ok_listr2 {p p' q q':Pos} {i j:Int} (hh:A.handled=none) (hgl:GlobIs C.K "list" (.type "list")) (hkl:F.env.kindOf "list"=some .globalImplicit) (hg:GlobIs C.K "range" (.type "range")) (hk:F.env.kindOf "range"=some .globalImplicit) (hs:noStar a=true) (hs':noStar b=true)
  (hx:EvOk C A F r (eval a F.env) (.int i) l) (hy:EvOk C A F r (eval b F.env) (.int j) l') (hi:okI i=true) (hj:okI j=true) (hz:j - i≤65536) :
  EvOk C A F r (eval (.Call (.Name "list" q') [.Call (.Name "range" p') [a,b] [] p] [] q) F.env) (.lst (rangeD i (j - i).toNat)) (l++l'):=fun g s E Q H h=>by
 refine PySem.wpAny_Call_NameR (eval_glob H.inv H.ev hgl hkl (by decide) ?_)
 refine PySem.callWith_type rfl (evalArgs_plain ?_)
 refine wpAny_items_cons (env:=F.env) (pos:=q) (e:=.Call (.Name "range" p') [a,b] [] p) (rest:=[]) ?_
 refine call_name hg rfl hk (by decide) (by rw [List.all_cons,List.all_cons,hs,hs']; rfl) (oks2 hs hs' hx hy) H fun g₁ s₁ vs S₁ rs=>?_
 obtain ⟨_,v,rfl,r1,r2⟩:=rs.two
 obtain ⟨t,rfl⟩:=r1.int_inv
 obtain ⟨u,rfl⟩:=r2.int_inv
 refine call_range_2 (wpAny_items_nil ?_)
 have S₂:=Ste.push S₁.inv { cls:=.type "range",data:=.fields #[.int i t,.int j u,.int 1 s₁.toks] } (Nat.le_succ s₁.toks)
 have S:=Ste.trans0 S₁ S₂
 exact list_range_sound (n:=(j - i).toNat) hh S.inv (Heap.get?_push_size _ rfl) hi hj rfl (Int.toNat_le.mpr hz) (Ste.addPost0 S h)
end
end
section
open AutoSeq1 (wpAny_loadPart')
section
variable {w:World} {A:Around} {E:Value→Shared→Prop} {s:Shared}
theorem nextOf_tuple_item {it t:Addr} {i:Nat} {items:Array Value} {x:Value} {Q:Value→Shared→Prop} (hit:s.heap.IsTupleIter it t i)
  (ht:s.heap.IsTuple t items) (hx:items[i]?=some x) (hQ:∀ h',h'.IsTupleIter it t (i+1)→Heap.SameBut it s.heap h'→Q x { s with heap:=h' }) :
  wpAny (model pw w) A (Builtin.SmallTypes.nextOf (.ref it)) Q E s:=by
 obtain ⟨o,ho,hc,hd⟩:=id hit
 obtain ⟨ol,hol,_,nl,hdl⟩:=ht
 unfold Builtin.SmallTypes.nextOf
 refine wpAny_bind (wpAny_callSpecial?_slot (name:=Str.ofString "__next__") hit.typeIs PySem.F.slot_tuple_iterator_next
  (wpAny_call_entry PySem.F.slot_tuple_iterator_next hit.typeIs PySem.F.entry_tuple_iterator_next ?_ (PySem.F.args_tuple_iterator_next_1 _)))
 show wpAny _ _ (field (.ref it) 0 >>= _) _ _ s
 refine wpAny_bind (wpAny_field ho hd (x:=.ref t) rfl ?_)
 show wpAny _ _ (if (Value.ref t == Value.none)=true then _ else _) _ _ s
 rw [if_neg (show ¬ ((Value.ref t == Value.none)=true) from Bool.false_ne_true)]
 show wpAny _ _ (field (.ref it) 1 >>= _) _ _ s
 refine wpAny_bind (wpAny_field ho hd (x:=.int i 0) rfl ?_)
 show wpAny _ _ (seqItems? (.ref t) >>= _) _ _ s
 refine wpAny_bind (wpAny_seqItems hol hdl ?_)
 rw [Int.toNat_natCast]
 dsimp only
 rw [hx]
 refine wpAny_bind (wpAny_setField ho hd (by simp) (wpAny_pure ⟨x,rfl,wpAny_pure (hQ _ ?_ (Heap.SameBut.update ..))⟩))
 exact ⟨_,Heap.get?_update_self _ ho (Obj.isFreed_of_fields (Obj.data_mapFields hd _)),(Obj.cls_mapFields ..).trans hc,by
  rw [Obj.data_mapFields hd]; simp [rawInt]⟩
theorem nextOf_tuple_end {it t:Addr} {i:Nat} {items:Array Value} {Q:Value→Shared→Prop} (hh:A.handled=none)
  (hit:s.heap.IsTupleIter it t i) (ht:s.heap.IsTuple t items) (hx:items[i]?=none)
  (hE:∀ h' e,Heap.ExtBut it s.heap h'→(∃ o,h'.get? e=some o∧o.cls=.type "StopIteration")→E (.ref e) { s with heap:=h' }) :
  wpAny (model pw w) A (Builtin.SmallTypes.nextOf (.ref it)) Q E s:=by
 obtain ⟨o,ho,hc,hd⟩:=id hit
 obtain ⟨ol,hol,_,nl,hdl⟩:=ht
 unfold Builtin.SmallTypes.nextOf
 refine wpAny_bind (wpAny_callSpecial?_slot (name:=Str.ofString "__next__") hit.typeIs PySem.F.slot_tuple_iterator_next
  (wpAny_call_entry PySem.F.slot_tuple_iterator_next hit.typeIs PySem.F.entry_tuple_iterator_next ?_ (PySem.F.args_tuple_iterator_next_1 _)))
 show wpAny _ _ (field (.ref it) 0 >>= _) _ _ s
 refine wpAny_bind (wpAny_field ho hd (x:=.ref t) rfl ?_)
 show wpAny _ _ (if (Value.ref t == Value.none)=true then _ else _) _ _ s
 rw [if_neg (show ¬ ((Value.ref t == Value.none)=true) from Bool.false_ne_true)]
 show wpAny _ _ (field (.ref it) 1 >>= _) _ _ s
 refine wpAny_bind (wpAny_field ho hd (x:=.int i 0) rfl ?_)
 show wpAny _ _ (seqItems? (.ref t) >>= _) _ _ s
 refine wpAny_bind (wpAny_seqItems hol hdl ?_)
 rw [Int.toNat_natCast]
 dsimp only
 rw [hx]
 refine wpAny_bind (wpAny_rule (wpAny_bind (wpAny_setField ho hd (by simp) ?_)))
 show wpAny _ _ (newExc (.type "StopIteration") [] >>= _) _ _ _
 refine wpAny_bind ?_
 unfold newExc newTuple
 refine wpAny_bind (wpAny_newObj_type ?_ (by size_fits))
 refine wpAny_bind (m:=firstArgMember _ _) (wpAny_of_eq (a:=Value.none) (by first | rfl | (simp only [firstArgMember]; rfl)) ?_)
 refine wpAny_newObj_type ?_ (by size_fits)
 unfold raiseNew
 refine wpAny_bind (wpAny_handled ?_)
 first | rw [show A.in1.handled=none from hh] | rw [hh]
 refine wpAny_bind (wpAny_pure (wpAny_throw ?_))
 exact hE _ _ (((Heap.SameBut.update ..).extBut.push _).push _) ⟨_,Heap.get?_push_size _ rfl,rfl⟩
theorem draws_tuple {A:Around} (hh:A.handled=none) (it t:Addr) (hne:t ≠ it) (items:Array Value) :
  Draws pw w A it [it,t] items.size (fun i v=>items[i]?=some v) (fun i h=>h.IsTupleIter it t i∧h.IsTuple t items) where
 live:=fun _ _ st=>st.1.imp fun _ e=>e.1
 frame:=fun _ _ _ st hk=>⟨st.1.at fun o e=>hk it (by simp) o e,st.2.at fun o e=>hk t (by simp) o e⟩
 item:=fun i s Q E hi st hQ=>by
  refine nextOf_tuple_item st.1 st.2 (x:=items[i]) (by simp [hi]) fun h' hit' hs'=>?_
  exact hQ _ h' s.toks (by simp [hi]) ⟨hit',st.2.extBut hs'.extBut hne⟩ hs'
 done:=fun s Q E st hQ=>nextOf_tuple_end hh st.1 st.2 (by simp) hQ
theorem wpAny_ctt {M:Model} {A:Around} {Q:Bool→Shared→Prop} {E:Value→Shared→Prop} {s:Shared} (c:Value) (h:∀ q,Q q s):wpAny M A (Builtin.SmallTypes.calledThroughType c) Q E s:=by
 unfold Builtin.SmallTypes.calledThroughType
 exact wpAny_bind (wpAny_stack_any fun st=>wpAny_pure (h _))
theorem meets_enumerate_newT (l:Addr) (items:Array Value) (n:Nat) :
  Meets (Builtin.«enumerate.__new__» ⟨[.type "enumerate",.ref l],[]⟩) (fun _ R s=>s.heap.get? l=some { cls:=.type "tuple",data:=.seq items n } ∧
   R (.ok (.ret (.ref (s.heap.push { cls:=.type "tuple_iterator",data:=.fields #[.ref l,.int 0 0] }).objs.size)))
    { s with heap:=(s.heap.push { cls:=.type "tuple_iterator",data:=.fields #[.ref l,.int 0 0] }).push { cls:=.type "enumerate",data:=.fields #[.none,.bool false,.ref s.heap.objs.size,rawInt 0,.none,.none] } }) :=
 .of_wp fun prog w A R s h=>by
  obtain ⟨hp,g,d,tk,os⟩:=s; obtain ⟨hl,h⟩:=h
  have hsub:=sub_enumerate
  have hL:Heap.IsTuple (Shared.heap ⟨hp,g,d,tk,os⟩) l items:=⟨_,hl,rfl,n,rfl⟩
  wp_walk using wpAny_loadPart' hl,wpAny_ctt (Value.type "enumerate")
  intro q
  cases q <;> wp_walk using wpAny_loadPart' hl,wpAny_pyIter_tuple hL <;> exact ⟨_,rfl,h⟩
theorem call_enumerate_tuple {l:Addr} {items:Array Value} {Q:Value→Shared→Prop} (hL:PT s.heap l items)
  (h:∀ h',IsEnum h' (s.heap.objs.size+1) s.heap.objs.size 0 .none→h'.IsTupleIter s.heap.objs.size l 0→h'.objs.size=s.heap.objs.size+2 →
   (∀ b o,s.heap.get? b=some o→h'.get? b=some o)→Q (.ref (s.heap.objs.size+1)) { s with heap:=h' }) :
  wpAny (model pw w) A (call (.type "enumerate") [.ref l]) Q E s:=by
 obtain ⟨n,hl⟩:=hL
 refine callType_new PySem.F.called_enumerate (by decide) (PySem.F.typeCall_enumerate_1 _) (PySem.F.newCall_enumerate_1 _) (fun obj=>PySem.F.args_object_init_2 obj _) PySem.F.entry_enumerate_new
  (meets_enumerate_newT l items n) ⟨hl,?_⟩
 have hz:(s.heap.push { cls:=.type "tuple_iterator",data:=.fields #[.ref l,.int 0 0] }).objs.size=s.heap.objs.size+1:=Heap.size_push ..
 show _∧_
 rw [hz]
 have he:IsEnum ((s.heap.push { cls:=.type "tuple_iterator",data:=.fields #[.ref l,.int 0 0] }).push
   { cls:=.type "enumerate",data:=.fields #[.none,.bool false,.ref s.heap.objs.size,rawInt 0,.none,.none] }) (s.heap.objs.size+1) s.heap.objs.size 0 .none:=by
  have:=Heap.get?_push_size (s.heap.push { cls:=.type "tuple_iterator",data:=.fields #[.ref l,.int 0 0] })
   (o:={ cls:=.type "enumerate",data:=.fields #[.none,.bool false,.ref s.heap.objs.size,rawInt 0,.none,.none] }) rfl
  rw [hz] at this; exact this
 refine ⟨⟨_,he,rfl⟩,h _ he ⟨_,Heap.get?_push_of_some _ (Heap.get?_push_size _ rfl),rfl,rfl⟩ (by rw [Heap.size_push,hz]) fun b o x=>Heap.get?_push_of_some _ (Heap.get?_push_of_some _ x)⟩
end
end
section
section
variable {C:Cx} {A:Around} {F:Frm} {r:Rho} {a b:Expr} {d d':D} {l l':List D} {tg:Expr}
theorem enumD_get:∀ {ds:List D} {k:Int} {i:Nat} {d:D},(enumD k ds)[i]?=some d→∃ x,ds[i]?=some x∧d=.tup [.int (k+i),x]:=by
 intro ds
 induction ds with
 | nil=>exact fun h=>nomatch h
 | cons x ds ih =>
  intro k i d h
  cases i with
  | zero=>exact ⟨x,rfl,(Option.some.inj h).symm.trans (congrArg (fun k=>D.tup [.int k,x]) (Int.add_zero k).symm)⟩
  | succ i=>exact (ih h).imp fun y q=>⟨q.1,q.2.trans (congrArg (fun k=>D.tup [.int k,y]) (add_shift k i))⟩
theorem enumD_len (ds:List D):∀ k:Int,(enumD k ds).length=ds.length:=by
 induction ds with
 | nil=>exact fun _=>rfl
 | cons d ds ih=>exact fun k=>congrArg Nat.succ (ih _)
theorem zipD_get:∀ {as bs:List D} {i:Nat} {d:D},(zipD as bs)[i]?=some d→∃ x y,as[i]?=some x∧bs[i]?=some y∧d=.tup [x,y]:=by
 intro as
 induction as with
 | nil=>exact fun h=>nomatch h
 | cons x as ih =>
  intro bs i d h
  cases bs with
  | nil=>cases h
  | cons y bs =>
   cases i with
   | zero=>exact ⟨x,y,rfl,rfl,(Option.some.inj h).symm⟩
   | succ i=>exact ih h
theorem zipD_len (as:List D):∀ bs:List D,(zipD as bs).length=min as.length bs.length:=by
 induction as with
 | nil=>exact fun bs=>(Nat.zero_min _).symm
 | cons x as ih =>
  intro bs
  cases bs with
  | nil=>rfl
  | cons y bs=>exact (congrArg Nat.succ (ih bs)).trans (Nat.add_min_add_right as.length bs.length 1).symm
theorem mem2 {α:Type} {p:α→Prop} {a b:α} (ha:p a) (hb:p b):∀ x ∈ [a,b],p x:=fun _ h=>(List.mem_cons.mp h).elim (fun q=>q ▸ ha) fun h=>List.mem_singleton.mp h ▸ hb
theorem memc {α:Type} {p:α→Prop} {a:α} {l:List α} (ha:p a) (hb:∀ x ∈ l,p x):∀ x ∈ a::l,p x:=fun x h=>(List.mem_cons.mp h).elim (fun q=>q ▸ ha) (hb x)
theorem item_le {w:World} {g gh:G} {h h':Heap} {vs:Array Value} {ds:List D} (hr:RepL w g h vs.toList ds) {i:Nat} {v:Value} {d:D} (hv:vs[i]?=some v) (hd:ds[i]?=some d) (L:Le g h gh h'):Rep w gh h' v d:=by
 obtain ⟨d',hd',rd⟩:=hr.getV i v (Array.getElem?_toList ▸ hv)
 exact (Option.some.inj (hd'.symm.trans hd) ▸ rd).le L
theorem enum_turns {E Q:Value→Shared→Prop} {g g₁:G} {s s₁:Shared} {fp:List Addr} {P:Nat→Value→Prop} {St:Nat→Heap→Prop} {ds:List D} {elts:List Expr} {k:Nat} {p:Pos} {h':Heap} (hh:A.handled=none) (S₁:Ste C.w C.K g s g₁ s₁ l)
  (D:Draws pw C.w A.in1 s₁.heap.objs.size fp ds.length P St) (he:IsEnum h' (s₁.heap.objs.size+1) s₁.heap.objs.size 0 .none) (st:St 0 h') (hz:h'.objs.size=s₁.heap.objs.size+2) (hk:∀ b o,s₁.heap.get? b=some o→h'.get? b=some o)
  (hfp:∀ b ∈ fp,b=s₁.heap.objs.size ∨ (¬ g₁.X b∧∃ o,s₁.heap.get? b=some o)) (hI:s₁.heap.objs.size ∈ fp) (hP:∀ i v d gh h,P i v→ds[i]?=some d→Le g₁ s₁.heap gh h→Rep C.w gh h v d)
  (h:∀ g' s' I fp wr P Md St,Ste C.w C.K g s g' s' l→Turns C A (.Tuple elts k p) true true s.heap.objs.size g' s' I fp wr P Md St (enumD 0 ds)→Q (.ref I) s') :
  wpAny (model pw C.w) A (pyIter (.ref (s₁.heap.objs.size+1))) Q E { s₁ with heap:=h' }:=by
 refine wpAny_pyIter_enum he ?_
 have hef:s₁.heap.objs.size+1 ∉ fp:=fun q=>by
  rcases hfp _ q with e | ⟨_,o,e⟩
  ·exact absurd e (Nat.succ_ne_self _)
  ·exact Nat.lt_irrefl _ (Nat.lt_of_succ_lt (Heap.lt_size e))
 have kt:=KTurns.ofWalksU (elts:=elts) (k:=k) (pos:=p) (WalksT.enumerateD D (s₁.heap.objs.size+1) (Nat.succ_ne_self _) hef hI).toU
 rw [← enumD_len ds 0] at kt
 obtain ⟨S,T⟩:=mk_turns (tup:=true) (sf:=true) (h':=h') (tk:=s₁.toks) S₁ kt hk (hz ▸ Nat.le_add_right _ 2) (Nat.le_refl _) (mem2 ⟨Nat.le_succ _,_,he⟩ ⟨Nat.le_refl _,D.live 0 h' st⟩) ⟨⟨_,he⟩,st⟩
  (fun _ s' Q' E' st hq=>(WalksT.enumerateD D (s₁.heap.objs.size+1) (Nat.succ_ne_self _) hef hI).self 0 s' Q' E' st hq) (fun i hx st=>mem2 (st.1.elim fun _ e=>⟨_,e⟩) (D.live i hx st.2))
  (memc (.inl List.mem_cons_self) fun b hb=>(hfp b hb).imp (fun q=>by rw [q]; exact List.mem_cons_of_mem _ List.mem_cons_self) .inl) (fun i v hx gh d hPP hd L=>by
   obtain ⟨T,vals,rfl,⟨t,x,hx1,rfl⟩,hT⟩:=hPP
   obtain ⟨y,hy,rfl⟩:=enumD_get hd
   refine ⟨T,_,_,rfl,hT,rfl,.cons ?_ (.cons (hP i x y gh hx hx1 hy L) .nil)⟩
   rw [Int.zero_add]; exact .int _ t)
 exact h _ _ _ _ _ _ _ _ S T
theorem iter_enum {p p' p'':Pos} {elts:List Expr} {k:Nat} {ds:List D} (hh:A.handled=none) (hg:GlobIs C.K "enumerate" (.type "enumerate")) (hk:F.env.kindOf "enumerate"=some .globalImplicit) (hs:noStar a=true) (hx:EvOk C A F r (eval a F.env) d l)
  (hd:seqE d=some ds):IterOk C A F r (.Call (.Name "enumerate" p') [a] [] p) (.Tuple elts k p'') true true (enumD 0 ds) l:=fun g s E Q H h=>by
 refine call_name hg rfl hk (by decide) (by rw [List.all_cons,hs]; rfl) (oks1 hs hx) H fun g₁ s₁ vs S₁ rs=>?_
 obtain ⟨v,rfl,rv⟩:=rs.one
 cases d with
 | lst ds' =>
  have:=Option.some.inj hd
  subst this
  obtain ⟨ad,us,rfl,hx,ho,hz,hr⟩:=rv.lst_inv
  have D:=Draws.list (prog:=pw) (w:=C.w) (A:=A.in1) hh s₁.heap.objs.size ad (Nat.ne_of_lt (Heap.lt_size ho.live.choose_spec)) us
  rw [size_eq hr] at D
  exact call_enumerate_list ho.isList fun h' he' hit hz' hk'=>enum_turns hh S₁ D he' ⟨hit,ho.isList.at fun o e=>hk' _ o e⟩ hz' hk' (mem2 (.inl rfl) (.inr ⟨hx,ho.live⟩)) List.mem_cons_self (fun i v d gh h hP hd L=>item_le hr hP hd L) h
 | tup ds' =>
  have:=Option.some.inj hd
  subst this
  obtain ⟨ad,us,rfl,hx,ho,hz,hr⟩:=rv.tup_inv
  have D:=draws_tuple (w:=C.w) (A:=A.in1) hh s₁.heap.objs.size ad (Nat.ne_of_lt (Heap.lt_size ho.live.choose_spec)) us
  rw [size_eq hr] at D
  exact call_enumerate_tuple ho fun h' he' hit hz' hk'=>enum_turns hh S₁ D he' ⟨hit,ho.isTuple.at fun o e=>hk' _ o e⟩ hz' hk' (mem2 (.inl rfl) (.inr ⟨hx,ho.live⟩)) List.mem_cons_self (fun i v d gh h hP hd L=>item_le hr hP hd L) h
 | str x =>
  have:=Option.some.inj hd
  subst this
  obtain ⟨t,rfl⟩:=rv.str_inv
  refine call_enumerate_str fun h' he' hit hz' hk'=>?_
  have hlen:(x.map fun c=>D.str [c]).length=(S x).cps.size:=List.length_map _
  have item:∀ (i:Nat) (v:Value) (d:D) (gh:Mine.G) (h:Heap),(∃ c u,(S x).cps[i]?=some c∧v=.str ⟨#[c]⟩ u)→(x.map fun c=>D.str [c])[i]?=some d→Le g₁ s₁.heap gh h→Rep C.w gh h v d:=by
   rintro i v d gh h ⟨c,u,h1,rfl⟩ hd _
   have h1:x[i]?=some c:=List.getElem?_toArray.symm.trans h1
   rw [List.getElem?_map,h1] at hd
   exact Option.some.inj hd ▸ .str [c] u
  cases ha:(S x).cps.all (· < 128)
  ·have e:strIterType (S x)="str_iterator":=by unfold strIterType; rw [ha]; rfl
   rw [e] at hit
   have D:=Draws.strWide (prog:=pw) (w:=C.w) (A:=A.in1) hh s₁.heap.objs.size (S x) t
   rw [← hlen] at D
   exact enum_turns hh S₁ D he' hit hz' hk' (fun b hb=>.inl (List.mem_singleton.mp hb)) List.mem_cons_self item h
  ·have e:strIterType (S x)="str_ascii_iterator":=by unfold strIterType; rw [ha]; rfl
   rw [e] at hit
   have D:=Draws.strAscii (prog:=pw) (w:=C.w) (A:=A.in1) hh s₁.heap.objs.size (S x) t
   rw [← hlen] at D
   exact enum_turns hh S₁ D he' hit hz' hk' (fun b hb=>.inl (List.mem_singleton.mp hb)) List.mem_cons_self item h
 | _=>cases hd
theorem zip_apart (N l1 l2:Nat) (h1:l1 < N) (h2:l2 < N):ZipApart (N+4) (N+2) (N+3) N (N+1) l1 l2:=by
 constructor <;> (refine fun (q:@Eq Nat _ _)=>?_; lia)
theorem iter_zip {p p' p'':Pos} {elts:List Expr} {k:Nat} {xs ys:List D} (hh:A.handled=none) (hg:GlobIs C.K "zip" (.type "zip")) (hk:F.env.kindOf "zip"=some .globalImplicit) (hs:noStar a=true) (hs':noStar b=true) (hx:EvOk C A F r (eval a F.env) (.lst xs) l)
  (hy:EvOk C A F r (eval b F.env) (.lst ys) l'):IterOk C A F r (.Call (.Name "zip" p') [a,b] [] p) (.Tuple elts k p'') true true (zipD xs ys) (l++l'):=fun g s E Q H h=>by
 refine call_name hg rfl hk (by decide) (by rw [List.all_cons,List.all_cons,hs,hs']; rfl) (oks2 hs hs' hx hy) H fun g₁ s₁ vs S₁ rs=>?_
 obtain ⟨_,v,rfl,r1,r2⟩:=rs.two
 obtain ⟨l1,us,rfl,hx1,ho1,hz1,hr1⟩:=r1.lst_inv
 obtain ⟨l2,vs,rfl,hx2,ho2,hz2,hr2⟩:=r2.lst_inv
 have AP:=zip_apart s₁.heap.objs.size l1 l2 (Heap.lt_size ho1.live.choose_spec) (Heap.lt_size ho2.live.choose_spec)
 refine call_zip_2 ho1.isList ho2.isList fun h' hz hTI hTO hi1 hi2 hsz hk'=>?_
 generalize hN:s₁.heap.objs.size=N at *
 have W:=WalksT.zip2 (prog:=pw) (w:=C.w) (A:=A) hh (N+4) (N+2) (N+3) N (N+1) l1 l2 AP us vs
 have st0:=(show IsZip h' (N+4) (N+2) (N+3) .none∧IsPair h' (N+2) (.ref N) (.ref (N+1))∧(∃ a b,IsPair h' (N+3) a b)∧h'.IsListIter N l1 0∧h'.IsListIter (N+1) l2 0∧h'.IsList l1 us∧h'.IsList l2 vs from
  ⟨hz,hTI,⟨_,_,hTO⟩,hi1,hi2,ho1.isList.at fun o e=>hk' _ o e,ho2.isList.at fun o e=>hk' _ o e⟩)
 refine W.self 0 _ _ _ st0 ?_
 have kt:=KTurns.ofWalksU (elts:=elts) (k:=k) (pos:=p'') W.toU
 rw [size_eq hr1,size_eq hr2,← zipD_len] at kt
 have ge:∀ j,s₁.heap.objs.size≤N+j:=fun j=>hN ▸ Nat.le_add_right ..
 obtain ⟨S,T⟩:=mk_turns (tup:=true) (sf:=true) (h':=h') (tk:=s₁.toks) S₁ kt hk' (hsz ▸ hN ▸ Nat.le_add_right ..) (Nat.le_refl _) (memc ⟨ge 4,_,hz⟩ (memc ⟨ge 3,_,hTO⟩ (mem2 ⟨ge 0,hi1.imp fun _ e=>e.1⟩ ⟨ge 1,hi2.imp fun _ e=>e.1⟩))) st0 (fun _ s' Q' E' st hq=>W.self 0 s' Q' E' st hq)
  (fun i hx st=>memc ⟨_,st.1⟩ (memc (st.2.2.1.elim fun _ q=>q.elim fun _ e=>⟨_,e⟩) (mem2 (st.2.2.2.1.imp fun _ e=>e.1) (st.2.2.2.2.1.imp fun _ e=>e.1))))
  (memc (.inl List.mem_cons_self) (memc (.inr (.inr ⟨ge 2,by simp,_,hTI⟩)) (memc (.inl (by simp)) (memc (.inl (by simp)) (memc (.inl (by simp)) (mem2 (.inr (.inl ⟨hx1,ho1.live⟩)) (.inr (.inl ⟨hx2,ho2.live⟩)))))))) (fun i v hx gh d hPP hd L=>by
   obtain ⟨T,vals,rfl,⟨x,y,e1,e2,rfl⟩,hT⟩:=hPP
   obtain ⟨dx,dy,f1,f2,rfl⟩:=zipD_get hd
   exact ⟨T,_,_,rfl,hT,rfl,.cons (item_le hr1 e1 f1 L) (.cons (item_le hr2 e2 f2 L) .nil)⟩)
 exact h _ _ _ _ _ _ _ _ S T
end
end
section
section
variable {C:Cx} {A:Around} {F:Frm} {r:Rho} {a b:Expr} {d d':D} {l l':List D} {tg:Expr}
theorem keys_get {ks:List (List Nat)} {kvs:List (Str × Value)} (hk:kvs.map (·.1)=ks.map S) {i:Nat} {k:Str} {x:Value} (h:kvs[i]?=some (k,x)):∃ k',ks[i]?=some k'∧k=S k':=by
 have h1:(kvs.map (·.1))[i]?=some k:=by rw [List.getElem?_map,h]; rfl
 rw [hk,List.getElem?_map] at h1
 obtain ⟨k',h2,h3⟩:=Option.map_eq_some_iff.mp h1
 exact ⟨k',h2,h3.symm⟩
theorem kt_len {w:World} {I:Addr} {fp wr:List Addr} {n m:Nat} {P Md:Nat→Value→Heap→Prop} {St:Nat→Heap→Prop} (h:n=m) (kt:KTurns pw w A tg I fp wr n P Md St):KTurns pw w A tg I fp wr m P Md St:=h ▸ kt
theorem len_keys {kvs:List (Str × Value)} {ks:List (List Nat)} (hk:kvs.map (·.1)=ks.map S):kvs.length=(ks.map D.str).length:=by
 rw [List.length_map,← List.length_map (f:=fun p:Str × Value=>p.1),hk,List.length_map]
theorem str_at {ks:List (List Nat)} {i:Nat} {k:List Nat} {d:D} (h:ks[i]?=some k) (hd:(ks.map D.str)[i]?=some d):D.str k=d:=by
 rw [List.getElem?_map,h] at hd
 exact Option.some.inj hd
theorem iter_keys {ks:List (List Nat)} {vs:List D} (hh:A.handled=none) (hn:isName tg=true) (hx:EvOk C A F r (eval a F.env) (.dctS ks vs) l):IterOk C A F r a tg false true (ks.map .str) l:=fun g s E Q H h=>by
 refine hx g s E _ H fun g₁ s₁ v S₁ rv=>?_
 obtain ⟨ad,kvs,rfl,hX,hm,ho,hz,hk,hr⟩:=rv.dctS_inv
 obtain ⟨ep,hat⟩:=ho.dictAt
 refine wpAny_pyIter_dict hm hat ?_
 have kt:=KTurns.ofWalks (target:=tg) (Walks.dictKeys (A:=A) (knd:=PySem.strKind pw C.w) hh s₁.heap.objs.size ad (Nat.ne_of_lt (Heap.lt_size (dictOf_live ho).choose_spec)) kvs ep) fun i v s' Q' E' st hq=>wpAny_of_eq (letGo_name hn _ _) hq
 obtain ⟨S,T⟩:=mk_turns (tup:=false) (sf:=true) (h':=s₁.heap.push { cls:=.type "dict_keyiterator",data:=.fields #[.ref ad,.int 0 0,.int kvs.length 0,.int ep 0] }) (tk:=s₁.toks) S₁ (kt_len (len_keys hk) kt) push_keep push_le (Nat.le_refl _) wr_one
  ⟨⟨_,Heap.get?_push_size _ rfl,rfl,rfl⟩,hat.at' fun o e=>Heap.get?_push_of_some _ e⟩ (fun _ s' Q' E' st hq=>wpAny_pyIter_keyiter st.1 hq) (fun i h st b hb=>one_mem hb (st.1.imp fun _ e=>e.1)) (mem2 (.inl List.mem_cons_self) (.inr (.inl ⟨hX,dictOf_live ho⟩))) (fun i v h gh d hP hd L=>by
   obtain ⟨k,x,h1,h2⟩:=hP
   obtain ⟨k',h3,rfl⟩:=keys_get hk h1
   obtain ⟨t,rfl⟩:=Value.isStrOf_shape h2
   exact str_at h3 hd ▸ .str k' t)
 exact h _ _ _ _ _ _ _ _ S T
theorem vals_get {w:World} {g:G} {h:Heap} {K:Type} {kvs:List (K × Value)} {vs:List D} (hr:RepL w g h (kvs.map (·.2)) vs) {i:Nat} {k:K} {x:Value} (e:kvs[i]?=some (k,x)):∃ d,vs[i]?=some d∧Rep w g h x d :=
 hr.getV i x (by rw [List.getElem?_map,e]; rfl)
theorem iter_values {p p':Pos} {ks:List (List Nat)} {vs:List D} (hh:A.handled=none) (hn:isName tg=true) (hb:plainBase a=true) (hline:(p'.endLine == p.line)=true) (hx:EvOk C A F r (eval a F.env) (.dctS ks vs) l) :
  IterOk C A F r (.Call (.Attribute a "values" p') [] [] p) tg false true vs l:=fun g s E Q H h=>by
 refine PySem.Call_method0 (base_plain hb _ _ _) hline (hx g s E _ H fun g₁ s₁ v S₁ rv=>?_)
 obtain ⟨ad,kvs,rfl,hX,hm,ho,hz,hk,hr⟩:=rv.dctS_inv
 obtain ⟨ep,hat⟩:=ho.dictAt
 have hlt:=Heap.lt_size (dictOf_live ho).choose_spec
 refine ⟨"dict","dict.values",PySem.F.plainAttrs_dict,PySem.F.slot_dict_values,PySem.F.type_dict_values,ho.typeIs,ho.mapOf.noDict,?_⟩
 refine method_meetsIn PySem.F.slot_dict_values PySem.F.entry_dict_values rfl (PySem.evalArgs_none ⟨rfl,ho.typeIs,PySem.F.args_dict_values_1 _,_,meets_dict_values (PySem.strKind pw C.w) ad hm,⟨kvs,ho⟩,?_⟩)
 show wpAny _ _ _ _ _ _
 have hat1:(s₁.heap.push { cls:=.type "dict_values",data:=.fields #[.ref ad] }).DictAt (PySem.strKind pw C.w) ad kvs ep:=hat.at' fun o e=>Heap.get?_push_of_some _ e
 refine wpAny_pyIter_values ⟨_,Heap.get?_push_size _ rfl,rfl,rfl⟩ hat1 ?_
 have S₂:=Ste.push S₁.inv { cls:=.type "dict_values",data:=.fields #[.ref ad] } (Nat.le_refl s₁.toks)
 have L2:=S₂.le S₁.inv
 have hl:=L2.obj _ _ hX (dictOf_live ho).choose_spec
 have SS:=Ste.trans0 S₁ S₂
 generalize s₁.heap.push { cls:=.type "dict_values",data:=.fields #[.ref ad] }=H at *
 have kt:=KTurns.ofWalks (target:=tg) (Walks.dictValues (A:=A) (knd:=PySem.strKind pw C.w) hh H.objs.size ad (Nat.ne_of_lt (Heap.lt_size hl.2)) kvs ep) fun i v s' Q' E' st hq=>wpAny_of_eq (letGo_name hn _ _) hq
 obtain ⟨S,T⟩:=mk_turns (tup:=false) (sf:=true) (s₁:={ s₁ with heap:=H }) (h':=H.push { cls:=.type "dict_valueiterator",data:=.fields #[.ref ad,.int 0 0,.int kvs.length 0,.int ep 0] }) (tk:=s₁.toks) SS (kt_len ((List.length_map _).symm.trans hr.length) kt) push_keep push_le (Nat.le_refl _) (wr_one (s₁:={ s₁ with heap:=H }))
  ⟨⟨_,Heap.get?_push_size _ rfl,rfl,rfl⟩,hat1.at' fun o e=>Heap.get?_push_of_some _ e⟩ (fun _ s' Q' E' st hq=>wpAny_pyIter_valiter st.1 hq) (fun i h st b hb=>one_mem hb (st.1.imp fun _ e=>e.1)) (mem2 (.inl List.mem_cons_self) (.inr (.inl ⟨hl.1,_,hl.2⟩))) (fun i v h gh d hP hd L=>by
   obtain ⟨k,h1⟩:=hP
   obtain ⟨d',h2,rd⟩:=vals_get hr h1
   exact ((Option.some.inj (h2.symm.trans hd) ▸ rd).le L2).le L)
 exact h _ _ _ _ _ _ _ _ S T
theorem items_kt {w:World} {A:Around} {kvs:List (Str × Value)} {it ad:Addr} {ep:Nat} {elts:List Expr} {k:Nat} {p:Pos} (hh:A.handled=none) (hne:ad ≠ it) :
  KTurns pw w A (.Tuple elts k p) it [it,ad] [it] kvs.length (fun i v h=>∃ T key x y,v=.ref T∧h.IsTuple T #[key,x]∧kvs[i]?=some (y,x)∧(PySem.strKind pw w).is y key=true)
   (fun i v h=>∃ T key x y,v=.ref T∧h.IsTuple T #[key,x]∧kvs[i]?=some (y,x)∧(PySem.strKind pw w).is y key=true∧IsItemIterOut h it ad (i+1) kvs.length ep key x T∧h.DictAt (PySem.strKind pw w) ad kvs ep∧T ≠ it)
   (fun i h=>(∃ ok ov,IsItemIter h it ad i kvs.length ep ok ov)∧h.DictAt (PySem.strKind pw w) ad kvs ep) where
 sub:=fun b hb=>List.mem_singleton.mp hb ▸ List.mem_cons_self
 frame:=fun i h h' st hk=>⟨st.1.imp fun ok s1=>s1.imp fun ov s1=>hk it List.mem_cons_self _ s1,st.2.at' fun o e=>hk ad (by simp) o e⟩
 item:=fun i s Q E hi st hQ=>by
  obtain ⟨⟨ok,ov,s1⟩,s2⟩:=st
  exact wpAny_pyNext_items_item s1 s2 (List.getElem?_eq_getElem hi) fun key h' h1 h2 h3 h4 h5 =>
   hQ _ h' s.toks ⟨_,key,_,_,rfl,⟨_,h3,rfl,0,rfl⟩,List.getElem?_eq_getElem hi,h1,h2,s2.at' fun o e=>h5 _ o hne e,Nat.ne_of_gt (Heap.lt_size s1)⟩ fun b o hb e=>h5 b o (fun q=>hb (List.mem_singleton.mpr q)) e
 go:=fun i v s Q E hm hQ=>by
  obtain ⟨T,key,x,y,rfl,h1,h2,h3,h4,h5,h6⟩:=hm
  exact wpAny_letOwnedTupleGo_items h4 fun h' he hs =>
   hQ h' ⟨T,key,x,y,rfl,h1.at fun o e=>(hs.2 T h6).trans e,h2,h3⟩ ⟨⟨_,_,he⟩,h5.at' fun o e=>(hs.2 ad hne).trans e⟩ fun b o hb e=>(hs.2 b (fun q=>hb (List.mem_singleton.mpr q))).trans e
 done:=fun s Q E st hQ=>by
  obtain ⟨⟨ok,ov,s1⟩,s2⟩:=st
  exact wpAny_pyNext_items_end hh s1 s2 (List.getElem?_eq_none (Nat.le_refl _)) fun h' he=>hQ h' s.toks fun b o hb e=>he b o (fun q=>hb (List.mem_singleton.mpr q)) e
theorem iter_items {p p' p'':Pos} {elts:List Expr} {k:Nat} {ks:List (List Nat)} {vs:List D} (hh:A.handled=none) (hb:plainBase a=true) (hline:(p'.endLine == p.line)=true) (hx:EvOk C A F r (eval a F.env) (.dctS ks vs) l) :
  IterOk C A F r (.Call (.Attribute a "items" p') [] [] p) (.Tuple elts k p'') true false (zipD (ks.map .str) vs) l:=fun g s E Q H h=>by
 refine PySem.Call_method0 (base_plain hb _ _ _) hline (hx g s E _ H fun g₁ s₁ v S₁ rv=>?_)
 obtain ⟨ad,kvs,rfl,hX,hm,ho,hz,hk,hr⟩:=rv.dctS_inv
 obtain ⟨ep,hat⟩:=ho.dictAt
 have hlt:=Heap.lt_size (dictOf_live ho).choose_spec
 refine ⟨"dict","dict.items",PySem.F.plainAttrs_dict,PySem.F.slot_dict_items,PySem.F.type_dict_items,ho.typeIs,ho.mapOf.noDict,?_⟩
 refine method_meetsIn PySem.F.slot_dict_items PySem.F.entry_dict_items rfl (PySem.evalArgs_none ⟨rfl,ho.typeIs,PySem.F.args_dict_items_1 _,_,meets_dict_items (PySem.strKind pw C.w) ad hm,⟨kvs,ho⟩,?_⟩)
 show wpAny _ _ _ _ _ _
 have hat1:(s₁.heap.push { cls:=.type "dict_items",data:=.fields #[.ref ad] }).DictAt (PySem.strKind pw C.w) ad kvs ep:=hat.at' fun o e=>Heap.get?_push_of_some _ e
 refine wpAny_pyIter_items ⟨_,Heap.get?_push_size _ rfl,rfl,rfl⟩ hat1 ?_
 have S₂:=Ste.push S₁.inv { cls:=.type "dict_items",data:=.fields #[.ref ad] } (Nat.le_refl s₁.toks)
 have L2:=S₂.le S₁.inv
 have hl:=L2.obj _ _ hX (dictOf_live ho).choose_spec
 have SS:=Ste.trans0 S₁ S₂
 generalize s₁.heap.push { cls:=.type "dict_items",data:=.fields #[.ref ad] }=H at *
 have hlen:kvs.length=(zipD (ks.map .str) vs).length:=by rw [zipD_len,← len_keys hk,← hr.length,List.length_map,Nat.min_self]
 have kt:=items_kt (w:=C.w) (A:=A) (kvs:=kvs) (it:=H.objs.size) (ad:=ad) (ep:=ep) (elts:=elts) (k:=k) (p:=p'') hh (Nat.ne_of_lt (Heap.lt_size hl.2))
 obtain ⟨S,T⟩:=mk_turns (tup:=true) (sf:=false) (s₁:={ s₁ with heap:=H }) (h':=H.push { cls:=.type "dict_itemiterator",data:=.fields #[.none,.bool false,.ref ad,.int 0 0,.int kvs.length 0,.int ep 0,.none,.none] }) (tk:=s₁.toks) SS (kt_len hlen kt) push_keep push_le (Nat.le_refl _) (wr_one (s₁:={ s₁ with heap:=H }))
  ⟨⟨_,_,Heap.get?_push_size _ rfl⟩,hat1.at' fun o e=>Heap.get?_push_of_some _ e⟩ (fun q=>nomatch q) (fun i h st b hb=>one_mem hb (st.1.elim fun _ e=>e.elim fun _ e=>⟨_,e⟩)) (mem2 (.inl List.mem_cons_self) (.inr (.inl ⟨hl.1,_,hl.2⟩))) (fun i v h gh d hP hd L=>by
   obtain ⟨T,key,x,y,rfl,h1,h2,h3⟩:=hP
   obtain ⟨dx,dy,f1,f2,rfl⟩:=zipD_get hd
   obtain ⟨k',h4,rfl⟩:=keys_get hk h2
   obtain ⟨t,rfl⟩:=Value.isStrOf_shape h3
   obtain ⟨d',h5,rd⟩:=vals_get hr h2
   exact ⟨T,_,_,rfl,h1,rfl,.cons (str_at h4 f1 ▸ .str k' t) (.cons (((Option.some.inj (h5.symm.trans f2) ▸ rd).le L2).le L) .nil)⟩)
 exact h _ _ _ _ _ _ _ _ S T
end
end
section
structure Sc where
 T:List Str
 kd:Str→Option NameKind
 V:List Nat
structure ScOk (c:Sc) (F:Frm):Prop where
 T:F.T=c.T
 V:F.V=c.V
 loc:∀ x,c.kd x=some .local→F.env.kindOf x=some .local
 glob:∀ x,c.kd x=some .globalImplicit→F.env.kindOf x=some .globalImplicit
 cell:∀ x,c.kd x=some .cell→F.env.kindOf x=some .cell∧F.top=true∧(F.env.cells.lookup x).isSome=true
noncomputable def nmOk (x:Str):Bool:=!(x == ("__debug__":Str))&&!(x == ("__classdict__":Str))
noncomputable def Sc.name (c:Sc) (n:Nat) (x:Str):Bool:=c.T[n]? == some x&&nmOk x
noncomputable def Sc.store (c:Sc) (n:Nat) (x:Str):Bool:=c.T[n]? == some x&&c.V.contains n&&(c.kd x == some .local || c.kd x == some .cell)
theorem elim_b {p:Prop} [Decidable p] {f:p→Bool} (h:(if h:p then f h else false)=true):p:=Decidable.byContradiction fun q=>by rw [dif_neg q] at h; cases h
section
variable {α β γ δ ζ ε:Type}
inductive V1 (mk:α→ε) (k:α→Bool) (e:ε):Prop
 | mk (a:α) (h:e=mk a) (q:k a=true)
inductive V2 (mk:α→β→ε) (k:α→β→Bool) (e:ε):Prop
 | mk (a:α) (b:β) (h:e=mk a b) (q:k a b=true)
inductive V3 (mk:α→β→γ→ε) (k:α→β→γ→Bool) (e:ε):Prop
 | mk (a:α) (b:β) (c:γ) (h:e=mk a b c) (q:k a b c=true)
inductive V4 (mk:α→β→γ→δ→ε) (k:α→β→γ→δ→Bool) (e:ε):Prop
 | mk (a:α) (b:β) (c:γ) (d:δ) (h:e=mk a b c d) (q:k a b c d=true)
inductive V5 (mk:α→β→γ→δ→ζ→ε) (k:α→β→γ→δ→ζ→Bool) (e:ε):Prop
 | mk (a:α) (b:β) (c:γ) (d:δ) (z:ζ) (h:e=mk a b c d z) (q:k a b c d z=true)
end
noncomputable def eName (e:Expr) (k:Str→Pos→Bool):Bool:=if h:e.ctorIdx=23 then Expr.Name.elim e h k else false
theorem eName_i {e:Expr} {k:Str→Pos→Bool} (h:eName e k=true):V2 Expr.Name k e :=
 Expr.Name.elim (motive_1:=fun e=>eName e k=true→V2 Expr.Name k e) e (elim_b h) (fun a b h=>⟨a,b,rfl,h⟩) h
noncomputable def eTuple (e:Expr) (k:List Expr→Nat→Pos→Bool):Bool:=if h:e.ctorIdx=25 then Expr.Tuple.elim e h k else false
theorem eTuple_i {e:Expr} {k:List Expr→Nat→Pos→Bool} (h:eTuple e k=true):V3 Expr.Tuple k e :=
 Expr.Tuple.elim (motive_1:=fun e=>eTuple e k=true→V3 Expr.Tuple k e) e (elim_b h) (fun a b c h=>⟨a,b,c,rfl,h⟩) h
noncomputable def lCons {α:Type} (l:List α) (f:α→List α→Bool):Bool:=match l with
 | []=>false
 | a::l=>f a l
theorem lCons_i {α:Type} {l:List α} {f:α→List α→Bool} (h:lCons l f=true):V2 List.cons f l:=by
 cases l with
 | nil=>cases h
 | cons a l=>exact ⟨a,l,rfl,h⟩
noncomputable def lNil {α:Type} (l:List α):Bool:=match l with
 | []=>true
 | _::_=>false
theorem lNil_i {α:Type} {l:List α} (h:lNil l=true):l=[]:=by
 cases l with
 | nil=>rfl
 | cons=>cases h
theorem ba {a b:Bool} (h:(a&&b)=true):a=true∧b=true:=Bool.and_eq_true_iff.mp h
mutual
noncomputable def mtTg (c:Sc):Tg→Expr→Bool
 | .name n,e=>eName e fun x _=>c.store n x
 | .tup l,e=>eTuple e fun es _ _=>mtTgs c l es
noncomputable def mtTgs (c:Sc):List Tg→List Expr→Bool
 | [],es=>lNil es
 | t::ts,es=>lCons es fun e es=>mtTg c t e&&mtTgs c ts es
end
noncomputable def mtNames (c:Sc) (ns:List Nat) (es:List Expr):Bool:=mtTgs c (ns.map .name) es
noncomputable def TgVal (w:World) (g:G) (h:Heap) (v:Value) (d:D):Tg→Prop
 | .name _=>Rep w g h v d
 | .tup _=>∃ T vals es,v=.ref T∧h.IsTuple T vals∧d=.tup es∧RepL w g h vals.toList es
section
variable {C:Cx} {A:Around} {F:Frm} {g:G} {E:Value→Shared→Prop} {c:Sc}
theorem Frm.wr_priv (F:Frm) {b:Addr} (h:F.wr b):b ∈ F.priv:=by
 unfold Frm.wr at h
 split at h
 ·exact h
 ·exact h ▸ List.mem_cons_self
theorem EnvOk.wrX {w:World} {h:Heap} {r:Rho} (e:EnvOk w g h F r) {b:Addr} (hb:F.wr b):g.X b:=(e.px b (F.wr_priv hb)).1
theorem store_i {n:Nat} {x:Str} (hc:ScOk c F) (hs:c.store n x=true):n ∈ F.V∧F.T[n]?=some x∧(F.env.kindOf x=some .local ∨ (F.env.kindOf x=some .cell∧F.top=true∧(F.env.cells.lookup x).isSome=true)):=by
 obtain ⟨h,h3⟩:=ba hs
 obtain ⟨h1,h2⟩:=ba h
 exact ⟨hc.V ▸ List.contains_iff_mem.mp h2,hc.T ▸ eq_of_beq h1,(Bool.or_eq_true_iff.mp h3).imp (fun h=>hc.loc x (eq_of_beq h)) fun h=>hc.cell x (eq_of_beq h)⟩
theorem store_sound {s:Shared} {r:Rho} {n:Nat} {x:Str} {v:Value} {d:D} {l:List D} {Q:Unit→Shared→Prop} (hc:ScOk c F) (hs:c.store n x=true) (H:At C F r g s l) (rv:Rep C.w g s.heap v d)
  (h:∀ s',SteP C.w C.K F.wr g s g s' []→At C F (setV r n d) g s' l→Q () s'):wpAny (model pw C.w) A (storeName F.env x v) Q E s :=
 have i:=store_i hc hs
 store_any (b:=.val d) H.inv H.ev i.1 i.2.1 rv (fun s' S e=>h s' S ⟨H.good.ste S,e,H.lg⟩) i.2.2
theorem starEach_a {e:Expr} {es:List Expr} {env:Env} (h:noStar e=true):assignEach (e::es) env=(false,assign e env)::assignEach es env:=by
 cases e <;> first | rfl | (cases h; done)
theorem mtTg_noStar {t:Tg} {e:Expr} (h:mtTg c t e=true):noStar e=true:=by
 cases t with
 | name n=>obtain ⟨x,p,rfl,_⟩:=eName_i (e:=e) h; rfl
 | tup l=>obtain ⟨x,k,p,rfl,_⟩:=eTuple_i (e:=e) h; rfl
theorem each_len:∀ {es:List Expr} {env:Env},es.all noStar=true→(assignEach es env).length=es.length∧(assignEach es env).findIdx? (·.1)=none:=by
 intro es env
 induction es with
 | nil=>exact fun _=>⟨rfl,rfl⟩
 | cons e es ih =>
  intro h
  obtain ⟨h1,h2⟩:=ba h
  obtain ⟨a,b⟩:=ih h2
  rw [starEach_a h1,List.findIdx?_cons,b]
  exact ⟨congrArg Nat.succ a,rfl⟩
theorem mtTgs_i {t:Tg} {ts:List Tg} {es:List Expr} (h:mtTgs c (t::ts) es=true):∃ e es',es=e::es'∧mtTg c t e=true∧mtTgs c ts es'=true:=by
 obtain ⟨e,es',rfl,h⟩:=lCons_i (l:=es) h
 exact ⟨e,es',rfl,ba h⟩
theorem mtTgs_len:∀ {ts:List Tg} {es:List Expr},mtTgs c ts es=true→es.length=ts.length∧es.all noStar=true:=by
 intro ts
 induction ts with
 | nil=>intro es h; rw [lNil_i (l:=es) h]; exact ⟨rfl,rfl⟩
 | cons t ts ih =>
  intro es h
  obtain ⟨e,es',rfl,h1,h2⟩:=mtTgs_i h
  exact ⟨congrArg Nat.succ (ih h2).1,by rw [List.all_cons,mtTg_noStar h1,(ih h2).2]; rfl⟩
theorem asgTs_i {t:Tg} {ts:List Tg} {ds:List D} {r r':Rho} (h:asgTs (t::ts) ds r=some r'):∃ d ds' r₁,ds=d::ds'∧asgT t d r=some r₁∧asgTs ts ds' r₁=some r':=by
 cases ds with
 | nil=>cases h
 | cons d ds =>
  obtain ⟨r₁,h1,h2⟩:=b1o h
  exact ⟨d,ds,r₁,rfl,h1,h2⟩
theorem asgTs_0 {ds:List D} {r r':Rho} (h:asgTs [] ds r=some r'):ds=[]∧r=r':=by
 cases ds with
 | nil=>exact ⟨rfl,Option.some.inj h⟩
 | cons=>cases h
theorem asgTs_len:∀ {ts:List Tg} {ds:List D} {r r':Rho},asgTs ts ds r=some r'→ts.length=ds.length:=by
 intro ts
 induction ts with
 | nil=>intro ds r r' h; rw [(asgTs_0 h).1]; rfl
 | cons t ts ih =>
  intro ds r r' h
  obtain ⟨d,ds,r₁,rfl,_,h⟩:=asgTs_i h
  exact congrArg Nat.succ (ih h)
theorem asgT_tup {l:List Tg} {d:D} {r r':Rho} (h:asgT (.tup l) d r=some r'):∃ ds,d=.tup ds∧asgTs l ds r=some r':=by
 cases d with
 | tup ds=>exact ⟨ds,rfl,h⟩
 | _=>cases h
theorem TgVal.of {w:World} {h:Heap} {v:Value} {d:D} {t:Tg} {r r':Rho} (x:Rep w g h v d) (e:asgT t d r=some r'):TgVal w g h v d t:=by
 cases t with
 | name=>exact x
 | tup l =>
  obtain ⟨ds,rfl,_⟩:=asgT_tup e
  obtain ⟨T,vals,rfl,_,ho,_,hr⟩:=x.tup_inv
  exact ⟨T,vals,_,rfl,ho.isTuple,rfl,hr⟩
theorem steP_le {s s':Shared} {r:Rho} {l l':List D} {g':G} (H:At C F r g s l') (S:SteP C.w C.K F.wr g s g' s' l):Le g s.heap g' s'.heap:=SteP.le H.inv S fun b hb=>H.ev.wrX hb
noncomputable def AsgOk (C:Cx) (A:Around) (F:Frm) (c:Sc) (t:Tg):Prop:=∀ (e:Expr) (g:G) (s:Shared) (E:Value→Shared→Prop) (r r':Rho) (v:Value) (d:D) (l:List D) (Q:Unit→Shared→Prop),mtTg c t e=true→At C F r g s l→TgVal C.w g s.heap v d t→asgT t d r=some r' →
 (∀ s',SteP C.w C.K F.wr g s g s' []→At C F r' g s' l→Q () s')→wpAny (model pw C.w) A (assign e F.env v) Q E s
noncomputable def AsgsOk (C:Cx) (A:Around) (F:Frm) (c:Sc) (ts:List Tg):Prop:=∀ (es:List Expr) (g:G) (s:Shared) (E:Value→Shared→Prop) (r r':Rho) (vs:List Value) (ds:List D) (l:List D) (Q:Unit→Shared→Prop),mtTgs c ts es=true→At C F r g s l→RepL C.w g s.heap vs ds→asgTs ts ds r=some r' →
 (∀ s',SteP C.w C.K F.wr g s g s' []→At C F r' g s' l→Q () s')→wpAny (model pw C.w) A (assignInOrder ((assignEach es F.env).map (·.2)) vs) Q E s
theorem asg_name (hc:ScOk c F) (n:Nat):AsgOk C A F c (.name n):=fun e g s E r r' v d l Q hm H hv e1 h=>by
 obtain ⟨x,p,rfl,hm⟩:=eName_i (e:=e) hm
 exact wpAny_assign_Name (store_sound hc hm H hv fun s' S H'=>h s' S (Option.some.inj e1 ▸ H'))
theorem asg_tup (hh:A.handled=none) {ts:List Tg} (ih:AsgsOk C A F c ts):AsgOk C A F c (.tup ts):=fun e g s E r r' v d l Q hm H hv e1 h=>by
 obtain ⟨es,k,p,rfl,hm⟩:=eTuple_i (e:=e) hm
 obtain ⟨T,vals,ds,rfl,hT,rfl,hr⟩:=hv
 have e1:asgTs ts ds r=some r':=e1
 obtain ⟨l1,l2⟩:=mtTgs_len hm
 obtain ⟨a,b⟩:=each_len (env:=F.env) l2
 rw [arm_assign_Tuple]
 refine wpAny_bind (wpAny_standAt ?_)
 unfold unpack
 rw [b,show (assignEach es F.env).length=vals.size by rw [a,l1,asgTs_len e1,size_eq hr]]
 refine wpAny_bind (wpAny_holding (wpAny_grows (wpAny_unpackItems_tuple hh hT fun h' he hs ht=>?_)))
 have S₁:Ste C.w C.K g s g { s with heap:=h' } []:=Ste.grow H.inv (fun b o e=>he b o (Nat.ne_of_lt (Heap.lt_size e)) e) hs (Nat.le_refl _)
 exact ih es g _ E r r' _ ds l Q hm (At.b (l:=[]) H S₁) (hr.le (S₁.le H.inv)) e1 fun s' S H'=>h s' ((SteP.mono S₁ fun _=>False.elim).trans S) H'
theorem asgs_nil:AsgsOk C A F c []:=fun es g s E r r' vs ds l Q hm H hr e h=>by
 obtain ⟨rfl,rfl⟩:=asgTs_0 e
 rw [lNil_i (l:=es) hm,hr.nil_i]
 exact wpAny_pure (h s (SteP.refl H.inv) H)
theorem asgs_cons {t:Tg} {ts:List Tg} (x:AsgOk C A F c t) (y:AsgsOk C A F c ts):AsgsOk C A F c (t::ts):=fun es g s E r r' vs ds l Q hm H hr e h=>by
 obtain ⟨e0,es,rfl,h1,h2⟩:=mtTgs_i hm
 obtain ⟨d,ds,r₁,rfl,k1,k2⟩:=asgTs_i e
 obtain ⟨v,vs,rfl,ra,rb⟩:=hr.cons_i
 rw [starEach_a (mtTg_noStar h1)]
 exact wpAny_bind (wpAny_holding (x e0 g s E r r₁ v d l _ h1 H (TgVal.of ra k1) k1 fun s₁ S₁ H₁ =>
  y es g s₁ E r₁ r' vs ds l Q h2 H₁ (rb.le (steP_le H S₁)) k2 fun s₂ S₂ H₂=>h s₂ (S₁.trans S₂) H₂))
theorem asgT_sound (hh:A.handled=none) (hc:ScOk c F) (t:Tg):AsgOk C A F c t :=
 Tg.rec (motive_1:=AsgOk C A F c) (motive_2:=AsgsOk C A F c) (asg_name hc) (fun _=>asg_tup hh) asgs_nil (fun _ _=>asgs_cons) t
theorem asgTs_sound (hh:A.handled=none) (hc:ScOk c F) (ts:List Tg):AsgsOk C A F c ts :=
 Tg.rec_1 (motive_1:=AsgOk C A F c) (motive_2:=AsgsOk C A F c) (asg_name hc) (fun _=>asg_tup hh) asgs_nil (fun _ _=>asgs_cons) ts
end
end
section
set_option genInjectivity false
set_option genSizeOf false
structure Lp where
 C:Cx
 A:Around
 tg:Expr
 tup:Bool
 sf:Bool
 z:Nat
 g:G
 s:Shared
 I:Addr
 fp:List Addr
 wr:List Addr
 P:Nat→Value→Heap→Prop
 Md:Nat→Value→Heap→Prop
 St:Nat→Heap→Prop
 ds:List D
 W:Addr→Prop
structure Lp.Ok (L:Lp):Prop where
 T:Turns L.C L.A L.tg L.tup L.sf L.z L.g L.s L.I L.fp L.wr L.P L.Md L.St L.ds
 G:Good L.C L.g L.s
 WX:∀ b,L.W b→L.g.X b
 Wfp:∀ b ∈ L.fp,¬ L.W b
noncomputable def Lp.Pw (L:Lp) (b:Addr):Prop:=b ∈ L.wr ∨ L.W b
structure Lp.At (L:Lp) (i:Nat) (g:G) (s:Shared) (l:List D):Prop where
 S:SteP L.C.w L.C.K L.Pw L.g L.s g s l
 st:L.St i s.heap
structure Lp.Lost (L:Lp) (g:G) (s:Shared) (g':G) (s':Shared):Prop where
 le:Le g s.heap g' s'.heap
 X:∀ b,g'.X b ↔ b ∉ L.wr∧g.X b
 na:g'.na=g.na
 gd:Good L.C g' s'
 log:g'.log=g.log
 keep:∀ b o,b ∉ L.wr→s.heap.get? b=some o→s'.heap.get? b=some o
structure Acc (w:World) (g:G) (s:Shared) (a:Addr) (d:D):Prop where
 X:g.X a
 na:g.na ≠ some a
 rep:OwnRep w g s.heap a d
theorem Acc.step {w:World} {K:Frag} {g g':G} {s s':Shared} {a:Addr} {d:D} {P:Addr→Prop} {l:List D} (c:Acc w g s a d) (I:Inv w K g s) (S:SteP w K P g s g' s' l) (hX:∀ b,P b→g.X b) (ha:¬ P a):Acc w g' s' a d :=
 ⟨(S.X a (I.xlt c.X)).mpr c.X,S.na ▸ c.na,c.rep.le (SteP.le I S hX) fun o e=>S.keep a o ha c.na e⟩
theorem Turns.ste {C:Cx} {A:Around} {tg:Expr} {tup sf:Bool} {z:Nat} {g g':G} {s s':Shared} {I:Addr} {fp wr:List Addr} {P Md:Nat→Value→Heap→Prop} {St:Nat→Heap→Prop} {ds l:List D} (T:Turns C A tg tup sf z g s I fp wr P Md St ds) (I':Inv C.w C.K g s) (S:Ste C.w C.K g s g' s' l):Turns C A tg tup sf z g' s' I fp wr P Md St ds where
 kt:=T.kt
 self:=T.self
 st:=T.kt.frame _ _ _ T.st fun b hb o e=>S.keep b o (fun f=>f) ((T.hfp b hb).elim (fun h=>(T.hwr b h).2.2) fun h=>I'.nax h.1) e
 lv:=T.lv
 hwr:=fun b hb=>have h:=T.hwr b hb; ⟨h.1,(S.X b (I'.xlt h.2.1)).mpr h.2.1,S.na ▸ h.2.2⟩
 hfp:=fun b hb=>(T.hfp b hb).imp id fun h=>h.2.elim fun o e=>have q:=(S.le I').obj b o h.1 e; ⟨q.1,o,q.2⟩
 item:=fun i v h gh d a b L=>T.item i v h gh d a b ((S.le I').trans L)
section
variable {L:Lp} {F:Frm} {r:Rho} {i:Nat} {g g':Mine.G} {s s':Shared} {l l':List D} {P:Addr→Prop} {E:Value→Shared→Prop} {Q:Option Value→Shared→Prop}
theorem Lp.Ok.wrfp (O:L.Ok) {b:Addr} (hb:b ∈ L.wr):b ∈ L.fp:=O.T.kt.sub b hb
theorem Lp.Ok.live (O:L.Ok) {b:Addr} (hb:b ∈ L.fp):b < L.s.heap.objs.size:=by
 rcases O.T.hfp b hb with h | h
 ·exact Heap.lt_size (O.T.lv 0 _ O.T.st b h).choose_spec
 ·exact Heap.lt_size h.2.choose_spec
theorem Lp.Ok.fpNa (O:L.Ok) {b:Addr} (hb:b ∈ L.fp):L.g.na ≠ some b:=(O.T.hfp b hb).elim (fun h=>(O.T.hwr b h).2.2) fun h=>O.G.inv.nax h.1
theorem Lp.Ok.start (O:L.Ok):L.At 0 L.g L.s []:=⟨SteP.refl O.G.inv,O.T.st⟩
theorem Lp.Ok.frame (O:L.Ok) (H:L.At i g s l) (S:SteP L.C.w L.C.K P g s g' s' l') (hP:∀ b,P b→L.W b ∨ L.s.heap.objs.size≤b):L.St i s'.heap :=
 O.T.kt.frame _ _ _ H.st fun b hb o e=>S.keep b o (fun q=>(hP b q).elim (O.Wfp b hb) fun h=>Nat.lt_irrefl _ (Nat.lt_of_lt_of_le (O.live hb) h)) (H.S.na ▸ O.fpNa hb) e
theorem Lp.Ok.step (O:L.Ok) (H:L.At i g s l) (S:SteP L.C.w L.C.K P g s g' s' l') (hP:∀ b,P b→L.W b ∨ L.s.heap.objs.size≤b):L.At i g' s' (l++l') :=
 ⟨H.S.trans' S fun b hb=>(hP b hb).imp .inr id,O.frame H S hP⟩
theorem Lp.Ok.PX (O:L.Ok) (H:L.At i g s l) (b:Addr) (hb:L.Pw b):g.X b:=have h:L.g.X b:=hb.elim (fun h=>(O.T.hwr b h).2.1) (O.WX b); (H.S.X b (O.G.inv.xlt h)).mpr h
theorem Lp.Ok.wrX (O:L.Ok) (H:L.At i g s l) (b:Addr) (hb:b ∈ L.wr):g.X b:=O.PX H b (.inl hb)
theorem Lp.Ok.wrN (O:L.Ok) (H:L.At i g s l) (b:Addr) (hb:b ∈ L.wr):g.na ≠ some b:=H.S.na ▸ (O.T.hwr b hb).2.2
theorem Lp.Ok.next {K:Value→Shared→Prop} (hQ:∀ v s',wpAny (model pw L.C.w) L.A (letOwnedTupleGo L.tg (.ref L.I) v) (fun _ s''=>K v s'') E s'→Q (some v) s') (O:L.Ok) (H:L.At i g s l) (hi:i < L.ds.length) (G:Mine.At L.C F r g s l') (hpw:∀ b ∈ F.priv,b ∉ L.wr)
  (h:∀ v s',SteP L.C.w L.C.K (fun b=>b ∈ L.wr) g s g s' []→L.At (i+1) g s' l→Mine.At L.C F r g s' l'→ItemIs L.tup L.C.w g s'.heap v L.ds[i]→K v s'):wpAny (model pw L.C.w) L.A (pyNext (.ref L.I)) Q E s:=by
 refine wpAny_grows (O.T.kt.item i s _ E hi H.st fun v h₁ tk₁ hMd hk₁ hs₁ ht₁=>hQ v _ (wpAny_grows (O.T.kt.go i v { s with heap:=h₁,toks:=tk₁ } _ E hMd fun h₂ hP₂ hst₂ hk₂ hs₂ ht₂=>?_)))
 have S₂:SteP L.C.w L.C.K (fun b=>b ∈ L.wr) g s g { s with heap:=h₂,toks:=tk₁ } []:=SteP.wrote G.inv (O.wrX H) (O.wrN H) (fun b o hb e=>hk₂ b o hb (hk₁ b o hb e)) (Nat.le_trans hs₁ hs₂) ht₁ (O.T.lv (i+1) h₂ hst₂)
 have L₂:=SteP.le G.inv S₂ fun b hb=>O.wrX H b hb
 exact h v _ S₂ ⟨Ste.trans0 H.S (S₂.mono fun b hb=>.inl hb),hst₂⟩ ⟨G.good.ste S₂,G.ev.le L₂ (fun b hb o e=>hk₂ b o (hpw b hb) (hk₁ b o (hpw b hb) e)) fun b hb=>(G.ev.px b hb).1,G.lg⟩
  (O.T.item i v h₂ g L.ds[i] hP₂ (List.getElem?_eq_getElem hi) ((SteP.le O.G.inv H.S fun b hb=>O.PX O.start b hb).trans L₂))
theorem Lp.Ok.last {g₀:Mine.G} {s₀:Shared} {l₀:List D} (O:L.Ok) (H:L.At L.ds.length g s l) (gd:Good L.C g s) (S₀:SteP L.C.w L.C.K P g₀ s₀ L.g L.s l₀) (hz:L.z=s₀.heap.objs.size) (hW:∀ b,L.W b→P b ∨ s₀.heap.objs.size≤b)
  (h:∀ g' s',SteP L.C.w L.C.K P g₀ s₀ g' s' (l₀++l)→L.Lost g s g' s'→Q none s'):wpAny (model pw L.C.w) L.A (pyNext (.ref L.I)) Q E s:=by
 refine wpAny_grows (O.T.kt.done s _ E H.st fun h' tk hk hs ht=>?_)
 have SL:=SteP.lose (S₀.trans' H.S fun b hb=>hb.elim (fun h=>.inr (hz ▸ (O.T.hwr b h).1)) (hW b)) (fun b hb=>hz ▸ (O.T.hwr b hb).1) (O.wrX H) (O.wrN H) hk hs ht
 exact h (g.frzs L.wr) _ SL ⟨⟨fun b o n e=>⟨fun x=>n x.2,hk b o (fun q=>n (O.wrX H b q)) e⟩,fun _ _ e=>e,rfl,rfl⟩,fun _=>.rfl,rfl,⟨SL.inv,gd.gf,gd.tc⟩,rfl,hk⟩
theorem Lp.Lost.at_ (X:L.Lost g s g' s') (H:Mine.At L.C F r g s l) (hpw:∀ b ∈ F.priv,b ∉ L.wr):Mine.At L.C F r g' s' l :=
 ⟨X.gd,H.ev.le X.le (fun b hb o e=>X.keep b o (hpw b hb) e) fun b hb=>(X.X b).mpr ⟨hpw b hb,(H.ev.px b hb).1⟩,X.log ▸ H.lg⟩
theorem Lp.Lost.acc {a:Addr} {d:D} (X:L.Lost g s g' s') (c:Acc L.C.w g s a d) (ha:a ∉ L.wr):Acc L.C.w g' s' a d:=⟨(X.X a).mpr ⟨ha,c.X⟩,X.na ▸ c.na,c.rep.le X.le fun o e=>X.keep a o ha e⟩
theorem ItemIs.tg {tup:Bool} {w:World} {h:Heap} {v:Value} {d:D} {t:Tg} {r r':Rho} (ht:tup=true→∃ l,t=.tup l) (x:ItemIs tup w g h v d) (e:asgT t d r=some r'):TgVal w g h v d t:=by
 cases tup
 ·exact TgVal.of (w:=w) x e
 ·obtain ⟨l,rfl⟩:=ht rfl
  exact x
end
end
section
noncomputable def lput (d x:D):Option D:=dL d fun l=>if l.length < 65536 then some (.lst (l++[x])) else none
noncomputable def oput (d:D) (xs:List D):Option D:=dL d fun l=>if l.length+xs.length≤65536 then some (.lst (l++xs)) else none
section
variable {α:Type} {t:Tg} {c:Rho→Option (Bool × List D)} {e:Rho→Option (α × List D)} {put:D→α→Option D}
inductive Turn1 (c:Rho→Option (Bool × List D)) (e:Rho→Option (α × List D)) (put:D→α→Option D) (r:Rho) (ac:D):D→List D→Prop
 | yes {x:α} {ac':D} {l1 l2:List D} (h1:c r=some (true,l1)) (h2:e r=some (x,l2)) (h3:put ac x=some ac'):Turn1 c e put r ac ac' (l1++l2)
 | no {l1:List D} (h1:c r=some (false,l1)):Turn1 c e put r ac ac l1
inductive TurnsI (t:Tg) (c:Rho→Option (Bool × List D)) (e:Rho→Option (α × List D)) (put:D→α→Option D) (d:D) (ds:List D) (r:Rho) (l:List D) (ac zd:D):Prop
 | mk {r':Rho} {ac':D} {l1 l2:List D} {xs:List α} (h0:asgT t d r=some r') (h1:Turn1 c e put r' ac ac' l1) (h2:turns t c e ds r'=some (xs,l2)) (h3:puts put ac' xs=some zd) (h4:l1++l2=l)
theorem turns_y {d:D} {ds:List D} {r r':Rho} {xs:List α} {l l1:List D} {ac zd:D} (h1:asgT t d r=some r') (h2:c r'=some (true,l1)) (hz:puts put ac xs=some zd) (h:((e r').bind fun p=>(turns t c e ds r').bind fun q=>some (p.1::q.1,l1++(p.2++q.2)))=some (xs,l)):TurnsI t c e put d ds r l ac zd:=by
 obtain ⟨x,l2,h3,h⟩:=bo h
 obtain ⟨ys,l3,h4,h⟩:=bo h
 obtain ⟨rfl,rfl⟩:=sp h
 obtain ⟨ac',h5,hz⟩:=b1o hz
 exact ⟨h1,.yes h2 h3 h5,h4,hz,List.append_assoc ..⟩
theorem turns_n {d:D} {ds:List D} {r r':Rho} {xs:List α} {l l1:List D} {ac zd:D} (h1:asgT t d r=some r') (h2:c r'=some (false,l1)) (hz:puts put ac xs=some zd) (h:((turns t c e ds r').bind fun q=>some (q.1,l1++q.2))=some (xs,l)):TurnsI t c e put d ds r l ac zd:=by
 obtain ⟨ys,l3,h4,h⟩:=bo h
 obtain ⟨rfl,rfl⟩:=sp h
 exact ⟨h1,.no h2,h4,hz,rfl⟩
theorem turns_i {d:D} {ds:List D} {r:Rho} {xs:List α} {l:List D} {ac zd:D} (h:turns t c e (d::ds) r=some (xs,l)) (hz:puts put ac xs=some zd):TurnsI t c e put d ds r l ac zd:=by
 obtain ⟨r',h1,h⟩:=b1o h
 obtain ⟨b,l1,h2,h⟩:=bo (x:=c r') h
 cases b with
 | true=>exact turns_y h1 h2 hz h
 | false=>exact turns_n h1 h2 hz h
theorem turns_0 {r:Rho} {xs:List α} {l:List D} {ac zd:D} (h:turns t c e [] r=some (xs,l)) (hz:puts put ac xs=some zd):ac=zd∧[]=l:=by
 obtain ⟨rfl,rfl⟩:=sp h
 exact ⟨Option.some.inj hz,rfl⟩
end
theorem puts_l:∀ {xs a:List D},a.length+xs.length≤65536→puts lput (.lst a) xs=some (.lst (a++xs)):=by
 intro xs
 induction xs with
 | nil=>intro a _; rw [List.append_nil]; rfl
 | cons x xs ih =>
  intro a h
  rw [List.length_cons,Nat.add_succ,← Nat.succ_add] at h
  have e:=ih (a:=a++[x]) (by rw [List.length_append]; exact h)
  rw [List.append_assoc] at e
  show ((if a.length < 65536 then some (D.lst (a++[x])) else none).bind fun d=>puts lput d xs)=_
  rw [if_pos (Nat.lt_of_lt_of_le (Nat.lt_of_lt_of_le (Nat.lt_succ_self _) (Nat.le_add_right _ _)) h)]
  exact e
noncomputable def BodyOk {α:Type} (C:Cx) (F:Frm) (a:Addr) (W:Addr→Prop) (IR:Rho→Prop) (c:Rho→Option (Bool × List D)) (e:Rho→Option (α × List D)) (put:D→α→Option D) (Body:(Shared→Prop)→Shared→Prop):Prop :=
 ∀ (g:G) (s:Shared) (r:Rho) (ac ac':D) (l l':List D) (Q:Shared→Prop),At C F r g s (l++l')→IR r→Acc C.w g s a ac→(∀ b,W b→g.X b)→Turn1 c e put r ac ac' l →
  (∀ g' s',SteP C.w C.K W g s g' s' l→Acc C.w g' s' a ac'→At C F r g' s' l'→Q s')→Body Q s
structure CJ {α:Type} (L:Lp) (F:Frm) (a:Addr) (IR:Rho→Prop) (t:Tg) (c:Rho→Option (Bool × List D)) (e:Rho→Option (α × List D)) (put:D→α→Option D) (zd:D) (l:List D) (i:Nat) (r:Rho) (ac:D) (g:G) (s:Shared) (l₁ l₂:List D) (xs:List α):Prop where
 le:i≤L.ds.length
 at_:L.At i g s l₁
 H:At L.C F r g s l₂
 ir:IR r
 acc:Acc L.C.w g s a ac
 tn:turns t c e (L.ds.drop i) r=some (xs,l₂)
 pt:puts put ac xs=some zd
 log:l₁++l₂=l
noncomputable def JJ {α:Type} (L:Lp) (F:Frm) (a:Addr) (IR:Rho→Prop) (t:Tg) (c:Rho→Option (Bool × List D)) (e:Rho→Option (α × List D)) (put:D→α→Option D) (zd:D) (l:List D) (k:Nat) (s:Shared):Prop :=
 ∃ i r ac g l₁ l₂ xs,L.ds.length - i=k∧CJ L F a IR t c e put zd l i r ac g s l₁ l₂ xs
section
variable {α:Type} {L:Lp} {F:Frm} {a:Addr} {IR:Rho→Prop} {t:Tg} {c:Rho→Option (Bool × List D)} {e:Rho→Option (α × List D)} {put:D→α→Option D} {zd:D} {l:List D} {sc:Sc} {Body:(Shared→Prop)→Shared→Prop}
 (O:L.Ok) (hh:L.A.handled=none) (hc:ScOk sc F) (hm:mtTg sc t L.tg=true) (ht:L.tup=true→∃ l,t=.tup l) (hF:∀ b,F.wr b→L.W b) (hpw:∀ b ∈ F.priv,b ∉ L.wr) (haw:a ∉ L.wr) (hap:a ∉ F.priv) (hir:∀ d r r',IR r→asgT t d r=some r'→IR r')
include O hh hc hm ht hF hpw haw hap hir
theorem cj_step {i:Nat} {r:Rho} {ac:D} {g:G} {s:Shared} {l₁ l₂:List D} {xs:List α} {K:Value→Shared→Prop} {E:Value→Shared→Prop} {Q:Option Value→Shared→Prop} (hb:BodyOk L.C F a L.W IR c e put Body) (J:CJ L F a IR t c e put zd l i r ac g s l₁ l₂ xs) (hi:i < L.ds.length)
  (hK:∀ v s',(∀ Q',(∀ s₃,Body (fun s₅=>∃ m,m < L.ds.length - i∧JJ L F a IR t c e put zd l m s₅) s₃→Q' s₃)→wpAny (model pw L.C.w) L.A (assign L.tg F.env v) (fun _=>Q') E s')→K v s')
  (hQ:∀ v s',wpAny (model pw L.C.w) L.A (letOwnedTupleGo L.tg (.ref L.I) v) (fun _ s''=>K v s'') E s'→Q (some v) s'):wpAny (model pw L.C.w) L.A (pyNext (.ref L.I)) Q E s:=by
 have tn:=J.tn
 rw [List.drop_eq_getElem_cons hi] at tn
 obtain ⟨ha,h1,h2,h3,hl⟩:=turns_i tn J.pt
 have H:=J.H
 rw [← hl] at H
 refine O.next hQ J.at_ hi H hpw fun v s₂ S₂ At₂ H₂ hv=>hK v s₂ fun Q' hQ'=>?_
 refine asgT_sound hh hc t L.tg g s₂ E r _ v _ _ _ hm H₂ (hv.tg ht ha) ha fun s₃ S₃ H₃=>hQ' s₃ ?_
 have WX:∀ b,L.W b→g.X b:=fun b hb=>O.PX J.at_ b (.inr hb)
 have ne:a ∉ L.wr:=haw
 have c₃:=(J.acc.step J.H.inv S₂ (O.wrX J.at_) haw).step H₂.inv S₃ (fun b hb=>WX b (hF b hb)) fun q=>hap (F.wr_priv q)
 have At₃:=O.step At₂ S₃ fun b hb=>.inl (hF b hb)
 refine hb g s₃ _ ac _ _ _ _ H₃ (hir _ _ _ J.ir ha) c₃ WX h1 fun g₄ s₄ S₄ c₄ H₄=>?_
 have At₄:=O.step At₃ S₄ fun b hb=>.inl hb
 rw [List.append_nil] at At₄
 exact ⟨_,Nat.sub_succ_lt_self _ _ hi,i+1,_,_,g₄,_,_,_,rfl,hi,At₄,H₄,hir _ _ _ J.ir ha,c₄,h2,h3,by rw [List.append_assoc,hl,J.log]⟩
theorem cj_next {k:Nat} {s:Shared} {K:Value→Shared→Prop} {E:Value→Shared→Prop} {Q:Option Value→Shared→Prop} {P:Addr→Prop} {g₀:G} {s₀:Shared} {l₀:List D} (hb:BodyOk L.C F a L.W IR c e put Body) (J:JJ L F a IR t c e put zd l k s)
  (S₀:SteP L.C.w L.C.K P g₀ s₀ L.g L.s l₀) (hz:L.z=s₀.heap.objs.size) (hW:∀ b,L.W b→P b ∨ s₀.heap.objs.size≤b)
  (hK:∀ v s',(∀ Q',(∀ s₃,Body (fun s₅=>∃ m,m < k∧JJ L F a IR t c e put zd l m s₅) s₃→Q' s₃)→wpAny (model pw L.C.w) L.A (assign L.tg F.env v) (fun _=>Q') E s')→K v s')
  (hQ:∀ v s',wpAny (model pw L.C.w) L.A (letOwnedTupleGo L.tg (.ref L.I) v) (fun _ s''=>K v s'') E s'→Q (some v) s')
  (hN:∀ r g' s',SteP L.C.w L.C.K P g₀ s₀ g' s' (l₀++l)→IR r→At L.C F r g' s' []→Acc L.C.w g' s' a zd→Q none s'):wpAny (model pw L.C.w) L.A (pyNext (.ref L.I)) Q E s:=by
 obtain ⟨i,r,ac,g,l₁,l₂,xs,rfl,J⟩:=J
 rcases Nat.lt_or_ge i L.ds.length with hi | hi
 ·exact cj_step O hh hc hm ht hF hpw haw hap hir hb J hi hK hQ
 ·have hi:=Nat.le_antisymm J.le hi
  subst hi
  have tn:=J.tn
  rw [List.drop_length] at tn
  obtain ⟨rfl,rfl⟩:=turns_0 tn J.pt
  have lg:=J.log
  rw [List.append_nil] at lg
  subst lg
  exact O.last J.at_ J.H.good S₀ hz hW fun g' s' S X=>hN r g' s' S J.ir (X.at_ J.H hpw) (X.acc J.acc haw)
end
theorem cj_start {α:Type} {L:Lp} {F:Frm} {a:Addr} {IR:Rho→Prop} {t:Tg} {c:Rho→Option (Bool × List D)} {e:Rho→Option (α × List D)} {put:D→α→Option D} {ac zd:D} {l:List D} {r:Rho} {xs:List α} (O:L.Ok) (H:At L.C F r L.g L.s l) (ir:IR r) (acc:Acc L.C.w L.g L.s a ac)
  (tn:turns t c e L.ds r=some (xs,l)) (pt:puts put ac xs=some zd):JJ L F a IR t c e put zd l L.ds.length L.s:=⟨0,r,ac,L.g,[],l,xs,rfl,Nat.zero_le _,O.start,H,ir,acc,tn,pt,rfl⟩
noncomputable def TurnF (it:Value) (tg:Expr) (env:Env) (body:Sem PySem.Fin):Sem PySem.Fin:=pyNext it >>= fun r=>match r with
 | none=>pure (.done .next)
 | some v=>letOwnedTupleGo tg it v >>= fun _=>assign tg env v >>= fun _=>body
theorem loop_turns {prog:Program} {w:World} {A:Around} {R:Result→Shared→Prop} {e tg:Expr} {d:Nat} {it acc:Value} {env:Env} {body:Sem PySem.Fin} {p:Pos} (hu:A.under (.compLoop e d it acc env)=A) (hn:(model prog w).den (.compLoop e d it acc env)=(compTurn e d it acc env).onRaise (fun x=>do noteFrame x env; theTreesLotGoes x)) (hd:compTurn e d it acc env=standAt p >>= fun _=>TurnF it tg env body) (J:Nat→Shared→Prop)
  (turn:∀ n s,J n s→∀ Q:Option Value→Shared→Prop,(∀ v s',wpAny (model prog w) A (letOwnedTupleGo tg it v) (fun _ s''=>wpAny (model prog w) A (assign tg env v >>= fun _=>body) (fun fin s₃=>fin=.again (.compLoop e d it acc env)∧∃ m,m < n∧J m s₃) (notedBy (model prog w) A env fun e s'=>R (.error e) s') s'') (notedBy (model prog w) A env fun e s'=>R (.error e) s') s'→Q (some v) s') →
   (∀ s',R (.ok .next) s'→Q none s')→wpAny (model prog w) A (pyNext it) Q (notedBy (model prog w) A env fun e s'=>R (.error e) s') s)
  (n:Nat) (s:Shared) (h:J n s):codeAny (model prog w) A (.compLoop e d it acc env) R s:=by
 refine codeAny_loop rfl J (fun n s hI=>?_) n h
 rw [hu,hn]
 refine wpAny_noted ?_
 rw [hd]
 exact wpAny_bind (wpAny_standAt (wpAny_bind (turn n s hI _ (fun v s' h=>wpAny_bind (wpAny_mono h (fun _ s₂ h₂=>wpAny_mono h₂ (fun fin s₃ q=>by obtain ⟨rfl,q⟩:=q; exact ⟨rfl,q⟩) fun _ _ x=>x) fun _ _ x=>x)) fun s' h=>wpAny_pure h)))
end
section
noncomputable def closL (cells:List (Str × Addr)) (names:List (Str × NameKind)):List (Str × Addr):=(names.filter (·.2 == .free)).reverse.map fun x=>(x.1,(cells.lookup x.1).getD 0)
section
variable {cells:List (Str × Addr)} {names:List (Str × NameKind)}
theorem closL_cons (n:Str) (k:NameKind):closL cells ((n,k)::names)=closL cells names++if (k == .free)=true then [(n,(cells.lookup n).getD 0)] else []:=by
 unfold closL
 rw [List.filter_cons]
 by_cases h:(k == .free)=true
 ·rw [if_pos h,if_pos h,List.reverse_cons,List.map_append]; rfl
 ·rw [if_neg h,if_neg h,List.append_nil]
theorem closure_eq {scope:Scope} {env:Env} (h:∀ x ∈ scope.names,x.2=.free→(env.cells.lookup x.1).isSome=true):closureFor scope env=pure (closL env.cells scope.names):=by
 unfold closureFor
 have key:∀ (names:List (Str × NameKind)) (acc:List (Str × Addr)),(∀ x ∈ names,x.2=.free→(env.cells.lookup x.1).isSome=true) →
   (forIn names acc (fun x cs=>(match x with
    | (name,kind)=>if (kind == NameKind.free)=true then do let a ← cellOf env name; pure (ForInStep.yield ((name,a)::cs)) else pure (ForInStep.yield cs):Sem (ForInStep (List (Str × Addr))))):Sem _)=pure (closL env.cells names++acc):=by
  intro names
  induction names with
  | nil=>intro acc _; rfl
  | cons x names ih =>
   intro acc hh
   obtain ⟨n,k⟩:=x
   have ih:=fun acc=>ih acc fun x hx=>hh x (List.mem_cons_of_mem _ hx)
   rw [List.forIn_cons,closL_cons]
   dsimp only
   by_cases hk:(k == .free)=true
   ·obtain ⟨a,ha⟩:=Option.isSome_iff_exists.mp (hh (n,k) List.mem_cons_self (eq_of_beq hk))
    rw [if_pos hk,if_pos hk,show cellOf env n=pure a by unfold cellOf; rw [ha],ha,List.append_assoc]
    exact ih ((n,a)::acc)
   ·rw [if_neg hk,if_neg hk,List.append_nil]
    exact ih acc
 exact (congrArg (fun m=>m >>= fun r=>(pure r:Sem (List (Str × Addr)))) (key scope.names [] h)).trans (by rw [List.append_nil]; rfl)
theorem closL_mem {x:Str} {a:Addr} (hs:∀ x ∈ names,x.2=.free→(cells.lookup x.1).isSome=true) (h:(x,a) ∈ closL cells names):cells.lookup x=some a:=by
 obtain ⟨⟨n,k⟩,hm,e⟩:=List.mem_map.mp h
 obtain ⟨rfl,rfl⟩:=Prod.mk.inj e
 obtain ⟨hm,hk⟩:=List.mem_filter.mp (List.mem_reverse.mp hm)
 obtain ⟨b,hb⟩:=Option.isSome_iff_exists.mp (hs _ hm (eq_of_beq hk))
 rw [hb]; rfl
theorem look_has {α:Type} {l:List (Str × α)} {x:Str} {a:α} (h:(x,a) ∈ l):∃ b,l.lookup x=some b∧(x,b) ∈ l:=by
 induction l with
 | nil=>cases h
 | cons p l ih =>
  obtain ⟨y,c⟩:=p
  rw [List.lookup_cons]
  cases e:x == y with
  | true=>exact ⟨c,rfl,eq_of_beq e ▸ List.mem_cons_self⟩
  | false=>exact (ih ((List.mem_cons.mp h).resolve_left fun q=>by cases q; rw [beq_self_eq_true] at e; cases e)).imp fun b q=>⟨q.1,List.mem_cons_of_mem _ q.2⟩
theorem closL_has {x:Str} (hs:∀ x ∈ names,x.2=.free→(cells.lookup x.1).isSome=true) (h:(x,NameKind.free) ∈ names):∃ a,(closL cells names).lookup x=some a∧cells.lookup x=some a :=
 have m:(x,(cells.lookup x).getD 0) ∈ closL cells names:=List.mem_map.mpr ⟨(x,.free),List.mem_reverse.mpr (List.mem_filter.mpr ⟨h,rfl⟩),rfl⟩
 (look_has m).imp fun _ q=>⟨q.1,closL_mem hs q.2⟩
theorem closL_vals (hn:(cells.map (·.2)).Nodup) (hs:∀ x ∈ names,x.2=.free→(cells.lookup x.1).isSome=true) (h5:((names.filter (·.2 == .free)).map (·.1)).Nodup):((closL cells names).map (·.2)).Nodup∧∀ a,a ∈ (closL cells names).map (·.2)→a ∈ cells.map (·.2):=by
 have key:∀ l:List (Str × Addr),(∀ x a,(x,a) ∈ l→cells.lookup x=some a)→(l.map (·.1)).Nodup→(l.map (·.2)).Nodup:=fun l=>by
  induction l with
  | nil=>exact fun _ _=>.nil
  | cons p l ih =>
   intro h1 h2
   obtain ⟨n1,n2⟩:=List.nodup_cons.mp h2
   refine List.nodup_cons.mpr ⟨fun hm=>?_,ih (fun y b hb=>h1 y b (List.mem_cons_of_mem _ hb)) n2⟩
   obtain ⟨⟨y,b⟩,hb,e⟩:=List.mem_map.mp hm
   have e:b=p.2:=e
   have:=lookup_inj hn (h1 p.1 p.2 List.mem_cons_self) (e ▸ h1 y b (List.mem_cons_of_mem _ hb))
   exact n1 (List.mem_map.mpr ⟨(y,b),hb,this.symm⟩)
 refine ⟨key _ (fun x a h=>closL_mem hs h) ?_,fun a ha=>?_⟩
 ·unfold closL
  rw [List.map_map,List.map_reverse]
  exact (List.reverse_perm _).nodup_iff.mpr h5
 ·obtain ⟨⟨x,b⟩,hb,rfl⟩:=List.mem_map.mp ha
  exact lookup_mem (closL_mem hs hb)
end
noncomputable def Sc.comp (c:Sc) (sc:Scope) (fs tgs:List Nat):Sc where
 T:=c.T
 kd:=fun x=>if sc.names.lookup x == some .local || sc.names.lookup x == some .globalImplicit then sc.names.lookup x else none
 V:=fs++tgs
noncomputable def distinct (T:List Str) (V:List Nat):Bool:=V.all fun n=>V.all fun m=>n == m || T[n]? != T[m]?
structure ScIs (c:Sc) (sc:Scope) (fs tgs:List Nat):Prop where
 k:sc.kind=.function
 nc:∀ x ∈ sc.names,x.2 ≠ .cell
 lo:∀ x ∈ sc.names,x.2=.local→sc.names.lookup x.1=some .local
 fr:∀ x ∈ sc.names,x.2=.free→c.kd x.1=some .cell
 nd:((sc.names.filter (·.2 == .free)).map (·.1)).Nodup
 ff:∀ n ∈ fs,∃ x,c.T[n]?=some x∧sc.names.lookup x=some .free∧(x,.free) ∈ sc.names
 di:distinct c.T (fs++tgs)=true
noncomputable def mtSc (c:Sc) (sc:Scope) (fs tgs:List Nat):Bool :=
 (sc.kind == .function)&&((sc.names.all fun x=>x.2 != .cell)&&((sc.names.all fun x=>x.2 != .local || sc.names.lookup x.1 == some .local) &&
 ((sc.names.all fun x=>x.2 != .free || c.kd x.1 == some .cell)&&(decide ((sc.names.filter (·.2 == .free)).map (·.1)).Nodup &&
 ((fs.all fun n=>(c.T[n]?).elim false fun x=>sc.names.lookup x == some .free&&sc.names.contains (x,.free))&&distinct c.T (fs++tgs))))))
theorem imp_b {α:Type} [BEq α] [LawfulBEq α] {a b:α} {q:Bool} (h:(a != b || q)=true) (e:a=b):q=true:=by
 subst e
 rwa [bne_self_eq_false,Bool.false_or] at h
theorem mtSc_iff {c:Sc} {sc:Scope} {fs tgs:List Nat} (h:mtSc c sc fs tgs=true):ScIs c sc fs tgs:=by
 obtain ⟨h1,h⟩:=ba h
 obtain ⟨h2,h⟩:=ba h
 obtain ⟨h3,h⟩:=ba h
 obtain ⟨h4,h⟩:=ba h
 obtain ⟨h5,h⟩:=ba h
 obtain ⟨h6,h7⟩:=ba h
 refine ⟨eq_of_beq h1,fun x hx=>bne_iff_ne.mp (List.all_eq_true.mp h2 x hx),fun x hx hl=>eq_of_beq (imp_b (List.all_eq_true.mp h3 x hx) hl),fun x hx hl=>eq_of_beq (imp_b (List.all_eq_true.mp h4 x hx) hl),of_decide_eq_true h5,fun n hn=>?_,h7⟩
 have h:=List.all_eq_true.mp h6 n hn
 cases e:c.T[n]? with
 | none=>rw [e] at h; cases h
 | some x=>rw [e] at h; exact ⟨x,rfl,eq_of_beq (ba h).1,List.contains_iff_mem.mp (ba h).2⟩
theorem distinct_inj {T:List Str} {V:List Nat} (h:distinct T V=true) (n m:Nat) (x:Str) (hn:n ∈ V) (hm:m ∈ V) (e1:T[n]?=some x) (e2:T[m]?=some x):n=m:=by
 have:=List.all_eq_true.mp (List.all_eq_true.mp h n hn) m hm
 rw [e1,e2,bne_self_eq_false,Bool.or_false] at this
 exact eq_of_beq this
end
section
theorem lookup_map {κ:Type} (f:Str→κ→κ) (x:Str) {l:List (Str × κ)}:(l.map fun p=>(p.1,f p.1 p.2)).lookup x=(l.lookup x).map (f x):=by
 induction l with
 | nil=>rfl
 | cons p l ih =>
  rw [List.map_cons,List.lookup_cons,List.lookup_cons,ih]
  cases e:x == p.1 with
  | true=>exact congrArg (fun y=>some (f y p.2)) (eq_of_beq e).symm
  | false=>rfl
theorem relabel_lookup {env:Env} (sc:Scope) (x:Str):(relabel sc env).names.lookup x=(sc.names.lookup x).map fun k=>if (k == NameKind.free&&env.scope.kind == .function&&env.kindOf x == some .cell)=true then NameKind.cell else k:=by
 refine Eq.trans (congrArg (List.lookup x) (congrArg (fun g=>sc.names.map g) (funext fun p=>?_))) (lookup_map (fun x k=>if (k == NameKind.free&&env.scope.kind == .function&&env.kindOf x == some .cell)=true then NameKind.cell else k) x)
 dsimp only
 split <;> rfl
section
variable {C:Cx} {A:Around} {F:Frm} {c:Sc} {g:G} {s:Shared} {r:Rho} {sc:Scope} {fs tgs:List Nat}
noncomputable def Frm.comp (F:Frm) (c:Sc) (sc:Scope) (fs tgs:List Nat) (L:Addr):Frm where
 env:=compEnvC sc (closL F.env.cells sc.names) L F.env
 T:=c.T
 V:=fs++tgs
 own:=F.own
 top:=false
theorem comp_kd {x:Str} {k:NameKind} (h:(c.comp sc fs tgs).kd x=some k):sc.names.lookup x=some k∧(k=.local ∨ k=.globalImplicit):=by
 have h:(if sc.names.lookup x == some .local || sc.names.lookup x == some .globalImplicit then sc.names.lookup x else none)=some k:=h
 obtain ⟨h1,h2⟩:=if_s h
 rw [h2] at h1
 exact ⟨h2,(Bool.or_eq_true_iff.mp h1).imp (fun h=>Option.some.inj (eq_of_beq h)) fun h=>Option.some.inj (eq_of_beq h)⟩
theorem comp_scOk (L:Addr):ScOk (c.comp sc fs tgs) (F.comp c sc fs tgs L) where
 T:=rfl
 V:=rfl
 loc:=fun x hx=>(relabel_lookup sc x).trans (by rw [(comp_kd hx).1]; rfl)
 glob:=fun x hx=>(relabel_lookup sc x).trans (by rw [(comp_kd hx).1]; rfl)
 cell:=fun x hx=>(comp_kd hx).2.elim (fun h=>nomatch h) fun h=>nomatch h
theorem Bnd.re {w:World} {h:Heap} {F F':Frm} {n:Nat} {b:B} (hV:n ∈ F'.V) (hT:F'.T=F.T) (ho:F'.own=F.own) (vis:∀ x v,F.T[n]?=some x→VarAt F.env h x v→VarAt F'.env h x v) (x:Bnd w g h F n b):Bnd w g h F' n b:=by
 cases b with
 | val d=>exact ⟨hV,x.2.imp fun y z=>z.imp fun v z=>⟨hT ▸ z.1,vis y v z.1 z.2.1,z.2.2⟩⟩
 | own d=>exact ⟨hV,x.2.imp fun y z=>z.imp fun a z=>⟨hT ▸ z.1,ho ▸ z.2.1,vis y _ z.1 z.2.2.1,z.2.2.2⟩⟩
 | free=>exact (congrArg (List.lookup n) ho).trans x
section
variable (hc:ScOk c F) (hm:ScIs c sc fs tgs)
include hc hm
theorem comp_some (x:Str × NameKind) (hx:x ∈ sc.names) (hf:x.2=.free):(F.env.cells.lookup x.1).isSome=true:=(hc.cell x.1 (hm.fr x hx hf)).2.2
theorem comp_vis (hk:F.env.scope.kind=.function) {h:Heap} {L:Addr} {n:Nat} {x:Str} {v:Value} (hn:n ∈ fs) (hx:F.T[n]?=some x) (hv:VarAt F.env h x v):VarAt (F.comp c sc fs tgs L).env h x v:=by
 obtain ⟨y,hy,l1,l2⟩:=hm.ff n hn
 rw [← hc.T] at hy
 have:=Option.some.inj (hx.symm.trans hy)
 subst this
 have hcell:=(hc.cell x (hm.fr (x,.free) l2 rfl)).1
 obtain ⟨a,ha,ha'⟩:=closL_has (comp_some hc hm) l2
 refine .inr ⟨.inl ((relabel_lookup sc x).trans ?_),a,ha,?_⟩
 ·rw [l1,hk,hcell]; rfl
 ·rcases hv with ⟨k1,_⟩ | ⟨_,a',k2,k3⟩
  ·exact nomatch hcell.symm.trans k1
  ·exact Option.some.inj (k2.symm.trans ha') ▸ k3
theorem comp_priv (hn:F.priv.Nodup) {L:Addr} {a:Addr} (ha:a ∈ (F.comp c sc fs tgs L).priv):a=L ∨ a ∈ F.priv :=
 (List.mem_cons.mp ha).imp id fun h=>(List.mem_append.mp h).elim (fun h=>List.mem_cons_of_mem _ (List.mem_append_left _ ((closL_vals (List.nodup_append.mp (List.nodup_cons.mp hn).2).1 (comp_some hc hm) hm.nd).2 a h))) Frm.own_mem
theorem comp_env (ev:EnvOk C.w g s.heap F r) {g':G} {h':Heap} {L:Addr} (hL:s.heap.objs.size≤L) (I:Inv C.w C.K g s) (Le':Le g s.heap g' h') (hk:∀ b ∈ F.priv,∀ o,s.heap.get? b=some o→h'.get? b=some o)
  (hX:∀ b ∈ F.priv,g'.X b) (hLX:g'.X L) (hLn:g'.na ≠ some L) (hns:∃ m,h'.Ns L m):EnvOk C.w g' h' (F.comp c sc fs tgs L) (mask fs r):=by
 obtain ⟨nd1,nd2⟩:=List.nodup_cons.mp ev.nodup
 obtain ⟨ndc,ndo,ndx⟩:=List.nodup_append.mp nd2
 obtain ⟨clv,clm⟩:=closL_vals ndc (comp_some hc hm) hm.nd
 have ev':=ev.le Le' hk hX
 have ne:∀ b ∈ F.priv,b ≠ L:=fun b hb q=>Nat.lt_irrefl _ (Nat.lt_of_lt_of_le (ev.live I hb) (q ▸ hL))
 refine ⟨hm.k,ev.glob,hns,fun a ha=>ev'.cel a (clm a ha),List.nodup_cons.mpr ⟨fun q=>?_,List.nodup_append.mpr ⟨clv,ndo,fun a ha b hb=>ndx a (clm a ha) b hb⟩⟩,fun a ha=>?_,distinct_inj hm.di,fun n b e=>?_⟩
 ·exact (List.mem_append.mp q).elim (fun q=>ne L (ev.cells_mem (clm L q)) rfl) fun q=>ne L (Frm.own_mem q) rfl
 ·exact (comp_priv hc hm ev.nodup ha).elim (fun q=>q ▸ ⟨hLX,hLn⟩) (ev'.px a)
 ·obtain ⟨m1,m2⟩:=mask_get e
  have hn:n ∈ fs:=List.contains_iff_mem.mp m1
  exact (ev'.bnd n b m2).re (List.mem_append_left _ hn) hc.T.symm rfl fun x v hx hv=>comp_vis hc hm ev.kind hn hx hv
end
end
end
section
structure CompFin (C:Cx) (g:G) (s:Shared) (zd:D) (l:List D) (g':G) (s':Shared) (a C₀:Addr):Prop where
 S:Ste C.w C.K g s g' s' l
 la:s.heap.objs.size≤a
 acc:Acc C.w g' s' a zd
 lC:s.heap.objs.size≤C₀
 ne:C₀ ≠ a
 cX:g'.X C₀
 cN:g'.na ≠ some C₀
 ns:∃ m,s'.heap.Ns C₀ m
noncomputable def CompOk (C:Cx) (A:Around) (F:Frm) (r:Rho) (m:Option (Value→Sem Unit)→Sem Value) (zd:D) (l:List D):Prop :=
 ∀ (g:G) (s:Shared) (E:Value→Shared→Prop) (use:Option (Value→Sem Unit)) (Q:Value→Shared→Prop),At C F r g s l →
  (∀ g' s' a C₀,CompFin C g s zd l g' s' a C₀→compPost (model pw C.w) A E use Q (.ref a) C₀ (.ok .next) s')→wpAny (model pw C.w) A (m use) Q E s
structure CompIn (L:Lp) (F:Frm) (r:Rho) (a:Addr) (ac:D) (g:G) (s:Shared) (l l':List D):Prop where
 O:L.Ok
 S:Ste L.C.w L.C.K g s L.g L.s l
 H:At L.C F r L.g L.s l'
 acc:Acc L.C.w L.g L.s a ac
 haw:a ∉ L.wr
 hpw:∀ b ∈ F.priv,b ∉ L.wr
 hap:a ∉ F.priv
 la:s.heap.objs.size≤a
 lC:s.heap.objs.size≤F.env.locals
 hz:L.z=s.heap.objs.size
 tp:F.top=false
 W:L.W=fun b=>b=a ∨ b=F.env.locals
section
variable {C:Cx} {A:Around} {F:Frm} {c:Sc} {g g':G} {s s':Shared} {r:Rho} {l l':List D} {E:Value→Shared→Prop}
theorem At.stp {P:Addr→Prop} (H:At C F r g s (l++l')) (S:SteP C.w C.K P g s g' s' l) (hX:∀ b,P b→g.X b) (hP:∀ b,P b→b ∉ F.priv):At C F r g' s' l' :=
 ⟨H.good.ste S,H.ev.le (SteP.le H.inv S hX) (fun b hb o e=>S.keep b o (fun q=>hP b q hb) (H.ev.px b hb).2 e) fun b hb=>(S.X b (H.ev.live H.inv hb)).mpr (H.ev.px b hb).1,S.log ▸ lg_r H.lg⟩
theorem sameX {g:G} {s:Shared} {K:Frag} {w:World} {a:Addr} (I:Inv w K g s) {d d':D} (c:Acc w g s a d) {h':Heap} (hv:∃ o,h'.get? a=some o) (hs:Heap.SameBut a s.heap h') {tk:Nat} (ht:s.toks≤tk) (hr:OwnRep w g h' a d') :
  SteP w K (fun b=>b=a) g s g { s with heap:=h',toks:=tk } []∧Acc w g { s with heap:=h',toks:=tk } a d':=⟨ste_same (P:=fun b=>b=a) I rfl c.X c.na hv hs ht,c.X,c.na,hr⟩
theorem lput_i {d x d':D} (h:lput d x=some d'):∃ ds,d=.lst ds∧ds.length < 65536∧.lst (ds++[x])=d':=by
 obtain ⟨ds,rfl,h⟩:=onL_i h
 obtain ⟨h1,h2⟩:=if_s h
 exact ⟨ds,rfl,h1,Option.some.inj h2⟩
theorem acc_append {a:Addr} {v:Value} {d d' x:D} {Q:Value→Shared→Prop} (I:Inv C.w C.K g s) (c:Acc C.w g s a d) (rv:Rep C.w g s.heap v x) (hp:lput d x=some d') (h:∀ s',SteP C.w C.K (fun b=>b=a) g s g s' []→Acc C.w g s' a d'→Q .none s') :
  wpAny (model pw C.w) A (call (.builtin "list.append") [.ref a,v]) Q E s:=by
 obtain ⟨ds,rfl,hn,rfl⟩:=lput_i hp
 obtain ⟨vs,ho,hz,hr⟩:=c.rep
 refine wpAny_list_append_plain ho (fun h' hp hs=>?_) (Nat.le_trans hz (by decide))
 have k:=sameX I c (PL.live hp) hs (Nat.le_refl s.toks) (d':=.lst (ds++[x])) ⟨_,hp,by rw [Array.size_push,size_eq hr]; exact hn,by rw [Array.toList_push]; exact (hr.append (.cons rv .nil)).le (le_same c.X hs)⟩
 exact h _ k.1 k.2
section
variable {sc:Scope} {fs tgs:List Nat}
theorem comp_setup {e iter tg:Expr} {ifs:List Expr} {gs:List Comprehension} {tup:Bool} {ds:List D} {pos:Pos} {newAcc:Sem Value} {o:Obj} {ac zd:D} {use:Option (Value→Sem Unit)} {Q:Value→Shared→Prop} (hc:ScOk c F) (hm:ScIs c sc fs tgs) (hit:IterOk C A F r iter tg tup true ds l)
  (hs:∀ x,foldedSetIterable iter F.env x=pure x) (hcl:clausesOf e=⟨tg,iter,ifs,0⟩::gs) (hf:o.isFreed=false) (hnew:∀ (Q E:Value→Shared→Prop) (s:Shared),Q (.ref s.heap.objs.size) { s with heap:=s.heap.push o }→wpAny (model pw C.w) A newAcc Q E s)
  (hrep:∀ (g:G) (H:Heap) (a:Addr),64≤a→H.get? a=some o→OwnRep C.w g H a ac) (H:At C F r g s (l++l')) (fin:∀ g' s' a C₀,CompFin C g s zd (l++l') g' s' a C₀→compPost (model pw C.w) A E use Q (.ref a) C₀ (.ok .next) s')
  (h:∀ (L:Lp) (a C₀:Addr) (R:Result→Shared→Prop),L.C=C→L.A=A→L.tg=tg→L.tup=tup→L.sf=true→L.ds=ds→CompIn L (F.comp c sc fs tgs C₀) (mask fs r) a ac g s l l'→(∀ g' s',CompFin C g s zd (l++l') g' s' a C₀→R (.ok .next) s') →
   codeAny (model pw C.w) A (.compStart e 0 (.ref L.I) (.ref a) (F.comp c sc fs tgs C₀).env) R L.s) :
  wpAny (model pw C.w) A (comprehension e sc F.env pos newAcc false (eval iter F.env) use) Q E s:=by
 refine wpAny_comprehension_free hcl hs (closure_eq (comp_some hc hm)) hm.k hm.lo (hit g s E _ H.a fun g₂ s₂ I fp wr P Md St S₂ T=>hnew _ _ _ (wpAny_newFunctionEnv hm.nc (fun y hy=>nomatch hy) (fun h₁ hns₁ hsb₁=>?_) hm.k))
 have S₃:=Ste.mutPush S₂.inv o (Nat.le_refl s₂.toks) hf
 have hD:(s₂.heap.push o).get? s₂.heap.objs.size=some o:=push_new hf
 have hlt:s₂.heap.objs.size < (s₂.heap.push o).objs.size:=Heap.lt_size hD
 have naC:g₂.na ≠ some (s₂.heap.push o).objs.size:=fun q=>Nat.lt_irrefl _ (Nat.lt_trans hlt (S₂.inv.xlt (S₂.inv.na _ q).1))
 generalize s₂.heap.push o=H₃ at *
 have S₄:=Ste.mutPush S₃.inv { cls:=.type (if (some F.env).isSome then "dict" else "frame"),data:=.dict #[] } (Nat.le_refl s₂.toks)
 have S₅:Ste C.w C.K g₂ s₂ ((g₂.mut s₂.heap.objs.size).mut H₃.objs.size) { s₂ with heap:=h₁ } []:=Ste.upd (S₃.trans S₄) (Nat.le_of_lt hlt) (.inl rfl) naC (ns_live hns₁) hsb₁ (Nat.le_refl s₂.toks)
 have xD:((g₂.mut s₂.heap.objs.size).mut H₃.objs.size).X s₂.heap.objs.size:=.inr (.inl rfl)
 have xC:((g₂.mut s₂.heap.objs.size).mut H₃.objs.size).X H₃.objs.size:=.inl rfl
 have hD₅:({ s₂ with heap:=h₁ }:Shared).heap.get? s₂.heap.objs.size=some o:=(hsb₁.2 _ (Nat.ne_of_lt hlt)).trans (Heap.get?_push_of_some _ hD)
 have hns:∃ m,({ s₂ with heap:=h₁ }:Shared).heap.Ns H₃.objs.size m:=⟨_,hns₁⟩
 show codeAny _ _ _ _ { s₂ with heap:=h₁ }
 generalize (g₂.mut s₂.heap.objs.size).mut H₃.objs.size=g₅ at *
 generalize ({ s₂ with heap:=h₁ }:Shared)=s₅ at *
 have SS:=Ste.trans0 S₂ S₅
 have T₅:=Turns.ste T S₂.inv S₅
 have lt:∀ b ∈ F.priv,b < s.heap.objs.size:=fun b hb=>H.ev.live H.inv hb
 have hwr2:∀ b ∈ wr,b < s₂.heap.objs.size:=fun b hb=>Heap.lt_size (T.lv 0 _ T.st b hb).choose_spec
 have pv:∀ b,b ∈ (F.comp c sc fs tgs H₃.objs.size).priv→b=H₃.objs.size ∨ b ∈ F.priv:=fun b=>comp_priv hc hm H.ev.nodup
 have fresh:∀ b,s₂.heap.objs.size≤b→b ∉ fp:=fun b hb q=>(T.hfp b q).elim (fun q=>Nat.lt_irrefl _ (Nat.lt_of_lt_of_le (hwr2 b q) hb)) fun q=>Nat.lt_irrefl _ (Nat.lt_of_lt_of_le (Heap.lt_size q.2.choose_spec) hb)
 have le₃:=Nat.le_trans S₂.size (Nat.le_of_lt hlt)
 exact h ⟨C,A,tg,tup,true,s.heap.objs.size,g₅,s₅,I,fp,wr,P,Md,St,ds,fun b=>b=s₂.heap.objs.size ∨ b=H₃.objs.size⟩ s₂.heap.objs.size H₃.objs.size _ rfl rfl rfl rfl rfl rfl
  ⟨⟨T₅,H.good.ste SS,fun b hb=>hb.elim (fun q=>q ▸ xD) fun q=>q ▸ xC,fun b hb q=>q.elim (fun q=>fresh b (Nat.le_of_eq q.symm) hb) fun q=>fresh b (Nat.le_trans (Nat.le_of_lt hlt) (Nat.le_of_eq q.symm)) hb⟩,SS,
   ⟨(H.b SS).good,comp_env hc hm H.ev le₃ H.inv (SteP.le0 H.inv SS) (fun b hb o e=>SS.keep b o (fun f=>f) (H.ev.px b hb).2 e) (fun b hb=>(SS.X b (lt b hb)).mpr (H.ev.px b hb).1) xC (S₅.na ▸ naC) hns,(H.b SS).lg⟩,
   ⟨xD,S₅.na ▸ S₂.inv.na_new,hrep _ _ _ S₂.inv.big hD₅⟩,fun q=>Nat.lt_irrefl _ (hwr2 _ q),fun b hb q=>(pv b hb).elim (fun e=>Nat.lt_irrefl _ (Nat.lt_trans (e ▸ hwr2 b q) hlt)) fun e=>Nat.lt_irrefl _ (Nat.lt_of_lt_of_le (lt b e) (T.hwr b q).1),
   fun q=>(pv _ q).elim (Nat.ne_of_lt hlt) fun e=>Nat.lt_irrefl _ (Nat.lt_of_lt_of_le (lt _ e) S₂.size),S₂.size,le₃,rfl,rfl,rfl⟩ fun g' s' f=>fin g' s' _ _ f
end
theorem comp_go {α:Type} {L:Lp} {a:Addr} {IR:Rho→Prop} {t:Tg} {cnd:Rho→Option (Bool × List D)} {ef:Rho→Option (α × List D)} {put:D→α→Option D} {ac zd:D} {xs:List α} {e:Expr} {body:Sem PySem.Fin} {p:Pos} {R:Result→Shared→Prop} (K:CompIn L F r a ac g s l l') (hh:L.A.handled=none) (hc:ScOk c F)
  (hm:mtTg c t L.tg=true) (ht:L.tup=true→∃ l,t=.tup l) (hir:∀ d r r',IR r→asgT t d r=some r'→IR r') (ir:IR r)
  (hu:L.A.under (.compLoop e 0 (.ref L.I) (.ref a) F.env)=L.A) (hn:(model pw L.C.w).den (.compLoop e 0 (.ref L.I) (.ref a) F.env)=(compTurn e 0 (.ref L.I) (.ref a) F.env).onRaise (fun x=>do noteFrame x F.env; theTreesLotGoes x))
  (hd:compTurn e 0 (.ref L.I) (.ref a) F.env=standAt p >>= fun _=>TurnF (.ref L.I) L.tg F.env body)
  (hb:∀ E':Value→Shared→Prop,BodyOk L.C F a L.W IR cnd ef put fun Q s₃=>wpAny (model pw L.C.w) L.A body (fun fin s'=>fin=.again (.compLoop e 0 (.ref L.I) (.ref a) F.env)∧Q s') E' s₃)
  (he:turns t cnd ef L.ds r=some (xs,l')) (hp:puts put ac xs=some zd) (hR:∀ g' s',CompFin L.C g s zd (l++l') g' s' a F.env.locals→R (.ok .next) s'):codeAny (model pw L.C.w) L.A (.compLoop e 0 (.ref L.I) (.ref a) F.env) R L.s:=by
 have hF:∀ b,F.wr b→L.W b:=fun b hb=>by
  unfold Frm.wr at hb
  rw [K.tp] at hb
  rw [K.W]
  exact .inr hb
 have hW:∀ b,L.W b→(fun _=>False) b ∨ s.heap.objs.size≤b:=fun b hb=>.inr (by rw [K.W] at hb; exact hb.elim (fun q=>q ▸ K.la) fun q=>q ▸ K.lC)
 exact loop_turns hu hn hd _ (fun n s₁ J Q hQ hN=>cj_next K.O hh hc hm ht hF K.hpw K.haw K.hap hir (hb _) J K.S K.hz hW (fun v s' h=>wpAny_bind (h _ fun s₃ q=>q)) hQ fun r' g' s' S _ H c =>
  have q:=H.ev.px _ List.mem_cons_self
  hN s' (hR g' s' ⟨S,K.la,c,K.lC,fun q=>K.hap (q ▸ List.mem_cons_self),q.1,q.2,H.ev.loc⟩)) _ _ (cj_start K.O K.H ir K.acc he hp)
noncomputable def ifsOf (ifs:List Expr) (env:Env):Sem Bool:=forIn ifs true fun c r=>if r=true then do let ok ← isTrue c env (eval c env); pure (ForInStep.yield ok) else pure (ForInStep.yield r)
noncomputable def appOf (elt:Expr) (acc:Value) (env:Env):Sem Unit:=do let _ ← call (.builtin "list.append") [acc,← eval elt env]
noncomputable def listBody (elt:Expr) (ifs:List Expr) (acc:Value) (env:Env) (code:Code):Sem PySem.Fin:=ifsOf ifs env >>= fun ok=>if ok then (appOf elt acc env >>= fun _=>again code) else again code
section
variable {a:Addr} {W:Addr→Prop} {cnd:Rho→Option (Bool × List D)} {ef:Rho→R1} {elt:Expr} {ifs:List Expr} {IR:Rho→Prop}
theorem app_ok {x ac ac':D} {l₁:List D} {Q:Unit→Shared→Prop} (H:At C F r g s (l₁++l')) (ca:Acc C.w g s a ac) (hap:a ∉ F.priv) (hx:EvOk C A F r (eval elt F.env) x l₁) (hp:lput ac x=some ac')
  (h:∀ g' s',SteP C.w C.K (fun b=>b=a) g s g' s' l₁→Acc C.w g' s' a ac'→At C F r g' s' l'→Q () s'):wpAny (model pw C.w) A (appOf elt (.ref a) F.env) Q E s :=
 wpAny_bind (hx g s E _ H.a fun g₁ s₁ v S₁ rv=>wpAny_bind (acc_append S₁.inv (ca.step H.inv S₁ (fun _=>False.elim) id) rv hp fun s₂ S₂ c₂ =>
  wpAny_pure (h g₁ s₂ (Ste.trans0 (Ste.of S₁) S₂) c₂ (At.stp (l:=[]) (H.b S₁) S₂ (fun b hb=>hb ▸ (S₁.X a (H.inv.xlt ca.X)).mpr ca.X) fun b hb=>hb ▸ hap))))
theorem list_body (hap:a ∉ F.priv) (ha:W a) (hcnd:∀ r b l,cnd r=some (b,l)→TestOk C A F r (ifsOf ifs F.env) b l) (helt:∀ r x l,ef r=some (x,l)→EvOk C A F r (eval elt F.env) x l) (code:Code) (E':Value→Shared→Prop) :
  BodyOk C F a W IR cnd ef lput fun Q s₃=>wpAny (model pw C.w) A (listBody elt ifs (.ref a) F.env code) (fun fin s'=>fin=.again code∧Q s') E' s₃:=by
 intro g s r ac ac' l l' Q H ir ca WX t h
 cases t with
 | no h1=>exact wpAny_bind (hcnd _ _ _ h1 g s _ _ H.a fun g₁ s₁ S₁=>wpAny_pure ⟨rfl,h g₁ s₁ (Ste.of S₁) (ca.step H.inv S₁ (fun _=>False.elim) id) (H.b S₁)⟩)
 | yes h1 h2 h3 =>
  rw [List.append_assoc] at H
  refine wpAny_bind (hcnd _ _ _ h1 g s _ _ H.a fun g₁ s₁ S₁=>wpAny_bind (app_ok (H.b S₁) (ca.step H.inv S₁ (fun _=>False.elim) id) hap (helt _ _ _ h2) h3 fun g₂ s₂ S₂ c₂ H₂=>wpAny_pure ⟨rfl,h g₂ s₂ ((Ste.of S₁).trans (S₂.mono fun b hb=>hb ▸ ha)) c₂ H₂⟩))
end
section
variable {sc:Scope} {fs tgs:List Nat}
noncomputable abbrev compOf (elt:Expr) (gs:List Comprehension) (sc:Scope) (cp:Pos) (env:Env):Option (Value→Sem Unit)→Sem Value:=fun use=>comprehension (.ListComp elt gs sc cp) sc env (firstIterPos gs cp) (newList []) (firstAsync gs) (firstIter gs env) use
theorem lst0 (g:G) (H:Heap) (a:Addr) (h:H.get? a=some { cls:=.type "list",dict:=none,data:=.seq ([]:List Value).toArray }):OwnRep C.w g H a (.lst []):=⟨#[],⟨0,h⟩,Nat.zero_le _,.nil⟩
theorem compOk1 {t:Tg} {tg elt iter:Expr} {tup:Bool} {ifs:List Expr} {pos:Pos} {cnd:Rho→Option (Bool × List D)} {ef:Rho→R1} {ds xs:List D} (hh:A.handled=none) (hc:ScOk c F) (hm:mtSc c sc fs tgs=true)
  (hmt:mtTg (c.comp sc fs tgs) t tg=true) (ht:tup=true→∃ l,t=.tup l) (hit:IterOk C A F r iter tg tup true ds l) (hs:∀ x,foldedSetIterable iter F.env x=pure x)
  (hcnd:∀ L r b l,cnd r=some (b,l)→TestOk C A (F.comp c sc fs tgs L) r (ifsOf ifs (F.comp c sc fs tgs L).env) b l)
  (helt:∀ L r x l,ef r=some (x,l)→EvOk C A (F.comp c sc fs tgs L) r (eval elt (F.comp c sc fs tgs L).env) x l)
  (he:turns t cnd ef ds (mask fs r)=some (xs,l')) (hz:xs.length≤65536):CompOk C A F r (compOf elt [⟨tg,iter,ifs,0⟩] sc pos F.env) (.lst xs) (l++l'):=fun g s E use Q H fin=>by
 refine comp_setup (o:={ cls:=.type "list",dict:=none,data:=.seq ([]:List Value).toArray }) hc (mtSc_iff hm) hit hs rfl rfl (fun Q E s h=>wpAny_newObj_type h) (fun g H a _ h=>lst0 g H a h) H fin fun L a C₀ R e1 e2 e3 e4 e5 e6 K hR=>?_
 subst e1 e2 e3 e4 e6
 have hl:=comp_go (IR:=fun _=>True) (t:=t) (cnd:=cnd) (ef:=ef) (put:=lput) (zd:=.lst xs) (e:=.ListComp elt [⟨L.tg,iter,ifs,0⟩] sc pos) (p:=iter.pos) (R:=R) K hh (comp_scOk C₀) hmt ht (fun _ _ _ h _=>h) trivial rfl rfl rfl (fun E'=>list_body K.hap (K.W ▸ .inl rfl) (hcnd _) (helt _) _ E') he (puts_l (a:=[]) (by rw [List.length_nil,Nat.zero_add]; exact hz)) hR
 exact codeAny_compStart_list hl (K.O.T.self e5 _ _ _ K.O.T.st hl)
end
end
end
section
section
variable {C:Cx} {A:Around} {F:Frm} {c:Sc} {g g':G} {s s':Shared} {r r':Rho} {l l':List D} {E:Value→Shared→Prop}
theorem let_names {P:Addr→Prop} {C₀:Addr} (S:SteP C.w C.K P g s g' s' l) (h1:s.heap.objs.size≤C₀) (h2:g'.X C₀) (h3:g'.na ≠ some C₀) {h':Heap} (hs:Heap.SameBut C₀ s'.heap h') :
  SteP C.w C.K P g s (g'.frzs [C₀]) { s' with heap:=h' } l∧Le g' s'.heap (g'.frzs [C₀]) h':=by
 have hk:∀ b o,b ∉ [C₀]→s'.heap.get? b=some o→h'.get? b=some o:=fun b o hb e=>(hs.2 b fun q=>hb (List.mem_singleton.mpr q)).trans e
 have m:∀ {p:Addr→Prop},p C₀→∀ b ∈ [C₀],p b:=fun h b hb=>List.mem_singleton.mp hb ▸ h
 exact ⟨SteP.lose S (m (p:=(s.heap.objs.size≤·)) h1) (m (p:=g'.X) h2) (m (p:=fun b=>g'.na ≠ some b) h3) hk (Nat.le_of_eq hs.1.symm) (Nat.le_refl _),⟨fun b o n e=>⟨fun x=>n x.2,hk b o (fun q=>n (m (p:=g'.X) h2 b q)) e⟩,fun _ _ e=>e,rfl,rfl⟩⟩
theorem CompOk.new {m:Option (Value→Sem Unit)→Sem Value} {zd:D} (x:CompOk C A F r m zd l):NewOk C A F r (m none) zd l:=fun g s E Q H h =>
 x g s E none Q H fun g' s' a C₀ f=>f.ns.imp fun m hm=>⟨hm,fun h' hs' =>
  have q:=let_names f.S f.lC f.cX f.cN hs'
  h _ _ a q.1 f.la ⟨fun q=>f.ne (List.mem_singleton.mp q).symm,f.acc.X⟩ f.acc.na (f.acc.rep.le q.2 fun o e=>(hs'.2 a f.ne.symm).trans e)⟩
structure FrmLe (s:Shared) (F F':Frm):Prop where
 env:F'.env=F.env
 T:F'.T=F.T
 V:F'.V=F.V
 top:F'.top=F.top
 own:∀ a,a ∈ F'.own.map (·.2)→a ∈ F.own.map (·.2) ∨ s.heap.objs.size≤a
theorem FrmLe.refl {s:Shared} {F:Frm}:FrmLe s F F:=⟨rfl,rfl,rfl,rfl,fun _ h=>.inl h⟩
theorem FrmLe.trans {F' F'':Frm} (a:FrmLe s F F') (b:FrmLe s' F' F'') (h:s.heap.objs.size≤s'.heap.objs.size):FrmLe s F F'' :=
 ⟨b.env.trans a.env,b.T.trans a.T,b.V.trans a.V,b.top.trans a.top,fun x hx=>(b.own x hx).elim (a.own x) fun q=>.inr (Nat.le_trans h q)⟩
theorem FrmLe.less {F':Frm} (a:FrmLe s' F F') (h:s.heap.objs.size≤s'.heap.objs.size):FrmLe s F F':=FrmLe.trans (s:=s) FrmLe.refl a h
theorem FrmLe.priv {F':Frm} (a:FrmLe s F F') {b:Addr} (hb:b ∈ F'.priv):b ∈ F.priv ∨ s.heap.objs.size≤b:=by
 unfold Frm.priv at hb ⊢
 rw [a.env] at hb
 rcases List.mem_cons.mp hb with rfl | hb
 ·exact .inl List.mem_cons_self
 ·rcases List.mem_append.mp hb with hb | hb
  ·exact .inl (List.mem_cons_of_mem _ (List.mem_append_left _ hb))
  ·exact (a.own b hb).imp (fun q=>List.mem_cons_of_mem _ (List.mem_append_right _ q)) id
theorem wr_top (h:F.top=true) {b:Addr}:F.wr b ↔ b ∈ F.priv:=by unfold Frm.wr; rw [h]; exact .rfl
theorem FrmLe.wr {F':Frm} (a:FrmLe s F F') (ht:F.top=true) {b:Addr} (hb:F'.wr b):F.wr b ∨ s.heap.objs.size≤b :=
 (a.priv ((wr_top (a.top.trans ht)).mp hb)).imp (wr_top ht).mpr id
theorem ScOk.of {F':Frm} (hc:ScOk c F) (a:FrmLe s F F'):ScOk c F' where
 T:=a.T.trans hc.T
 V:=a.V.trans hc.V
 loc:=fun x h=>by rw [a.env]; exact hc.loc x h
 glob:=fun x h=>by rw [a.env]; exact hc.glob x h
 cell:=fun x h=>by rw [a.env,a.top]; exact hc.cell x h
noncomputable def FlOk (w:World) (g:G) (h:Heap) (F:Frm):Fl→Flow→Prop
 | .next,f=>f=.next
 | .ret d,f=>∃ v,f=.ret v∧(Rep w g h v d ∨ ∃ a,v=.ref a∧a ∈ F.own.map (·.2)∧OwnRep w g h a d)
noncomputable def ExOk (C:Cx) (A:Around) (c:Sc) (env:Env) (r:Rho) (m:Sem Flow) (fl:Fl) (r':Rho) (l:List D):Prop :=
 ∀ (F:Frm) (g:G) (s:Shared) (E:Value→Shared→Prop) (Q:Flow→Shared→Prop),F.env=env→F.top=true→ScOk c F→At C F r g s l →
  (∀ F' g' s' f,FrmLe s F F'→SteP C.w C.K F.wr g s g' s' l→EnvOk C.w g' s'.heap F' r'→FlOk C.w g' s'.heap F' fl f→Q f s')→wpAny (model pw C.w) A m Q E s
theorem At.nx {F':Frm} {P:Addr→Prop} (H:At C F r g s (l++l')) (S:SteP C.w C.K P g s g' s' l) (e:EnvOk C.w g' s'.heap F' r'):At C F' r' g' s' l':=⟨H.good.ste S,e,S.log ▸ lg_r H.lg⟩
end
end
section
section
variable {C:Cx} {A:Around} {F:Frm} {c:Sc} {g g':G} {s s':Shared} {r:Rho} {E:Value→Shared→Prop}
noncomputable def Frm.addOwn (F:Frm) (n:Nat) (a:Addr):Frm:={ F with own:=(n,a)::F.own }
theorem lookup_consN {n k:Nat} {a:Addr} {l:List (Nat × Addr)}:((n,a)::l).lookup k=if k=n then some a else l.lookup k:=by
 rw [List.lookup_cons]
 by_cases h:k=n
 ·rw [if_pos h,beq_iff_eq.mpr h]
 ·rw [if_neg h,beq_eq_false_iff_ne.mpr h]
theorem priv_perm {n:Nat} {a:Addr}:(F.addOwn n a).priv.Perm (a::F.priv):=(List.Perm.cons _ List.perm_middle).trans (List.Perm.swap _ _ _)
theorem priv_addOwn {n:Nat} {a b:Addr} (h:b ∈ (F.addOwn n a).priv):b ∈ F.priv ∨ b=a:=(List.mem_cons.mp (priv_perm.mem_iff.mp h)).symm
theorem EnvOk.addOwn {w:World} {h:Heap} {n:Nat} {a:Addr} (e:EnvOk w g h F r) (hn:isFree r n=true) (ha:a ∉ F.priv) (hx:g.X a) (hna:g.na ≠ some a):EnvOk w g h (F.addOwn n a) (unb r n) where
 kind:=e.kind
 glob:=e.glob
 loc:=e.loc
 cel:=e.cel
 nodup:=priv_perm.nodup_iff.mpr (List.nodup_cons.mpr ⟨ha,e.nodup⟩)
 px:=fun b hb=>(priv_addOwn hb).elim (e.px b) fun q=>q ▸ ⟨hx,hna⟩
 inj:=e.inj
 bnd:=fun m b q=>by
  have hm:m ≠ n∧r m=some b:=unb_i q
  have lk:(F.addOwn n a).own.lookup m=F.own.lookup m:=lookup_consN.trans (if_neg hm.1)
  have x:=e.bnd m b hm.2
  cases b with
  | val d=>exact x
  | own d=>exact ⟨x.1,x.2.imp fun y z=>z.imp fun a z=>⟨z.1,lk.trans z.2.1,z.2.2⟩⟩
  | free=>exact lk.trans x
theorem addOwn_le {n:Nat} {a:Addr} (h:s.heap.objs.size≤a):FrmLe s F (F.addOwn n a):=⟨rfl,rfl,rfl,rfl,fun b hb=>(List.mem_cons.mp hb).elim (fun q=>.inr (q ▸ h)) .inl⟩
theorem wr_addOwn {n:Nat} {a:Addr} {b:Addr} (ht:F.top=true) (h:(F.addOwn n a).wr b):F.wr b ∨ b=a:=(priv_addOwn ((wr_top (F:=F.addOwn n a) ht).mp h)).imp (wr_top ht).mpr id
theorem wr_new {n:Nat} {a:Addr} (ht:F.top=true) (ha:s.heap.objs.size≤a) (b:Addr) (hb:(F.addOwn n a).wr b):F.wr b ∨ s.heap.objs.size≤b:=(wr_addOwn ht hb).imp id fun (q:b=a)=>q ▸ ha
theorem store_own {n:Nat} {x:Str} {a:Addr} {d:D} {l l':List D} {P:Addr→Prop} {g₀:G} {s₀:Shared} {Q:Unit→Shared→Prop} (hc:ScOk c F) (ht:F.top=true) (hs:c.store n x=true) (H:At C F r g s l) (S:SteP C.w C.K P g₀ s₀ g s l') (hP:∀ b,(F.addOwn n a).wr b→P b ∨ s₀.heap.objs.size≤b) (hap:a ∉ F.priv) (ca:Acc C.w g s a d) (hr:isFree r n=true)
  (h:∀ s₂,SteP C.w C.K P g₀ s₀ g s₂ l'→At C (F.addOwn n a) (setO r n d) g s₂ l→Q () s₂):wpAny (model pw C.w) A (storeName F.env x (.ref a)) Q E s:=by
 have i:=store_i hc hs
 refine store_any (F:=F.addOwn n a) (n:=n) (b:=.own d) H.inv (H.ev.addOwn hr hap ca.X ca.na) i.1 i.2.1 ⟨a,rfl,lookup_consN.trans (if_pos rfl),ca.rep⟩ (fun s₂ S₂ e₂=>?_) i.2.2
 rw [setB_unb] at e₂
 exact h s₂ (Ste.trans0' S S₂ hP) ⟨H.good.ste S₂,e₂,H.lg⟩
noncomputable def noComp (e:Expr):Bool:=!(Nat.beq e.ctorIdx 8 || Nat.beq e.ctorIdx 9 || Nat.beq e.ctorIdx 10)
theorem swaps_none {e:Expr} (h:noComp e=true) (t:Option Expr) (n:Nat) (env:Env):swapsWith e t n env=pure false:=by
 cases e <;> first | rfl | (cases h; done)
section
variable {l l':List D} {d:D} {p:Pos} (env:Env)
theorem ex_asg {n:Nat} {x:Str} {value:Expr} {p':Pos} (hs:c.store n x=true) (hn:noComp value=true)
  (hv:∀ F,F.env=env→ScOk c F→EvOk C A F r (eval value env) d l):ExOk C A c env r (exec (.Assign [.Name x p'] value p) env) .next (setV r n d) l:=fun F g s E Q he ht hc H h=>by
 subst he
 exact wpAny_Assign_Name (hv F rfl hc g s E _ H fun g' s' v S rv=>store_sound hc hs (H.done S) rv fun s₂ S₂ H₂=>h F g' s₂ .next FrmLe.refl (Ste.trans0 (Ste.of S) S₂) H₂.ev rfl) (swaps_none hn _ _ _)
theorem ex_own {n:Nat} {x:Str} {value:Expr} {p':Pos} (hs:c.store n x=true) (hn:noComp value=true) (hr:isFree r n=true)
  (hv:∀ F,F.env=env→ScOk c F→NewOk C A F r (eval value env) d l):ExOk C A c env r (exec (.Assign [.Name x p'] value p) env) .next (setO r n d) l:=fun F g s E Q he ht hc H h=>by
 subst he
 exact wpAny_Assign_Name (hv F rfl hc g s E _ H fun g' s' a S h1 h2 h3 h4 =>
  store_own hc ht hs (H.done S) (Ste.of S) (wr_new ht h1) (fun q=>Nat.lt_irrefl _ (Nat.lt_of_lt_of_le (H.ev.live H.inv q) h1)) ⟨h2,h3,h4⟩ hr fun s₂ S₂ H₂=>h (F.addOwn n a) g' s₂ .next (addOwn_le h1) S₂ H₂.ev rfl) (swaps_none hn _ _ _)
theorem ex_ret {e:Expr} (hv:∀ F,F.env=env→ScOk c F→EvOk C A F r (eval e env) d l):ExOk C A c env r (exec (.Return (some e) p) env) (.ret d) r l:=fun F g s E Q he ht hc H h=>by
 subst he
 exact wpAny_Return_some (hv F rfl hc g s E _ H fun g' s' v S rv=>h F g' s' _ FrmLe.refl (Ste.of S) (H.done S).ev ⟨v,rfl,.inl rv⟩)
theorem name_i {n:Nat} {x:Str} (hc:ScOk c F) (h:c.name n x=true):F.T[n]?=some x∧(x == ("__debug__":Str))=false∧(x == ("__classdict__":Str))=false:=by
 obtain ⟨h1,h⟩:=ba h
 obtain ⟨h2,h3⟩:=ba h
 exact ⟨hc.T ▸ eq_of_beq h1,Bool.not_eq_true' _ ▸ h2,Bool.not_eq_true' _ ▸ h3⟩
theorem ex_reto {n:Nat} {x:Str} {p':Pos} (hx:c.name n x=true) (hv:getO r n=some d):ExOk C A c env r (exec (.Return (some (.Name x p')) p) env) (.ret d) r []:=fun F g s E Q he ht hc H h=>by
 subst he
 obtain ⟨hx,hd,hcd⟩:=name_i hc hx
 obtain ⟨ad,h1,h2,h3⟩:=own_at H.ev hx hv
 exact wpAny_Return_some (eval_var H.ev h1 hd hcd (h F g s _ FrmLe.refl (SteP.refl H.inv) H.ev ⟨_,rfl,.inr ⟨ad,rfl,lookup_mem h2,h3⟩⟩))
theorem ex_nil:ExOk C A c env r (execs [] env) .next r []:=fun F g s E Q he ht hc H h=>wpAny_execs_nil (h F g s .next FrmLe.refl (SteP.refl H.inv) H.ev rfl)
theorem ex_cons {st:Stmt} {sts:List Stmt} {r₁ r₂:Rho} {fl:Fl} (x:ExOk C A c env r (exec st env) .next r₁ l) (y:ExOk C A c env r₁ (execs sts env) fl r₂ l'):ExOk C A c env r (execs (st::sts) env) fl r₂ (l++l'):=fun F g s E Q he ht hc H h =>
 wpAny_execs_cons (x F g s E _ he ht hc H.a fun F₁ g₁ s₁ f₁ L₁ S₁ e₁ hf=>by
  have hf:f₁=.next:=hf
  subst hf
  exact y F₁ g₁ s₁ E Q (L₁.env.trans he) (L₁.top.trans ht) (hc.of L₁) (H.nx S₁ e₁) fun F₂ g₂ s₂ f₂ L₂ S₂ e₂ hf₂=>h F₂ g₂ s₂ f₂ (L₁.trans L₂ S₁.size) (SteP.trans' S₁ S₂ fun b hb=>L₁.wr ht hb) e₂ hf₂)
theorem ex_stop {st:Stmt} {sts:List Stmt} {r₁:Rho} (x:ExOk C A c env r (exec st env) (.ret d) r₁ l):ExOk C A c env r (execs (st::sts) env) (.ret d) r₁ l:=fun F g s E Q he ht hc H h =>
 wpAny_execs_cons (x F g s E _ he ht hc H fun F₁ g₁ s₁ f₁ L₁ S₁ e₁ hf=>by
  obtain ⟨v,rfl,hv⟩:=hf
  exact h F₁ g₁ s₁ _ L₁ S₁ e₁ ⟨v,rfl,hv⟩)
theorem ex_ite {t:Expr} {a b:List Stmt} {q:Bool} {r₁:Rho} {fl:Fl} (ht:∀ F,F.env=env→ScOk c F→TestOk C A F r (isTrue t env (eval t env)) q l) (y:ExOk C A c env r (execs (if q then a else b) env) fl r₁ l') :
  ExOk C A c env r (exec (.If t a b p) env) fl r₁ (l++l'):=fun F g s E Q he htop hc H h=>by
 subst he
 refine wpAny_If (ht F rfl hc g s E _ H.a fun g₁ s₁ S₁=>?_)
 have:=y F g₁ s₁ E Q rfl htop hc (H.b S₁) fun F₂ g₂ s₂ f₂ L₂ S₂ e₂ hf₂=>h F₂ g₂ s₂ f₂ (L₂.less S₁.size) ((Ste.of S₁ (P:=F.wr)).trans S₂) e₂ hf₂
 cases q <;> exact this
end
end
end
section
inductive ForI (f:Rho→R2) (t:Tg) (d:D) (ds:List D) (r:Rho):Fl→Rho→List D→Prop
 | ret {r₁ r₂:Rho} {l₁:List D} {v:D} (h0:asgT t d r=some r₁) (h1:f r₁=some (.ret v,r₂,l₁)):ForI f t d ds r (.ret v) r₂ l₁
 | next {r₁ r₂ r':Rho} {l₁ l₂:List D} {fl:Fl} (h0:asgT t d r=some r₁) (h1:f r₁=some (.next,r₂,l₁)) (h2:forD f t ds r₂=some (fl,r',l₂)):ForI f t d ds r fl r' (l₁++l₂)
inductive BO3 {α β γ δ:Type} (x:Option (α × β × γ)) (f:α × β × γ→Option δ) (z:δ):Prop
 | mk (a:α) (b:β) (c:γ) (e:x=some (a,b,c)) (h:f (a,b,c)=some z)
theorem bo3 {α β γ δ:Type} {x:Option (α × β × γ)} {f:α × β × γ→Option δ} {z:δ} (h:x.bind f=some z):BO3 x f z:=by
 obtain ⟨⟨a,b,c⟩,h1,h2⟩:=b1o h
 exact ⟨a,b,c,h1,h2⟩
theorem sp3 {α β γ:Type} {a a':α} {b b':β} {c c':γ} (h:some (a,b,c)=some (a',b',c')):a=a'∧b=b'∧c=c':=by cases h; exact ⟨rfl,rfl,rfl⟩
theorem forD_cons {f:Rho→R2} {t:Tg} {d:D} {ds:List D} {r r':Rho} {fl:Fl} {l:List D} (h:forD f t (d::ds) r=some (fl,r',l)):ForI f t d ds r fl r' l:=by
 obtain ⟨r₁,h1,h⟩:=b1o h
 obtain ⟨fl₁,r₂,l₁,h2,h⟩:=bo3 (x:=f r₁) h
 cases fl₁ with
 | ret v =>
  obtain ⟨rfl,rfl,rfl⟩:=sp3 h
  exact .ret h1 h2
 | next =>
  obtain ⟨fl₂,r₃,l₂,h3,h⟩:=bo3 (x:=forD f t ds r₂) h
  obtain ⟨rfl,rfl,rfl⟩:=sp3 h
  exact .next h1 h2 h3
structure FJ (L:Lp) (F F':Frm) (t:Tg) (fb:Rho→R2) (fl:Fl) (r':Rho) (l:List D) (i:Nat) (r:Rho) (g:G) (s:Shared) (l₁ l₂:List D):Prop where
 le:i≤L.ds.length
 fr:FrmLe L.s F F'
 at_:L.At i g s l₁
 H:At L.C F' r g s l₂
 tn:forD fb t (L.ds.drop i) r=some (fl,r',l₂)
 log:l₁++l₂=l
noncomputable def FJJ (L:Lp) (F:Frm) (t:Tg) (fb:Rho→R2) (fl:Fl) (r':Rho) (l:List D) (k:Nat) (s:Shared):Prop:=∃ i F' r g l₁ l₂,L.ds.length - i=k∧FJ L F F' t fb fl r' l i r g s l₁ l₂
section
variable {L:Lp} {F:Frm} {c:Sc} {t:Tg} {fb:Rho→R2} {fl:Fl} {r':Rho} {l l₀:List D} {env:Env} {body:List Stmt} {g₀:G} {s₀:Shared} {E:Value→Shared→Prop} {Q:Option Value→Shared→Prop} (O:L.Ok) (hh:L.A.handled=none) (he:F.env=env) (htop:F.top=true) (hc:ScOk c F) (hm:mtTg c t L.tg=true) (ht:L.tup=true→∃ l,t=.tup l)
 (hF:∀ b,F.wr b→L.W b) (hpw:∀ b ∈ F.priv,b ∉ L.wr) (hb:∀ r fl r' l,fb r=some (fl,r',l)→ExOk L.C L.A c env r (execs body env) fl r' l) (S₀:Ste L.C.w L.C.K g₀ s₀ L.g L.s l₀) (hW:∀ b,L.W b→F.wr b) (hz:L.z=s₀.heap.objs.size)
include O hh he htop hc hm ht hF hpw hb
theorem fj_step {i:Nat} {F':Frm} {r:Rho} {g:G} {s:Shared} {l₁ l₂:List D} {Qf:Flow→Shared→Prop} (J:FJ L F F' t fb fl r' l i r g s l₁ l₂) (hi:i < L.ds.length)
  (k1:∀ s₃,(∃ m,m < L.ds.length - i∧FJJ L F t fb fl r' l m s₃)→Qf .next s₃)
  (k2:∀ F'' g' s₃ v,FrmLe L.s F F''→SteP L.C.w L.C.K L.Pw L.g L.s g' s₃ l→EnvOk L.C.w g' s₃.heap F'' r'→FlOk L.C.w g' s₃.heap F'' fl (.ret v)→Qf (.ret v) s₃)
  (hQ:∀ v s',wpAny (model pw L.C.w) L.A (letOwnedTupleGo L.tg (.ref L.I) v) (fun _ s''=>wpAny (model pw L.C.w) L.A (assign L.tg env v) (fun _ s₂=>wpAny (model pw L.C.w) L.A (execs body env) Qf E s₂) E s'') E s'→Q (some v) s'):wpAny (model pw L.C.w) L.A (pyNext (.ref L.I)) Q E s:=by
 have tn:=J.tn
 rw [List.drop_eq_getElem_cons hi] at tn
 have hw:∀ b,F'.wr b→L.W b ∨ L.s.heap.objs.size≤b:=fun b hb=>(J.fr.wr htop hb).imp (hF b) id
 have hpw':∀ b ∈ F'.priv,b ∉ L.wr:=fun b hb q=>(J.fr.priv hb).elim (fun h=>hpw b h q) fun h=>Nat.lt_irrefl _ (Nat.lt_of_lt_of_le (O.live (O.wrfp q)) h)
 have fe:=J.fr.env.trans he
 have body_:∀ {r₁ r₂:Rho} {fl₁:Fl} {l₃ l₄:List D},l₃++l₄=l₂→asgT t L.ds[i] r=some r₁→fb r₁=some (fl₁,r₂,l₃) →
   (∀ F'' g' s₃ f,FrmLe L.s F F''→L.At (i+1) g' s₃ (l₁++l₃)→At L.C F'' r₂ g' s₃ l₄→FlOk L.C.w g' s₃.heap F'' fl₁ f→Qf f s₃)→wpAny (model pw L.C.w) L.A (pyNext (.ref L.I)) Q E s:=by
  intro r₁ r₂ fl₁ l₃ l₄ hl ha hf hk
  have H:=J.H
  rw [← hl] at H
  refine O.next hQ J.at_ hi H hpw' fun v s₂ S₂ At₂ H₂ hv=>?_
  rw [← fe]
  refine asgT_sound hh (hc.of J.fr) t L.tg g s₂ E r r₁ v _ _ _ hm H₂ (hv.tg ht ha) ha fun s₃ S₃ H₃=>?_
  have At₃:=O.step At₂ S₃ hw
  rw [List.append_nil] at At₃
  rw [fe]
  exact hb r₁ fl₁ r₂ l₃ hf F' g s₃ _ _ fe (J.fr.top.trans htop) (hc.of J.fr) H₃.a fun F'' g' s₄ f L₄ S₄ e₄ hf₄=>hk F'' g' s₄ f (J.fr.trans L₄ At₃.S.size) (O.step At₃ S₄ hw) (H₃.nx S₄ e₄) hf₄
 cases forD_cons tn with
 | ret h0 h1 =>
  refine body_ (List.append_nil _) h0 h1 fun F'' g' s₃ f L₃ At₃ H₃ hf=>?_
  obtain ⟨v',rfl,hv⟩:=hf
  exact k2 F'' g' s₃ v' L₃ (J.log ▸ At₃.S) H₃.ev ⟨v',rfl,hv⟩
 | next h0 h1 h2 =>
  refine body_ rfl h0 h1 fun F'' g' s₃ f L₃ At₃ H₃ hf=>?_
  have hf:f=.next:=hf
  subst hf
  exact k1 s₃ ⟨_,Nat.sub_succ_lt_self _ _ hi,i+1,F'',_,g',_,_,rfl,hi,L₃,At₃,H₃,h2,by rw [List.append_assoc,J.log]⟩
include S₀ hW hz
theorem for_go {r:Rho} {R:Result→Shared→Prop} (H:At L.C F r L.g L.s l) (hf:forD fb t L.ds r=some (fl,r',l)) (hR:∀ F' g' s' f,FrmLe s₀ F F'→SteP L.C.w L.C.K F.wr g₀ s₀ g' s' (l₀++l)→EnvOk L.C.w g' s'.heap F' r'→FlOk L.C.w g' s'.heap F' fl f→R (.ok f) s') :
  codeAny (model pw L.C.w) L.A (.forLoop L.tg (.ref L.I) body [] env) R L.s:=by
 refine codeAny_forLoop_any (FJJ L F t fb fl r' l) (fun k s J=>?_) L.ds.length ⟨0,F,r,L.g,[],l,rfl,Nat.zero_le _,FrmLe.refl,O.start,H,hf,rfl⟩
 obtain ⟨i,F',r₁,g,l₁,l₂,rfl,J⟩:=J
 have hP:∀ b,L.Pw b→F.wr b ∨ s₀.heap.objs.size≤b:=fun b hb=>hb.elim (fun q=>.inr (hz ▸ (O.T.hwr b q).1)) fun q=>.inl (hW b q)
 rcases Nat.lt_or_ge i L.ds.length with hi | hi
 ·refine fj_step O hh he htop hc hm ht hF hpw hb J hi ?_ ?_ fun v s' h=>h
  ·exact fun s₃ h=>h
  ·exact fun F'' g' s₃ v L₃ S₃ e₃ f₃=>hR F'' g' s₃ _ (L₃.less S₀.size) (SteP.trans' (Ste.of S₀) S₃ hP) e₃ f₃
 ·have hi:=Nat.le_antisymm J.le hi
  subst hi
  have tn:=J.tn
  rw [List.drop_length] at tn
  obtain ⟨rfl,rfl,rfl⟩:=sp3 tn
  have lg:=J.log
  rw [List.append_nil] at lg
  subst lg
  refine O.last J.at_ J.H.good (Ste.of S₀ (P:=F.wr)) hz (fun b hb=>.inl (hW b hb)) fun g' s' S X=>wpAny_execs_nil (hR F' g' s' .next (J.fr.less S₀.size) S (X.at_ J.H fun b hb q=>?_).ev rfl)
  exact (J.fr.priv hb).elim (fun h=>hpw b h q) fun h=>Nat.lt_irrefl _ (Nat.lt_of_lt_of_le (O.live (O.wrfp q)) h)
end
section
variable {C:Cx} {A:Around} {c:Sc} {r:Rho}
theorem ex_for {t:Tg} {tg iter:Expr} {tup sf:Bool} {body:List Stmt} {p:Pos} {fb:Rho→R2} {ds l₀ l:List D} {fl:Fl} {r':Rho} (env:Env) (hh:A.handled=none) (hmt:mtTg c t tg=true) (ht:tup=true→∃ l,t=.tup l) (hs:∀ x,foldedSetIterable iter env x=pure x)
  (hit:∀ F,F.env=env→ScOk c F→IterOk C A F r iter tg tup sf ds l₀) (hb:∀ r fl r' l,fb r=some (fl,r',l)→ExOk C A c env r (execs body env) fl r' l) (he:forD fb t ds r=some (fl,r',l)) :
  ExOk C A c env r (exec (.For tg iter body [] p) env) fl r' (l₀++l):=fun F g s E Q henv htop hc H h=>by
 subst henv
 refine wpAny_For (hit F rfl hc g s _ _ H.a fun g₁ s₁ I fp wr P Md St S₀ T=>?_) hs
 have H₁:=H.b S₀
 have lt:∀ b ∈ F.priv,b < s.heap.objs.size:=fun b hb=>H.ev.live H.inv hb
 exact for_go (L:=⟨C,A,tg,tup,sf,s.heap.objs.size,g₁,s₁,I,fp,wr,P,Md,St,ds,F.wr⟩) ⟨T,H₁.good,fun b hb=>H₁.ev.wrX hb,fun b hb q=>(T.hfp b hb).elim (fun h=>Nat.lt_irrefl _ (Nat.lt_of_lt_of_le (lt b (F.wr_priv q)) (T.hwr b h).1)) fun h=>h.1 (H₁.ev.wrX q)⟩
  hh rfl htop hc hmt ht (fun _=>id) (fun b hb q=>Nat.lt_irrefl _ (Nat.lt_of_lt_of_le (lt b hb) (T.hwr b q).1)) hb S₀ (fun _=>id) rfl H₁ he fun F' g' s' f L S e hf=>h F' g' s' f L S e hf
end
end
section
section
variable {w:World} {A:Around} {E:Value→Shared→Prop} {s:Shared}
theorem draw_list {it t:Addr} {items:Array Value} (hne:t ≠ it):∀ (n i:Nat) (s:Shared) (Q:List Value→Shared→Prop),s.heap.IsListIter it t i→s.heap.IsList t items→i+n≤items.size →
  (∀ h',h'.IsListIter it t (i+n)→Heap.SameBut it s.heap h'→Q ((items.toList.drop i).take n) { s with heap:=h' })→wpAny (model pw w) A (draw (.ref it) n) Q E s:=by
 intro n
 induction n with
 | zero=>exact fun i s Q hit _ _ hQ=>wpAny_pure (hQ s.heap hit (Heap.SameBut.refl ..))
 | succ n ih =>
  intro i s Q hit ht hle hQ
  have hlt:i < items.size:=Nat.lt_of_lt_of_le (Nat.lt_add_of_pos_right (Nat.succ_pos n)) hle
  have e:i+1+n=i+(n+1):=by rw [Nat.add_assoc,Nat.add_comm 1 n]
  show wpAny _ _ (pyNext (.ref it) >>= _) Q E s
  refine wpAny_bind (wpAny_pyNext_list_item hit ht (Array.getElem?_eq_getElem hlt) fun h₁ hit₁ hs₁=>?_)
  refine wpAny_bind (wpAny_holding (ih (i+1) _ _ hit₁ (ht.extBut hs₁.extBut hne) (e ▸ hle) fun h₂ hit₂ hs₂=>wpAny_pure ?_))
  have q:=hQ h₂ (e ▸ hit₂) (hs₁.trans hs₂)
  rwa [List.drop_eq_getElem_cons (Array.length_toList ▸ hlt),List.take_succ_cons] at q
theorem unpackItems_list {t:Addr} {items:Array Value} {Q:List Value→Shared→Prop} (hh:A.handled=none) (ht:s.heap.IsList t items)
  (hQ:∀ h',Heap.ExtBut s.heap.objs.size s.heap h'→Q items.toList { s with heap:=h' }):wpAny (model pw w) A (unpackItems (.ref t) items.size none) Q E s:=by
 have hlt:t ≠ s.heap.objs.size:=Nat.ne_of_lt (Heap.lt_size ht.choose_spec.1)
 unfold unpackItems notIterableAtAll
 refine wpAny_bind (wpAny_bind (wpAny_specialOf ht.typeIs PySem.F.slot_list_iter.lookup (wpAny_pure ?_)))
 refine wpAny_bind (wpAny_holding (wpAny_pyIter_list ht ?_))
 refine wpAny_bind (wpAny_holding (draw_list hlt items.size 0 _ _ ⟨_,Heap.get?_push_size _ rfl,rfl,rfl⟩ (ht.push _) (Nat.le_of_eq (Nat.zero_add _)) fun h₁ hit₁ hs₁=>?_))
 have hall:List.take items.size (List.drop 0 items.toList)=items.toList:=List.take_of_length_le (Nat.le_of_eq Array.length_toList)
 rw [hall,if_neg (fun q=>Nat.lt_irrefl _ (Nat.lt_of_lt_of_eq q Array.length_toList.symm))]
 refine wpAny_bind (wpAny_holding (wpAny_pyNext_list_end hh hit₁ ((ht.push _).extBut hs₁.extBut hlt) (Array.getElem?_eq_none (Nat.le_of_eq (Nat.zero_add _).symm)) fun h₂ he₂=>?_))
 exact wpAny_pure (hQ h₂ fun b o hb e=>he₂ b o hb (hs₁.extBut b o hb (Heap.get?_push_of_some _ e)))
end
section
variable {C:Cx} {A:Around} {F:Frm} {c:Sc} {g g':G} {s s':Shared} {r:Rho} {E:Value→Shared→Prop}
noncomputable def isCell (c:Sc) (e:Expr):Bool:=eName e fun x _=>c.kd x == some .cell
noncomputable def noSwap (c:Sc) (es:List Expr) (e:Expr):Bool:=cond (Nat.beq e.ctorIdx 25) (es.any (isCell c)) true
theorem filterMap_len {α β:Type} (f:α→Option β) {l:List α} (e:(l.filterMap f).length=l.length):∀ a ∈ l,(f a).isSome=true:=by
 induction l with
 | nil=>exact fun a h=>nomatch h
 | cons x l ih =>
  rw [List.filterMap_cons] at e
  cases hx:f x with
  | none=>rw [hx] at e; exact absurd (List.length_filterMap_le f l) (Nat.not_le_of_lt (Nat.lt_of_lt_of_eq (Nat.lt_succ_self _) e.symm))
  | some y =>
   rw [hx] at e
   intro a h
   rcases List.mem_cons.mp h with rfl | h
   ·rw [hx]; rfl
   ·exact ih (Nat.succ.inj e) a h
theorem ifs3 {α:Type} {a b c:Prop} [Decidable a] [Decidable b] [Decidable c] {x y:α} (h:c):ite a x (ite b x (ite c x y))=x:=by rw [if_pos h,ite_self,ite_self]
theorem noSome {α:Type} {a b:Bool} {x:α} (h:a=false) (h':(if (a&&b)=true then some x else none).isSome=true):False:=by subst h; cases h'
theorem noSwap_tup (hc:ScOk c F) {es vs:List Expr} {k k':Nat} {p p':Pos} (h:es.any (isCell c)=true):swappedStores [.Tuple es k p] (.Tuple vs k' p') F.env=pure none:=by
 refine ifs3 (Bool.or_eq_true_iff.mpr (.inl (bne_iff_ne.mpr fun hl=>?_)))
 obtain ⟨e,he,hx⟩:=List.any_eq_true.mp h
 obtain ⟨x,px,rfl,hx⟩:=eName_i hx
 exact noSome (by rw [(hc.cell x (eq_of_beq hx)).1]; rfl) (filterMap_len _ hl _ he)
theorem noSwap_none (hc:ScOk c F) {es:List Expr} {k:Nat} {p:Pos} {value:Expr} (h:noSwap c es value=true):swappedStores [.Tuple es k p] value F.env=pure none:=by
 cases value <;> first | rfl | exact noSwap_tup hc h
theorem swapsT {es:List Expr} {k:Nat} {p:Pos} {value:Expr} {n:Nat} {env:Env}:swapsWithSole [.Tuple es k p] value n env=pure false:=by
 cases value <;> rfl
noncomputable def itemsD (d:D):Option (List D):=match d with
 | .tup ds=>some ds
 | .lst ds=>some ds
 | _=>none
theorem unpack_any {w:World} {h:Heap} {v:Value} {d:D} {ds:List D} (hh:A.handled=none) (hd:itemsD d=some ds) (rv:Rep w g h v d):∃ (t:Addr) (vs:Array Value),v=.ref t∧RepL w g h vs.toList ds∧∀ s,s.heap=h→∀ (E:Value→Shared→Prop) (Q:List Value→Shared→Prop),(∀ h',Heap.ExtBut s.heap.objs.size s.heap h'→Q vs.toList { s with heap:=h' })→wpAny (model pw w) A (unpackItems (.ref t) vs.size none) Q E s:=by
 cases d with
 | tup l =>
  cases hd
  obtain ⟨t,vs,rfl,_,ho,_,hr⟩:=rv.tup_inv
  exact ⟨t,vs,rfl,hr,fun s e E Q h=>wpAny_unpackItems_tuple hh (e ▸ ho.isTuple) h⟩
 | lst l =>
  cases hd
  obtain ⟨t,vs,rfl,_,ho,_,hr⟩:=rv.lst_inv
  exact ⟨t,vs,rfl,hr,fun s e E Q h=>unpackItems_list hh (e ▸ ho.isList) h⟩
 | _=>cases hd
theorem ex_unp {ns:List Nat} {es:List Expr} {k:Nat} {p p':Pos} {value:Expr} {d:D} {ds l:List D} {r':Rho} (env:Env) (hh:A.handled=none) (hm:mtNames c ns es=true) (hn:noSwap c es value=true) (hd:itemsD d=some ds) (he:asgNs ns ds r=some r')
  (hv:∀ F,F.env=env→ScOk c F→EvOk C A F r (eval value env) d l):ExOk C A c env r (exec (.Assign [.Tuple es k p'] value p) env) .next r' l:=fun F g s E Q henv ht hc H h=>by
 subst henv
 refine wpAny_Assign_stores (hv F rfl hc g s E _ H fun g' s' v S rv=>?_) swapsT (noSwap_none hc hn)
 show wpAny _ A (assign (.Tuple es k p') F.env v) _ _ _
 rw [arm_assign_Tuple]
 obtain ⟨l1,l2⟩:=mtTgs_len hm
 obtain ⟨a,b⟩:=each_len (env:=F.env) l2
 obtain ⟨t,vs,rfl,hr,hu⟩:=unpack_any hh hd rv
 refine wpAny_bind (wpAny_standAt ?_)
 unfold unpack
 rw [b,show (assignEach es F.env).length=vs.size by rw [a,l1,asgTs_len he,size_eq hr]]
 refine wpAny_bind (wpAny_holding (wpAny_grows (hu s' rfl _ _ fun h' he' hs _=>?_)))
 have S₁:Ste C.w C.K g' s' g' { s' with heap:=h' } []:=Ste.grow S.inv (fun b o e=>he' b o (Nat.ne_of_lt (Heap.lt_size e)) e) hs (Nat.le_refl _)
 exact asgTs_sound hh hc _ es g' _ E r r' vs.toList ds [] _ hm (At.b (l:=[]) (H.done S) S₁) (hr.le (S₁.le S.inv)) he fun s₂ S₂ H₂=>h F g' s₂ .next FrmLe.refl (Ste.trans0 (Ste.of (Ste.trans0 S S₁)) S₂) H₂.ev rfl
end
end
section
section
variable {C:Cx} {A:Around} {F:Frm} {c:Sc} {g g':G} {s s':Shared} {r:Rho} {E:Value→Shared→Prop} {l l':List D}
theorem ownRep_live {w:World} {h:Heap} {a:Addr} {d:D} (x:OwnRep w g h a d):∃ o,h.get? a=some o:=by
 cases d with
 | lst=>exact x.elim fun _ x=>x.1.live
 | dctS=>exact x.2.elim fun _ x=>dictOf_live x.1
 | dctI=>exact x.2.elim fun _ x=>dictOf_live x.1
 | _=>exact x.elim
theorem own_upd {n:Nat} {a:Addr} {d d':D} {h':Heap} {tk:Nat} (htop:F.top=true) (H:At C F r g s l) (hv:getO r n=some d) (ha:F.own.lookup n=some a) (hs:Heap.SameBut a s.heap h') (ho:OwnRep C.w g h' a d') (ht:s.toks≤tk) :
  SteP C.w C.K F.wr g s g { s with heap:=h',toks:=tk } []∧At C F (setO r n d') g { s with heap:=h',toks:=tk } l:=by
 have m:=lookup_mem ha
 have hap:=Frm.own_mem m
 have hX:=H.ev.px a hap
 have nd:=List.nodup_cons.mp H.ev.nodup
 obtain ⟨_,ndo,ndx⟩:=List.nodup_append.mp nd.2
 have kl:∀ o,s.heap.get? F.env.locals=some o→h'.get? F.env.locals=some o:=fun o e=>(hs.2 _ fun (q:F.env.locals=a)=>nd.1 (q.symm ▸ List.mem_append_right _ m)).trans e
 have kc:∀ b ∈ F.env.cells.map (·.2),∀ o,s.heap.get? b=some o→h'.get? b=some o:=fun b hb o e=>(hs.2 b (ndx b hb a m)).trans e
 have L:=le_same hX.1 hs
 have S:=ste_same H.inv ((wr_top htop).mpr hap) hX.1 hX.2 (ownRep_live ho) hs ht
 refine ⟨S,H.good.ste S,⟨H.ev.kind,H.ev.glob,H.ev.loc.imp fun m hm=>hm.at' kl,fun b hb=>(H.ev.cel b hb).imp fun o ho=>isCell_at ho (kc b hb),H.ev.nodup,H.ev.px,H.ev.inj,fun i b q=>?_⟩,H.lg⟩
 rcases setB_at r n (.own d') i with ⟨rfl,e⟩ | ⟨ne,e⟩
 ·obtain rfl:=Option.some.inj (e.symm.trans q)
  obtain ⟨hV,x,b,e1,e2,e3,e4⟩:=H.ev.own i d (getO_iff.mp hv)
  exact ⟨hV,x,a,e1,ha,(Option.some.inj (e2.symm.trans ha) ▸ e3).at kl kc,ho⟩
 ·exact (H.ev.bnd i b (e.symm.trans q)).le L (fun a' e' o z=>(hs.2 a' fun p=>ne (lookup_inj ndo e' (p ▸ ha))).trans z) fun x v _ _ y=>y.at kl kc
theorem iop_sound {o:Operator} {x y z:D} {v u:Value} {Q:Value→Shared→Prop} (I:Inv C.w C.K g s) (rv:Rep C.w g s.heap v x) (ru:Rep C.w g s.heap u y) (e:iopD o x y=some z) (h:Post C.w C.K g s z Q):wpAny (model pw C.w) A (inplaceOp o v u) Q E s:=by
 have two:∀ {f:Int→Int→D} {R:Prop},(dI x fun a=>dI y fun b=>some (f a b))=some z→(∀ a b t t',v=.int a t→u=.int b t'→z=f a b→R)→R:=fun {f R} e0 k=>by
  obtain ⟨a,h1,e1⟩:=onI_i e0
  obtain ⟨b,h2,e2⟩:=onI_i e1
  obtain ⟨t,h1⟩:=(h1 ▸ rv).int_inv
  obtain ⟨t',h2⟩:=(h2 ▸ ru).int_inv
  exact k a b t t' h1 h2 (Option.some.inj e2).symm
 cases o with
 | Add=>exact two e fun a b t t' h1 h2 h3=>by subst h1 h2 h3; exact AutoIntOps.iadd_0 (Post.int I h)
 | Sub=>exact two e fun a b t t' h1 h2 h3=>by subst h1 h2 h3; exact AutoIntOps.isub_0 (Post.int I h)
 | _=>cases e
theorem load_var {n:Nat} {x:Str} {d:D} {Q:Value→Shared→Prop} (hc:ScOk c F) (hx:c.name n x=true) (ev:EnvOk C.w g s.heap F r) (hv:getV r n=some d) (h:∀ v,Rep C.w g s.heap v d→Q v s):wpAny (model pw C.w) A (loadName F.env x) Q E s:=by
 obtain ⟨hx,_,hcd⟩:=name_i hc hx
 obtain ⟨_,y,v,hy,hva,hr⟩:=ev.var n d (getV_iff.mp hv)
 obtain rfl:=Option.some.inj (hx.symm.trans hy)
 rcases hva with ⟨a,m,b,e⟩ | ⟨a | a,e,b,q⟩
 ·exact wpAny_loadName_local ev.kind a b e (h v hr)
 ·exact wpAny_loadName_cell ev.kind a b q (h v hr)
 ·exact wpAny_loadName_free ev.kind a b q (h v hr) hcd
theorem ex_aug {n:Nat} {x:Str} {o:Operator} {value:Expr} {p p':Pos} {d e z:D} (env:Env) (hx:c.name n x=true) (hs:c.store n x=true) (hv:getV r n=some d) (he:∀ F,F.env=env→ScOk c F→EvOk C A F r (eval value env) e l) (hz:iopD o d e=some z) :
  ExOk C A c env r (exec (.AugAssign (.Name x p') o value p) env) .next (setV r n z) l:=fun F g s E Q henv ht hc H h=>by
 subst henv
 exact wpAny_AugAssign_Name (load_var hc hx H.ev hv fun v rv=>he F rfl hc g s E _ H fun g₁ s₁ u S₁ ru=>iop_sound S₁.inv (rv.le (S₁.le H.inv)) ru hz fun g₂ s₂ w S₂ rw' =>
  store_sound hc hs ((H.done S₁).done S₂) rw' fun s₃ S₃ H₃=>h F g₂ s₃ .next FrmLe.refl (Ste.trans0 (Ste.of (Ste.trans0 S₁ S₂)) S₃) H₃.ev rfl)
section
variable {α β:Type} [DecidableEq α] [DecidableEq β] {w:World} {h:Heap}
noncomputable def updK (k:α) (v:Value) (kv:α × Value):α × Value:=if kv.1=k then (kv.1,v) else kv
theorem upd_keys (k:α) (v:Value):∀ kvs:List (α × Value),(kvs.map (updK k v)).map (·.1)=kvs.map (·.1):=by
 intro kvs
 induction kvs with
 | nil=>rfl
 | cons p kvs ih =>
  show (updK k v p).1::(kvs.map (updK k v)).map (·.1)=p.1::kvs.map (·.1)
  rw [ih]
  refine congrArg (·::_) ?_
  unfold updK
  split <;> rfl
theorem upd_vals {k:α} {v:Value} {d:D} (rv:Rep w g h v d):∀ {kvs:List (α × Value)} {vs:List D},RepL w g h (kvs.map (·.2)) vs→RepL w g h ((kvs.map (updK k v)).map (·.2)) (putK k d (kvs.map (·.1)) vs):=by
 intro kvs
 induction kvs with
 | nil=>intro vs hr; exact .nil
 | cons p kvs ih =>
  intro vs hr
  cases hr with
  | cons r1 r2 =>
   refine .cons ?_ (ih r2)
   show Rep w g h (updK k v p).2 (if p.1=k then _ else _)
   unfold updK
   split <;> assumption
theorem any_key {k:α}:∀ {kvs:List (α × Value)},(kvs.any fun kv=>decide (kv.1=k))=(kvs.map (·.1)).contains k:=by
 intro kvs
 induction kvs with
 | nil=>rfl
 | cons p kvs ih =>
  rw [List.any_cons,List.map_cons,List.contains_cons,ih]
  exact congrArg (· || _) (decide_eq_decide.mpr eq_comm)
theorem contains_f {f:α→β} (hf:∀ x y,f x=f y→x=y) {k:α}:∀ {ks:List α},(ks.map f).contains (f k)=ks.contains k:=by
 intro ks
 induction ks with
 | nil=>rfl
 | cons x ks ih =>
  rw [List.map_cons,List.contains_cons,List.contains_cons,ih]
  exact congrArg (· || _) (decide_eq_decide.mpr ⟨hf _ _,congrArg f⟩)
theorem putK_f {f:α→β} (hf:∀ x y,f x=f y→x=y) {k:α} {d:D}:∀ {ks:List α} {vs:List D},putK (f k) d (ks.map f) vs=putK k d ks vs:=by
 intro ks
 induction ks with
 | nil=>intro vs; rfl
 | cons x ks ih =>
  intro vs
  cases vs with
  | nil=>rfl
  | cons y vs =>
   show (if f x=f k then d else y)::putK (f k) d (ks.map f) vs=(if x=k then d else y)::putK k d ks vs
   rw [ih]
   exact congrArg (·::_) (ite_congr (propext ⟨hf _ _,congrArg f⟩) (fun _=>rfl) fun _=>rfl)
end
theorem RepL.set {w:World} {g:G} {h:Heap} {vz:Value} {z:D} {us:List Value} {es:List D} (x:RepL w g h us es) (rz:Rep w g h vz z):∀ m,RepL w g h (us.set m vz) (es.set m z) :=
 RepL.ind (P:=fun us es=>∀ m,RepL w g h (us.set m vz) (es.set m z)) (fun _=>.nil) (fun _ _ _ _ a b ih m=>by
  cases m with
  | zero=>exact .cons rz b
  | succ m=>exact .cons a (ih m)) x
section
variable {a:Addr} {cd' z:D} {vj vz:Value} {Q:Unit→Shared→Prop} (rz:Rep C.w g s.heap vz z) (hX:g.X a)
 (h:∀ h' tk,s.toks≤tk→Heap.SameBut a s.heap h'→OwnRep C.w g h' a cd'→Q () { s with heap:=h',toks:=tk })
include rz hX h
theorem put_key {α β:Type} [DecidableEq α] [DecidableEq β] {f:α→β} (hf:∀ x y,f x=f y→x=y) {mk:List α→List D→D} {knd:KeyKind pw C.w β} {k:α} {ks:List α} {kvs:List (β × Value)} {vs:List D} (hk:knd.is (f k) vj=true) (hd:s.heap.DictOf knd a kvs) (hz:kvs.length≤65536) (hks:kvs.map (·.1)=ks.map f) (hr:RepL C.w g s.heap (kvs.map (·.2)) vs)
  (e:putD mk ks vs z k=some cd') (hfin:∀ h' us ks' vs',h'.DictOf knd a us→us.length≤65536→us.map (·.1)=ks'.map f→RepL C.w g h' (us.map (·.2)) vs'→OwnRep C.w g h' a (mk ks' vs')):wpAny (model pw C.w) A (setItem (.ref a) vj vz) Q E s:=by
 refine wpAny_setItem_pairs hk hd (fun h' hd' hs=>h h' _ (Nat.le_succ _) hs ?_) (Nat.le_trans hz (by decide))
 have L:=le_same hX hs
 unfold stored at hd'
 rw [any_key,hks,contains_f hf] at hd'
 unfold putD at e
 cases hc:ks.contains k <;> rw [hc] at e hd'
 ·obtain ⟨hl,e⟩:=if_s (α:=D) e
  cases e
  have hl:kvs.length < 65536:=by rw [← List.length_map (as:=ks) f,← hks,List.length_map] at hl; exact hl
  exact hfin _ _ _ _ hd' (by rw [if_neg Bool.false_ne_true,List.length_append]; exact hl) (by rw [if_neg Bool.false_ne_true,List.map_append,List.map_append,hks]; rfl) (by rw [if_neg Bool.false_ne_true,List.map_append]; exact (hr.append (.cons rz .nil)).le L)
 ·cases e
  exact hfin _ (kvs.map (updK (f k) vz)) _ _ hd' (by rw [List.length_map]; exact hz) ((upd_keys ..).trans hks) (by have q:=(upd_vals (k:=f k) rz hr).le L; rwa [hks,putK_f hf] at q)
theorem put_str {ks:List (List Nat)} {vs:List D} {k:List Nat} {t:Tok} (rc:OwnRep C.w g s.heap a (.dctS ks vs)) (hj:vj=.str (S k) t) (e:putD .dctS ks vs z k=some cd'):wpAny (model pw C.w) A (setItem (.ref a) vj vz) Q E s:=by
 subst hj
 obtain ⟨hm,kvs,hd,hz,hk,hr⟩:=rc
 exact put_key rz hX h (fun _ _=>S_inj) (strKind_is pw C.w _ t) hd hz hk hr e fun h' us ks' vs' h1 h2 h3 h4=>⟨hm,us,h1,h2,h3,h4⟩
theorem put_int {ks:List Int} {vs:List D} {k:Int} {t:Tok} (rc:OwnRep C.w g s.heap a (.dctI ks vs)) (hj:vj=.int k t) (e:putD .dctI ks vs z k=some cd'):wpAny (model pw C.w) A (setItem (.ref a) vj vz) Q E s:=by
 subst hj
 obtain ⟨hm,kvs,hd,hz,hk,hr⟩:=rc
 exact put_key (f:=id) rz hX h (fun _ _=>id) (intKind_is pw C.w _ t) hd hz (hk.trans (List.map_id _).symm) hr e fun h' us ks' vs' h1 h2 h3 h4=>⟨hm,us,h1,h2,h3.trans (List.map_id _),h4⟩
theorem put_at {ds ds':List D} {i:Int} {t:Tok} (rc:OwnRep C.w g s.heap a (.lst ds)) (hj:vj=.int i t) (e:setI ds i z=some ds') (hc:cd'=.lst ds'):wpAny (model pw C.w) A (setItem (.ref a) vj vz) Q E s:=by
 subst hj hc
 obtain ⟨vs,⟨n,ho⟩,hz,hr⟩:=rc
 have hlen:=size_eq hr
 cases i with
 | negSucc=>cases e
 | ofNat i =>
  obtain ⟨hi,e⟩:=if_s (x:=some (ds.set i z)) e
  cases e
  rw [← hlen] at hi
  refine ki_setAt (items:=vs) (n:=n) ho (Int.natCast_nonneg i) (Int.lt_of_lt_of_le (Int.ofNat_lt.mpr (Nat.lt_of_lt_of_le hi hz)) (by decide)) (Int.ofNat_lt.mpr hi) (h _ _ (Nat.le_refl _) (Heap.SameBut.update ..) ?_)
  have L:=le_same (g:=g) hX (Heap.SameBut.update s.heap a (Obj.mapSeq (·.setIfInBounds i vz)))
  refine ⟨vs.setIfInBounds i vz,⟨_,IsL.update ho _⟩,by rw [Array.size_setIfInBounds]; exact hz,?_⟩
  rw [Array.toList_setIfInBounds]
  exact (RepL.set hr rz _).le L
theorem setD_sound {cd j:D} (rc:OwnRep C.w g s.heap a cd) (rj:Rep C.w g s.heap vj j) (e:setD cd j z=some cd'):wpAny (model pw C.w) A (setItem (.ref a) vj vz) Q E s:=by
 cases cd with
 | dctS ks vs =>
  rcases if_e e with e | e
  ·obtain ⟨k,rfl,e⟩:=onS_i e
   exact rj.str_inv.elim fun t hj=>put_str rz hX h rc hj e
  ·obtain ⟨k,rfl,e⟩:=onI_i e
   obtain ⟨hn,e⟩:=if_s e
   obtain ⟨h1,h2⟩:=ba hn
   cases List.isEmpty_iff.mp h1; cases List.isEmpty_iff.mp h2
   obtain ⟨hm,kvs,hd,hz,hk,hr⟩:=rc
   cases List.map_eq_nil_iff.mp hk
   exact rj.int_inv.elim fun t hj=>put_int rz hX h (ks:=[]) (vs:=[]) ⟨hm,[],empty_kind hd,Nat.zero_le _,rfl,.nil⟩ hj e
 | dctI ks vs =>
  obtain ⟨k,rfl,e⟩:=onI_i (d:=j) e
  exact rj.int_inv.elim fun t hj=>put_int rz hX h rc hj e
 | lst ds =>
  obtain ⟨i,rfl,e⟩:=onI_i (d:=j) e
  obtain ⟨ds',hds,hc⟩:=Option.map_eq_some_iff.mp e
  exact rj.int_inv.elim fun t hj=>put_at rz hX h rc hj hds hc.symm
 | _=>cases e
end
end
end
section
section
variable {C:Cx} {A:Around} {F:Frm} {c:Sc} {g g':G} {s s':Shared} {r:Rho} {E:Value→Shared→Prop} {l l':List D}
theorem augStore_plain {e:Expr} (h:noSlice e=true) (ov iv new:Value):augStore e ov iv new=(do holding [new,ov,iv] (setItem ov iv new); release [new,ov,iv] []; pure .next):=by
 cases e <;> first | rfl | (cases h; done)
inductive OwnAt (C:Cx) (F:Frm) (g:G) (s:Shared) (n:Nat) (x:Str) (d:D):Prop
 | mk (a:Addr) (v:VarAt F.env s.heap x (.ref a)) (k:F.own.lookup n=some a) (o:OwnRep C.w g s.heap a d) (h1:(x == ("__debug__":Str))=false) (h2:(x == ("__classdict__":Str))=false)
theorem own_name {n:Nat} {x:Str} {d:D} (hc:ScOk c F) (hx:c.name n x=true) (H:At C F r g s l) (hv:getO r n=some d):OwnAt C F g s n x d :=
 have i:=name_i hc hx
 (own_at H.ev i.1 hv).elim fun a q=>⟨a,q.1,q.2.1,q.2.2,i.2.1,i.2.2⟩
theorem own_rep {n:Nat} {a:Addr} {d:D} (H:At C F r g s l) (hv:getO r n=some d) (ha:F.own.lookup n=some a):OwnRep C.w g s.heap a d:=by
 obtain ⟨_,_,b,_,e,_,h⟩:=H.ev.own n d (getO_iff.mp hv)
 exact Option.some.inj (e.symm.trans ha) ▸ h
theorem own_X {n:Nat} {a:Addr} (H:At C F r g s l) (ha:F.own.lookup n=some a):g.X a:=(H.ev.px a (Frm.own_mem (lookup_mem ha))).1
theorem own_set {n:Nat} {a:Addr} {cd cd' j z:D} {vj vz:Value} {Q:Unit→Shared→Prop} (ht:F.top=true) (H:At C F r g s l) (hv:getO r n=some cd) (ha:F.own.lookup n=some a) (rj:Rep C.w g s.heap vj j) (rz:Rep C.w g s.heap vz z) (e:setD cd j z=some cd')
  (h:∀ s',SteP C.w C.K F.wr g s g s' []→At C F (setO r n cd') g s' l→Q () s'):wpAny (model pw C.w) A (setItem (.ref a) vj vz) Q E s :=
 setD_sound rz (own_X H ha) (fun h' tk htk hs ho=>have q:=own_upd ht H hv ha hs ho htk; h _ q.1 q.2) (own_rep H hv ha) rj e
theorem ex_augo {n:Nat} {x:Str} {o:Operator} {ie value:Expr} {p p' p'':Pos} {cd j xo e z cd':D} (env:Env) (hx:c.name n x=true) (hsl:noSlice ie=true) (hv:getO r n=some cd) (hi:∀ F,F.env=env→ScOk c F→EvOk C A F r (eval ie env) j l) (hsub:subD cd j=some xo)
  (he:∀ F,F.env=env→ScOk c F→EvOk C A F r (eval value env) e l') (hz:iopD o xo e=some z) (hset:setD cd j z=some cd') :
  ExOk C A c env r (exec (.AugAssign (.Subscript (.Name x p'') ie p') o value p) env) .next (setO r n cd') (l++l'):=fun F g s E Q henv ht hc H h=>by
 subst henv
 obtain ⟨a,h1,h2,h3,hd,hcl⟩:=own_name hc hx H hv
 exact wpAny_AugAssign_SubscriptAny (eval_var H.ev h1 hd hcl (hi F rfl hc g s E _ H.a fun g₁ s₁ vi S₁ ri=>(item_sound S₁.inv (.inr ⟨a,rfl,own_rep (H.b S₁) hv h2⟩) ri hsub fun g₂ s₂ vo S₂ ro =>
  he F rfl hc g₂ s₂ E _ (At.b (l:=[]) (H.b S₁) S₂) fun g₃ s₃ ve S₃ re=>iop_sound S₃.inv (ro.le (S₃.le S₂.inv)) re hz fun g₄ s₄ vz S₄ rz =>
   have SS:=Ste.trans0 ((Ste.trans0 S₁ S₂).trans S₃) S₄
   own_set ht (H.done SS) hv h2 (ri.le (((S₂.trans S₃).trans S₄).le S₁.inv)) rz hset fun s₅ S₅ H₅=>h F g₄ s₅ .next FrmLe.refl (Ste.trans0 (Ste.of SS) S₅) H₅.ev rfl).2)) (augStore_plain hsl)
theorem swapT_none {e x i:Expr} {p:Pos} (h:noComp e=true) {n:Nat} {env:Env}:swapsWithSole [.Subscript x i p] e n env=pure false∧swappedStores [.Subscript x i p] e env=pure none:=by
 cases e <;> first | exact ⟨rfl,rfl⟩ | (cases h; done)
theorem ex_seto {n:Nat} {x:Str} {ie value:Expr} {p p' p'':Pos} {cd j e cd':D} (env:Env) (hx:c.name n x=true) (hnc:noComp value=true) (hv:getO r n=some cd) (he:∀ F,F.env=env→ScOk c F→EvOk C A F r (eval value env) e l)
  (hi:∀ F,F.env=env→ScOk c F→EvOk C A F r (eval ie env) j l') (hset:setD cd j e=some cd') :
  ExOk C A c env r (exec (.Assign [.Subscript (.Name x p'') ie p'] value p) env) .next (setO r n cd') (l++l'):=fun F g s E Q henv ht hc H h=>by
 subst henv
 refine wpAny_Assign_stores (he F rfl hc g s E _ H.a fun g₁ s₁ ve S₁ re=>?_) (swapT_none hnc).1 (swapT_none (n:=0) hnc).2
 have H₁:=H.b S₁
 obtain ⟨a,h1,h2,_,hd,hcl⟩:=own_name hc hx H₁ hv
 show wpAny _ A (assign (.Subscript (.Name x p'') ie p') F.env ve) _ _ _
 rw [PySem.assign_Subscript]
 exact wpAny_bind (wpAny_holding (eval_var H₁.ev h1 hd hcl (wpAny_bind (wpAny_holding (hi F rfl hc g₁ s₁ _ _ H₁ fun g₂ s₂ vi S₂ ri=>wpAny_bind (wpAny_standAt (wpAny_bind (wpAny_holding (own_set ht (H₁.done S₂) hv h2 ri (re.le (S₂.le S₁.inv)) hset fun s₃ S₃ H₃ =>
  wpAny_release (h F g₂ s₃ .next FrmLe.refl (Ste.trans0 (Ste.of (S₁.trans S₂)) S₃) H₃.ev rfl))))))))))
end
end
section
section
variable {C:Cx} {A:Around} {F:Frm} {c:Sc} {g g':G} {s s':Shared} {r:Rho} {E:Value→Shared→Prop} {l l':List D}
noncomputable def G.noted (g:G) (d:D):G:={ g with log:=g.log++[d] }
theorem note_step {w:World} {K:Frag} {a:Addr} {vs:Array Value} {v:Value} {d:D} {h':Heap} (I:Inv w K g s) (ha:g.na=some a) (hp:PL s.heap a vs) (hr:RepL w g s.heap vs.toList g.log) (rv:Rep w g s.heap v d)
  (hp':PL h' a (vs.push v)) (hs:Heap.SameBut a s.heap h'):Ste w K g s (g.noted d) { s with heap:=h' } [d]:=by
 have hX:=(I.na a ha).1
 have L:Le g s.heap (g.noted d) h':=⟨fun b o n e=>⟨n,(hs.2 b (fun q=>n (q ▸ hX))).trans e⟩,fun _ _ e=>e,rfl,rfl⟩
 have hb:∀ b,g.na=some b→b=a:=fun b e=>Option.some.inj (e.symm.trans ha)
 exact ⟨fun _ _=>.rfl,rfl,rfl,rfl,rfl,fun _ _ e=>e,fun b o _ n e=>(hs.2 b (fun q=>n (q ▸ ha))).trans e,⟨_,_,rfl⟩,⟨I.gens,fun b hb=>(by
   by_cases q:b=a
   ·rw [q]; exact hp'.live
   ·exact (I.xb b hb).imp fun o e=>(hs.2 b q).trans e),fun b o e=>(hs.2 b (fun q=>I.kx b o e (q ▸ hX))).trans (I.kin b o e),I.kx,
  fun b e=>hb b e ▸ ⟨hX,vs.push v,hp',by rw [Array.toList_push]; exact (hr.append (.cons rv .nil)).le L⟩,fun e=>(nomatch ha.symm.trans e),I.tk,I.tk0,I.gf,by show 64≤h'.objs.size; rw [hs.1]; exact I.big⟩,Nat.le_of_eq hs.1.symm,Nat.le_refl _⟩
theorem interactive_fn {env:Env} (h:env.scope.kind=.function):interactive env=false:=by
 unfold interactive
 rw [h]; rfl
theorem callExpr {e:Expr} {p:Pos} {Q:Flow→Shared→Prop} (hk:F.env.scope.kind=.function) (hn:noComp e=true) (h:wpAny (model pw C.w) A (eval e F.env) (fun _ s'=>Q .next s') E s):wpAny (model pw C.w) A (exec (.Expr e p) F.env) Q E s:=by
 rw [exec_Expr F.env e p (interactive_fn hk) (swaps_none hn _ _ _)]
 exact wpAny_bind (wpAny_standAt (wpAny_bind (wpAny_mono h (fun _ s' hq=>wpAny_dropValue hq) fun _ _ x=>x)))
theorem append_call {x:Str} {elt:Expr} {pn ap cp p:Pos} {a:Addr} {Q:Flow→Shared→Prop} {d:D} {vs₀:Array Value} (hk:F.env.scope.kind=.function) (hsn:noStar elt=true) (hline:(ap.endLine == cp.line)=true)
  (hx:∀ Q:Value→Shared→Prop,Q (.ref a) s→wpAny (model pw C.w) A (eval (.Name x pn) F.env) Q E s) (ho:PL s.heap a vs₀) (he:EvOk C A F r (eval elt F.env) d l) (H:At C F r g s l)
  (h:∀ g₁ s₁ v,Ste C.w C.K g s g₁ s₁ l→Rep C.w g₁ s₁.heap v d→∃ vs,PL s₁.heap a vs∧vs.size≤65536∧∀ h',PL h' a (vs.push v)→Heap.SameBut a s₁.heap h'→Q .next { s₁ with heap:=h' }):wpAny (model pw C.w) A (exec (.Expr (.Call (.Attribute (.Name x pn) "append" ap) [elt] [] cp) p) F.env) Q E s:=by
 obtain ⟨k,ho⟩:=ho
 refine callExpr hk rfl (PySem.Call_method1 (base_plain rfl _ _ _) (starEach_cons hsn) hline (hx _ ⟨"list","list.append",PySem.F.plainAttrs_list,PySem.F.slot_list_append,PySem.F.type_list_append,⟨_,ho,rfl⟩,(fun b e=>by cases e; exact ⟨_,ho,rfl⟩),?_⟩))
 refine P.append_list (he g s E _ H fun g₁ s₁ v S₁ rv=>?_)
 obtain ⟨vs,⟨k,ho⟩,hz,hQ⟩:=h g₁ s₁ v S₁ rv
 exact ⟨vs,k,Nat.le_trans hz (by decide),ho,hQ _ ⟨_,IsL.update ho _⟩ (Heap.SameBut.update ..)⟩
theorem ex_app {n:Nat} {x:Str} {elt:Expr} {pn ap cp p:Pos} {ds:List D} {d:D} (env:Env) (hx:c.name n x=true) (hv:getO r n=some (.lst ds)) (hsn:noStar elt=true) (hline:(ap.endLine == cp.line)=true) (he:∀ F,F.env=env→ScOk c F→EvOk C A F r (eval elt env) d l)
  (hz:ds.length < 65536):ExOk C A c env r (exec (.Expr (.Call (.Attribute (.Name x pn) "append" ap) [elt] [] cp) p) env) .next (setO r n (.lst (ds++[d]))) l:=fun F g s E Q henv ht hc H h=>by
 subst henv
 obtain ⟨a,h1,h2,h3,hd,hcl⟩:=own_name hc hx H hv
 obtain ⟨vs,ho,_,_⟩:=h3
 refine append_call H.ev.kind hsn hline (fun Q hQ=>eval_var H.ev h1 hd hcl hQ) ho (he F rfl hc) H fun g₁ s₁ v S₁ rv=>?_
 have H₁:=H.done S₁
 obtain ⟨vs,ho,hz₁,hr⟩:=own_rep H₁ hv h2
 refine ⟨vs,ho,hz₁,fun h' hp hs=>?_⟩
 have q:=own_upd (d':=.lst (ds++[d])) ht H₁ hv h2 hs ⟨vs.push v,hp,by rw [Array.size_push,size_eq hr]; exact hz,by rw [Array.toList_push]; exact (hr.append (.cons rv .nil)).le (le_same (own_X H₁ h2) hs)⟩ (Nat.le_refl s₁.toks)
 exact h F g₁ _ .next FrmLe.refl (Ste.trans0 (Ste.of S₁) q.1) q.2.ev rfl
theorem ex_note {n:Nat} {x:Str} {elt:Expr} {pn ap cp p:Pos} {d:D} (env:Env) (hx:c.name n x=true) (hv:getV r n=some .notes) (hsn:noStar elt=true) (hline:(ap.endLine == cp.line)=true) (he:∀ F,F.env=env→ScOk c F→EvOk C A F r (eval elt env) d l) :
  ExOk C A c env r (exec (.Expr (.Call (.Attribute (.Name x pn) "append" ap) [elt] [] cp) p) env) .next r (l++[d]):=fun F g s E Q henv ht hc H h=>by
 subst henv
 obtain ⟨hT,hd,hcl⟩:=name_i hc hx
 obtain ⟨_,y,va,hy,hva,hrv⟩:=H.ev.var n .notes (getV_iff.mp hv)
 obtain rfl:=Option.some.inj (hT.symm.trans hy)
 obtain ⟨a,rfl,hna⟩:=hrv.notes_inv
 obtain ⟨_,vs,ho,_⟩:=H.inv.na a hna
 refine append_call H.ev.kind hsn hline (fun Q hQ=>eval_var H.ev hva hd hcl hQ) ho (he F rfl hc) H.a fun g₁ s₁ v S₁ rv=>?_
 have H₁:=H.b S₁
 have hna₁:g₁.na=some a:=S₁.na.trans hna
 obtain ⟨_,vs,ho,hr⟩:=S₁.inv.na a hna₁
 refine ⟨vs,ho,(size_eq hr).symm ▸ Nat.le_trans (Nat.le_add_right ..) H₁.lg,fun h' hp hs=>?_⟩
 have S₂:=note_step S₁.inv hna₁ ho hr rv hp hs
 exact h F _ _ .next FrmLe.refl (Ste.of (S₁.trans S₂)) (H₁.ev.ste S₁.inv S₂) rfl
end
end
section
section
variable {C:Cx} {A:Around} {F:Frm} {c:Sc} {g g':G} {s s':Shared} {r:Rho} {E:Value→Shared→Prop} {l l':List D}
noncomputable def swPair (c:Sc) (x y:Str) (px py:Pos) (ea eb:Expr):Bool :=
 c.kd x == some .local&&(c.kd y == some .local&&(py.line == px.line&&(x != y&&(!(foldedForSure 8 ea&&(foldedForSure 8 eb&&true))&&(!(constantsAlone 8 ea&&(constantsAlone 8 eb&&true))&&(noStar ea&&noStar eb))))))
structure SwI (c:Sc) (x y:Str) (px py:Pos) (ea eb:Expr):Prop where
 kx:c.kd x=some .local
 ky:c.kd y=some .local
 ln:py.line=px.line
 ne:x ≠ y
 ff:(foldedForSure 8 ea&&(foldedForSure 8 eb&&true))=false
 cf:(constantsAlone 8 ea&&(constantsAlone 8 eb&&true))=false
 sa:noStar ea=true
 sb:noStar eb=true
theorem not_t {b:Bool} (h:(!b)=true):b=false:=Bool.not_eq_true' _ ▸ h
theorem swPair_i {x y:Str} {px py:Pos} {ea eb:Expr} (h:swPair c x y px py ea eb=true):SwI c x y px py ea eb:=by
 obtain ⟨h1,h⟩:=ba h
 obtain ⟨h2,h⟩:=ba h
 obtain ⟨h3,h⟩:=ba h
 obtain ⟨h4,h⟩:=ba h
 obtain ⟨h5,h⟩:=ba h
 obtain ⟨h6,h⟩:=ba h
 obtain ⟨h7,h8⟩:=ba h
 exact ⟨eq_of_beq h1,eq_of_beq h2,eq_of_beq h3,bne_iff_ne.mp h4,not_t h5,not_t h6,h7,h8⟩
theorem ifs_no {α:Type} {a b c d e:Prop} [Decidable a] [Decidable b] [Decidable c] [Decidable d] [Decidable e] {x y z:α} (h1:¬ a) (h2:¬ b) (h3:¬ c) (h4:¬ d) (h5:¬ e):ite a x (ite b x (ite c x (ite d x (ite e y z))))=z:=by
 rw [if_neg h1,if_neg h2,if_neg h3,if_neg h4,if_neg h5]
theorem any2 {f:Expr→Bool} {a b:Expr} (hf:∀ e,noStar e=true→f e=false) (ha:noStar a=true) (hb:noStar b=true):¬ (([a,b].any f)=true):=by
 rw [List.any_cons,List.any_cons,hf a ha,hf b hb]
 exact Bool.false_ne_true
theorem fm2 {f:Expr→Option Str} {a b:Expr} {x y:Str} (h1:f a=some x) (h2:f b=some y):[a,b].filterMap f=[x,y]:=by
 rw [List.filterMap_cons_some h1,List.filterMap_cons_some h2,List.filterMap_nil]
theorem dups2 {L:List Str} {x y:Str} (h:L=[x,y]) (hn:x ≠ y):¬ ((L.length != 2 || L.eraseDups.length != L.length)=true):=by
 subst h
 rw [List.eraseDups_cons,List.filter_cons_of_pos (by rw [beq_eq_false_iff_ne.mpr (Ne.symm hn)]; rfl)]
 exact Bool.false_ne_true
theorem and_tt {a b:Bool} (h1:a=true) (h2:b=true):(a&&b)=true:=Bool.and_eq_true_iff.mpr ⟨h1,h2⟩
theorem swapped_pair (hc:ScOk c F) (hk:F.env.scope.kind=.function) {x y:Str} {px py p' p2:Pos} {k k2:Nat} {ea eb:Expr} (h:SwI c x y px py ea eb) :
  swappedStores [.Tuple [.Name x px,.Name y py] k p'] (.Tuple [ea,eb] k2 p2) F.env=pure (some [x,y]):=by
 have hb:F.env.blockKind=.function:=by unfold Env.blockKind; rw [hk]; rfl
 refine (ifs_no ?_ (any2 ?_ h.sa h.sb) (dups2 (fm2 ?_ ?_) h.ne) (Bool.eq_false_iff.mp h.ff) (Bool.eq_false_iff.mp h.cf)).trans (congrArg (fun L=>pure (some L)) (fm2 ?_ ?_))
 ·rw [hb]
  exact Bool.false_ne_true
 ·intro e
  cases e <;> first | exact fun _=>rfl | exact fun h=>(Bool.false_ne_true h).elim
 all_goals first | exact if_pos (and_tt (beq_iff_eq.mpr (hc.loc x h.kx)) (beq_iff_eq.mpr rfl)) | exact if_pos (and_tt (beq_iff_eq.mpr (hc.loc y h.ky)) (beq_iff_eq.mpr h.ln))
theorem bind_name {x:Str} {v:Value} {Q:Unit→Shared→Prop} (h:wpAny (model pw C.w) A (storeName F.env x v) Q E s):wpAny (model pw C.w) A (bindName F.env x v) Q E s :=
 wpAny_bind (wpAny_holding (wpAny_point (wpAny_bind (wpAny_mono h (fun _ s' hq=>wpAny_point hq) fun _ _ x=>x))))
theorem sw_stores {T:Addr} {v1 v2:Value} {x y:Str} {st:List (Value→Sem Unit)} {Q:Flow→Shared→Prop} (hh:A.handled=none) (hT:s.heap.IsTuple T #[v1,v2])
  (h:∀ h',Heap.ExtBut s.heap.objs.size s.heap h'→s.heap.objs.size≤h'.objs.size→wpAny (model pw C.w) A (storeName F.env y v2) (fun _ s₁=>wpAny (model pw C.w) A (storeName F.env x v1) (fun _ s₂=>Q .next s₂) E s₁) E { s with heap:=h' }) :
  wpAny (model pw C.w) A (assignStores F.env (.ref T) (some [x,y]) st) Q E s:=by
 unfold assignStores
 refine wpAny_bind (wpAny_rule (wpAny_bind (wpAny_grows ?_)))
 show wpAny _ A (unpackItems (.ref T) (#[v1,v2]:Array Value).size none) _ _ _
 refine wpAny_unpackItems_tuple hh hT fun h' he hs _=>?_
 exact wpAny_bind (wpAny_bind (wpAny_holding (bind_name (wpAny_mono (h h' he hs) (fun _ s₁ h₁=>wpAny_bind (wpAny_holding (bind_name (wpAny_mono h₁ (fun _ s₂ h₂=>wpAny_pure (wpAny_pure h₂)) fun _ _ x=>x)))) fun _ _ x=>x))))
theorem store_ne {n m:Nat} {x y:Str} (hc:ScOk c F) (hn:c.store n x=true) (hm:c.store m y=true) (h:x ≠ y):n ≠ m:=fun q =>
 h (Option.some.inj ((store_i hc hn).2.1.symm.trans ((congrArg (F.T[·]?) q).trans (store_i hc hm).2.1)))
theorem exec_pair {x y:Str} {px py p p' p2:Pos} {k k2:Nat} {ea eb:Expr} {Q:Flow→Shared→Prop} (hh:A.handled=none) (hc:ScOk c F) (hk:F.env.scope.kind=.function) (hsw:SwI c x y px py ea eb)
  (h:wpAny (model pw C.w) A (eval (.Tuple [ea,eb] k2 p2) F.env) (fun v s=>∃ T v1 v2,v=.ref T∧s.heap.IsTuple T #[v1,v2]∧∀ h',Heap.ExtBut s.heap.objs.size s.heap h'→s.heap.objs.size≤h'.objs.size →
   wpAny (model pw C.w) A (storeName F.env y v2) (fun _ s₁=>wpAny (model pw C.w) A (storeName F.env x v1) (fun _ s₂=>Q .next s₂) E s₁) E { s with heap:=h' }) E s) :
  wpAny (model pw C.w) A (exec (.Assign [.Tuple [.Name x px,.Name y py] k p'] (.Tuple [ea,eb] k2 p2) p) F.env) Q E s:=by
 rw [exec_Assign_arm,swapsT]
 refine wpAny_bind (wpAny_standAt (wpAny_bind (wpAny_pure ?_)))
 rw [if_neg Bool.false_ne_true]
 refine wpAny_bind (wpAny_mono h (fun v s' q=>?_) fun _ _ x=>x)
 obtain ⟨T,v1,v2,rfl,hT,q⟩:=q
 rw [swapped_pair hc hk hsw]
 exact wpAny_bind (wpAny_pure (sw_stores hh hT q))
theorem two_inv {w:World} {h:Heap} {vs:Array Value} {d e:D} (hr:RepL w g h vs.toList [d,e]):∃ v1 v2,vs=#[v1,v2]∧Rep w g h v1 d∧Rep w g h v2 e:=by
 obtain ⟨v1,vs1,h1,r1,q1⟩:=hr.cons_i
 obtain ⟨v2,vs2,rfl,r2,q2⟩:=q1.cons_i
 rw [q2.nil_i] at h1
 exact ⟨v1,v2,Array.toList_inj.mp h1,r1,r2⟩
theorem store_pair {n m:Nat} {x y:Str} {v1 v2:Value} {d e:D} {P:Addr→Prop} {g₀:G} {s₀:Shared} {Q:Flow→Shared→Prop} (hc:ScOk c F) (hn:c.store n x=true) (hm:c.store m y=true) (hxy:x ≠ y) (H:At C F r g s l) (S:SteP C.w C.K F.wr g₀ s₀ g s l') (r1:Rep C.w g s.heap v1 d) (r2:Rep C.w g s.heap v2 e)
  (h:∀ s',SteP C.w C.K F.wr g₀ s₀ g s' l'→At C F (setV (setV r n d) m e) g s' l→Q .next s'):wpAny (model pw C.w) A (storeName F.env y v2) (fun _ s₁=>wpAny (model pw C.w) A (storeName F.env x v1) (fun _ s₂=>Q .next s₂) E s₁) E s :=
 store_sound hc hm H r2 fun s₁ S₁ H₁=>store_sound hc hn H₁ (r1.le (steP_le H S₁)) fun s₂ S₂ H₂=>h s₂ (Ste.trans0 (Ste.trans0 S S₁) S₂) (Eq.mpr (congrArg (fun r=>At C F r g s₂ l) (setB_comm r _ _ (store_ne hc hn hm hxy))) H₂)
theorem ex_swp {n m:Nat} {x y:Str} {px py p p' p2:Pos} {k k2:Nat} {ea eb:Expr} {d e:D} (env:Env) (hh:A.handled=none) (hn:c.store n x=true) (hm:c.store m y=true) (hsw:swPair c x y px py ea eb=true)
  (ha:∀ F,F.env=env→ScOk c F→EvOk C A F r (eval ea env) d l) (hb:∀ F,F.env=env→ScOk c F→EvOk C A F r (eval eb env) e l') :
  ExOk C A c env r (exec (.Assign [.Tuple [.Name x px,.Name y py] k p'] (.Tuple [ea,eb] k2 p2) p) env) .next (setV (setV r n d) m e) (l++l'):=fun F g s E Q henv ht hc H h=>by
 subst henv
 have i:=swPair_i hsw
 have hev:=ok_tup (p:=p2) (k:=k2) (ds:=[d,e]) (Nat.le_add_left 2 65534) (oks_cons (p:=p2) i.sa (ha F rfl hc) (oks_cons i.sb (hb F rfl hc) oks_nil))
 rw [List.append_nil] at hev
 refine exec_pair hh hc H.ev.kind i (hev g s E _ H fun g₁ s₁ v S₁ rv=>?_)
 obtain ⟨T,vs,rfl,_,hT,_,hr⟩:=rv.tup_inv
 obtain ⟨v1,v2,rfl,r1,r2⟩:=two_inv hr
 refine ⟨T,v1,v2,rfl,hT.isTuple,fun h' he hs=>?_⟩
 have S₂:Ste C.w C.K g₁ s₁ g₁ { s₁ with heap:=h' } []:=Ste.grow S₁.inv (fun b o e=>he b o (Nat.ne_of_lt (Heap.lt_size e)) e) hs (Nat.le_refl _)
 have L₂:=S₂.le S₁.inv
 exact store_pair (P:=F.wr) hc hn hm i.ne (At.b (l:=[]) (H.done S₁) S₂) (Ste.of (Ste.trans0 S₁ S₂)) (r1.le L₂) (r2.le L₂) fun s' S H'=>h F g₁ s' .next FrmLe.refl S H'.ev rfl
end
end
section
section
variable {C:Cx} {A:Around} {F:Frm} {c:Sc} {g g':G} {s s':Shared} {r:Rho} {E:Value→Shared→Prop} {l l':List D}
theorem free_set {n m:Nat} {b:B} (h:n ≠ m) (hr:isFree r n=true):isFree (setB r m b) n=true :=
 (setB_at r m b n).elim (fun q=>absurd q.1 h) fun q=>by unfold isFree; rw [q.2]; exact hr
theorem new_priv {w:World} {K:Frag} {a:Addr} (ev:EnvOk w g s.heap F r) (I:Inv w K g s) (h:s.heap.objs.size≤a):a ∉ F.priv:=fun q=>Nat.lt_irrefl _ (Nat.lt_of_lt_of_le (ev.live I q) h)
theorem pair_grow {w:World} {K:Frag} {v1 v2:Value} {h':Heap} (I:Inv w K g s) (he:Heap.ExtBut (s.heap.push { cls:=.type "tuple",data:=.seq [v1,v2].toArray }).objs.size (s.heap.push { cls:=.type "tuple",data:=.seq [v1,v2].toArray }) h') (hs:(s.heap.push { cls:=.type "tuple",data:=.seq [v1,v2].toArray }).objs.size≤h'.objs.size):Ste w K g s g { s with heap:=h' } [] :=
 have S:=Ste.push I { cls:=.type "tuple",data:=.seq [v1,v2].toArray } (Nat.le_refl s.toks)
 Ste.trans0 S (Ste.grow S.inv (fun b o e=>he b o (Nat.ne_of_lt (Heap.lt_size e)) e) hs (Nat.le_refl _))
theorem pair_is (h:Heap) (v1 v2:Value):(h.push { cls:=.type "tuple",data:=.seq [v1,v2].toArray }).IsTuple h.objs.size #[v1,v2]:=⟨_,Heap.get?_push_size _ rfl,rfl,0,rfl⟩
theorem RepL.erase {w:World} {g:G} {h:Heap} {us:List Value} {es:List D} (x:RepL w g h us es):∀ m,RepL w g h (us.eraseIdx m) (es.eraseIdx m) :=
 RepL.ind (P:=fun us es=>∀ m,RepL w g h (us.eraseIdx m) (es.eraseIdx m)) (fun _=>.nil) (fun _ _ _ _ a b ih m=>by
  cases m with
  | zero=>exact b
  | succ m=>exact .cons a (ih m)) x
theorem er_list (vs:Array Value) (k:Nat):(vs.eraseIdxIfInBounds k).toList=vs.toList.eraseIdx k:=by
 unfold Array.eraseIdxIfInBounds
 split
 ·exact Array.toList_eraseIdx ..
 ·rename_i hk
  rw [List.eraseIdx_of_length_le (Array.length_toList ▸ Nat.le_of_not_lt hk)]
theorem er_size (vs:Array Value) (k:Nat):(vs.eraseIdxIfInBounds k).size≤vs.size:=by
 rw [← Array.length_toList,er_list,← Array.length_toList]
 exact List.length_eraseIdx_le ..
section
variable {n m:Nat} {x y:Str} {px py p p' p2:Pos} {k k2:Nat} {ea eb:Expr} (env:Env) (hh:A.handled=none) (hn:c.store n x=true) (hm:c.store m y=true)
include hh hn hm
theorem ex_own2 {d e:D} (hsw:swPair c x y px py ea eb=true) (hrn:isFree r n=true) (hrm:isFree r m=true)
  (ha:∀ F,F.env=env→ScOk c F→NewOk C A F r (eval ea env) d l) (hb:∀ F,F.env=env→ScOk c F→NewOk C A F r (eval eb env) e l') :
  ExOk C A c env r (exec (.Assign [.Tuple [.Name x px,.Name y py] k p'] (.Tuple [ea,eb] k2 p2) p) env) .next (setO (setO r n d) m e) (l++l'):=fun F g s E Q henv ht hc H h=>by
 subst henv
 have i:=swPair_i hsw
 have hne:=store_ne hc hn hm i.ne
 refine exec_pair hh hc H.ev.kind i (wpAny_Tuple (wpAny_items_cons (ha F rfl hc g s _ _ H.a fun g₁ s₁ a S₁ a1 a2 a3 a4=>wpAny_items_cons (hb F rfl hc g₁ s₁ _ _ (H.b S₁) fun g₂ s₂ b S₂ b1 b2 b3 b4=>wpAny_items_nil ⟨(show 2≤sizeLine by decide),?_⟩) (starEach_cons i.sb)) (starEach_cons i.sa)))
 refine ⟨_,_,_,rfl,pair_is _ _ _,fun h' he hs=>?_⟩
 have S₅:=pair_grow S₂.inv he hs
 have SS:=Ste.trans0 S₂ S₅
 have H₁:=H.b S₁
 have hap:=new_priv H.ev H.inv a1
 refine store_own hc ht hm (H₁.done SS) (Ste.of SS (P:=F.wr)) (wr_new ht b1) (new_priv H₁.ev H₁.inv b1) (Acc.step ⟨b2,b3,b4⟩ S₂.inv S₅ (fun _=>False.elim) id) hrm fun s₆ S₆ H₆=>?_
 have L₆:FrmLe s F (F.addOwn m b):=addOwn_le (Nat.le_trans S₁.size b1)
 refine store_own (F:=F.addOwn m b) (hc.of L₆) ht hn H₆ (((Ste.of S₁).trans S₆).mono fun q hq=>(wr_top (F:=F.addOwn m b) ht).mpr (priv_perm.mem_iff.mpr (List.mem_cons_of_mem _ (F.wr_priv hq)))) (wr_new ht a1)
  (fun q=>(priv_addOwn q).elim hap fun e=>Nat.lt_irrefl _ (Nat.lt_of_lt_of_le (H₁.inv.xlt a2) (e ▸ b1))) (Acc.step ⟨a2,a3,a4⟩ H₁.inv S₆ (fun q hq=>H₁.ev.wrX hq) fun q=>hap (F.wr_priv q)) (free_set hne hrn) fun s₇ S₇ H₇=>?_
 exact h ((F.addOwn m b).addOwn n a) g₂ s₇ .next (L₆.trans (addOwn_le a1) (Nat.le_refl _)) ((SteP.refl H.inv).trans' S₇ fun q hq=>L₆.wr ht hq) (Eq.mpr (congrArg (EnvOk C.w g₂ s₇.heap _) (setB_comm r _ _ hne)) H₇.ev) rfl
theorem ex_popd {q:Nat} {z:Str} {pr pz ap cp bp:Pos} {ie:Expr} {sr st:List Nat} {j:Nat} {ds:List D} {e:D} (hnx:c.name n x=true) (hz:c.name q z=true)
  (hsi:noStar ie=true) (hline:(ap.endLine == cp.line)=true) (hsw:swPair c x y px py (.BinOp (.Name x pr) .Add (.Call (.Attribute (.Name z pz) "pop" ap) [ie] [] cp) bp) eb=true)
  (hs:getV r n=some (.str sr)) (hi:∀ F,F.env=env→ScOk c F→EvOk C A F r (eval ie env) (.int (.ofNat j)) l) (ho:getO r q=some (.lst ds)) (hj:ds[j]?=some (.str st)) (hlen:sr.length+st.length≤65536)
  (hb:∀ F,F.env=env→ScOk c F→EvOk C A F (setO r q (.lst (ds.eraseIdx j))) (eval eb env) e l') :
  ExOk C A c env r (exec (.Assign [.Tuple [.Name x px,.Name y py] k p'] (.Tuple [.BinOp (.Name x pr) .Add (.Call (.Attribute (.Name z pz) "pop" ap) [ie] [] cp) bp,eb] k2 p2) p) env) .next
   (setV (setV (setO r q (.lst (ds.eraseIdx j))) n (.str (sr++st))) m e) (l++l'):=fun F g s E Q henv ht hc H h=>by
 subst henv
 have i:=swPair_i hsw
 obtain ⟨hTx,hdx,hcx⟩:=name_i hc hnx
 obtain ⟨a,h1,h2,h3,hdz,hcz⟩:=own_name hc hz H ho
 obtain ⟨_,y',vr,hy',hva,hvr⟩:=H.ev.var n _ (getV_iff.mp hs)
 obtain rfl:=Option.some.inj (hTx.symm.trans hy')
 obtain ⟨tr,rfl⟩:=hvr.str_inv
 obtain ⟨vs,⟨kk,hlo⟩,_⟩:=h3
 refine exec_pair hh hc H.ev.kind i (wpAny_Tuple (wpAny_items_cons (wpAny_BinOp (eval_var H.ev hva hdx hcx (PySem.Call_method1 (base_plain rfl _ _ _) (starEach_cons hsi) hline (eval_var H.ev h1 hdz hcz ⟨"list","list.pop",PySem.F.plainAttrs_list,PySem.F.slot_list_pop,PySem.F.type_list_pop,⟨_,hlo,rfl⟩,(fun b e=>by cases e; exact ⟨_,hlo,rfl⟩),
  P.pop_at_list (hi F rfl hc g s E _ H.a fun g₁ s₁ v S₁ rv=>?_)⟩))))))
 have H₁:=H.b S₁
 obtain ⟨ti,rfl⟩:=rv.int_inv
 obtain ⟨vs₁,⟨k₁,ho₁⟩,hz₁,hr₁⟩:=own_rep H₁ ho h2
 obtain ⟨vy,hvy,rvy⟩:=hr₁.get _ _ hj
 obtain ⟨ty,rfl⟩:=rvy.str_inv
 have hjl:j < vs₁.size:=size_eq hr₁ ▸ (List.getElem?_eq_some_iff.mp hj).1
 refine ⟨vs₁,k₁,_,ti,j,_,Nat.le_trans hz₁ (by decide),rfl,ho₁,and_tt (decide_eq_true (gt63 j)) (decide_eq_true (lt63 (Nat.lt_of_lt_of_le hjl hz₁))),seqI hjl,(Array.getElem?_toList ..).symm.trans hvy,?_⟩
 have hsb:Heap.SameBut a s₁.heap (s₁.heap.update a (Obj.mapSeq fun xs=>xs.eraseIdxIfInBounds j)):=Heap.SameBut.update ..
 have u:=own_upd (d':=.lst (ds.eraseIdx j)) ht H₁ ho h2 hsb ⟨vs₁.eraseIdxIfInBounds j,⟨_,IsL.update ho₁ _⟩,Nat.le_trans (er_size vs₁ j) hz₁,by
  rw [er_list]
  exact (hr₁.erase j).le (le_same (own_X H₁ h2) hsb)⟩ (Nat.le_refl s₁.toks)
 refine bin_sound (o:=.Add) (a:=.str sr) (b:=.str st) (c:=.str (sr++st)) (e:=if_pos (decide_eq_true hlen)) u.1.inv (.str sr tr) (.str st ty) fun g₃ s₃ v₃ S₃ r₃=>?_
 have SS:=Ste.trans0 (Ste.trans0 (Ste.of S₁ (P:=F.wr)) u.1) (Ste.of S₃)
 have H₃:=At.b (l:=[]) u.2 S₃
 refine wpAny_items_cons (env:=F.env) (pos:=p2) (e:=eb) (rest:=[]) (hb F rfl hc g₃ s₃ E _ H₃ fun g₄ s₄ v₄ S₄ r₄=>wpAny_items_nil ⟨(show 2≤sizeLine by decide),?_⟩) (starEach_cons i.sb)
 refine ⟨_,_,_,rfl,pair_is _ _ _,fun h' he hs'=>?_⟩
 have S₅:=pair_grow S₄.inv he hs'
 have L₅:=S₅.le S₄.inv
 exact store_pair (P:=F.wr) hc hn hm i.ne (H₃.done (Ste.trans0 S₄ S₅)) (SS.trans (Ste.of (Ste.trans0 S₄ S₅))) ((r₃.le (S₄.le S₃.inv)).le L₅) (r₄.le L₅) fun s' S H'=>h F g₄ s' .next FrmLe.refl S H'.ev rfl
end
end
end
section
section
variable {C:Cx} {A:Around} {F:Frm} {c:Sc} {g g':G} {s s':Shared} {r r':Rho} {E:Value→Shared→Prop} {l l':List D}
noncomputable def mtUse (c:Sc) (x:Str) (px cp:Pos) (sc:Scope):Bool:=c.kd x == some .local&&(px.line == cp.line&&!(sc.names.any fun (n,k)=>n == x&&(k == .local || k == .cell)))
theorem swaps_use {elt:Expr} {gs:List Comprehension} {sc:Scope} {cp px:Pos} {x:Str} {n:Nat} (hc:ScOk c F) (hk:F.env.scope.kind=.function) (h:mtUse c x px cp sc=true):swapsWith (.ListComp elt gs sc cp) (some (.Name x px)) n F.env=pure true:=by
 obtain ⟨h1,h⟩:=ba h
 obtain ⟨h2,h3⟩:=ba h
 have hb:F.env.blockKind=.function:=by unfold Env.blockKind; rw [hk]; rfl
 refine congrArg (fun b:Bool=>(pure b:Sem Bool)) (and_tt (and_tt (and_tt (beq_iff_eq.mpr hb) (beq_iff_eq.mpr (hc.loc x (eq_of_beq h1)))) h2) h3)
structure Stored (C:Cx) (F:Frm) (g:G) (s:Shared) (l:List D) (r':Rho) (C₀:Addr) (F':Frm) (g₂:G) (s₂:Shared):Prop where
 le:FrmLe s F F'
 S:SteP C.w C.K F.wr g s g₂ s₂ l
 ev:EnvOk C.w g₂ s₂.heap F' r'
 hp:C₀ ∉ F'.priv
 X:g₂.X C₀
 na:g₂.na ≠ some C₀
 ns:∃ m,s₂.heap.Ns C₀ m
section
variable {n:Nat} {x:Str} {px p cp:Pos} {elt:Expr} {gs:List Comprehension} {sc:Scope} {zd:D} (env:Env) (hs:c.store n x=true) (hu:mtUse c x px cp sc=true) (hv:∀ F,F.env=env→ScOk c F→CompOk C A F r (compOf elt gs sc cp env) zd l)
include hs hu hv
theorem comp_st (hst:∀ (F:Frm) (g:G) (s:Shared) (E:Value→Shared→Prop) (Q:Unit→Shared→Prop),F.env=env→F.top=true→ScOk c F→At C F r g s l→∀ g' s' a C₀,CompFin C g s zd l g' s' a C₀→(∀ F' g₂ s₂,Stored C F g s l r' C₀ F' g₂ s₂→Q () s₂)→wpAny (model pw C.w) A (storeName F.env x (.ref a)) Q E s') :
  ExOk C A c env r (exec (.Assign [.Name x px] (.ListComp elt gs sc cp) p) env) .next r' l:=fun F g s E Q henv ht hc H h=>by
 subst henv
 rw [exec_Assign_Name_used x px _ p (swaps_use hc H.ev.kind hu)]
 refine wpAny_bind (wpAny_standAt (wpAny_bind (wpAny_bind (hv F rfl hc g s E (some (assign (.Name x px) F.env)) _ H fun g' s' a C₀ f=>wpAny_assign_Name (hst F g s E _ rfl ht hc H g' s' a C₀ f fun F' g₂ s₂ t=>?_)))))
 obtain ⟨m,hm⟩:=t.ns
 refine ⟨m,hm,fun h' hs'=>wpAny_pure (wpAny_pure ?_)⟩
 have q:=let_names t.S f.lC t.X t.na hs'
 exact h F' _ _ .next t.le q.1 (t.ev.le q.2 (fun b hb o e=>(hs'.2 b fun (q:b=C₀)=>t.hp (q ▸ hb)).trans e) fun b hb=>⟨fun q=>t.hp (List.mem_singleton.mp q ▸ hb),(t.ev.px b hb).1⟩) rfl
theorem ex_comp:ExOk C A c env r (exec (.Assign [.Name x px] (.ListComp elt gs sc cp) p) env) .next (setV r n zd) l :=
 comp_st env hs hu hv fun F g s E Q he ht hc H g' s' a C₀ f h =>
  have Sf:=f.S.frz f.la (f.S.na ▸ f.acc.na)
  have hCp:=new_priv H.ev H.inv f.lC
  store_sound hc hs (H.done Sf) f.acc.rep.frozen fun s₂ S₂ H₂=>h F _ s₂ ⟨FrmLe.refl,Ste.trans0 (Ste.of Sf) S₂,H₂.ev,hCp,⟨f.ne,f.cX⟩,f.cN,f.ns.imp fun m hm=>hm.at' fun o e=>S₂.keep _ o (fun q=>hCp (F.wr_priv q)) f.cN e⟩
theorem ex_compO (hr:isFree r n=true):ExOk C A c env r (exec (.Assign [.Name x px] (.ListComp elt gs sc cp) p) env) .next (setO r n zd) l :=
 comp_st env hs hu hv fun F g s E Q he ht hc H g' s' a C₀ f h =>
  have hCp:C₀ ∉ (F.addOwn n a).priv:=fun q=>(priv_addOwn q).elim (new_priv H.ev H.inv f.lC) f.ne
  store_own (P:=(F.addOwn n a).wr) hc ht hs (H.done f.S) (SteP.refl f.S.inv) (fun _=>.inl) (new_priv H.ev H.inv f.la) f.acc hr fun s₂ S₂ H₂ =>
   h (F.addOwn n a) g' s₂ ⟨addOwn_le f.la,Ste.trans0' (Ste.of f.S) S₂ (wr_new ht f.la),H₂.ev,hCp,f.cX,f.cN,f.ns.imp fun m hm=>hm.at' fun o e=>S₂.keep _ o (fun q=>hCp ((F.addOwn n a).wr_priv q)) f.cN e⟩
end
end
end
section
section
variable {C:Cx} {A:Around} {F:Frm} {c:Sc} {g g':G} {s s':Shared} {r:Rho} {l l':List D} {E:Value→Shared→Prop}
inductive DputI (ac:D) (p:D × D) (ac':D):Prop
 | mk (ks:List (List Nat)) (vs:List D) (k:List Nat) (h1:ac=.dctS ks vs) (h2:p.1=.str k) (h3:ks.contains k=false) (h4:ks.length < 65536) (h5:ac'=.dctS (ks++[k]) (vs++[p.2]))
theorem dput_i {ac ac':D} {p:D × D} (h:dput ac p=some ac'):DputI ac p ac':=by
 obtain ⟨ks,vs,h1,h⟩:=onD_i h
 obtain ⟨k,h2,h⟩:=onS_i h
 cases h3:ks.contains k <;> rw [h3] at h
 ·cases h4:Nat.ble 65536 ks.length <;> rw [h4] at h
  ·exact ⟨ks,vs,k,h1,h2,h3,Nat.lt_of_not_le fun q=>Bool.false_ne_true (h4.symm.trans (Nat.ble_eq_true_of_le q)),(Option.some.inj h).symm⟩
  ·cases h
 ·cases h
theorem dput_ok {a:Addr} {ac ac' x y:D} {kv vv:Value} {Q:Unit→Shared→Prop} (I:Inv C.w C.K g s) (ca:Acc C.w g s a ac) (rk:Rep C.w g s.heap kv x) (rv:Rep C.w g s.heap vv y) (hp:dput ac (x,y)=some ac') (h:∀ s',SteP C.w C.K (fun b=>b=a) g s g s' []→Acc C.w g s' a ac'→Q () s') :
  wpAny (model pw C.w) A (dictSet a kv vv) Q E s:=by
 obtain ⟨ks,vs,k,rfl,hk,hnc,hl,rfl⟩:=dput_i hp
 have hk:x=.str k:=hk
 subst hk
 obtain ⟨tk,rfl⟩:=rk.str_inv
 obtain ⟨hms,kvs,hdo,hkz,hkk,hrr⟩:=ca.rep
 refine wpAny_dictSet_pairs (strKind_is pw C.w _ tk) hdo (fun h' hd' hs'=>?_) (Nat.le_trans hkz (by decide))
 unfold stored at hd'
 rw [any_key,hkk,contains_S,hnc,if_neg Bool.false_ne_true] at hd'
 rw [← List.length_map (as:=ks) Mine.S,← hkk,List.length_map] at hl
 have q:=sameX I ca (dictOf_live hd') hs' (Nat.le_succ s.toks) (d':=.dctS (ks++[k]) (vs++[y])) ⟨hms,_,hd',by rw [List.length_append]; exact hl,by rw [List.map_append,List.map_append,hkk]; rfl,by rw [List.map_append]; exact (hrr.append (.cons rv .nil)).le (le_same ca.X hs')⟩
 exact h _ q.1 q.2
noncomputable def setOf (kx vx:Expr) (a:Addr) (env:Env):Sem Unit:=do
 let kv ← eval kx env
 let vv ← holding [kv] (eval vx env)
 standAt { kx.pos with endLine:=vx.pos.endLine,endCol:=vx.pos.endCol }
 holding [kv,vv] (dictSet a kv vv)
noncomputable def pairF (kf vf:Rho→R1) (r:Rho):Option ((D × D) × List D):=do
 let (x,l) ← kf r
 let (y,l') ← vf r
 some ((x,y),l++l')
theorem dict_body {a:Addr} {W:Addr→Prop} {IR:Rho→Prop} {kf vf:Rho→R1} {kx vx:Expr} (hap:a ∉ F.priv) (ha:W a) (hk:∀ r x l,kf r=some (x,l)→EvOk C A F r (eval kx F.env) x l) (hv:∀ r x l,vf r=some (x,l)→EvOk C A F r (eval vx F.env) x l) (code:Code) (E':Value→Shared→Prop) :
  BodyOk C F a W IR (fun _=>some (true,[])) (pairF kf vf) dput fun Q s₃=>wpAny (model pw C.w) A (setOf kx vx a F.env >>= fun _=>again code) (fun fin s'=>fin=.again code∧Q s') E' s₃:=by
 intro g s r ac ac' l l' Q H ir ca WX t h
 cases t with
 | no h1=>cases h1
 | yes h1 h2 h3 =>
  cases h1
  obtain ⟨x,lk,h4,h2⟩:=bo (x:=kf r) h2
  obtain ⟨y,lv,h5,h2⟩:=bo (x:=vf r) h2
  obtain ⟨rfl,rfl⟩:=sp h2
  have H:At C F r g s (lk++(lv++l')):=List.append_assoc lk lv l' ▸ H
  exact wpAny_bind (wpAny_bind (hk _ _ _ h4 g s _ _ H.a fun g₁ s₁ kv S₁ rk=>wpAny_bind (wpAny_holding (hv _ _ _ h5 g₁ s₁ _ _ (H.b S₁).a fun g₂ s₂ vv S₂ rv=>wpAny_bind (wpAny_standAt (wpAny_holding (by
   have S:=S₁.trans S₂
   have c₂:=ca.step H.inv S (fun _=>False.elim) id
   exact dput_ok S₂.inv c₂ (rk.le (S₂.le S₁.inv)) rv h3 fun s₃ S₃ c₃=>wpAny_pure ⟨rfl,h g₂ s₃ (Ste.trans0 (Ste.of S) (S₃.mono fun b hb=>hb ▸ ha)) c₃
    (At.stp (l:=[]) ((H.b S₁).b S₂) S₃ (fun b hb=>hb ▸ c₂.X) fun b hb=>hb ▸ hap)⟩)))))))
section
variable {sc:Scope} {fs tgs:List Nat}
theorem dct0 (g:G) (H:Heap) (a:Addr) (ha:64≤a) (h:H.get? a=some { cls:=.type "dict",data:=.dict #[] }):OwnRep C.w g H a (.dctS [] []) :=
 ⟨beq_eq_false_iff_ne.mpr fun q=>absurd (q ▸ ha) (by decide),[],⟨_,#[],0,h,⟨rfl,rfl,rfl⟩,rfl,fun _ he=>absurd he (Array.not_mem_empty _),.nil,List.nodup_nil⟩,Nat.zero_le _,rfl,.nil⟩
theorem ok_dcN {t:Tg} {tg kx vx iter:Expr} {tup:Bool} {pos:Pos} {kf vf:Rho→R1} {ds:List D} {xs:List (D × D)} {zd:D} (hh:A.handled=none) (hc:ScOk c F) (hm:mtSc c sc fs tgs=true)
  (hmt:mtTg (c.comp sc fs tgs) t tg=true) (ht:tup=true→∃ l,t=.tup l) (hit:IterOk C A F r iter tg tup true ds l) (hs:∀ x,foldedSetIterable iter F.env x=pure x)
  (hk:∀ L r x l,kf r=some (x,l)→EvOk C A (F.comp c sc fs tgs L) r (eval kx (F.comp c sc fs tgs L).env) x l)
  (hv:∀ L r x l,vf r=some (x,l)→EvOk C A (F.comp c sc fs tgs L) r (eval vx (F.comp c sc fs tgs L).env) x l)
  (he:turns t (fun _=>some (true,[])) (pairF kf vf) ds (mask fs r)=some (xs,l')) (hz:dctOf xs=some zd) :
  NewOk C A F r (eval (.DictComp kx vx [⟨tg,iter,[],0⟩] sc pos) F.env) zd (l++l'):=CompOk.new (m:=fun use=>comprehension (.DictComp kx vx [⟨tg,iter,[],0⟩] sc pos) sc F.env (firstIterPos [⟨tg,iter,[],0⟩] pos) newDict false (eval iter F.env) use) fun g s E use Q H fin=>by
 refine comp_setup (o:={ cls:=.type "dict",dict:=none,data:=.dict #[] }) hc (mtSc_iff hm) hit hs rfl rfl (fun Q E s h=>wpAny_newObj_type h) dct0 H fin fun L a C₀ R e1 e2 e3 e4 e5 e6 K hR=>?_
 subst e1 e2 e3 e4 e6
 have hl:=comp_go (IR:=fun _=>True) (t:=t) (put:=dput) (zd:=zd) (e:=.DictComp kx vx [⟨L.tg,iter,[],0⟩] sc pos) (p:=iter.pos) (R:=R) K hh (comp_scOk C₀) hmt ht (fun _ _ _ h _=>h) trivial rfl rfl rfl (fun E'=>dict_body K.hap (K.W ▸ .inl rfl) (hk _) (hv _) _ E') he hz hR
 exact codeAny_compStart_dict hl (K.O.T.self e5 _ _ _ K.O.T.st hl)
end
end
end
section
noncomputable abbrev two (elt tg it tg' it':Expr) (scope:Scope) (pos:Pos):Expr:=.ListComp elt [⟨tg,it,[],0⟩,⟨tg',it',[],0⟩] scope pos
theorem compStart1 {prog:Program} {w:World} {A:Around} {R:Result→Shared→Prop} {s:Shared} {elt tg iter tg' iter':Expr} {scope:Scope} {pos:Pos} {it acc:Value} {env:Env}
  (h0:codeAny (model prog w) A (.compLoop (two elt tg iter tg' iter' scope pos) 1 it acc env) R s)
  (h:wpAny (model prog w) A (pyIter it) (fun it' s'=>codeAny (model prog w) A (.compLoop (two elt tg iter tg' iter' scope pos) 1 it' acc env) R s') (notedBy (model prog w) A env fun x s'=>R (.error x) s') s) :
  codeAny (model prog w) A (.compStart (two elt tg iter tg' iter' scope pos) 1 it acc env) R s:=by
 refine codeAny_of_tree ?_
 show wpAny _ _ ((compStart (two elt tg iter tg' iter' scope pos) 1 it acc env).onRaise (fun x=>do noteFrame x env; standAt theWindowsPlace)) _ _ s
 refine wpAny_notedAt (wpAny_bind (wpAny_askSetting (wpAny_ite ?_)))
 split
 ·exact wpAny_bind (wpAny_pure (wpAny_pure ⟨rfl,h0⟩))
 ·exact wpAny_bind (wpAny_rule (wpAny_bind (wpAny_standAt (wpAny_bind (wpAny_mono h (fun it' s' h'=>wpAny_pure ⟨rfl,h'⟩) fun _ _ x=>x)))))
theorem oput_i {d d':D} {xs:List D} (h:oput d xs=some d'):∃ ds,d=.lst ds∧puts lput (.lst ds) xs=some d':=by
 obtain ⟨ds,rfl,h⟩:=onL_i h
 obtain ⟨h1,h2⟩:=if_s h
 exact ⟨ds,rfl,(puts_l h1).trans h2⟩
theorem puts_o:∀ {xss:List (List D)} {a:List D},a.length+xss.flatten.length≤65536→puts oput (.lst a) xss=some (.lst (a++xss.flatten)):=by
 intro xss
 induction xss with
 | nil=>intro a _; exact congrArg (fun l=>some (D.lst l)) (List.append_nil a).symm
 | cons xs xss ih =>
  intro a h
  rw [List.flatten_cons,List.length_append,← Nat.add_assoc] at h
  have e:=ih (a:=a++xs) (by rw [List.length_append]; exact h)
  rw [List.append_assoc,← List.flatten_cons] at e
  show ((if a.length+xs.length≤65536 then some (D.lst (a++xs)) else none).bind fun d=>puts oput d xss)=_
  rw [if_pos (Nat.le_trans (Nat.le_add_right ..) h)]
  exact e
theorem EnvOk.forget {w:World} {g:G} {h:Heap} {F:Frm} {r r':Rho} (e:EnvOk w g h F r') (q:∀ (n:Nat) (b:B),r n=some b→r' n=some b):EnvOk w g h F r:={ e with bnd:=fun n b x=>e.bnd n b (q n b x) }
section
variable {C:Cx} {A:Around} {F:Frm} {c:Sc} {g g':G} {s s':Shared} {r:Rho} {l l':List D} {E:Value→Shared→Prop} {k m:Nat} {elt tg iter tg' iter':Expr} {sc:Scope} {pos:Pos} {tup tup':Bool} {ef:Rho→R1} {ef2:Rho→Option (List D × List D)} {a:Addr} {W:Addr→Prop}
noncomputable def InnerI (C:Cx) (A:Around) (F:Frm) (m:Nat) (iter' tg':Expr) (tup':Bool) (ef:Rho→R1) (r:Rho) (xs l:List D):Prop:=∃ ds' la lb,IterOk C A F r iter' tg' tup' true ds' la∧turns (.name m) (fun _=>some (true,[])) ef ds' r=some (xs,lb)∧l=la++lb
theorem app_body {IR:Rho→Prop} (hap:a ∉ F.priv) (ha:W a) (helt:∀ r x l,ef r=some (x,l)→EvOk C A F r (eval elt F.env) x l) (code:Code) (E':Value→Shared→Prop) :
  BodyOk C F a W IR (fun _=>some (true,[])) ef lput fun Q s₃=>wpAny (model pw C.w) A (appOf elt (.ref a) F.env >>= fun _=>again code) (fun fin s'=>fin=.again code∧Q s') E' s₃:=by
 intro g s r ac ac' l l' Q H ir ca WX t h
 cases t with
 | no h1=>cases h1
 | yes h1 h2 h3 =>
  cases h1
  exact wpAny_bind (app_ok H ca hap (helt _ _ _ h2) h3 fun g₂ s₂ S₂ c₂ H₂=>wpAny_pure ⟨rfl,h g₂ s₂ (S₂.mono fun b hb=>hb ▸ ha) c₂ H₂⟩)
section
variable (hh:A.handled=none) (hc:ScOk c F) (tp:F.top=false) (hW:W=fun b=>b=a ∨ b=F.env.locals) (hap:a ∉ F.priv) (hm':mtTg c (.name m) tg'=true) (ht':tup'=true→∃ l,Tg.name m=.tup l) (helt:∀ r x l,ef r=some (x,l)→EvOk C A F r (eval elt F.env) x l)
include hh hc tp hW hap hm' ht' helt
theorem inner_ok {ac ac':D} {xs:List D} {Q:Shared→Prop} (H:At C F r g s (l++l')) (hu:r m=none) (ca:Acc C.w g s a ac) (WX:∀ b,W b→g.X b) (hi:InnerI C A F m iter' tg' tup' ef r xs l) (hp:oput ac xs=some ac')
  (h:∀ g' s',SteP C.w C.K W g s g' s' l→Acc C.w g' s' a ac'→At C F r g' s' l'→Q s'):wpAny (model pw C.w) A (eval iter' F.env) (fun x s₃=>wpAny (model pw C.w) A (pyIter x) (fun i s₄=>∀ E':Value→Shared→Prop,codeAny (model pw C.w) A (.compStart (two elt tg iter tg' iter' sc pos) 1 i (.ref a) F.env) (fun r s₅=>match r with | .ok _=>Q s₅ | .error e=>E' e s₅) s₄) E s₃) E s:=by
 obtain ⟨ds',la,lb,hio,htu,rfl⟩:=hi
 obtain ⟨as,rfl,hq⟩:=oput_i hp
 refine hio g s E _ H.a.a fun g₁ s₁ I fp wr P Md St S₁ T E'=>?_
 have X₁:∀ b,W b→g₁.X b:=fun b hb=>(S₁.X b (H.inv.xlt (WX b hb))).mpr (WX b hb)
 have old:∀ b ∈ wr,¬ b < s.heap.objs.size:=fun b hb q=>Nat.lt_irrefl _ (Nat.lt_of_lt_of_le q (T.hwr b hb).1)
 have hF:∀ b,F.wr b→W b:=fun b hb=>by
  unfold Frm.wr at hb
  rw [tp] at hb
  rw [hW]
  exact .inr hb
 have O:Lp.Ok ⟨C,A,tg',tup',true,s.heap.objs.size,g₁,s₁,I,fp,wr,P,Md,St,ds',W⟩:=⟨T,(H.a.b S₁).good,X₁,fun b hb q=>(T.hfp b hb).elim (fun h=>old b h (H.inv.xlt (WX b q))) fun h=>h.1 (X₁ b q)⟩
 have hl:=loop_turns (e:=two elt tg iter tg' iter' sc pos) (d:=1) (it:=.ref I) (acc:=.ref a) (env:=F.env) (R:=fun r s₅=>match r with | .ok _=>Q s₅ | .error e=>E' e s₅) (p:=iter'.pos) rfl rfl rfl _ (fun n s₂ J Q hQ hN=>cj_next (IR:=fun r'=>∀ n b,r n=some b→r' n=some b) (zd:=ac') (l:=lb) O hh hc hm' ht' hF (fun b hb q=>old b q (H.ev.live H.inv hb)) (fun q=>old a q (H.inv.xlt ca.X)) hap
  (fun d r₁ r₂ i e n b q=>by
   obtain rfl:=Option.some.inj e
   exact (setB_at r₁ m _ n).elim (fun z=>nomatch hu.symm.trans ((congrArg r z.1).symm.trans q)) fun z=>z.2.trans (i n b q)) (app_body hap (hW ▸ .inl rfl) helt _ _) J (Ste.of S₁) rfl (fun b=>.inl) (fun v s' h=>wpAny_bind (h _ fun s₃ q=>q)) hQ fun r' g' s' S cov H' c' =>
   hN s' (h g' s' S c' ⟨H'.good,H'.ev.forget cov,S.log ▸ lg_r H.lg⟩)) _ _ (cj_start O (H.a.b S₁) (fun _ _=>id) (ca.step H.inv S₁ (fun _=>False.elim) id) htu hq)
 exact compStart1 hl (T.self rfl _ _ _ T.st hl)
noncomputable def outBody (elt tg iter tg' iter':Expr) (sc:Scope) (pos:Pos) (it acc:Value) (env:Env):Sem PySem.Fin :=
 eval iter' env >>= fun x=>standAt iter'.pos >>= fun _=>foldedSetIterable iter' env x >>= fun x=>holding [x] (pyIter x) >>= fun i=>runOwn (.compStart (two elt tg iter tg' iter' sc pos) 1 i acc env) env >>= fun _=>again (.compLoop (two elt tg iter tg' iter' sc pos) 0 it acc env)
theorem out_body {it:Value} (hs:∀ x,foldedSetIterable iter' F.env x=pure x) (hin:∀ r xs l,ef2 r=some (xs,l)→InnerI C A F m iter' tg' tup' ef r xs l) (E':Value→Shared→Prop) :
  BodyOk C F a W (fun r=>r m=none) (fun _=>some (true,[])) ef2 oput fun Q s₃=>wpAny (model pw C.w) A (outBody elt tg iter tg' iter' sc pos it (.ref a) F.env) (fun fin s'=>fin=.again (.compLoop (two elt tg iter tg' iter' sc pos) 0 it (.ref a) F.env)∧Q s') E' s₃:=by
 intro g s r ac ac' l l' Q H ir ca WX t h
 cases t with
 | no h1=>cases h1
 | yes h1 h2 h3 =>
  cases h1
  refine wpAny_bind (wpAny_mono (inner_ok (iter:=iter) (tg:=tg) (sc:=sc) (pos:=pos) hh hc tp hW hap hm' ht' helt H ir ca WX (hin _ _ _ h2) h3 h) (fun x s₃ h₃=>wpAny_bind (wpAny_standAt ?_)) fun _ _ q=>q)
  rw [hs]
  refine wpAny_bind (wpAny_pure (wpAny_bind (wpAny_holding (wpAny_mono h₃ (fun i s₄ h₄=>wpAny_bind (wpAny_runOwn ?_)) fun _ _ h'=>h'))))
  rw [Around.mark_none]
  refine codeAny_mono (h₄ (cameBackBy (model pw C.w) A F.env E')) fun r s₅ h₅=>?_
  cases r with
  | ok f=>exact wpAny_pure ⟨rfl,h₅⟩
  | error e=>exact h₅
end
section
variable {fs tgs:List Nat}
theorem compOk2 {ds:List D} {xss:List (List D)} (hh:A.handled=none) (hc:ScOk c F) (hm:mtSc c sc fs tgs=true)
  (hmt:mtTg (c.comp sc fs tgs) (.name k) tg=true) (ht:tup=true→∃ l,Tg.name k=.tup l) (hmt':mtTg (c.comp sc fs tgs) (.name m) tg'=true) (ht':tup'=true→∃ l,Tg.name m=.tup l) (hkm:m ≠ k) (hmf:fs.contains m=false)
  (hit:IterOk C A F r iter tg tup true ds l) (hs:∀ x,foldedSetIterable iter F.env x=pure x) (hs':∀ L x,foldedSetIterable iter' (F.comp c sc fs tgs L).env x=pure x)
  (helt:∀ L r x l,ef r=some (x,l)→EvOk C A (F.comp c sc fs tgs L) r (eval elt (F.comp c sc fs tgs L).env) x l)
  (hin:∀ L r xs l,ef2 r=some (xs,l)→InnerI C A (F.comp c sc fs tgs L) m iter' tg' tup' ef r xs l)
  (he:turns (.name k) (fun _=>some (true,[])) ef2 ds (mask fs r)=some (xss,l')) (hz:xss.flatten.length≤65536):CompOk C A F r (compOf elt [⟨tg,iter,[],0⟩,⟨tg',iter',[],0⟩] sc pos F.env) (.lst xss.flatten) (l++l'):=fun g s E use Q H fin=>by
 refine comp_setup (o:={ cls:=.type "list",dict:=none,data:=.seq ([]:List Value).toArray }) hc (mtSc_iff hm) hit hs rfl rfl (fun Q E s h=>wpAny_newObj_type h) (fun g H a _ h=>lst0 g H a h) H fin fun L a C₀ R e1 e2 e3 e4 e5 e6 K hR=>?_
 subst e1 e2 e3 e4 e6
 have hl:=comp_go (IR:=fun r=>r m=none) (t:=.name k) (put:=oput) (zd:=.lst xss.flatten) (e:=two elt L.tg iter tg' iter' sc pos) (p:=iter.pos) (R:=R) K hh (comp_scOk C₀) hmt ht
  (fun d r r' i e=>by
   obtain rfl:=Option.some.inj e
   exact (setB_at r k _ m).elim (fun z=>absurd z.1 hkm) fun z=>z.2.trans i) (by unfold mask; rw [hmf]; rfl) rfl rfl rfl (fun E'=>out_body hh (comp_scOk C₀) K.tp K.W K.hap hmt' ht' (helt _) (hs' _) (hin _) E') he (puts_o (a:=[]) (by rw [List.length_nil,Nat.zero_add]; exact hz)) hR
 exact codeAny_compStart_list hl (K.O.T.self e5 _ _ _ K.O.T.st hl)
end
end
end
section
set_option genInjectivity false
set_option genSizeOf false
theorem iter_tup {C:Cx} {A:Around} {F:Frm} {r:Rho} {a tg:Expr} {l:List D} {ds:List D} (hh:A.handled=none) (hn:isName tg=true) (x:EvOk C A F r (eval a F.env) (.tup ds) l):IterOk C A F r a tg false true ds l:=fun g s E Q H h=>by
 refine x g s E _ H fun g₁ s₁ v S₁ rv=>?_
 obtain ⟨ad,vs,rfl,hx,ho,hz,hr⟩:=rv.tup_inv
 refine wpAny_pyIter_tuple ho.isTuple ?_
 have hW:=Walks.tuple (prog:=pw) (w:=C.w) (A:=A) hh s₁.heap.objs.size ad (Nat.ne_of_lt (Heap.lt_size ho.live.choose_spec)) vs
 have kt:=KTurns.ofWalks (target:=tg) hW fun i v s' Q' E' st hq=>letGo_tupleiter st.1 hq
 rw [size_eq hr] at kt
 obtain ⟨S,T⟩:=mk_turns (tup:=false) (sf:=true) (h':=s₁.heap.push { cls:=.type "tuple_iterator",data:=.fields #[.ref ad,.int 0 0] }) (tk:=s₁.toks) (ds:=ds) S₁ kt push_keep push_le (Nat.le_refl _) wr_one ⟨⟨_,Heap.get?_push_size _ rfl,rfl,rfl⟩,(ho.at fun o e=>push_keep _ o e).isTuple⟩
  (fun _ s' Q' E' st hq=>hW.self 0 s' Q' E' st hq) (fun i h st b hb=>one_mem hb (st.1.imp fun o e=>e.1))
  (fun b hb=>(List.mem_cons.mp hb).imp (fun q=>List.mem_singleton.mpr q) fun q=>.inl (by rw [List.mem_singleton.mp q]; exact ⟨hx,ho.live⟩)) (fun i v h gh d hP hd L=>by
   obtain ⟨d',hd',rd⟩:=hr.getV i v (Array.getElem?_toList ▸ hP)
   exact (Option.some.inj (hd'.symm.trans hd) ▸ rd).le L)
 exact h _ _ _ _ _ _ _ _ S T
noncomputable def eBoolOp (e:Expr) (k:BoolOp→List Expr→Pos→Bool):Bool:=if h:e.ctorIdx=0 then Expr.BoolOp.elim e h k else false
theorem eBoolOp_i {e:Expr} {k:BoolOp→List Expr→Pos→Bool} (h:eBoolOp e k=true):V3 Expr.BoolOp k e:=Expr.BoolOp.elim (motive_1:=fun e=>eBoolOp e k=true→V3 Expr.BoolOp k e) e (elim_b h) (fun a b c h=>⟨a,b,c,rfl,h⟩) h
noncomputable def eBinOp (e:Expr) (k:Expr→Operator→Expr→Pos→Bool):Bool:=if h:e.ctorIdx=2 then Expr.BinOp.elim e h k else false
theorem eBinOp_i {e:Expr} {k:Expr→Operator→Expr→Pos→Bool} (h:eBinOp e k=true):V4 Expr.BinOp k e:=Expr.BinOp.elim (motive_1:=fun e=>eBinOp e k=true→V4 Expr.BinOp k e) e (elim_b h) (fun a b c d h=>⟨a,b,c,d,rfl,h⟩) h
noncomputable def eUnaryOp (e:Expr) (k:UnaryOp→Expr→Pos→Bool):Bool:=if h:e.ctorIdx=3 then Expr.UnaryOp.elim e h k else false
theorem eUnaryOp_i {e:Expr} {k:UnaryOp→Expr→Pos→Bool} (h:eUnaryOp e k=true):V3 Expr.UnaryOp k e:=Expr.UnaryOp.elim (motive_1:=fun e=>eUnaryOp e k=true→V3 Expr.UnaryOp k e) e (elim_b h) (fun a b c h=>⟨a,b,c,rfl,h⟩) h
noncomputable def eIfExp (e:Expr) (k:Expr→Expr→Expr→Pos→Bool):Bool:=if h:e.ctorIdx=5 then Expr.IfExp.elim e h k else false
theorem eIfExp_i {e:Expr} {k:Expr→Expr→Expr→Pos→Bool} (h:eIfExp e k=true):V4 Expr.IfExp k e:=Expr.IfExp.elim (motive_1:=fun e=>eIfExp e k=true→V4 Expr.IfExp k e) e (elim_b h) (fun a b c d h=>⟨a,b,c,d,rfl,h⟩) h
noncomputable def eDict (e:Expr) (k:List (Option Expr)→List Expr→Pos→Bool):Bool:=if h:e.ctorIdx=6 then Expr.Dict.elim e h k else false
theorem eDict_i {e:Expr} {k:List (Option Expr)→List Expr→Pos→Bool} (h:eDict e k=true):V3 Expr.Dict k e:=Expr.Dict.elim (motive_1:=fun e=>eDict e k=true→V3 Expr.Dict k e) e (elim_b h) (fun a b c h=>⟨a,b,c,rfl,h⟩) h
noncomputable def eListComp (e:Expr) (k:Expr→List Comprehension→Scope→Pos→Bool):Bool:=if h:e.ctorIdx=8 then Expr.ListComp.elim e h k else false
theorem eListComp_i {e:Expr} {k:Expr→List Comprehension→Scope→Pos→Bool} (h:eListComp e k=true):V4 Expr.ListComp k e:=Expr.ListComp.elim (motive_1:=fun e=>eListComp e k=true→V4 Expr.ListComp k e) e (elim_b h) (fun a b c d h=>⟨a,b,c,d,rfl,h⟩) h
noncomputable def eDictComp (e:Expr) (k:Expr→Expr→List Comprehension→Scope→Pos→Bool):Bool:=if h:e.ctorIdx=10 then Expr.DictComp.elim e h k else false
theorem eDictComp_i {e:Expr} {k:Expr→Expr→List Comprehension→Scope→Pos→Bool} (h:eDictComp e k=true):V5 Expr.DictComp k e:=Expr.DictComp.elim (motive_1:=fun e=>eDictComp e k=true→V5 Expr.DictComp k e) e (elim_b h) (fun a b c d z h=>⟨a,b,c,d,z,rfl,h⟩) h
noncomputable def eCompare (e:Expr) (k:Expr→List CmpOp→List Expr→Pos→Bool):Bool:=if h:e.ctorIdx=15 then Expr.Compare.elim e h k else false
theorem eCompare_i {e:Expr} {k:Expr→List CmpOp→List Expr→Pos→Bool} (h:eCompare e k=true):V4 Expr.Compare k e:=Expr.Compare.elim (motive_1:=fun e=>eCompare e k=true→V4 Expr.Compare k e) e (elim_b h) (fun a b c d h=>⟨a,b,c,d,rfl,h⟩) h
noncomputable def eCall (e:Expr) (k:Expr→List Expr→List Keyword→Pos→Bool):Bool:=if h:e.ctorIdx=16 then Expr.Call.elim e h k else false
theorem eCall_i {e:Expr} {k:Expr→List Expr→List Keyword→Pos→Bool} (h:eCall e k=true):V4 Expr.Call k e:=Expr.Call.elim (motive_1:=fun e=>eCall e k=true→V4 Expr.Call k e) e (elim_b h) (fun a b c d h=>⟨a,b,c,d,rfl,h⟩) h
noncomputable def eConstant (e:Expr) (k:Const→Nat→Pos→Bool):Bool:=if h:e.ctorIdx=19 then Expr.Constant.elim e h k else false
theorem eConstant_i {e:Expr} {k:Const→Nat→Pos→Bool} (h:eConstant e k=true):V3 Expr.Constant k e:=Expr.Constant.elim (motive_1:=fun e=>eConstant e k=true→V3 Expr.Constant k e) e (elim_b h) (fun a b c h=>⟨a,b,c,rfl,h⟩) h
noncomputable def eAttribute (e:Expr) (k:Expr→Str→Pos→Bool):Bool:=if h:e.ctorIdx=20 then Expr.Attribute.elim e h k else false
theorem eAttribute_i {e:Expr} {k:Expr→Str→Pos→Bool} (h:eAttribute e k=true):V3 Expr.Attribute k e:=Expr.Attribute.elim (motive_1:=fun e=>eAttribute e k=true→V3 Expr.Attribute k e) e (elim_b h) (fun a b c h=>⟨a,b,c,rfl,h⟩) h
noncomputable def eSubscript (e:Expr) (k:Expr→Expr→Pos→Bool):Bool:=if h:e.ctorIdx=21 then Expr.Subscript.elim e h k else false
theorem eSubscript_i {e:Expr} {k:Expr→Expr→Pos→Bool} (h:eSubscript e k=true):V3 Expr.Subscript k e:=Expr.Subscript.elim (motive_1:=fun e=>eSubscript e k=true→V3 Expr.Subscript k e) e (elim_b h) (fun a b c h=>⟨a,b,c,rfl,h⟩) h
noncomputable def eList (e:Expr) (k:List Expr→Pos→Bool):Bool:=if h:e.ctorIdx=24 then Expr.List.elim e h k else false
theorem eList_i {e:Expr} {k:List Expr→Pos→Bool} (h:eList e k=true):V2 Expr.List k e:=Expr.List.elim (motive_1:=fun e=>eList e k=true→V2 Expr.List k e) e (elim_b h) (fun a b h=>⟨a,b,rfl,h⟩) h
noncomputable def eSlice (e:Expr) (k:Option Expr→Option Expr→Option Expr→Pos→Bool):Bool:=if h:e.ctorIdx=26 then Expr.Slice.elim e h k else false
theorem eSlice_i {e:Expr} {k:Option Expr→Option Expr→Option Expr→Pos→Bool} (h:eSlice e k=true):V4 Expr.Slice k e:=Expr.Slice.elim (motive_1:=fun e=>eSlice e k=true→V4 Expr.Slice k e) e (elim_b h) (fun a b c d h=>⟨a,b,c,d,rfl,h⟩) h
noncomputable def sReturn (e:Stmt) (k:Option Expr→Pos→Bool):Bool:=if h:e.ctorIdx=3 then Stmt.Return.elim e h k else false
theorem sReturn_i {e:Stmt} {k:Option Expr→Pos→Bool} (h:sReturn e k=true):V2 Stmt.Return k e:=Stmt.Return.elim (motive_2:=fun e=>sReturn e k=true→V2 Stmt.Return k e) e (elim_b h) (fun a b h=>⟨a,b,rfl,h⟩) h
noncomputable def sAssign (e:Stmt) (k:List Expr→Expr→Pos→Bool):Bool:=if h:e.ctorIdx=5 then Stmt.Assign.elim e h k else false
theorem sAssign_i {e:Stmt} {k:List Expr→Expr→Pos→Bool} (h:sAssign e k=true):V3 Stmt.Assign k e:=Stmt.Assign.elim (motive_2:=fun e=>sAssign e k=true→V3 Stmt.Assign k e) e (elim_b h) (fun a b c h=>⟨a,b,c,rfl,h⟩) h
noncomputable def sAugAssign (e:Stmt) (k:Expr→Operator→Expr→Pos→Bool):Bool:=if h:e.ctorIdx=7 then Stmt.AugAssign.elim e h k else false
theorem sAugAssign_i {e:Stmt} {k:Expr→Operator→Expr→Pos→Bool} (h:sAugAssign e k=true):V4 Stmt.AugAssign k e:=Stmt.AugAssign.elim (motive_2:=fun e=>sAugAssign e k=true→V4 Stmt.AugAssign k e) e (elim_b h) (fun a b c d h=>⟨a,b,c,d,rfl,h⟩) h
noncomputable def sFor (e:Stmt) (k:Expr→Expr→List Stmt→List Stmt→Pos→Bool):Bool:=if h:e.ctorIdx=9 then Stmt.For.elim e h k else false
theorem sFor_i {e:Stmt} {k:Expr→Expr→List Stmt→List Stmt→Pos→Bool} (h:sFor e k=true):V5 Stmt.For k e:=Stmt.For.elim (motive_2:=fun e=>sFor e k=true→V5 Stmt.For k e) e (elim_b h) (fun a b c d z h=>⟨a,b,c,d,z,rfl,h⟩) h
noncomputable def sIf (e:Stmt) (k:Expr→List Stmt→List Stmt→Pos→Bool):Bool:=if h:e.ctorIdx=12 then Stmt.If.elim e h k else false
theorem sIf_i {e:Stmt} {k:Expr→List Stmt→List Stmt→Pos→Bool} (h:sIf e k=true):V4 Stmt.If k e:=Stmt.If.elim (motive_2:=fun e=>sIf e k=true→V4 Stmt.If k e) e (elim_b h) (fun a b c d h=>⟨a,b,c,d,rfl,h⟩) h
noncomputable def sExpr (e:Stmt) (k:Expr→Pos→Bool):Bool:=if h:e.ctorIdx=24 then Stmt.Expr.elim e h k else false
theorem sExpr_i {e:Stmt} {k:Expr→Pos→Bool} (h:sExpr e k=true):V2 Stmt.Expr k e:=Stmt.Expr.elim (motive_2:=fun e=>sExpr e k=true→V2 Stmt.Expr k e) e (elim_b h) (fun a b h=>⟨a,b,rfl,h⟩) h
noncomputable def cbool (e:Const) (k:Bool→Bool):Bool:=if h:e.ctorIdx=1 then Const.bool.elim e h k else false
theorem cbool_i {e:Const} {k:Bool→Bool} (h:cbool e k=true):V1 Const.bool k e:=Const.bool.elim (motive:=fun e=>cbool e k=true→V1 Const.bool k e) e (elim_b h) (fun a h=>⟨a,rfl,h⟩) h
noncomputable def cint (e:Const) (k:Int→Bool):Bool:=if h:e.ctorIdx=2 then Const.int.elim e h k else false
theorem cint_i {e:Const} {k:Int→Bool} (h:cint e k=true):V1 Const.int k e:=Const.int.elim (motive:=fun e=>cint e k=true→V1 Const.int k e) e (elim_b h) (fun a h=>⟨a,rfl,h⟩) h
noncomputable def cfloat (e:Const) (k:UInt64→Bool):Bool:=if h:e.ctorIdx=3 then Const.float.elim e h k else false
theorem cfloat_i {e:Const} {k:UInt64→Bool} (h:cfloat e k=true):V1 Const.float k e:=Const.float.elim (motive:=fun e=>cfloat e k=true→V1 Const.float k e) e (elim_b h) (fun a h=>⟨a,rfl,h⟩) h
noncomputable def cstr (e:Const) (k:Str→Bool):Bool:=if h:e.ctorIdx=5 then Const.str.elim e h k else false
theorem cstr_i {e:Const} {k:Str→Bool} (h:cstr e k=true):V1 Const.str k e:=Const.str.elim (motive:=fun e=>cstr e k=true→V1 Const.str k e) e (elim_b h) (fun a h=>⟨a,rfl,h⟩) h
noncomputable def xstr (e:X) (k:List Nat→Bool):Bool:=if h:e.ctorIdx=4 then X.str.elim e h k else false
theorem xstr_i {e:X} {k:List Nat→Bool} (h:xstr e k=true):V1 X.str k e:=X.str.elim (motive_1:=fun e=>xstr e k=true→V1 X.str k e) e (elim_b h) (fun a h=>⟨a,rfl,h⟩) h
noncomputable def xint (e:X) (k:Int→Bool):Bool:=if h:e.ctorIdx=2 then X.int.elim e h k else false
theorem xint_i {e:X} {k:Int→Bool} (h:xint e k=true):V1 X.int k e:=X.int.elim (motive_1:=fun e=>xint e k=true→V1 X.int k e) e (elim_b h) (fun a h=>⟨a,rfl,h⟩) h
noncomputable def xbi (e:X) (k:Bi→List X→Bool):Bool:=if h:e.ctorIdx=23 then X.bi.elim e h k else false
theorem xbi_i {e:X} {k:Bi→List X→Bool} (h:xbi e k=true):V2 X.bi k e:=X.bi.elim (motive_1:=fun e=>xbi e k=true→V2 X.bi k e) e (elim_b h) (fun a b h=>⟨a,b,rfl,h⟩) h
section
variable {α:Type}
noncomputable def b1 (l:List α) (k:α→Bool):Bool:=lCons l fun a l=>lNil l&&k a
noncomputable def b2 (l:List α) (k:α→α→Bool):Bool:=lCons l fun a l=>b1 l (k a)
theorem b1_i {l:List α} {k:α→Bool} (h:b1 l k=true):V1 (fun a=>[a]) k l:=by
 obtain ⟨a,l,rfl,h⟩:=lCons_i h
 obtain ⟨h1,h⟩:=ba h
 exact ⟨a,congrArg _ (lNil_i h1),h⟩
theorem b2_i {l:List α} {k:α→α→Bool} (h:b2 l k=true):V2 (fun a b=>[a,b]) k l:=by
 obtain ⟨a,l,rfl,h⟩:=lCons_i h
 obtain ⟨b,h1,h⟩:=b1_i h
 exact ⟨a,b,congrArg _ h1,h⟩
noncomputable def oS (o:Option α) (k:α→Bool):Bool:=match o with
 | some a=>k a
 | none=>false
theorem oS_i {o:Option α} {k:α→Bool} (h:oS o k=true):V1 some k o:=by
 cases o with
 | none=>cases h
 | some a=>exact ⟨a,rfl,h⟩
end
noncomputable def kInt (e:Expr) (k:Int→Bool):Bool:=eConstant e fun c _ _=>cint c k
theorem kInt_i {e:Expr} {k:Int→Bool} (h:kInt e k=true):V3 (fun i=>Expr.Constant (.int i)) (fun i _ _=>k i) e:=by
 obtain ⟨c,kk,p,rfl,h⟩:=eConstant_i h
 obtain ⟨i,rfl,h⟩:=cint_i h
 exact ⟨i,kk,p,rfl,h⟩
noncomputable def kStr (e:Expr) (k:Str→Bool):Bool:=eConstant e fun c _ _=>cstr c k
theorem kStr_i {e:Expr} {k:Str→Bool} (h:kStr e k=true):V3 (fun i=>Expr.Constant (.str i)) (fun i _ _=>k i) e:=by
 obtain ⟨c,kk,p,rfl,h⟩:=eConstant_i h
 obtain ⟨i,rfl,h⟩:=cstr_i h
 exact ⟨i,kk,p,rfl,h⟩
noncomputable def eCallN (e:Expr) (k:Str→List Expr→Bool):Bool:=eCall e fun f es ks _=>lNil ks&&eName f fun x _=>k x es
theorem eCallN_i {e:Expr} {k:Str→List Expr→Bool} (h:eCallN e k=true):V4 (fun x es p' p=>Expr.Call (.Name x p') es [] p) (fun x es _ _=>k x es) e:=by
 obtain ⟨f,es,ks,p,rfl,h⟩:=eCall_i h
 obtain ⟨h1,h⟩:=ba h
 obtain ⟨x,p',rfl,h⟩:=eName_i h
 rw [lNil_i h1]
 exact ⟨x,es,p',p,rfl,h⟩
inductive CallM (e:Expr) (k:Expr→Str→List Expr→Bool):Prop
 | mk (a:Expr) (m:Str) (p':Pos) (es:List Expr) (p:Pos) (h:e=.Call (.Attribute a m p') es [] p) (hl:(p'.endLine == p.line)=true) (q:k a m es=true)
noncomputable def eCallM (e:Expr) (k:Expr→Str→List Expr→Bool):Bool:=eCall e fun f es ks p=>lNil ks&&eAttribute f fun a m p'=>(p'.endLine == p.line)&&k a m es
theorem eCallM_i {e:Expr} {k:Expr→Str→List Expr→Bool} (h:eCallM e k=true):CallM e k:=by
 obtain ⟨f,es,ks,p,rfl,h⟩:=eCall_i h
 obtain ⟨h1,h⟩:=ba h
 obtain ⟨a,m,p',rfl,h⟩:=eAttribute_i h
 obtain ⟨h2,h⟩:=ba h
 rw [lNil_i h1]
 exact ⟨a,m,p',es,p,rfl,h2,h⟩
noncomputable def gen1 (g:Comprehension) (k:Expr→Expr→List Expr→Bool):Bool:=g.is_async == 0&&k g.target g.iter g.ifs
theorem gen1_i {g:Comprehension} {k:Expr→Expr→List Expr→Bool} (h:gen1 g k=true):V3 (fun tg it ifs=>Comprehension.mk tg it ifs 0) k g:=by
 obtain ⟨tg,it,ifs,as⟩:=g
 obtain ⟨h1,h⟩:=ba h
 cases eq_of_beq h1
 exact ⟨tg,it,ifs,rfl,h⟩
end
section
section
variable {C:Cx} {A:Around} {F:Frm} {c:Sc} {r:Rho} {a b:Expr} {d d':D} {l l':List D}
noncomputable def OrOk (C:Cx) (A:Around) (F:Frm) (r:Rho) (es:List Expr) (q:Bool) (l:List D):Prop:=TestOk C A F r (allTrue .Or es F.env) q l
theorem or_nil:OrOk C A F r [] false []:=fun g s E Q H h=>wpAny_allTrue_Or_nil (h g s (Ste.refl H.inv))
theorem or_hit {e:Expr} {es:List Expr} (x:TestOk C A F r (isTrue e F.env (eval e F.env)) true l):OrOk C A F r (e::es) true l:=fun g s E Q H h =>
 wpAny_allTrue_Or_cons (x g s E _ H fun g' s' S=>h g' s' S)
theorem or_miss {e:Expr} {es:List Expr} {q:Bool} (x:TestOk C A F r (isTrue e F.env (eval e F.env)) false l) (y:OrOk C A F r es q l'):OrOk C A F r (e::es) q (l++l'):=fun g s E Q H h =>
 wpAny_allTrue_Or_cons (x g s E _ H.a fun g₁ s₁ S₁=>y g₁ s₁ E Q (H.b S₁) fun g₂ s₂ S₂=>h g₂ s₂ (S₁.trans S₂))
theorem ok_orT {es:List Expr} {p:Pos} {m:Sem Value} {q:Bool} (x:OrOk C A F r es q l):TestOk C A F r (isTrue (.BoolOp .Or es p) F.env m) q l:=fun g s E Q H h=>wpAny_isTrue_BoolOp (x g s E Q H h)
theorem ifs_nil:TestOk C A F r (ifsOf [] F.env) true []:=fun g s E Q H h=>wpAny_tests_nil (h g s (Ste.refl H.inv))
theorem ifs_one {e:Expr} {q:Bool} (x:TestOk C A F r (isTrue e F.env (eval e F.env)) q l):TestOk C A F r (ifsOf [e] F.env) q l:=fun g s E Q H h=>wpAny_tests_one (x g s E Q H h)
noncomputable def notSet (e:Expr):Bool:=!Nat.beq e.ctorIdx 7
theorem folded {e:Expr} (h:notSet e=true) (env:Env) (x:Value):foldedSetIterable e env x=pure x:=by
 cases e <;> first | rfl | (cases h; done)
end
end
section
structure FnIs (K:Frag) (a:Addr) (fd:FuncData) (body:List Stmt):Prop where
 at_:∃ o,K.lookup a=some o∧o.cls=.type "function"∧o.data=.func fd
 code:∀ h:Heap,K.In h→h.CodeRec fd.code fd.qualname
 body:fd.body=.stmts body
 glob:fd.globals=mainGlobals
 bi:fd.builtins=builtinsNs
 clo:fd.closure=[]
 co:fd.scope.isCoroutine=false
 gen:fd.scope.isGenerator=false
 kind:fd.scope.kind=.function
noncomputable def scOf (sc:Scope) (T:List Str):Sc:=⟨T,fun x=>sc.names.lookup x,List.range T.length⟩
noncomputable def parOk (sc:Scope) (x:Str):Bool:=sc.names.lookup x == some .local || sc.names.lookup x == some .cell
noncomputable def mtFn (sc:Scope) (T ps:List Str):Bool :=
 decide (T.take ps.length=ps)&&(ps.all (parOk sc)&&(decide (sc.names.map (·.1)).Nodup&&(distinct T (List.range T.length)&&decide ps.Nodup)))
structure FnSc (sc:Scope) (T ps:List Str):Prop where
 take:T.take ps.length=ps
 par:∀ x ∈ ps,sc.names.lookup x=some .local ∨ sc.names.lookup x=some .cell
 nd:(sc.names.map (·.1)).Nodup
 dis:distinct T (List.range T.length)=true
 pnd:ps.Nodup
theorem mtFn_iff {sc:Scope} {T ps:List Str} (h:mtFn sc T ps=true):FnSc sc T ps:=by
 obtain ⟨h1,h⟩:=ba h
 obtain ⟨h2,h⟩:=ba h
 obtain ⟨h3,h⟩:=ba h
 obtain ⟨h4,h5⟩:=ba h
 exact ⟨of_decide_eq_true h1,fun x hx=>(Bool.or_eq_true_iff.mp (List.all_eq_true.mp h2 x hx)).imp eq_of_beq eq_of_beq,of_decide_eq_true h3,h4,of_decide_eq_true h5⟩
theorem cells_names:∀ (names:List (Str × NameKind)) (n:Nat) (acc:List (Str × Addr)),(cellsFrom n names acc).map (·.1)=((names.filter (·.2 == .cell)).map (·.1)).reverse++acc.map (·.1):=by
 intro names
 induction names with
 | nil=>exact fun _ _=>rfl
 | cons p r ih =>
  intro n acc
  unfold cellsFrom
  by_cases hk:(p.2 == NameKind.cell)=true
  ·rw [if_pos hk,ih,List.filter_cons_of_pos (p:=fun q:Str × NameKind=>q.2 == .cell) hk,List.map_cons,List.map_cons,List.reverse_cons,List.append_assoc]; rfl
  ·rw [if_neg hk,ih,List.filter_cons_of_neg (p:=fun q:Str × NameKind=>q.2 == .cell) hk]
theorem lookup_of_nodup {α:Type} {l:List (Str × α)} {x:Str} {a:α} (hn:(l.map (·.1)).Nodup) (h:(x,a) ∈ l):l.lookup x=some a:=by
 induction l with
 | nil=>cases h
 | cons p l ih =>
  obtain ⟨n1,n2⟩:=List.nodup_cons.mp hn
  have n1:p.1 ∉ l.map (·.1):=n1
  rw [List.lookup_cons]
  rcases List.mem_cons.mp h with rfl | h
  ·rw [beq_self_eq_true]
  ·rw [beq_eq_false_iff_ne.mpr fun q:x=p.1=>n1 (q ▸ List.mem_map.mpr ⟨(x,a),h,rfl⟩)]
   exact ih n2 h
theorem lookup_some_of_mem {α:Type} {l:List (Str × α)} {x:Str} (h:x ∈ l.map (·.1)):(l.lookup x).isSome=true:=by
 induction l with
 | nil=>cases h
 | cons p l ih =>
  rw [List.lookup_cons]
  cases hb:x == p.1
  ·exact ih ((List.mem_cons.mp h).resolve_left fun q=>beq_eq_false_iff_ne.mp hb q)
  ·rfl
section
variable {kd:Str→Option NameKind} {x:Str} {v:Value}
theorem bind_other:∀ {binds:List (Str × Value)} {m:Str→Option Value},x ∉ binds.map (·.1)→bindL kd binds m x=m x∧bindC kd binds m x=m x:=by
 intro binds
 induction binds with
 | nil=>exact fun _=>⟨rfl,rfl⟩
 | cons p r ih =>
  intro m h
  have hp:x ≠ p.1:=fun q=>h (q ▸ List.mem_cons_self ..)
  have hr:x ∉ r.map (·.1):=fun q=>h (List.mem_cons_of_mem _ q)
  unfold bindL bindC
  rw [(ih hr).1,(ih hr).2]
  refine ⟨?_,?_⟩ <;> split <;> first | rfl | exact if_neg hp
theorem bind_get:∀ {binds:List (Str × Value)} {m:Str→Option Value},(binds.map (·.1)).Nodup→(x,v) ∈ binds→(kd x=some .local→bindL kd binds m x=some v)∧(kd x ≠ some .local→bindC kd binds m x=some v):=by
 intro binds
 induction binds with
 | nil=>intro m _ h; cases h
 | cons p r ih =>
  intro m hn h
  obtain ⟨n1,n2⟩:=List.nodup_cons.mp hn
  unfold bindL bindC
  rcases List.mem_cons.mp h with rfl | h
  ·rw [(bind_other n1).1,(bind_other n1).2]
   exact ⟨fun hk=>by rw [if_pos hk]; exact if_pos rfl,fun hk=>by rw [if_neg hk]; exact if_pos rfl⟩
  ·exact ⟨(ih n2 h).1,(ih n2 h).2⟩
end
section
variable {C:Cx} {A:Around} {fa:Addr} {fd:FuncData} {body:List Stmt} {T ps:List Str}
theorem lookup_in {α:Type} {l:List (Str × α)} {x:Str} {a:α} (h:l.lookup x=some a):(x,a) ∈ l:=by
 obtain ⟨l1,l2,rfl,_⟩:=List.lookup_eq_some_iff.mp h
 exact List.mem_append_right _ List.mem_cons_self
theorem cell_some {sc:Scope} (n:Nat) {x:Str} (h:sc.names.lookup x=some .cell):((cellsFrom n sc.names []).lookup x).isSome=true:=by
 refine lookup_some_of_mem ?_
 rw [cells_names]
 exact List.mem_append_left _ (List.mem_reverse.mpr (List.mem_map.mpr ⟨(x,.cell),List.mem_filter.mpr ⟨lookup_in h,rfl⟩,rfl⟩))
noncomputable def callFrm (fd:FuncData) (T:List Str) (L a:Addr):Frm:=⟨callEnvC fd L a,T,List.range T.length,[],true⟩
theorem call_scOk (L a:Addr):ScOk (scOf fd.scope T) (callFrm fd T L a) where
 T:=rfl
 V:=rfl
 loc:=fun x h=>h
 glob:=fun x h=>h
 cell:=fun x h=>⟨h,rfl,cell_some (L+1) h⟩
theorem entry_i:∀ {ds:List D} {n:Nat} {b:B},entry ds n=some b→(∃ d,ds[n]?=some d∧b=.val d) ∨ b=.free:=by
 intro ds
 induction ds with
 | nil=>exact fun e=>.inr (Option.some.inj e).symm
 | cons d ds ih =>
  intro n b e
  cases n with
  | zero=>exact .inl ⟨d,rfl,(Option.some.inj e).symm⟩
  | succ n=>exact ih e
theorem call_env {g:G} {s s₁:Shared} {vs:List Value} {ds:List D} (I:Inv C.w C.K g s) (hf:FnIs C.K fa fd body) (M:FnSc fd.scope T ps) (hv:RepL C.w g s.heap vs ds) (hl:vs.length=ps.length)
  (x:InCallC s (callEnvC fd s.heap.objs.size fa).locals (bindL (callEnvC fd s.heap.objs.size fa).kindOf (ps.zip vs) fun _=>none) (callEnvC fd s.heap.objs.size fa).cells (bindC (callEnvC fd s.heap.objs.size fa).kindOf (ps.zip vs) fun _=>none) s₁)
  (hs:s.heap.objs.size≤s₁.heap.objs.size) (ht:s.toks≤s₁.toks) :
  ∃ g',Ste C.w C.K g s g' s₁ []∧EnvOk C.w g' s₁.heap (callFrm fd T s.heap.objs.size fa) (entry ds)∧∀ b ∈ (callFrm fd T s.heap.objs.size fa).priv,s.heap.objs.size≤b:=by
 have hcn:((cellsFrom (s.heap.objs.size+1) fd.scope.names []).map (·.1)).Nodup:=by
  rw [cells_names]
  exact List.append_nil _ ▸ (List.reverse_perm _).nodup_iff.mpr (M.nd.sublist (List.Sublist.map _ List.filter_sublist))
 have hcell:∀ q ∈ (callEnvC fd s.heap.objs.size fa).cells,s₁.heap.IsCell q.2 (bindC (callEnvC fd s.heap.objs.size fa).kindOf (ps.zip vs) (fun _=>none) q.1):=fun q hc=>x.cell q.1 q.2 (lookup_of_nodup hcn hc)
 have hpriv:∀ b ∈ (callFrm fd T s.heap.objs.size fa).priv,s.heap.objs.size≤b∧∃ o,s₁.heap.get? b=some o:=by
  intro b hb
  rcases List.mem_cons.mp hb with rfl | hb
  ·exact ⟨Nat.le_refl _,ns_live x.toInCall.ns⟩
  ·obtain ⟨q,hc,rfl⟩:=List.mem_map.mp ((List.mem_append.mp hb).resolve_right fun q=>nomatch q)
   exact ⟨Nat.le_of_lt (x.above q.1 q.2 hc),(hcell q hc).imp fun _ e=>e.1⟩
 have keep:=x.toInCall.keep
 obtain ⟨h',tk,rfl⟩:=x.toInCall.same
 have S:=Ste.muts I (h':=h') (tk:=tk) (fun b o e=>keep b o e) hs ht hpriv
 refine ⟨_,S,⟨hf.kind,⟨hf.glob,hf.bi⟩,⟨_,x.toInCall.ns⟩,fun c hc=>?_,?_,fun a ha=>⟨.inl ha,fun q=>Nat.lt_irrefl _ (Nat.lt_of_lt_of_le (I.xlt (I.na _ q).1) (hpriv a ha).1)⟩,distinct_inj M.dis,fun n b e=>?_⟩,fun b hb=>(hpriv b hb).1⟩
 ·obtain ⟨q,hc',rfl⟩:=List.mem_map.mp hc
  exact ⟨_,hcell q hc'⟩
 ·refine List.nodup_cons.mpr ⟨fun q=>?_,(List.append_nil _).symm ▸ List.pairwise_map.mpr x.apart⟩
  obtain ⟨q,hc,e⟩:=List.mem_map.mp ((List.mem_append.mp q).resolve_right fun q=>nomatch q)
  exact Nat.lt_irrefl _ (e ▸ x.above q.1 q.2 hc)
 ·rcases entry_i e with ⟨d,hd,rfl⟩ | rfl
  ·obtain ⟨v,hvn,hr⟩:=hv.get n _ hd
   have hnp:n < ps.length:=hl ▸ (List.getElem?_eq_some_iff.mp hvn).1
   have hx:T[n]?=some ps[n]:=(List.getElem?_take_of_lt hnp).symm.trans ((congrArg (·[n]?) M.take).trans (List.getElem?_eq_getElem hnp))
   have hz:((ps.zip vs).map (·.1)).Nodup:=by rw [List.map_fst_zip (Nat.le_of_eq hl.symm)]; exact M.pnd
   have hmem:(ps[n],v) ∈ ps.zip vs:=List.mem_of_getElem? (i:=n) (List.getElem?_zip_eq_some.mpr ⟨List.getElem?_eq_getElem hnp,hvn⟩)
   refine ⟨List.mem_range.mpr (List.getElem?_eq_some_iff.mp hx).1,ps[n],v,hx,?_,hr.le (S.le I)⟩
   rcases M.par ps[n] (List.getElem_mem hnp) with hk | hk
   ·exact .inl ⟨hk,_,x.toInCall.ns,(bind_get hz hmem).1 hk⟩
   ·obtain ⟨c,hc⟩:=Option.isSome_iff_exists.mp (cell_some (s.heap.objs.size+1) hk)
    exact .inr ⟨.inl hk,c,hc,(bind_get (kd:=(callEnvC fd s.heap.objs.size fa).kindOf) hz hmem).2 (fun q=>nomatch hk.symm.trans q) ▸ x.cell ps[n] c hc⟩
  ·rfl
end
end
section
noncomputable abbrev Cx.ora (C:Cx) (O:Ora):Cx:={ C with O:=O }
inductive RunI (O:Ora) (fn:Fn) (ds:List D) (z:D) (l:List D):Prop
 | next {r:Rho} (hd:ds.length=fn.params) (h:exB (ex O 8) fn.body (entry ds)=some (.next,r,l)) (hz:z=.none):RunI O fn ds z l
 | ret {r:Rho} (hd:ds.length=fn.params) (h:exB (ex O 8) fn.body (entry ds)=some (.ret z,r,l)):RunI O fn ds z l
theorem runFn_i {O:Ora} {fn:Fn} {ds:List D} {z:D} {l:List D} (h:runFn O fn ds=some (z,l)):RunI O fn ds z l:=by
 obtain ⟨hd,h⟩:=if_s h
 obtain ⟨fl,r,l',h1,h⟩:=bo3 h
 cases fl with
 | ret d =>
  obtain ⟨rfl,rfl⟩:=sp h
  exact .ret hd h1
 | next =>
  obtain ⟨h2,rfl⟩:=sp h
  exact .next hd h1 h2.symm
section
variable {C:Cx} {A:Around} {fa:Addr} {fd:FuncData} {body:List Stmt} {T ps:List Str}
theorem fun_call {O:Ora} {fn:Fn} {g:G} {s:Shared} {E Q:Value→Shared→Prop} {vs:List Value} {ds:List D} {z:D} {l:List D} (kit:Kit C.K) (hf:FnIs C.K fa fd body) (hm:mtFn fd.scope T ps=true)
  (hps:∀ vs:List Value,vs.length=ps.length→bindArgs fd ⟨vs,[]⟩=pure (ps.zip vs)) (hdep:A.depth < recursionLimit) (hP:fn.params=ps.length)
  (hex:∀ env r fl r' l,env.scope=fd.scope→exB (ex O 8) fn.body r=some (fl,r',l)→ExOk (C.ora O) (A.deeper env) (scOf fd.scope T) env r (execs body env) fl r' l)
  (G:Good C g s) (hlog:g.log.length+l.length≤65536) (hv:RepL C.w g s.heap vs ds) (hz:runFn O fn ds=some (z,l))
  (h:∀ g' s' v,Ste C.w C.K g s g' s' l→Rep C.w g' s'.heap v z→Q v s'):wpAny (model pw C.w) A (call (.ref fa) vs) Q E s:=by
 have ri:=runFn_i hz
 have hl:vs.length=ps.length:=hv.length.trans ((by cases ri <;> assumption:ds.length=fn.params).trans hP)
 obtain ⟨o,ho,hoc,hod⟩:=hf.at_
 have M:=mtFn_iff hm
 refine wpAny_call (codeAny_call_function hdep (G.inv.kin _ _ ho) hod hf.co hf.gen hf.body (hf.code _ G.inv.kin) ?_)
 rw [hps vs hl,hf.clo]
 refine wpAny_pure (wpAny_grows (wpAny_newFunctionEnv_cells hf.kind (fun x hx=>(M.par x.1 (List.of_mem_zip (a:=x.1) (b:=x.2) hx).1).imp id fun hk=>⟨hk,cell_some _ hk⟩) fun env he s₁ x hs ht=>?_))
 subst he
 refine ⟨(kit.nolimit _ G.inv.kin).keeps x.toInCall.keep,codeAny_func ?_⟩
 obtain ⟨g₁,S₁,ev,hpz⟩:=call_env (T:=T) G.inv hf M hv hl x hs ht
 have G₁:=G.ste S₁
 have go:∀ {fl:Fl} {r:Rho},exB (ex O 8) fn.body (entry ds)=some (fl,r,l)→∀ (E:Value→Shared→Prop) (Q':Flow→Shared→Prop),(∀ F' g' s' f,FrmLe s₁ (callFrm fd T s.heap.objs.size fa) F'→Ste C.w C.K g s g' s' l→FlOk C.w g' s'.heap F' fl f→Q' f s')→wpAny (model pw C.w) (A.deeper (callFrm fd T s.heap.objs.size fa).env) (execs body (callFrm fd T s.heap.objs.size fa).env) Q' E s₁ :=
  fun {fl r} hb E Q' k=>hex _ _ fl r l rfl hb (callFrm fd T s.heap.objs.size fa) g₁ s₁ E Q' rfl rfl (call_scOk _ _) ⟨⟨G₁.inv,G₁.gf,G₁.tc⟩,ev,S₁.log ▸ (congrArg (·+l.length≤65536) (congrArg List.length (List.append_nil g.log))).mpr hlog⟩ fun F' g' s' f LF S₂ _ hfl =>
   k F' g' s' f LF (S₁.trans' S₂ fun b hb=>.inr (hpz b (Frm.wr_priv _ hb))) hfl
 cases ri with
 | next _ hb hz =>
  refine go hb _ _ fun F' g' s' f LF S hfl=>?_
  have hfl:f=.next:=hfl
  subst hfl hz
  exact h g' s' .none S .none
 | ret _ hb =>
  refine go hb _ _ fun F' g' s' f LF S hfl=>?_
  obtain ⟨v,rfl,hr | ⟨a,rfl,ha,hown⟩⟩:=hfl
  ·exact h g' s' v S hr
  ·have haz:s.heap.objs.size≤a:=(LF.own a ha).elim (fun q=>nomatch q) (Nat.le_trans hs)
   exact h (g'.frz a) s' _ (S.frz haz fun q=>Nat.lt_irrefl _ (Nat.lt_of_lt_of_le (G.inv.xlt (G.inv.na _ q).1) haz)) hown.frozen
end
end
section
structure ClsIs (K:Frag) (tc N:Addr) (mN:Str→Option Value) (fI fC:Addr):Prop where
 cls:∀ h:Heap,K.In h→ClsAt h tc N mN
 init:mN "__init__"=some (.ref fI)
 cmp:mN "compare"=some (.ref fC)
 s1:mN "__setattr__"=none
 s2:mN "__getattribute__"=none
 s3:mN "__getattr__"=none
 s4:mN "comp_select_list"=none
theorem nos {α:Type} {o:Option α} {a:α} (h:o=none) (h':o=some a) {P:Prop}:P:=nomatch h.symm.trans h'
theorem get_freed {h:Heap} {a:Addr}:(h.update a fun o=>{ o with data:=.freed }).get? a=none:=by
 unfold Heap.get? Heap.update
 rw [Array.getElem?_modify,if_pos rfl]
 cases h.objs[a]? <;> rfl
theorem lasting {w:World} {K:Frag} {g:G} {s:Shared} (I:Inv w K g s):∃ h₀:Heap,K.In h₀∧∀ b o,h₀.get? b=some o→s.heap.get? b=some o∧g.na ≠ some b:=by
 cases hn:g.na with
 | none=>exact ⟨s.heap,I.kin,fun b o e=>⟨e,nofun⟩⟩
 | some a =>
  refine ⟨s.heap.update a fun o=>{ o with data:=.freed },fun b o e=>(Heap.get?_update_other _ _ fun (q:a=b)=>I.kx b o e (q ▸ (I.na a hn).1)).trans (I.kin b o e),fun b o e=>?_⟩
  have q:a ≠ b:=fun q=>nos get_freed (q ▸ e)
  rw [Heap.get?_update_other _ _ q] at e
  exact ⟨e,fun q'=>q (Option.some.inj q')⟩
theorem hB_csl:typeLookup (.type "object") "comp_select_list"=pure none:=by rw [typeLookup_type,builtinLookup_eq_fast]; kernel_rfl
theorem hB_cmp:typeLookup (.type "object") "compare"=pure none:=by rw [typeLookup_type,builtinLookup_eq_fast]; kernel_rfl
noncomputable def initBody (l:List Stmt):Bool:=b1 l fun st=>sAssign st fun ts v _=>b1 ts fun t=>eAttribute t fun e y _=>y == ("comp_select_list":Str)&&(eName e (fun x _=>x == ("self":Str))&&eName v fun z _=>z == ("comp_select_list":Str))
inductive InitI (l:List Stmt):Prop
 | mk (px py pz p:Pos) (h:l=[.Assign [.Attribute (.Name "self" px) "comp_select_list" py] (.Name "comp_select_list" pz) p])
theorem init_i {l:List Stmt} (h:initBody l=true):InitI l:=by
 replace h:=b1_i h
 obtain ⟨st,rfl,h⟩:=h
 replace h:=sAssign_i h
 obtain ⟨ts,v,p,rfl,h⟩:=h
 replace h:=b1_i h
 obtain ⟨t,rfl,h⟩:=h
 replace h:=eAttribute_i h
 obtain ⟨e,y,py,rfl,h⟩:=h
 replace h:=ba h
 obtain ⟨h1,h⟩:=h
 replace h:=ba h
 obtain ⟨h2,h⟩:=h
 replace h2:=eName_i h2
 obtain ⟨x,px,rfl,h2⟩:=h2
 replace h:=eName_i h
 obtain ⟨z,pz,rfl,h3⟩:=h
 rw [eq_of_beq h1,eq_of_beq h2,eq_of_beq h3]
 exact ⟨px,py,pz,p,rfl⟩
structure MakeOk (C:Cx) (N fI fC:Addr) (mN:Str→Option Value) (fd:FuncData) (body:List Stmt):Prop where
 kit:Kit C.K
 cls:ClsIs C.K C.tc N mN fI fC
 fn:FnIs C.K fI fd body
 body:initBody body=true
 par:∀ x v:Value,bindArgs fd ⟨[x,v],[]⟩=pure [(("self":Str),x),(("comp_select_list":Str),v)]
 k1:fd.scope.names.lookup ("self":Str)=some .local
 k2:fd.scope.names.lookup ("comp_select_list":Str)=some .local
 cell:(fd.scope.names.all fun x=>x.2 != .cell)=true
section
variable {C:Cx} {A:Around} {F:Frm} {r:Rho} {a b c:Expr} {d d':D} {l l':List D} {N fI fC:Addr} {mN:Str→Option Value}
theorem make_sound {g:G} {s:Shared} {E Q:Value→Shared→Prop} {v:Value} {fd:FuncData} {body:List Stmt} (M:MakeOk C N fI fC mN fd body)
  (hdep:A.depth+1 < recursionLimit) (G:Good C g s) (rv:Rep C.w g s.heap v d) (h:∀ g' s' v,Ste C.w C.K g s g' s' []→Rep C.w g' s'.heap v (.cmp d)→Q v s'):wpAny (model pw C.w) A (call (.ref C.tc) [v]) Q E s:=by
 have X:=M.cls.cls _ G.inv.kin
 obtain ⟨nm,q,bs,sn,sub,col,dd,k0,k1,k2,k3,k5,hC⟩:=X.obj
 obtain ⟨oI,hoI,hcI,hdI⟩:=M.fn.at_
 obtain ⟨px,py,pz,p,rfl⟩:=init_i M.body
 have hI:=G.inv
 have hgt:=G.tc
 refine wpAny_grows ?_
 obtain ⟨hh,gg,dr,t,os⟩:=s
 have new:∀ {b},hh.get? b=none→¬ g.X b:=fun e q=>(hI.xb _ q).elim fun o e'=>nos e e'
 refine wpAny_call_obj_init PySem.F.objNew hC X.ns M.cls.init (hI.kin _ _ hoI) hcI fun h' x dx Mk=>?_
 have kin':C.K.In h':=hI.kin.keeps Mk.keeps
 refine wpAny_call (codeAny_call_def (fd:=fd) (binds:=[(("self":Str),.ref x),(("comp_select_list":Str),v)]) hdep (kin' _ _ hoI) hdI (M.kit.nolimit _ kin') (M.fn.code _ kin') M.fn.body (.of_eq (M.par _ _)) (fun y hy=>bne_iff_ne.mp (List.all_eq_true.mp M.cell y hy)) (fun y hy=>?_) (fun h₁ hns hk₁=>?_) M.fn.co M.fn.gen M.fn.kind)
 ·rcases List.mem_cons.mp hy with rfl | hy
  ·exact M.k1
  ·rw [List.mem_singleton.mp hy]
   exact M.k2
 ·have X₁:=M.cls.cls _ (kin'.keeps hk₁)
  obtain ⟨nm',q',bs',sn',sub',col',dd',j0,j1,j2,j3,j5,hC₁⟩:=X₁.obj
  refine wpAny_execs_cons (plainObj_wpAny_Assign_Attribute (wpAny_Name (wpAny_loadName_local M.fn.kind M.k2 hns (v:=v) rfl (wpAny_Name (wpAny_loadName_local M.fn.kind M.k1 hns (v:=.ref x) rfl ?_) rfl)) rfl))
  have hxC:x ≠ C.tc:=fun q=>nos Mk.newX (q ▸ hC)
  obtain ⟨ox,ex,hc,hn,hd⟩:=Mk.inst
  have hx:=hk₁ _ _ ex
  have hxd:=Mk.dict ox ex
  have I₁:h₁.Inst x C.tc fun _=>none:=⟨ox,hx,hc,hn,hd.imp id fun q=>q.imp fun d0 q=>⟨q.1,q.2.1,q.2.2.at fun o e=>hk₁ _ o e⟩⟩
  refine wpAny_grows (store_attr PySem.F.store_object hC₁ X₁.ns M.cls.s1 M.cls.s4 hB_csl hxC I₁ (fun h₂ tk I₂ hk₂ hsame hs2 ht2=>wpAny_execs_nil ⟨rfl,fun hs3 ht3=>?_⟩) (ns:=[]) Within.nil (by decide))
  have S:Ste C.w C.K g ⟨hh,gg,dr,t,os⟩ g ⟨h₂,gg,dr,tk,os⟩ []:=Ste.grow hI (fun b o e=>hk₂ b o (fun q=>nos Mk.newX (q ▸ e)) (fun o₀ d0 e0 ed q=>by
   obtain rfl:=Option.some.inj (e0.symm.trans hx)
   obtain rfl:=Option.some.inj (ed.symm.trans hxd)
   exact nos Mk.newD (q ▸ e)) (hk₁ b o (Mk.keeps b o e))) hs3 ht3
  refine h g _ _ S (.cmp (new Mk.newX) (hgt.symm ▸ I₂) (fun o d0 e ed q=>?_) (rv.le (S.le hI)))
  obtain ⟨o₁,e₁,_,_,_,hd₁⟩:=hsame ox hx
  obtain rfl:=Option.some.inj (e₁.symm.trans e)
  obtain rfl:=Option.some.inj ((hd₁ dx hxd).symm.trans ed)
  exact new Mk.newD q
end
end
section
section
variable {C:Cx} {A:Around} {F:Frm} {r:Rho} {a b c:Expr} {d d' d'':D} {l l' l'':List D} {N fI fC:Addr} {mN:Str→Option Value}
theorem ok_mk {p p':Pos} {fd:FuncData} {body:List Stmt} (M:MakeOk C N fI fC mN fd body)
  (hdep:A.depth+1 < recursionLimit) (hg:GlobIs C.K "TupleComp" (.ref C.tc)) (hk:F.env.kindOf "TupleComp"=some .globalImplicit) (hs:noStar a=true) (x:EvOk C A F r (eval a F.env) d l) :
  EvOk C A F r (eval (.Call (.Name "TupleComp" p') [a] [] p) F.env) (.cmp d) l:=fun g s E Q H h=>by
 refine PySem.wpAny_Call_NameR (eval_glob H.inv H.ev hg hk rfl ?_)
 obtain ⟨h₀,hk0,hkeep⟩:=lasting H.inv
 have ha:=oks_cons (p:=p) hs x (oks_nil (p:=p) (C:=C) (A:=A) (F:=F) (r:=r))
 rw [List.append_nil] at ha
 exact callWith_cls (M.cls.cls _ hk0) (ha g s E (fun vs s₁=>(∀ b o,h₀.get? b=some o→s₁.heap.get? b=some o)∧wpAny (model pw C.w) A (call (.ref C.tc) vs) Q E s₁) H fun g' s' vs S rs =>
  ⟨fun b o e=>S.keep b o (fun f=>f) (hkeep b o e).2 (hkeep b o e).1,(RepL.one rs).elim fun v q=>q.1 ▸ make_sound M hdep (H.good.ste S) q.2 (S.addPost0 h)⟩) (starEach_cons hs)
inductive CmpI (w:World) (g:G) (h:Heap) (v:Value) (d:D):Prop
 | mk (a:Addr) (u:Value) (e:v=.ref a) (ho:h.Inst a g.tc (cmpNs u)) (hr:Rep w g h u d)
theorem cmp_i {w:World} {g:G} {h:Heap} {v:Value} {d:D} (rv:Rep w g h v (.cmp d)):CmpI w g h v d:=by
 cases rv with
 | cmp _ ho _ hr=>exact ⟨_,_,rfl,ho,hr⟩
theorem handed {w:World} {g:G} {h:Heap} {v:Value} {d:D} (hr:Rep w g h v d):handedOut v=pure v:=by cases hr <;> rfl
theorem cmp_load {s:Shared} {x:Addr} {u:Value} {E Q:Value→Shared→Prop} (H:ClsIs C.K C.tc N mN fI fC) (kin:C.K.In s.heap) (ho:s.heap.Inst x C.tc (cmpNs u)) (hu:handedOut u=pure u) (h:Q u { s with toks:=s.toks+1 }):wpAny (model pw C.w) A (getAttr (.ref x) "comp_select_list" true) Q E s:=by
 have X:=H.cls _ kin
 obtain ⟨nm,q,bs,sn,sub,col,dd,k0,k1,k2,k3,k5,hC⟩:=X.obj
 exact load_attr hC X.ns H.s2 H.s4 hB_csl ho rfl hu h
theorem cmp_meth {s:Shared} {x:Addr} {u:Value} {o:Obj} {pl:Sem Bool} {E:Value→Shared→Prop} {Q:Value × List Value→Shared→Prop} (H:ClsIs C.K C.tc N mN fI fC) (kin:C.K.In s.heap) (ho:s.heap.Inst x C.tc (cmpNs u)) (hf:C.K.lookup fC=some o) (hc:o.cls=.type "function") (h:Q (.ref fC,[.ref x]) s):wpAny (model pw C.w) A (getMethod (.ref x) "compare" pl) Q E s:=by
 have X:=H.cls _ kin
 obtain ⟨nm,q,bs,sn,sub,col,dd,k0,k1,k2,k3,k5,hC⟩:=X.obj
 exact method_of hC X.ns H.s2 H.s3 H.cmp (kin _ _ hf) hc hB_cmp ho rfl h
noncomputable def plainVal (e:Expr):Bool:=eName e fun _ _=>true
theorem ok_attr {p:Pos} (H:ClsIs C.K C.tc N mN fI fC) (hv:plainVal a=true) (x:EvOk C A F r (eval a F.env) (.cmp d) l):EvOk C A F r (eval (.Attribute a "comp_select_list" p) F.env) d l:=fun g s E Q H' h=>by
 obtain ⟨n,q,rfl,_⟩:=eName_i hv
 rw [arm_eval_Attribute]
 refine wpAny_bind (x g s E _ H' fun g' s' v S rv=>?_)
 obtain ⟨a,u,rfl,ho,hr⟩:=cmp_i rv
 have S2:Ste C.w C.K g' s' g' { s' with toks:=s'.toks+1 } []:=Ste.grow S.inv (fun _ _ e=>e) (Nat.le_refl _) (Nat.le_succ _)
 exact wpAny_bind (wpAny_standAt (wpAny_bind (wpAny_holding (cmp_load H S.inv.kin ((S.tc.trans H'.good.tc) ▸ ho) (handed hr) (wpAny_bind (wpAny_pure (wpAny_pure (S.addPost0 h g' _ _ S2 (hr.le (S2.le S.inv))))))))))
theorem ok_compare {p p':Pos} {z:D} {l3:List D} (H:ClsIs C.K C.tc N mN fI fC) (hcls:∃ o,C.K.lookup fC=some o∧o.cls=.type "function") (hf:FnAt C.K fC) (hF:FunOk C A (.ref fC) 14) (hb:plainBase a=true) (hs:[b,c].all noStar=true)
  (hline:(p'.endLine == p.line)=true) (x:EvOk C A F r (eval a F.env) (.cmp d) l) (y:EvsOk C A F r (spliced (backTo p (starEach [b,c] F.env))) [d',d''] l') (hz:C.O.call 14 [.cmp d,d',d'']=some (z,l3)) :
  EvOk C A F r (eval (.Call (.Attribute a "compare" p') [b,c] [] p) F.env) z (l++(l'++l3)):=fun g s E Q H' h=>by
 obtain ⟨oC,hoC,hcC⟩:=hcls
 obtain ⟨o2,fd,ho2,hfd⟩:=hf
 obtain ⟨e1,e2⟩:=ba hs
 obtain ⟨e2,_⟩:=ba e2
 have hst:starEach [b,c] F.env=[(false,eval b F.env),(false,eval c F.env)]:=by rw [starEach_cons e1,starEach_cons e2]; rfl
 rw [arm_eval_Call,base_plain hb]
 refine wpAny_bind (x g s E _ H'.a fun g₁ s₁ v S₁ rv=>?_)
 obtain ⟨ad,u,rfl,ho,_⟩:=cmp_i rv
 have H₁:=H'.b S₁
 have hform:methodCallForm ([b,c].length+([]:List Keyword).length) (backTo p (starEach [b,c] F.env)) (backToKw p (keywordEach [] F.env))=true:=by rw [hst]; rfl
 have hpos:methodCallPos true a F.env p' p=pure p:=by unfold methodCallPos; rw [hline]; rfl
 have ha:=y g₁ s₁ E (fun vs s'=>(s'.heap.get? fC=some o2∧o2.data=.func fd)∧wpAny (model pw C.w) A (call (.ref fC) ([.ref ad]++vs)) Q E s') H₁.a fun g' s' vs S rs =>
  ⟨⟨S.inv.kin _ _ ho2,hfd⟩,hF g' s' E Q (.ref ad::vs) [.cmp d,d',d''] z l3 (H₁.b S).good (H₁.b S).lg (.cons (rv.le (S.le S₁.inv)) rs) hz fun g₃ s₃ v₃ S₃ r₃=>h g₃ s₃ v₃ (Ste.trans3 (S₁.trans S) S₃) r₃⟩
 refine wpAny_bind (wpAny_standAt ?_)
 unfold methodCall
 rw [hform]
 refine wpAny_bind (wpAny_holding (cmp_meth H S₁.inv.kin ((S₁.tc.trans H'.good.tc) ▸ ho) hoC hcC (wpAny_bind (wpAny_of_eq hpos ?_))))
 rw [hst] at ha ⊢
 exact callWith_function (evalArgs_plain ha)
end
end
section
set_option genInjectivity false
set_option genSizeOf false
section
variable {p q r s t u:Bool}
structure A3 (p q r:Bool):Prop where
 a:p=true
 b:q=true
 c:r=true
structure A4 (p q r s:Bool):Prop where
 a:p=true
 b:q=true
 c:r=true
 d:s=true
structure A5 (p q r s t:Bool):Prop where
 a:p=true
 b:q=true
 c:r=true
 d:s=true
 e:t=true
structure A6 (p q r s t u:Bool):Prop where
 a:p=true
 b:q=true
 c:r=true
 d:s=true
 e:t=true
 f:u=true
theorem and3 (h:(p&&q&&r)=true):A3 p q r:=⟨(ba (ba h).1).1,(ba (ba h).1).2,(ba h).2⟩
theorem and4 (h:(p&&q&&r&&s)=true):A4 p q r s:=have x:=and3 (ba h).1; ⟨x.a,x.b,x.c,(ba h).2⟩
theorem and5 (h:(p&&q&&r&&s&&t)=true):A5 p q r s t:=have x:=and4 (ba h).1; ⟨x.a,x.b,x.c,x.d,(ba h).2⟩
theorem and6 (h:(p&&q&&r&&s&&t&&u)=true):A6 p q r s t u:=have x:=and5 (ba h).1; ⟨x.a,x.b,x.c,x.d,x.e,(ba h).2⟩
end
noncomputable def gen1L (gs:List Comprehension) (k:Expr→Expr→List Expr→Bool):Bool:=b1 gs fun g=>gen1 g k
theorem gen1L_i {gs:List Comprehension} {k:Expr→Expr→List Expr→Bool} (h:gen1L gs k=true):V3 (fun tg it ifs=>[Comprehension.mk tg it ifs 0]) k gs:=by
 replace h:=b1_i h
 obtain ⟨g,rfl,h⟩:=h
 replace h:=gen1_i h
 obtain ⟨tg,it,ifs,rfl,h⟩:=h
 exact ⟨tg,it,ifs,rfl,h⟩
noncomputable def gfl:List (Str × UInt64):=[("ONE_THIRD",0x3fd5555555555555),("ONE_SIXTH",0x3fc5555555555555),("TWO_THIRD",0x3fe5555555555555)]
noncomputable def fnName (k:Nat):Option Str:=[("rgb_to_hls":Str),("hls_to_rgb":Str),("_v":Str),("rgb_to_hsv":Str),("hsv_to_rgb":Str),("add_func_stats":Str),("add_callers":Str),("count_calls":Str),("in_table_b1":Str),("map_table_b3":Str),("_law_typed":Str),("_law_sum":Str),("_law_tell":Str),("_law_fair":Str)][k]?
noncomputable def tyName:Bi→Option String
 | .isTup=>some "tuple"
 | .isBool=>some "bool"
 | _=>none
noncomputable def Sc.gl (c:Sc) (x:Str):Bool:=c.kd x == some .globalImplicit&&!(x == ("__debug__":Str))
noncomputable abbrev MT:=Sc→X→Expr→Bool
noncomputable def mtL (f:X→Expr→Bool):List X→List Expr→Bool
 | [],[]=>true
 | x::xs,e::es=>f x e&&mtL f xs es
 | _,_=>false
noncomputable def nonNil (l:List Expr):Bool:=!l.isEmpty
noncomputable def isTgName:Tg→Bool
 | .name _=>true
 | _=>false
noncomputable def isTuple (e:Expr):Bool:=eTuple e fun _ _ _=>true
noncomputable def r3 (es:List Expr) (k:Expr→Expr→Bool):Bool:=lCons es fun a es=>b2 es fun b u=>(eUnaryOp u fun o x _=>(o == .USub)&&kInt x fun i=>i == 1)&&k a b
theorem r3_i {es:List Expr} {k:Expr→Expr→Bool} (h:r3 es k=true):V5 (fun a b kk p p'=>[a,b,.UnaryOp .USub (.Constant (.int 1) kk p) p']) (fun a b _ _ _=>k a b) es:=by
 replace h:=lCons_i h
 obtain ⟨a,es,rfl,h⟩:=h
 replace h:=b2_i h
 obtain ⟨b,u,rfl,h⟩:=h
 replace h:=ba h
 obtain ⟨h1,h⟩:=h
 replace h1:=eUnaryOp_i h1
 obtain ⟨o,x,p',rfl,h1⟩:=h1
 replace h1:=ba h1
 obtain ⟨ho,h1⟩:=h1
 replace h1:=kInt_i h1
 obtain ⟨i,kk,p,rfl,h1⟩:=h1
 exact ⟨a,b,kk,p,p',by rw [eq_of_beq ho,eq_of_beq h1],h⟩
noncomputable def mtI (f:X→Expr→Bool) (c:Sc) (comp:Bool) (t:Tg) (tg:Expr) (i:It) (e:Expr):Bool:=match i with
 | .val a=>isTgName t&&isName tg&&f a e
 | .lsts a=>!isTgName t&&f a e
 | .rng1 a=>eCallN e fun x es=>x == ("range":Str)&&c.gl "range"&&isTgName t&&isName tg&&b1 es fun a'=>f a a'
 | .rng2 a b=>eCallN e fun x es=>x == ("range":Str)&&c.gl "range"&&isTgName t&&isName tg&&b2 es fun a' b'=>f a a'&&f b b'
 | .rng3 a b=>eCallN e fun x es=>x == ("range":Str)&&c.gl "range"&&isTgName t&&isName tg&&r3 es fun a' b'=>f a a'&&f b b'
 | .enum a=>eCallN e fun x es=>x == ("enumerate":Str)&&c.gl "enumerate"&&!isTgName t&&isTuple tg&&b1 es fun a'=>f a a'
 | .zip a b=>eCallN e fun x es=>x == ("zip":Str)&&c.gl "zip"&&!isTgName t&&isTuple tg&&b2 es fun a' b'=>f a a'&&f b b'
 | .items a=>eCallM e fun a' m es=>m == ("items":Str)&&!comp&&!isTgName t&&plainBase a'&&isTuple tg&&es.isEmpty&&f a a'
 | .values a=>eCallM e fun a' m es=>m == ("values":Str)&&isTgName t&&isName tg&&plainBase a'&&es.isEmpty&&f a a'
noncomputable def mtIfs (fT:X→Expr→Bool) (c:Option X) (es:List Expr):Bool:=match c with
 | none=>es.isEmpty
 | some t=>b1 es fun e=>fT t e
mutual
noncomputable def tgNames:Tg→List Nat
 | .name n=>[n]
 | .tup l=>tgNamesL l
noncomputable def tgNamesL:List Tg→List Nat
 | []=>[]
 | t::ts=>tgNames t++tgNamesL ts
end
noncomputable def isNewX (x:X):Bool:=(Nat.ble 16 x.ctorIdx&&Nat.ble x.ctorIdx 18) || Nat.ble 32 x.ctorIdx
noncomputable def isLcX (x:X):Bool:=Nat.beq x.ctorIdx 32 || Nat.beq x.ctorIdx 33
noncomputable def isLc (e:Expr):Bool:=eListComp e fun _ _ _ _=>true
noncomputable def mtM (f:X→Expr→Bool) (c:Sc) (g:Mt) (m:Str) (l:List X) (es:List Expr):Bool:=match g with
 | .lower=>m == ("lower":Str)&&es.isEmpty&&l.isEmpty
 | .index=>m == ("index":Str)&&b1 es fun b'=>b1 l fun b=>f b b'
 | .join=>m == ("join":Str)&&b1 es fun b'=>b1 l fun b=>f b b'
 | .replace y i=>m == ("replace":Str)&&l.isEmpty&&b2 es fun s u=>(kStr s fun y'=>y' == S y)&&eCallN u fun x as=>x == ("chr":Str)&&c.gl "chr"&&(b1 as fun v=>kInt v fun j=>j == i)&&decide (0≤i∧i < 1114112)&&!(S y == S [i.toNat])
noncomputable def mtR (f:X→Expr→Bool) (i:It) (es:List Expr):Bool:=match i with
 | .rng1 a=>b1 es fun a'=>f a a'
 | .rng2 a b=>b2 es fun a' b'=>f a a'&&f b b'
 | _=>false
noncomputable def mtV (f fT:MT) (c:Sc) (x:X) (e:Expr):Bool:=match x with
 | .none=>eConstant e fun k _ _=>k.ctorIdx == 0
 | .bool b=>eConstant e fun k _ _=>cbool k fun b'=>b' == b
 | .int i=>kInt e fun i'=>i' == i
 | .flt v=>eConstant e fun k _ _=>cfloat k fun v'=>v' == v
 | .str l=>kStr e fun s=>s == S l
 | .var n=>eName e fun x _=>c.name n x
 | .gflt nm v=>eName e fun x _=>x == nm&&gfl.lookup nm == some v&&c.gl nm
 | .bin o a b=>eBinOp e fun a' o' b' _=>o' == o&&f c a a'&&f c b b'
 | .neg a=>eUnaryOp e fun o a' _=>o == .USub&&f c a a'
 | .cmp o a b=>eCompare e fun a' os es _=>b1 os fun o'=>b1 es fun b'=>o' == o&&!behindInMarks o b'&&f c a a'&&f c b b'
 | .cmp2 o p a b d=>eCompare e fun a' os es _=>b2 os fun o' p'=>b2 es fun b' d'=>o' == o&&p' == p&&!lastMarks [o,p] [b',d']&&f c a a'&&f c b b'&&f c d d'
 | .ife t a b=>eIfExp e fun t' a' b' _=>fT c t t'&&f c a a'&&f c b b'
 | .tup l=>eTuple e fun es _ _=>mtL (f c) l es
 | .lst l=>eList e fun es _=>mtL (f c) l es
 | .dct0=>eDict e fun ks vs _=>ks.isEmpty&&vs.isEmpty
 | .dct1 k v=>eDict e fun ks vs _=>b1 ks fun k'=>b1 vs fun v'=>oS k' fun k'=>f c k k'&&f c v v'
 | .sub a i=>eSubscript e fun a' i' _=>f c a a'&&f c i i'
 | .slc a k=>eSubscript e fun a' i' _=>f c a a'&&eSlice i' fun lo hi st _=>lo.isNone&&st.isNone&&oS hi fun u=>kInt u fun k'=>k' == (k:Int)
 | .subo n i=>eSubscript e fun a' i' _=>f c i i'&&eName a' fun x _=>c.name n x
 | .ino neg a n=>eCompare e fun a' os es _=>b1 os fun o=>b1 es fun b'=>(o == if neg then .NotIn else .In)&&f c a a'&&eName b' fun x _=>c.name n x
 | .bi g l=>match tyName g with
  | some T=>eCallN e fun x es=>x == ("isinstance":Str)&&c.gl "isinstance"&&c.gl (Str.ofString T)&&b2 es fun a' u=>mtL (f c) l [a']&&eName u fun y _=>y == Str.ofString T
  | none=>eCallN e fun x es=>x == biName g&&c.gl (biName g)&&nonNil es&&mtL (f c) l es
 | .mth g a l=>eCallM e fun a' m es=>plainBase a'&&f c a a'&&mtM (f c) c g m l es
 | .listr i=>eCallN e fun x es=>x == ("list":Str)&&c.gl "list"&&b1 es fun u=>eCallN u fun y es=>y == ("range":Str)&&c.gl "range"&&mtR (f c) i es
 | .inset a=>eCompare e fun a' os es _=>b1 os fun o=>b1 es fun b'=>o == .In&&f c a a'&&eName b' fun x _=>x == ("b1_set":Str)&&c.gl "b1_set"
 | .b3 a=>eCallM e fun b m es=>m == ("get":Str)&&(eName b fun y _=>y == ("b3_exceptions":Str)&&c.gl "b3_exceptions")&&b1 es fun a'=>f c a a'
 | .call k l=>eCallN e fun x es=>fnName k == some x&&c.gl x&&nonNil es&&mtL (f c) l es
 | .mk a=>eCallN e fun x es=>x == ("TupleComp":Str)&&c.gl "TupleComp"&&b1 es fun a'=>f c a a'
 | .attr a=>eAttribute e fun a' m _=>m == ("comp_select_list":Str)&&plainVal a'&&f c a a'
 | .compare a b d=>eCallM e fun a' m es=>m == ("compare":Str)&&plainBase a'&&f c a a'&&mtL (f c) [b,d] es
 | .lc x t i cn fs=>eListComp e fun e' gs sc _=>gen1L gs fun tg it ifs=>mtSc c sc fs (tgNames t)&&mtTg (c.comp sc fs (tgNames t)) t tg&&notSet it&&mtI (f c) c true t tg i it&&mtIfs (fT (c.comp sc fs (tgNames t))) cn ifs&&f (c.comp sc fs (tgNames t)) x e'
 | .lc2 x t i t' i' fs=>eListComp e fun e' gs sc _=>b2 gs fun g g'=>match t,t' with
  | .name k,.name m=>gen1 g fun tg it ifs=>gen1 g' fun tg' it' ifs'=>ifs.isEmpty&&ifs'.isEmpty&&mtSc c sc fs [k,m]&&(mtTg (c.comp sc fs [k,m]) (.name k) tg&&mtTg (c.comp sc fs [k,m]) (.name m) tg'&&!(k == m)&&!fs.contains m&&notSet it&&notSet it') &&
     mtI (f c) c true (.name k) tg i it&&(mtI (f (c.comp sc fs [k,m])) (c.comp sc fs [k,m]) true (.name m) tg' i' it'&&f (c.comp sc fs [k,m]) x e')
  | _,_=>false
 | .dc k v t i fs=>eDictComp e fun k' v' gs sc _=>gen1L gs fun tg it ifs=>ifs.isEmpty&&(mtSc c sc fs (tgNames t)&&mtTg (c.comp sc fs (tgNames t)) t tg&&notSet it&&mtI (f c) c true t tg i it&&f (c.comp sc fs (tgNames t)) k k'&&f (c.comp sc fs (tgNames t)) v v')
 | .not _=>false
 | .and _ _=>false
 | .or _=>false
noncomputable def mtW (f fT:MT):MT:=fun c x e=>noStar e&&noSlice e&&(isLc e == isLcX x)&&mtV f fT c x e
noncomputable def mtTst (f fT:MT) (c:Sc) (x:X) (e:Expr):Bool:=match x with
 | .not a=>eUnaryOp e fun o a' _=>o == .Not&&fT c a a'
 | .and a b=>eBoolOp e fun o es _=>o == .And&&b2 es fun a' b'=>fT c a a'&&fT c b b'
 | .or l=>eBoolOp e fun o es _=>o == .Or&&mtL (fT c) l es
 | .cmp o a b=>eCompare e fun a' os es _=>b1 os fun o'=>b1 es fun b'=>o' == o&&!behindInMarks o b'&&f c a a'&&f c b b'
 | .ino neg a n=>eCompare e fun a' os es _=>b1 os fun o=>b1 es fun b'=>(o == if neg then .NotIn else .In)&&f c a a'&&eName b' fun x _=>c.name n x
 | x=>valTest e&&mtW f fT c x e
noncomputable def mt:Nat→MT × MT
 | 0=>(fun _ _ _=>false,fun _ _ _=>false)
 | n+1=>(mtW (mt n).1 (mt n).2,mtTst (mt n).1 (mt n).2)
noncomputable def mtUses (c:Sc) (x:Str) (px:Pos) (v:Expr):Bool:=eListComp v fun _ _ sc cp=>mtUse c x px cp sc
noncomputable def sName (s:Stmt) (k:Str→Pos→Expr→Bool):Bool:=sAssign s fun ts v _=>b1 ts fun t=>eName t fun x px=>k x px v
theorem sName_i {s:Stmt} {k:Str→Pos→Expr→Bool} (h:sName s k=true):V4 (fun x px v p=>Stmt.Assign [.Name x px] v p) (fun x px v _=>k x px v) s:=by
 replace h:=sAssign_i h
 obtain ⟨ts,v,p,rfl,h⟩:=h
 replace h:=b1_i h
 obtain ⟨t,rfl,h⟩:=h
 replace h:=eName_i h
 obtain ⟨x,px,rfl,h⟩:=h
 exact ⟨x,px,v,p,rfl,h⟩
inductive PairI (s:Stmt) (k:Str→Pos→Str→Pos→Expr→Expr→Bool):Prop
 | mk (x:Str) (px:Pos) (y:Str) (py:Pos) (k1:Nat) (p1:Pos) (a b:Expr) (k2:Nat) (p2 p:Pos) (h:s=.Assign [.Tuple [.Name x px,.Name y py] k1 p1] (.Tuple [a,b] k2 p2) p) (q:k x px y py a b=true)
noncomputable def sPair (s:Stmt) (k:Str→Pos→Str→Pos→Expr→Expr→Bool):Bool:=sAssign s fun ts v _=>b1 ts fun t=>eTuple t fun ns _ _=>b2 ns fun x y=>eName x fun x px=>eName y fun y py=>eTuple v fun vs _ _=>b2 vs fun a b=>k x px y py a b
theorem sPair_i {s:Stmt} {k:Str→Pos→Str→Pos→Expr→Expr→Bool} (h:sPair s k=true):PairI s k:=by
 replace h:=sAssign_i h
 obtain ⟨ts,v,p,rfl,h⟩:=h
 replace h:=b1_i h
 obtain ⟨t,rfl,h⟩:=h
 replace h:=eTuple_i h
 obtain ⟨ns,k1,p1,rfl,h⟩:=h
 replace h:=b2_i h
 obtain ⟨x,y,rfl,h⟩:=h
 replace h:=eName_i h
 obtain ⟨x,px,rfl,h⟩:=h
 replace h:=eName_i h
 obtain ⟨y,py,rfl,h⟩:=h
 replace h:=eTuple_i h
 obtain ⟨vs,k2,p2,rfl,h⟩:=h
 replace h:=b2_i h
 obtain ⟨a,b,rfl,h⟩:=h
 exact ⟨x,px,y,py,k1,p1,a,b,k2,p2,p,rfl,h⟩
inductive CallI (s:Stmt) (k:Str→Str→Expr→Bool):Prop
 | mk (x:Str) (px:Pos) (m:Str) (ap:Pos) (v:Expr) (cp p:Pos) (h:s=.Expr (.Call (.Attribute (.Name x px) m ap) [v] [] cp) p) (hl:(ap.endLine == cp.line)=true) (q:k x m v=true)
noncomputable def sCall (s:Stmt) (k:Str→Str→Expr→Bool):Bool:=sExpr s fun e _=>eCallM e fun a m es=>eName a fun x _=>b1 es fun v=>k x m v
theorem sCall_i {s:Stmt} {k:Str→Str→Expr→Bool} (h:sCall s k=true):CallI s k:=by
 replace h:=sExpr_i h
 obtain ⟨e,p,rfl,h⟩:=h
 replace h:=eCallM_i h
 obtain ⟨a,m,ap,es,cp,rfl,h1,h⟩:=h
 replace h:=eName_i h
 obtain ⟨x,px,rfl,h⟩:=h
 replace h:=b1_i h
 obtain ⟨v,rfl,h⟩:=h
 exact ⟨x,px,m,ap,v,cp,p,rfl,h1,h⟩
noncomputable def mtB (f:St→Stmt→Bool):List St→List Stmt→Bool
 | [],[]=>true
 | x::xs,e::es=>f x e&&mtB f xs es
 | _,_=>false
noncomputable def mtSt (F T:MT):Nat→Sc→St→Stmt→Bool
 | 0,_,_,_=>false
 | n+1,c,s,st=>match s with
  | .asg k e=>sName st fun x px v=>c.store k x&&F c e v&&(noComp v || mtUses c x px v || (isLc v&&c.kd x == some .cell))
  | .own k e=>sName st fun x px v=>c.store k x&&isNewX e&&F c e v&&(noComp v || mtUses c x px v)
  | .own2 k m a b=>sPair st fun x px y py u v=>c.store k x&&c.store m y&&swPair c x y px py u v&&(isNewX a&&isNewX b)&&F c a u&&F c b v
  | .unp ks e=>sAssign st fun ts v _=>b1 ts fun t=>eTuple t fun es _ _=>mtNames c ks es&&noSwap c es v&&F c e v
  | .swp ks es=>sPair st fun x px y py a' b'=>b2 ks fun k m=>b2 es fun a b=>c.store k x&&c.store m y&&swPair c x y px py a' b'&&F c a a'&&F c b b'
  | .popd k m q i b=>sPair st fun x px y py a' b'=>(c.store k x&&c.name k x&&c.store m y&&swPair c x y px py a' b'&&F c b b')&&eBinOp a' fun l o u _=>o == .Add&&(eName l fun x' _=>x' == x)&&eCallM u fun z pp es=>pp == ("pop":Str)&&(eName z fun z _=>c.name q z)&&b1 es fun i'=>F c i i'
  | .aug k o e=>sAugAssign st fun t o' v _=>o' == o&&F c e v&&eName t fun x _=>c.name k x&&c.store k x
  | .augo k i o e=>sAugAssign st fun t o' v _=>o' == o&&F c e v&&eSubscript t fun a i' _=>F c i i'&&eName a fun x _=>c.name k x
  | .seto k i e=>sAssign st fun ts v _=>noComp v&&F c e v&&b1 ts fun t=>eSubscript t fun a i' _=>F c i i'&&eName a fun x _=>c.name k x
  | .app k e=>sCall st fun x m v=>m == ("append":Str)&&c.name k x&&F c e v
  | .note k e=>sCall st fun x m v=>m == ("append":Str)&&c.name k x&&F c e v
  | .ite t a b=>sIf st fun t' a' b' _=>T c t t'&&mtB (mtSt F T n c) a a'&&mtB (mtSt F T n c) b b'
  | .for_ t i b=>sFor st fun tg it b' es _=>es.isEmpty&&mtTg c t tg&&notSet it&&mtI (F c) c false t tg i it&&mtB (mtSt F T n c) b b'
  | .ret e=>sReturn st fun o _=>oS o fun v=>F c e v
  | .reto k=>sReturn st fun o _=>oS o fun v=>eName v fun x _=>c.name k x
  | .dead=>true
end
section
structure Kn (C:Cx) (A:Around):Prop where
 kit:Kit C.K
 hh:A.handled=none
 hu:A.units+60 < cLine
 tabs:Tabs C
 bi:∀ f,GlobIs C.K (biName f) (biVal f)
 ty:∀ x ∈ ["tuple","bool","range","list","enumerate","zip"],GlobIs C.K (Str.ofString x) (.type x)
 gf:∀ nm x,gfl.lookup nm=some x→∃ t,GlobIs C.K nm (.float x t)∧(t,x) ∈ C.gf
 fn:∀ k x,fnName k=some x→∃ fa,GlobIs C.K x (.ref fa)∧FnAt C.K fa∧FunOk C A (.ref fa) k
 maker:∀ (F:Frm) (r:Rho) (a:Expr) (d:D) (l:List D) (p p':Pos),F.env.kindOf "TupleComp"=some .globalImplicit→noStar a=true→EvOk C A F r (eval a F.env) d l →
  EvOk C A F r (eval (.Call (.Name "TupleComp" p') [a] [] p) F.env) (.cmp d) l
 attr:∀ (F:Frm) (r:Rho) (a:Expr) (d:D) (l:List D) (p:Pos),plainVal a=true→EvOk C A F r (eval a F.env) (.cmp d) l→EvOk C A F r (eval (.Attribute a "comp_select_list" p) F.env) d l
 cmp:∀ (F:Frm) (r:Rho) (a b c:Expr) (d d' d'' z:D) (l l' l3:List D) (p p':Pos),plainBase a=true→[b,c].all noStar=true→(p'.endLine == p.line)=true→EvOk C A F r (eval a F.env) (.cmp d) l →
  EvsOk C A F r (spliced (backTo p (starEach [b,c] F.env))) [d',d''] l'→C.O.call 14 [.cmp d,d',d'']=some (z,l3)→EvOk C A F r (eval (.Call (.Attribute a "compare" p') [b,c] [] p) F.env) z (l++(l'++l3))
noncomputable def VOk (C:Cx) (A:Around) (F:Frm) (r:Rho) (x:X) (e:Expr) (d:D) (l:List D):Prop :=
 EvOk C A F r (eval e F.env) d l∧(isNewX x=true→NewOk C A F r (eval e F.env) d l)∧(∀ elt gs sc cp,e=.ListComp elt gs sc cp→CompOk C A F r (compOf elt gs sc cp F.env) d l)
noncomputable def HV (C:Cx) (A:Around) (n:Nat):Prop:=∀ (c:Sc) (F:Frm) (r:Rho) (x:X) (e:Expr) (d:D) (l:List D),ScOk c F→(mt n).1 c x e=true→ev C.O n x r=some (d,l)→VOk C A F r x e d l
noncomputable def HT (C:Cx) (A:Around) (n:Nat):Prop:=∀ (c:Sc) (F:Frm) (r:Rho) (x:X) (e:Expr) (d:D) (l:List D) (q:Bool),ScOk c F→(mt n).2 c x e=true→ev C.O n x r=some (d,l)→truthD d=some q →
 TestOk C A F r (isTrue e F.env (eval e F.env)) q l
theorem mt_W {n:Nat} {c:Sc} {x:X} {e:Expr} (h:(mt (n+1)).1 c x e=true):noStar e=true∧noSlice e=true∧(isLc e == isLcX x)=true∧mtV (mt n).1 (mt n).2 c x e=true:=let x:=and4 h; ⟨x.a,x.b,x.c,x.d⟩
theorem mt_V {n:Nat} {c:Sc} {x:X} {e:Expr} (h:(mt (n+1)).1 c x e=true):mtV (mt n).1 (mt n).2 c x e=true:=(mt_W h).2.2.2
theorem mt_star {n:Nat} {c:Sc} {x:X} {e:Expr} (h:(mt n).1 c x e=true):noStar e=true∧noSlice e=true:=by
 cases n with
 | zero=>cases h
 | succ n=>exact ⟨(mt_W h).1,(mt_W h).2.1⟩
theorem mtL_cons {f:X→Expr→Bool} {x:X} {xs:List X} {es:List Expr} (h:mtL f (x::xs) es=true):V2 List.cons (fun e es=>f x e&&mtL f xs es) es:=by
 cases es with
 | nil=>cases h
 | cons e es=>exact ⟨e,es,rfl,h⟩
theorem mtL_nil {f:X→Expr→Bool} {es:List Expr} (h:mtL f [] es=true):es=[]:=by cases es <;> first | rfl | cases h
theorem mtL_star {n:Nat} {c:Sc} {xs:List X}:∀ {es:List Expr},mtL ((mt n).1 c) xs es=true→es.all noStar=true∧es.length=xs.length:=by
 induction xs with
 | nil=>intro es h; cases mtL_nil h; exact ⟨rfl,rfl⟩
 | cons x xs ih =>
  intro es h
  replace h:=mtL_cons h
  obtain ⟨e,es,rfl,h⟩:=h
  obtain ⟨h1,h2⟩:=ba h
  obtain ⟨a,b⟩:=ih h2
  exact ⟨by rw [List.all_cons,(mt_star h1).1,a]; rfl,congrArg Nat.succ b⟩
inductive EvC (f:X→R1) (x:X) (xs:List X) (ds l:List D):Prop
 | mk (d:D) (l1 es l2:List D) (h1:f x=some (d,l1)) (h2:evL f xs=some (es,l2)) (h3:ds=d::es) (h4:l=l1++l2)
inductive Ev2 (f:X→R1) (x y:X) (ds l:List D):Prop
 | mk (d e:D) (l1 l2:List D) (h1:f x=some (d,l1)) (h2:f y=some (e,l2)) (h3:ds=[d,e]) (h4:l=l1++l2)
theorem evL_cons {f:X→R1} {x:X} {xs:List X} {ds l:List D} (h:evL f (x::xs)=some (ds,l)):EvC f x xs ds l:=by
 obtain ⟨d,l1,h1,h⟩:=bo h
 obtain ⟨es,l2,h2,h⟩:=bo h
 obtain ⟨h3,h4⟩:=sp h
 exact ⟨d,l1,es,l2,h1,h2,h3.symm,h4.symm⟩
theorem evL_nil {f:X→R1} {ds l:List D} (h:evL f []=some (ds,l)):ds=[]∧l=[]:=by obtain ⟨rfl,rfl⟩:=sp h; exact ⟨rfl,rfl⟩
theorem evL_one {f:X→R1} {x:X} {ds l:List D} (h:evL f [x]=some (ds,l)):∃ d,f x=some (d,l)∧ds=[d]:=by
 obtain ⟨d,l1,es,l2,h1,h2,rfl,rfl⟩:=evL_cons h
 obtain ⟨rfl,rfl⟩:=evL_nil h2
 rw [List.append_nil]
 exact ⟨d,h1,rfl⟩
theorem evL_two {f:X→R1} {x y:X} {ds l:List D} (h:evL f [x,y]=some (ds,l)):Ev2 f x y ds l:=by
 obtain ⟨d,l1,es,l2,h1,h2,rfl,h4⟩:=evL_cons h
 obtain ⟨e,h3,rfl⟩:=evL_one h2
 exact ⟨d,e,l1,l2,h1,h3,rfl,h4⟩
section
variable {C:Cx} {A:Around} {F:Frm} {c:Sc} {r:Rho} {n:Nat} {e:Expr} {d:D} {l:List D}
theorem gl_iff {x:Str} (hc:ScOk c F) (h:c.gl x=true):F.env.kindOf x=some .globalImplicit∧(x == ("__debug__":Str))=false :=
 ⟨hc.glob _ (eq_of_beq (ba h).1),not_t (ba h).2⟩
theorem evs_sound (hV:HV C A n) (hc:ScOk c F) {p:Pos} {xs:List X}:∀ {es:List Expr} {ds l:List D},mtL ((mt n).1 c) xs es=true→evL (fun a=>ev C.O n a r) xs=some (ds,l) →
  EvsOk C A F r (spliced (backTo p (starEach es F.env))) ds l:=by
 induction xs with
 | nil =>
  intro es ds l hm h
  cases mtL_nil hm
  obtain ⟨rfl,rfl⟩:=evL_nil h
  exact oks_nil
 | cons x xs ih =>
  intro es ds l hm h
  replace hm:=mtL_cons hm
  obtain ⟨e,es,rfl,hm⟩:=hm
  replace hm:=ba hm
  obtain ⟨m1,m2⟩:=hm
  replace h:=evL_cons h
  obtain ⟨d,l1,ds,l2,h1,h2,rfl,rfl⟩:=h
  exact oks_cons (mt_star m1).1 (hV c F r x e d l1 hc m1 h1).1 (ih m2 h2)
theorem isTgName_tup {t:Tg} (h:(!isTgName t)=true):∃ l,t=.tup l:=by
 cases t with
 | name n=>cases h
 | tup l=>exact ⟨l,rfl⟩
noncomputable def tupI (i:It):Bool:=match i with
 | .lsts _=>true
 | .enum _=>true
 | .zip _ _=>true
 | .items _=>true
 | _=>false
noncomputable def sfI (i:It):Bool:=match i with
 | .items _=>false
 | _=>true
structure ItS (C:Cx) (A:Around) (F:Frm) (r:Rho) (e:Expr) (comp:Bool) (t:Tg) (tg:Expr) (i:It) (ds l:List D):Prop where
 tup:tupI i=true→∃ l,t=.tup l
 sf:comp=true→sfI i=true
 ok:IterOk C A F r e tg (tupI i) (sfI i) ds l
section
variable (K:Kn C A) (hV:HV C A n) (hc:ScOk c F) {comp:Bool} {t:Tg} {tg:Expr} {ds:List D}
include K hV hc
theorem i_val {a:X} (hm:mtI ((mt n).1 c) c comp t tg (.val a) e=true) (h:itr (fun a=>ev C.O n a r) (.val a)=some (ds,l)):ItS C A F r e comp t tg (.val a) ds l:=by
 replace hm:=and3 hm
 obtain ⟨_,hn,hm⟩:=hm
 replace h:=bo h
 obtain ⟨d,l1,h1,h⟩:=h
 replace h:=b1o h
 obtain ⟨ds',h2,h⟩:=h
 obtain ⟨rfl,rfl⟩:=sp h
 have v:=(hV c F r a e d l1 hc hm h1).1
 refine ⟨(fun q=>nomatch q),fun _=>rfl,?_⟩
 cases d with
 | str s=>cases h2; exact iter_str K.hh hn v
 | tup s=>cases h2; exact iter_tup K.hh hn v
 | lst s=>cases h2; exact iter_list K.hh (.inl ⟨rfl,hn⟩) v
 | dctS ks vs=>cases h2; exact iter_keys K.hh hn v
 | _=>cases h2
theorem i_lsts {a:X} (hm:mtI ((mt n).1 c) c comp t tg (.lsts a) e=true) (h:itr (fun a=>ev C.O n a r) (.lsts a)=some (ds,l)):ItS C A F r e comp t tg (.lsts a) ds l:=by
 replace hm:=ba hm
 obtain ⟨ht,hm⟩:=hm
 replace h:=bo h
 obtain ⟨d,l1,h1,h⟩:=h
 replace h:=onL_i (d:=d) h
 obtain ⟨ds',rfl,h⟩:=h
 replace h:=if_s h
 obtain ⟨hall,h⟩:=h
 obtain ⟨rfl,rfl⟩:=sp h
 refine ⟨fun _=>isTgName_tup ht,fun _=>rfl,iter_list K.hh (.inr ⟨rfl,fun d hd=>?_⟩) (hV c F r a e _ _ hc hm h1).1⟩
 have:=List.all_eq_true.mp hall d hd
 cases d with
 | tup l=>exact ⟨l,rfl⟩
 | _=>cases this
theorem i_rng1 {a:X} (hm:mtI ((mt n).1 c) c comp t tg (.rng1 a) e=true) (h:itr (fun a=>ev C.O n a r) (.rng1 a)=some (ds,l)):ItS C A F r e comp t tg (.rng1 a) ds l:=by
 replace hm:=eCallN_i hm
 obtain ⟨x,es,px,p,rfl,hm⟩:=hm
 replace hm:=and5 hm
 obtain ⟨hx,hg,_,hn,hm⟩:=hm
 replace hm:=b1_i hm
 obtain ⟨a',rfl,ha⟩:=hm
 cases eq_of_beq hx
 replace h:=bo h
 obtain ⟨d,l1,h1,h⟩:=h
 replace h:=onI_i (d:=d) h
 obtain ⟨i,rfl,h⟩:=h
 replace h:=if_s h
 obtain ⟨hi,h⟩:=h
 obtain ⟨rfl,rfl⟩:=sp h
 exact ⟨(fun q=>nomatch q),fun _=>rfl,iter_rng1 K.hh hn (K.ty "range" (by simp)) (gl_iff hc hg).1 (mt_star ha).1 (hV c F r a a' _ _ hc ha h1).1 hi.1⟩
theorem i_rng2 {a b:X} (hm:mtI ((mt n).1 c) c comp t tg (.rng2 a b) e=true) (h:itr (fun a=>ev C.O n a r) (.rng2 a b)=some (ds,l)):ItS C A F r e comp t tg (.rng2 a b) ds l:=by
 replace hm:=eCallN_i hm
 obtain ⟨x,es,px,p,rfl,hm⟩:=hm
 replace hm:=and5 hm
 obtain ⟨hx,hg,_,hn,hm⟩:=hm
 replace hm:=b2_i hm
 obtain ⟨a',b',rfl,hm⟩:=hm
 replace hm:=ba hm
 obtain ⟨ha,hb⟩:=hm
 cases eq_of_beq hx
 replace h:=bo h
 obtain ⟨d,l1,h1,h⟩:=h
 replace h:=bo h
 obtain ⟨d',l2,h2,h⟩:=h
 replace h:=onI_i (d:=d) h
 obtain ⟨i,rfl,h⟩:=h
 replace h:=onI_i (d:=d') h
 obtain ⟨j,rfl,h⟩:=h
 replace h:=if_s h
 obtain ⟨hi,h⟩:=h
 obtain ⟨rfl,rfl⟩:=sp h
 exact ⟨(fun q=>nomatch q),fun _=>rfl,iter_rng2 K.hh hn (K.ty "range" (by simp)) (gl_iff hc hg).1 (mt_star ha).1 (mt_star hb).1 (hV c F r a a' _ _ hc ha h1).1 (hV c F r b b' _ _ hc hb h2).1 hi.1 hi.2.1⟩
theorem i_rng3 {a b:X} (hm:mtI ((mt n).1 c) c comp t tg (.rng3 a b) e=true) (h:itr (fun a=>ev C.O n a r) (.rng3 a b)=some (ds,l)):ItS C A F r e comp t tg (.rng3 a b) ds l:=by
 replace hm:=eCallN_i hm
 obtain ⟨x,es,px,p,rfl,hm⟩:=hm
 replace hm:=and5 hm
 obtain ⟨hx,hg,_,hn,hm⟩:=hm
 replace hm:=r3_i hm
 obtain ⟨a',b',_,_,_,rfl,hm⟩:=hm
 replace hm:=ba hm
 obtain ⟨ha,hb⟩:=hm
 cases eq_of_beq hx
 replace h:=bo h
 obtain ⟨d,l1,h1,h⟩:=h
 replace h:=bo h
 obtain ⟨d',l2,h2,h⟩:=h
 replace h:=onI_i (d:=d) h
 obtain ⟨i,rfl,h⟩:=h
 replace h:=onI_i (d:=d') h
 obtain ⟨j,rfl,h⟩:=h
 replace h:=if_s h
 obtain ⟨hi,h⟩:=h
 obtain ⟨rfl,rfl⟩:=sp h
 exact ⟨(fun q=>nomatch q),fun _=>rfl,iter_rng3 K.hh hn (K.ty "range" (by simp)) (gl_iff hc hg).1 (mt_star ha).1 (mt_star hb).1 (hV c F r a a' _ _ hc ha h1).1 (hV c F r b b' _ _ hc hb h2).1 hi.1 hi.2.1⟩
theorem i_enum {a:X} (hm:mtI ((mt n).1 c) c comp t tg (.enum a) e=true) (h:itr (fun a=>ev C.O n a r) (.enum a)=some (ds,l)):ItS C A F r e comp t tg (.enum a) ds l:=by
 replace hm:=eCallN_i hm
 obtain ⟨x,es,px,p,rfl,hm⟩:=hm
 replace hm:=and5 hm
 obtain ⟨hx,hg,ht,htg,hm⟩:=hm
 replace hm:=b1_i hm
 obtain ⟨a',rfl,ha⟩:=hm
 obtain ⟨_,_,_,rfl,_⟩:=eTuple_i htg
 cases eq_of_beq hx
 replace h:=bo h
 obtain ⟨d,l1,h1,h⟩:=h
 replace h:=b1o h
 obtain ⟨ds',h2,h⟩:=h
 obtain ⟨rfl,rfl⟩:=sp h
 exact ⟨fun _=>isTgName_tup ht,fun _=>rfl,iter_enum K.hh (K.ty "enumerate" (by simp)) (gl_iff hc hg).1 (mt_star ha).1 (hV c F r a a' _ _ hc ha h1).1 h2⟩
theorem i_zip {a b:X} (hm:mtI ((mt n).1 c) c comp t tg (.zip a b) e=true) (h:itr (fun a=>ev C.O n a r) (.zip a b)=some (ds,l)):ItS C A F r e comp t tg (.zip a b) ds l:=by
 replace hm:=eCallN_i hm
 obtain ⟨x,es,px,p,rfl,hm⟩:=hm
 replace hm:=and5 hm
 obtain ⟨hx,hg,ht,htg,hm⟩:=hm
 replace hm:=b2_i hm
 obtain ⟨a',b',rfl,hm⟩:=hm
 replace hm:=ba hm
 obtain ⟨ha,hb⟩:=hm
 obtain ⟨_,_,_,rfl,_⟩:=eTuple_i htg
 cases eq_of_beq hx
 replace h:=bo h
 obtain ⟨d,l1,h1,h⟩:=h
 replace h:=bo h
 obtain ⟨d',l2,h2,h⟩:=h
 replace h:=onL_i (d:=d) h
 obtain ⟨xs,rfl,h⟩:=h
 replace h:=onL_i (d:=d') h
 obtain ⟨ys,rfl,h⟩:=h
 obtain ⟨rfl,rfl⟩:=sp h
 exact ⟨fun _=>isTgName_tup ht,fun _=>rfl,iter_zip K.hh (K.ty "zip" (by simp)) (gl_iff hc hg).1 (mt_star ha).1 (mt_star hb).1 (hV c F r a a' _ _ hc ha h1).1 (hV c F r b b' _ _ hc hb h2).1⟩
theorem i_items {a:X} (hm:mtI ((mt n).1 c) c comp t tg (.items a) e=true) (h:itr (fun a=>ev C.O n a r) (.items a)=some (ds,l)):ItS C A F r e comp t tg (.items a) ds l:=by
 replace hm:=eCallM_i hm
 obtain ⟨a',m,p',es,p,rfl,hline,hm⟩:=hm
 replace hm:=ba hm
 obtain ⟨hm,ha⟩:=hm
 replace hm:=and6 hm
 obtain ⟨hx,hcp,ht,hb,htg,he⟩:=hm
 obtain ⟨_,_,_,rfl,_⟩:=eTuple_i htg
 cases eq_of_beq hx; cases List.isEmpty_iff.mp he
 replace h:=bo h
 obtain ⟨d,l1,h1,h⟩:=h
 replace h:=onD_i (d:=d) h
 obtain ⟨ks,vs,rfl,h⟩:=h
 obtain ⟨rfl,rfl⟩:=sp h
 exact ⟨fun _=>isTgName_tup ht,(fun q=>by rw [q] at hcp; cases hcp),iter_items K.hh hb hline (hV c F r a a' _ _ hc ha h1).1⟩
theorem i_values {a:X} (hm:mtI ((mt n).1 c) c comp t tg (.values a) e=true) (h:itr (fun a=>ev C.O n a r) (.values a)=some (ds,l)):ItS C A F r e comp t tg (.values a) ds l:=by
 replace hm:=eCallM_i hm
 obtain ⟨a',m,p',es,p,rfl,hline,hm⟩:=hm
 replace hm:=and6 hm
 obtain ⟨hx,_,hn,hb,he,ha⟩:=hm
 cases eq_of_beq hx; cases List.isEmpty_iff.mp he
 replace h:=bo h
 obtain ⟨d,l1,h1,h⟩:=h
 replace h:=onD_i (d:=d) h
 obtain ⟨ks,vs,rfl,h⟩:=h
 obtain ⟨rfl,rfl⟩:=sp h
 exact ⟨(fun q=>nomatch q),fun _=>rfl,iter_values K.hh hn hb hline (hV c F r a a' _ _ hc ha h1).1⟩
theorem it_sound {i:It} (hm:mtI ((mt n).1 c) c comp t tg i e=true) (h:itr (fun a=>ev C.O n a r) i=some (ds,l)):ItS C A F r e comp t tg i ds l:=by
 cases i with
 | val a=>exact i_val K hV hc hm h
 | lsts a=>exact i_lsts K hV hc hm h
 | rng1 a=>exact i_rng1 K hV hc hm h
 | rng2 a b=>exact i_rng2 K hV hc hm h
 | rng3 a b=>exact i_rng3 K hV hc hm h
 | enum a=>exact i_enum K hV hc hm h
 | zip a b=>exact i_zip K hV hc hm h
 | items a=>exact i_items K hV hc hm h
 | values a=>exact i_values K hV hc hm h
end
end
end
section
inductive OfBI (o:Option Bool) (l:List D) (d:D) (l':List D):Prop
 | mk (q:Bool) (h1:o=some q) (h2:d=.bool q) (h3:l'=l)
theorem ofB_i {o:Option Bool} {l l':List D} {d:D} (h:ofB o l=some (d,l')):OfBI o l d l':=by
 obtain ⟨q,h1,h⟩:=Option.map_eq_some_iff.mp h
 exact ⟨q,h1,(Prod.mk.inj h).1.symm,(Prod.mk.inj h).2.symm⟩
theorem mp_i {α β:Type} {o:Option α} {f:α→β} {z:β} (h:o.map f=some z):BO1 o (fun a=>some (f a)) z:=by
 obtain ⟨q,h1,h⟩:=Option.map_eq_some_iff.mp h
 exact ⟨q,h1,congrArg some h⟩
theorem neg_op {neg:Bool} {o:CmpOp} (h:(o == if neg then CmpOp.NotIn else .In)=true):(o=.In∧neg=false) ∨ (o=.NotIn∧neg=true):=by
 cases neg with
 | false=>exact .inl ⟨eq_of_beq h,rfl⟩
 | true=>exact .inr ⟨eq_of_beq h,rfl⟩
section
variable {C:Cx} {A:Around} {F:Frm} {c:Sc} {r:Rho} {n:Nat} {e:Expr} {d:D} {l:List D}
variable (K:Kn C A) (hV:HV C A n) (hT:HT C A n) (hc:ScOk c F)
include K hc in
theorem v_gflt {nm:Str} {v:UInt64} (hm:(mt (n+1)).1 c (.gflt nm v) e=true) (h:ev C.O (n+1) (.gflt nm v) r=some (d,l)):EvOk C A F r (eval e F.env) d l:=by
 replace hm:=eName_i (mt_V hm)
 obtain ⟨x,p,rfl,hm⟩:=hm
 replace hm:=and3 hm
 obtain ⟨hx,hl,hg⟩:=hm
 cases eq_of_beq hx
 obtain ⟨rfl,rfl⟩:=sp h
 obtain ⟨t,h1,h2⟩:=K.gf _ _ (eq_of_beq hl)
 exact ok_gflt h1 h2 (gl_iff hc hg).1 (gl_iff hc hg).2
theorem v_none (hm:(mt (n+1)).1 c .none e=true) (h:ev C.O (n+1) .none r=some (d,l)):EvOk C A F r (eval e F.env) d l:=by
 replace hm:=eConstant_i (mt_V hm)
 obtain ⟨k,kk,p,rfl,hm⟩:=hm
 obtain ⟨rfl,rfl⟩:=sp h
 exact Const.none.elim (motive:=fun k=>EvOk C A F r (eval (.Constant k kk p) F.env) .none []) k (eq_of_beq hm) ok_none
theorem v_bool {b:Bool} (hm:(mt (n+1)).1 c (.bool b) e=true) (h:ev C.O (n+1) (.bool b) r=some (d,l)):EvOk C A F r (eval e F.env) d l:=by
 replace hm:=eConstant_i (mt_V hm)
 obtain ⟨k,kk,p,rfl,hm⟩:=hm
 replace hm:=cbool_i hm
 obtain ⟨b',rfl,hm⟩:=hm
 cases eq_of_beq hm
 obtain ⟨rfl,rfl⟩:=sp h
 exact ok_bool
theorem v_int {b:Int} (hm:(mt (n+1)).1 c (.int b) e=true) (h:ev C.O (n+1) (.int b) r=some (d,l)):EvOk C A F r (eval e F.env) d l:=by
 replace hm:=kInt_i (mt_V hm)
 obtain ⟨b',kk,p,rfl,hm⟩:=hm
 cases eq_of_beq hm
 obtain ⟨rfl,rfl⟩:=sp h
 exact ok_int
theorem v_flt {b:UInt64} (hm:(mt (n+1)).1 c (.flt b) e=true) (h:ev C.O (n+1) (.flt b) r=some (d,l)):EvOk C A F r (eval e F.env) d l:=by
 replace hm:=eConstant_i (mt_V hm)
 obtain ⟨k,kk,p,rfl,hm⟩:=hm
 replace hm:=cfloat_i hm
 obtain ⟨b',rfl,hm⟩:=hm
 cases eq_of_beq hm
 obtain ⟨rfl,rfl⟩:=sp h
 exact ok_flt
theorem v_str {b:List Nat} (hm:(mt (n+1)).1 c (.str b) e=true) (h:ev C.O (n+1) (.str b) r=some (d,l)):EvOk C A F r (eval e F.env) d l:=by
 replace hm:=kStr_i (mt_V hm)
 obtain ⟨b',kk,p,rfl,hm⟩:=hm
 cases eq_of_beq hm
 obtain ⟨rfl,rfl⟩:=sp h
 exact ok_str
include hc in
theorem v_var {m:Nat} (hm:(mt (n+1)).1 c (.var m) e=true) (h:ev C.O (n+1) (.var m) r=some (d,l)):EvOk C A F r (eval e F.env) d l:=by
 replace hm:=eName_i (mt_V hm)
 obtain ⟨x,p,rfl,hm⟩:=hm
 replace h:=mp_i h
 obtain ⟨d',h1,h⟩:=h
 cases h
 obtain ⟨h2,h3,h4⟩:=name_i hc hm
 exact ok_var h2 h3 h4 h1
include hV hc
theorem v_bin {o:Operator} {a b:X} (hm:(mt (n+1)).1 c (.bin o a b) e=true) (h:ev C.O (n+1) (.bin o a b) r=some (d,l)):EvOk C A F r (eval e F.env) d l:=by
 replace hm:=eBinOp_i (mt_V hm)
 obtain ⟨a',o',b',p,rfl,hm⟩:=hm
 replace hm:=and3 hm
 obtain ⟨ho,ha,hb⟩:=hm
 cases eq_of_beq ho
 replace h:=bo h
 obtain ⟨d1,l1,h1,h⟩:=h
 replace h:=bo h
 obtain ⟨d2,l2,h2,h⟩:=h
 replace h:=b1o h
 obtain ⟨z,h3,h⟩:=h
 obtain ⟨rfl,rfl⟩:=sp h
 exact ok_bin (hV c F r a _ _ _ hc ha h1).1 (hV c F r b _ _ _ hc hb h2).1 h3
theorem v_neg {a:X} (hm:(mt (n+1)).1 c (.neg a) e=true) (h:ev C.O (n+1) (.neg a) r=some (d,l)):EvOk C A F r (eval e F.env) d l:=by
 replace hm:=eUnaryOp_i (mt_V hm)
 obtain ⟨o,a',p,rfl,hm⟩:=hm
 replace hm:=ba hm
 obtain ⟨ho,ha⟩:=hm
 cases eq_of_beq ho
 replace h:=bo h
 obtain ⟨d1,l1,h1,h⟩:=h
 replace h:=onI_i (d:=d1) h
 obtain ⟨i,rfl,h⟩:=h
 obtain ⟨rfl,rfl⟩:=sp h
 exact ok_neg (hV c F r a _ _ _ hc ha h1).1
include K in
theorem v_cmp {o:CmpOp} {a b:X} (hm:(mt (n+1)).1 c (.cmp o a b) e=true) (h:ev C.O (n+1) (.cmp o a b) r=some (d,l)):EvOk C A F r (eval e F.env) d l:=by
 replace hm:=eCompare_i (mt_V hm)
 obtain ⟨a',os,es,p,rfl,hm⟩:=hm
 replace hm:=b1_i hm
 obtain ⟨o',rfl,hm⟩:=hm
 replace hm:=b1_i hm
 obtain ⟨b',rfl,hm⟩:=hm
 replace hm:=and4 hm
 obtain ⟨ho,hmk,ha,hb⟩:=hm
 cases eq_of_beq ho
 replace h:=bo h
 obtain ⟨d1,l1,h1,h⟩:=h
 replace h:=bo h
 obtain ⟨d2,l2,h2,h⟩:=h
 replace h:=ofB_i h
 obtain ⟨q,h3,rfl,rfl⟩:=h
 exact ok_cmp K.kit K.hu (hV c F r a _ _ _ hc ha h1).1 (hV c F r b _ _ _ hc hb h2).1 h3 (not_t hmk)
include K in
theorem v_cmp2 {o p:CmpOp} {a b f:X} (hm:(mt (n+1)).1 c (.cmp2 o p a b f) e=true) (h:ev C.O (n+1) (.cmp2 o p a b f) r=some (d,l)):EvOk C A F r (eval e F.env) d l:=by
 replace hm:=eCompare_i (mt_V hm)
 obtain ⟨a',os,es,ps,rfl,hm⟩:=hm
 replace hm:=b2_i hm
 obtain ⟨o',p',rfl,hm⟩:=hm
 replace hm:=b2_i hm
 obtain ⟨b',d',rfl,hm⟩:=hm
 replace hm:=and6 hm
 obtain ⟨ho,hp,hmk,ha,hb,hf⟩:=hm
 cases eq_of_beq ho; cases eq_of_beq hp
 replace h:=bo h
 obtain ⟨d1,l1,h1,h⟩:=h
 replace h:=bo h
 obtain ⟨d2,l2,h2,h⟩:=h
 replace h:=b1o h
 obtain ⟨q,h3,h⟩:=h
 have va:=(hV c F r a _ _ _ hc ha h1).1
 have vb:=(hV c F r b _ _ _ hc hb h2).1
 cases q with
 | false =>
  obtain ⟨rfl,rfl⟩:=sp h
  exact ok_cmp2F K.kit K.hu (not_t hmk) va vb h3
 | true =>
  replace h:=bo h
  obtain ⟨d3,l3,h4,h⟩:=h
  replace h:=ofB_i h
  obtain ⟨q',h5,rfl,rfl⟩:=h
  exact ok_cmp2T K.kit K.hu (not_t hmk) va vb h3 (hV c F r f _ _ _ hc hf h4).1 h5
include hT in
theorem v_ife {t a b:X} (hm:(mt (n+1)).1 c (.ife t a b) e=true) (h:ev C.O (n+1) (.ife t a b) r=some (d,l)):EvOk C A F r (eval e F.env) d l:=by
 replace hm:=eIfExp_i (mt_V hm)
 obtain ⟨t',a',b',p,rfl,hm⟩:=hm
 replace hm:=and3 hm
 obtain ⟨ht,ha,hb⟩:=hm
 replace h:=bo h
 obtain ⟨d1,l1,h1,h⟩:=h
 replace h:=b1o h
 obtain ⟨q,h2,h⟩:=h
 replace h:=bo h
 obtain ⟨d2,l2,h3,h⟩:=h
 obtain ⟨rfl,rfl⟩:=sp h
 refine ok_ife (hT c F r t _ _ _ q hc ht h1 h2) ?_
 cases q with
 | false=>exact (hV c F r b _ _ _ hc hb h3).1
 | true=>exact (hV c F r a _ _ _ hc ha h3).1
theorem v_tup {xs:List X} (hm:(mt (n+1)).1 c (.tup xs) e=true) (h:ev C.O (n+1) (.tup xs) r=some (d,l)):EvOk C A F r (eval e F.env) d l:=by
 replace hm:=eTuple_i (mt_V hm)
 obtain ⟨es,k,p,rfl,hm⟩:=hm
 replace h:=bo h
 obtain ⟨ds,l1,h1,h⟩:=h
 replace h:=if_s h
 obtain ⟨hq,h⟩:=h
 obtain ⟨rfl,rfl⟩:=sp h
 cases ds with
 | nil=>cases hq
 | cons x ys=>exact ok_tup (of_decide_eq_true (ba hq).2) (evs_sound hV hc hm h1)
theorem v_lst {xs:List X} (hm:(mt (n+1)).1 c (.lst xs) e=true) (h:ev C.O (n+1) (.lst xs) r=some (d,l)):NewOk C A F r (eval e F.env) d l:=by
 replace hm:=eList_i (mt_V hm)
 obtain ⟨es,p,rfl,hm⟩:=hm
 replace h:=bo h
 obtain ⟨ds,l1,h1,h⟩:=h
 replace h:=if_s h
 obtain ⟨hq,h⟩:=h
 obtain ⟨rfl,rfl⟩:=sp h
 exact ok_lstN hq (evs_sound hV hc hm h1)
omit hV hc in
theorem v_dct0 (hm:(mt (n+1)).1 c .dct0 e=true) (h:ev C.O (n+1) .dct0 r=some (d,l)):NewOk C A F r (eval e F.env) d l:=by
 replace hm:=eDict_i (mt_V hm)
 obtain ⟨ks,vs,p,rfl,hm⟩:=hm
 replace hm:=ba hm
 obtain ⟨h1,h2⟩:=hm
 cases List.isEmpty_iff.mp h1; cases List.isEmpty_iff.mp h2
 obtain ⟨rfl,rfl⟩:=sp h
 exact ok_dct0N
theorem v_dct1 {a b:X} (hm:(mt (n+1)).1 c (.dct1 a b) e=true) (h:ev C.O (n+1) (.dct1 a b) r=some (d,l)):NewOk C A F r (eval e F.env) d l:=by
 replace hm:=eDict_i (mt_V hm)
 obtain ⟨ks,vs,p,rfl,hm⟩:=hm
 replace hm:=b1_i hm
 obtain ⟨k,rfl,hm⟩:=hm
 replace hm:=b1_i hm
 obtain ⟨v,rfl,hm⟩:=hm
 replace hm:=oS_i hm
 obtain ⟨k,rfl,hm⟩:=hm
 replace hm:=ba hm
 obtain ⟨ha,hb⟩:=hm
 replace h:=bo h
 obtain ⟨d1,l1,h1,h⟩:=h
 replace h:=bo h
 obtain ⟨d2,l2,h2,h⟩:=h
 replace h:=onS_i (d:=d1) h
 obtain ⟨s,rfl,h⟩:=h
 obtain ⟨rfl,rfl⟩:=sp h
 exact ok_dct1 (hV c F r a _ _ _ hc ha h1).1 (hV c F r b _ _ _ hc hb h2).1
theorem v_sub {a b:X} (hm:(mt (n+1)).1 c (.sub a b) e=true) (h:ev C.O (n+1) (.sub a b) r=some (d,l)):EvOk C A F r (eval e F.env) d l:=by
 replace hm:=eSubscript_i (mt_V hm)
 obtain ⟨a',i',p,rfl,hm⟩:=hm
 replace hm:=ba hm
 obtain ⟨ha,hb⟩:=hm
 replace h:=bo h
 obtain ⟨d1,l1,h1,h⟩:=h
 replace h:=bo h
 obtain ⟨d2,l2,h2,h⟩:=h
 replace h:=b1o h
 obtain ⟨z,h3,h⟩:=h
 obtain ⟨rfl,rfl⟩:=sp h
 exact ok_sub (mt_star hb).2 (hV c F r a _ _ _ hc ha h1).1 (hV c F r b _ _ _ hc hb h2).1 h3
theorem v_slc {a:X} {k:Nat} (hm:(mt (n+1)).1 c (.slc a k) e=true) (h:ev C.O (n+1) (.slc a k) r=some (d,l)):EvOk C A F r (eval e F.env) d l:=by
 replace hm:=eSubscript_i (mt_V hm)
 obtain ⟨a',i',p,rfl,hm⟩:=hm
 replace hm:=ba hm
 obtain ⟨ha,hm⟩:=hm
 replace hm:=eSlice_i hm
 obtain ⟨lo,hi,st,p',rfl,hm⟩:=hm
 replace hm:=and3 hm
 obtain ⟨h1,h2,hm⟩:=hm
 replace hm:=oS_i hm
 obtain ⟨u,rfl,hm⟩:=hm
 replace hm:=kInt_i hm
 obtain ⟨i,kk,p'',rfl,hm⟩:=hm
 cases eq_of_beq hm; cases Option.isNone_iff_eq_none.mp h1; cases Option.isNone_iff_eq_none.mp h2
 replace h:=bo h
 obtain ⟨d1,l1,h1,h⟩:=h
 replace h:=b1o h
 obtain ⟨z,h3,h⟩:=h
 obtain ⟨rfl,rfl⟩:=sp h
 exact ok_slc (hV c F r a _ _ _ hc ha h1).1 h3
theorem v_subo {m:Nat} {b:X} (hm:(mt (n+1)).1 c (.subo m b) e=true) (h:ev C.O (n+1) (.subo m b) r=some (d,l)):EvOk C A F r (eval e F.env) d l:=by
 replace hm:=eSubscript_i (mt_V hm)
 obtain ⟨a',i',p,rfl,hm⟩:=hm
 replace hm:=ba hm
 obtain ⟨hb,hm⟩:=hm
 replace hm:=eName_i hm
 obtain ⟨x,p',rfl,hm⟩:=hm
 replace h:=b1o h
 obtain ⟨d1,h1,h⟩:=h
 replace h:=bo h
 obtain ⟨d2,l2,h2,h⟩:=h
 replace h:=b1o h
 obtain ⟨z,h3,h⟩:=h
 obtain ⟨rfl,rfl⟩:=sp h
 obtain ⟨q1,q2,q3⟩:=name_i hc hm
 exact ok_subo (mt_star hb).2 q1 q2 q3 h1 (hV c F r b _ _ _ hc hb h2).1 h3
theorem v_ino {neg:Bool} {m:Nat} {b:X} (hm:(mt (n+1)).1 c (.ino neg b m) e=true) (h:ev C.O (n+1) (.ino neg b m) r=some (d,l)):EvOk C A F r (eval e F.env) d l:=by
 replace hm:=eCompare_i (mt_V hm)
 obtain ⟨a',os,es,p,rfl,hm⟩:=hm
 replace hm:=b1_i hm
 obtain ⟨o,rfl,hm⟩:=hm
 replace hm:=b1_i hm
 obtain ⟨b',rfl,hm⟩:=hm
 replace hm:=and3 hm
 obtain ⟨ho,ha,hm⟩:=hm
 replace hm:=eName_i hm
 obtain ⟨x,p',rfl,hm⟩:=hm
 replace h:=bo h
 obtain ⟨d2,l2,h2,h⟩:=h
 replace h:=b1o h
 obtain ⟨d1,h1,h⟩:=h
 replace h:=ofB_i h
 obtain ⟨q',h5,rfl,rfl⟩:=h
 obtain ⟨q,h6,h7⟩:=mp_i h5
 cases h7
 obtain ⟨q1,q2,q3⟩:=name_i hc hm
 exact ok_ino (neg_op ho) q1 q2 q3 h1 (hV c F r b _ _ _ hc ha h2).1 h6
omit hV hc in
theorem nonNil_cons {es:List Expr} (h:nonNil es=true):∃ e es',es=e::es':=by
 cases es with
 | nil=>cases h
 | cons e es=>exact ⟨_,_,rfl⟩
include K
theorem v_isT {g:Bi} {xs:List X} {ds:List D} {z:D} {T:String} (h2:evL (fun a=>ev C.O n a r) xs=some (ds,l)) (h3:biD g ds=some z) (hT:T ∈ ["tuple","bool","range","list","enumerate","zip"]) (e1:biVal g=.builtin "isinstance") (e2:biMore g=[.type T]) (e3:biName g=("isinstance":Str))
  (hm:(eCallN e fun x es=>x == ("isinstance":Str)&&c.gl "isinstance"&&c.gl (Str.ofString T)&&b2 es fun a' u=>mtL ((mt n).1 c) xs [a']&&eName u fun y _=>y == Str.ofString T)=true):EvOk C A F r (eval e F.env) z l:=by
 replace hm:=eCallN_i hm
 obtain ⟨x,es,px,p,rfl,hm⟩:=hm
 replace hm:=and4 hm
 obtain ⟨hx,g1,g2,hm⟩:=hm
 replace hm:=b2_i hm
 obtain ⟨a',u,rfl,hm⟩:=hm
 replace hm:=ba hm
 obtain ⟨ha,hm⟩:=hm
 replace hm:=eName_i hm
 obtain ⟨y,py,rfl,hm⟩:=hm
 cases eq_of_beq hx; cases eq_of_beq hm
 cases xs with
 | nil=>cases ha
 | cons a as =>
  replace ha:=ba ha
  obtain ⟨ha,has⟩:=ha
  cases as with
  | cons _ _=>cases has
  | nil =>
   obtain ⟨d1,h1,rfl⟩:=evL_one h2
   have hG:=K.bi g
   rw [e3] at hG
   exact ok_isT K.hh hG (K.ty T hT) e2 (gl_iff hc g1).1 (gl_iff hc g1).2 (gl_iff hc g2).1 (gl_iff hc g2).2 (mt_star ha).1 (hV c F r a _ _ _ hc ha h1).1 h3
theorem v_plain {g:Bi} {xs:List X} {ds:List D} {z:D} (h2:evL (fun a=>ev C.O n a r) xs=some (ds,l)) (h3:biD g ds=some z) (hg0:biMore g=[])
  (hm:(eCallN e fun x es=>x == biName g&&c.gl (biName g)&&nonNil es&&mtL ((mt n).1 c) xs es)=true):EvOk C A F r (eval e F.env) z l:=by
 replace hm:=eCallN_i hm
 obtain ⟨x,es,px,p,rfl,hm⟩:=hm
 replace hm:=and4 hm
 obtain ⟨hx,hg,hn,hl⟩:=hm
 cases eq_of_beq hx
 obtain ⟨e,es',rfl⟩:=nonNil_cons hn
 exact ok_call K.hh (K.bi g) hg0 (gl_iff hc hg).1 (gl_iff hc hg).2 (mtL_star hl).1 (evs_sound hV hc hl h2) h3
theorem v_bi {g:Bi} {xs:List X} (hm:(mt (n+1)).1 c (.bi g xs) e=true) (h:ev C.O (n+1) (.bi g xs) r=some (d,l)):EvOk C A F r (eval e F.env) d l:=by
 replace h:=bo h
 obtain ⟨ds,l2,h2,h⟩:=h
 replace h:=b1o h
 obtain ⟨z,h3,h⟩:=h
 obtain ⟨rfl,rfl⟩:=sp h
 cases g with
 | isTup=>exact v_isT K hV hc h2 h3 (T:="tuple") (by simp) rfl rfl rfl (mt_V hm)
 | isBool=>exact v_isT K hV hc h2 h3 (T:="bool") (by simp) rfl rfl rfl (mt_V hm)
 | _=>exact v_plain K hV hc h2 h3 rfl (mt_V hm)
theorem v_listr {i:It} (hm:(mt (n+1)).1 c (.listr i) e=true) (h:ev C.O (n+1) (.listr i) r=some (d,l)):EvOk C A F r (eval e F.env) d l:=by
 replace hm:=eCallN_i (mt_V hm)
 obtain ⟨x,es,px,p,rfl,hm⟩:=hm
 replace hm:=and3 hm
 obtain ⟨hx,g1,hm⟩:=hm
 replace hm:=b1_i hm
 obtain ⟨u,rfl,hm⟩:=hm
 replace hm:=eCallN_i hm
 obtain ⟨y,es,py,p',rfl,hm⟩:=hm
 replace hm:=and3 hm
 obtain ⟨hy,g2,hm⟩:=hm
 cases eq_of_beq hx; cases eq_of_beq hy
 replace h:=bo h
 obtain ⟨ds,l2,h2,h⟩:=h
 obtain ⟨rfl,rfl⟩:=sp h
 have tl:=K.ty "list" (by simp)
 have tr:=K.ty "range" (by simp)
 cases i with
 | rng1 a =>
  replace hm:=b1_i hm
  obtain ⟨a',rfl,ha⟩:=hm
  obtain ⟨d1,l1,h1,h⟩:=bo h2
  replace h:=onI_i (d:=d1) h
  obtain ⟨i,rfl,h⟩:=h
  replace h:=if_s h
  obtain ⟨hi,h⟩:=h
  obtain ⟨rfl,rfl⟩:=sp h
  exact ok_listr1 K.hh tl (gl_iff hc g1).1 tr (gl_iff hc g2).1 (mt_star ha).1 (hV c F r a _ _ _ hc ha h1).1 hi.1 hi.2
 | rng2 a b =>
  replace hm:=b2_i hm
  obtain ⟨a',b',rfl,hm⟩:=hm
  replace hm:=ba hm
  obtain ⟨ha,hb⟩:=hm
  obtain ⟨d1,l1,h1,h⟩:=bo h2
  replace h:=bo h
  obtain ⟨d2,l2,h3,h⟩:=h
  replace h:=onI_i (d:=d1) h
  obtain ⟨i,rfl,h⟩:=h
  replace h:=onI_i (d:=d2) h
  obtain ⟨j,rfl,h⟩:=h
  replace h:=if_s h
  obtain ⟨hi,h⟩:=h
  obtain ⟨rfl,rfl⟩:=sp h
  exact ok_listr2 K.hh tl (gl_iff hc g1).1 tr (gl_iff hc g2).1 (mt_star ha).1 (mt_star hb).1 (hV c F r a _ _ _ hc ha h1).1 (hV c F r b _ _ _ hc hb h3).1 hi.1 hi.2.1 hi.2.2
 | _=>cases hm
theorem v_inset {a:X} (hm:(mt (n+1)).1 c (.inset a) e=true) (h:ev C.O (n+1) (.inset a) r=some (d,l)):EvOk C A F r (eval e F.env) d l:=by
 replace hm:=eCompare_i (mt_V hm)
 obtain ⟨a',os,es,p,rfl,hm⟩:=hm
 replace hm:=b1_i hm
 obtain ⟨o,rfl,hm⟩:=hm
 replace hm:=b1_i hm
 obtain ⟨b',rfl,hm⟩:=hm
 replace hm:=and3 hm
 obtain ⟨ho,ha,hm⟩:=hm
 replace hm:=eName_i hm
 obtain ⟨x,px,rfl,hm⟩:=hm
 replace hm:=ba hm
 obtain ⟨hx,hg⟩:=hm
 cases eq_of_beq ho; cases eq_of_beq hx
 replace h:=bo h
 obtain ⟨d1,l1,h1,h⟩:=h
 replace h:=onI_i (d:=d1) h
 obtain ⟨i,rfl,h⟩:=h
 obtain ⟨rfl,rfl⟩:=sp h
 exact ok_inset K.tabs (gl_iff hc hg).1 (hV c F r a _ _ _ hc ha h1).1
theorem v_b3 {a:X} (hm:(mt (n+1)).1 c (.b3 a) e=true) (h:ev C.O (n+1) (.b3 a) r=some (d,l)):EvOk C A F r (eval e F.env) d l:=by
 replace hm:=eCallM_i (mt_V hm)
 obtain ⟨b,m,p',es,p,rfl,hline,hm⟩:=hm
 replace hm:=and3 hm
 obtain ⟨hx,hm,ha⟩:=hm
 replace ha:=b1_i ha
 obtain ⟨a',rfl,ha⟩:=ha
 replace hm:=eName_i hm
 obtain ⟨y,py,rfl,hm⟩:=hm
 replace hm:=ba hm
 obtain ⟨hy,hg⟩:=hm
 cases eq_of_beq hx; cases eq_of_beq hy
 replace h:=bo h
 obtain ⟨d1,l1,h1,h⟩:=h
 replace h:=onI_i (d:=d1) h
 obtain ⟨i,rfl,h⟩:=h
 obtain ⟨rfl,rfl⟩:=sp h
 exact ok_b3 K.tabs (gl_iff hc hg).1 hline (mt_star ha).1 (hV c F r a _ _ _ hc ha h1).1
theorem v_call {k:Nat} {xs:List X} (hm:(mt (n+1)).1 c (.call k xs) e=true) (h:ev C.O (n+1) (.call k xs) r=some (d,l)):EvOk C A F r (eval e F.env) d l:=by
 replace hm:=eCallN_i (mt_V hm)
 obtain ⟨x,es,px,p,rfl,hm⟩:=hm
 replace hm:=and4 hm
 obtain ⟨hk,hg,hn,hl⟩:=hm
 obtain ⟨e,es',rfl⟩:=nonNil_cons hn
 replace h:=bo h
 obtain ⟨ds,l2,h2,h⟩:=h
 replace h:=bo h
 obtain ⟨z,l3,h3,h⟩:=h
 obtain ⟨rfl,rfl⟩:=sp h
 obtain ⟨fa,f1,f2,f3⟩:=K.fn k _ (eq_of_beq hk)
 exact ok_callF f1 f2 f3 (gl_iff hc hg).1 (gl_iff hc hg).2 (mtL_star hl).1 (evs_sound hV hc hl h2) h3
theorem v_mk {a:X} (hm:(mt (n+1)).1 c (.mk a) e=true) (h:ev C.O (n+1) (.mk a) r=some (d,l)):EvOk C A F r (eval e F.env) d l:=by
 replace hm:=eCallN_i (mt_V hm)
 obtain ⟨x,es,px,p,rfl,hm⟩:=hm
 replace hm:=and3 hm
 obtain ⟨hx,hg,hm⟩:=hm
 replace hm:=b1_i hm
 obtain ⟨a',rfl,ha⟩:=hm
 cases eq_of_beq hx
 replace h:=bo h
 obtain ⟨d1,l1,h1,h⟩:=h
 obtain ⟨rfl,rfl⟩:=sp h
 exact K.maker F r _ _ _ _ _ (gl_iff hc hg).1 (mt_star ha).1 (hV c F r a _ _ _ hc ha h1).1
theorem v_attr {a:X} (hm:(mt (n+1)).1 c (.attr a) e=true) (h:ev C.O (n+1) (.attr a) r=some (d,l)):EvOk C A F r (eval e F.env) d l:=by
 replace hm:=eAttribute_i (mt_V hm)
 obtain ⟨a',m,p,rfl,hm⟩:=hm
 replace hm:=and3 hm
 obtain ⟨hx,hg,ha⟩:=hm
 cases eq_of_beq hx
 replace h:=bo h
 obtain ⟨d1,l1,h1,h⟩:=h
 replace h:=onC_i (d:=d1) h
 obtain ⟨i,rfl,h⟩:=h
 obtain ⟨rfl,rfl⟩:=sp h
 exact K.attr F r _ _ _ _ hg (hV c F r a _ _ _ hc ha h1).1
theorem v_compare {a b f:X} (hm:(mt (n+1)).1 c (.compare a b f) e=true) (h:ev C.O (n+1) (.compare a b f) r=some (d,l)):EvOk C A F r (eval e F.env) d l:=by
 replace hm:=eCallM_i (mt_V hm)
 obtain ⟨a',m,p',es,p,rfl,hline,hm⟩:=hm
 replace hm:=and4 hm
 obtain ⟨hx,hb,ha,hl⟩:=hm
 cases eq_of_beq hx
 replace h:=bo h
 obtain ⟨d1,l1,e1,h⟩:=h
 replace h:=bo h
 obtain ⟨xs,l2,e2,h⟩:=h
 replace h:=onC_i (d:=d1) h
 obtain ⟨i,rfl,h⟩:=h
 replace h:=bo h
 obtain ⟨z,l3,e3,h⟩:=h
 obtain ⟨rfl,rfl⟩:=sp h
 have v:=evs_sound (p:=p) hV hc hl e2
 obtain ⟨x,y,_,_,_,_,rfl,rfl⟩:=evL_two e2
 obtain ⟨b',es1,rfl,u1⟩:=mtL_cons hl
 obtain ⟨d',es2,rfl,u2⟩:=mtL_cons (ba u1).2
 cases mtL_nil (ba u2).2
 exact K.cmp F r _ _ _ _ _ _ _ _ _ _ _ _ hb (mtL_star hl).1 hline (hV c F r a _ _ _ hc ha e1).1 v e3
section
variable {a':Expr} {m:Str} {p' p:Pos} {es:List Expr} {xs:List X} {k:List Nat} {ds:List D} {z:D} {l1:List D} (hline:(p'.endLine == p.line)=true) (hb:plainBase a'=true) (v1:EvOk C A F r (eval a' F.env) (.str k) l1)
include hline hb v1
omit K hV hc
theorem m_lower (hm:mtM ((mt n).1 c) c .lower m xs es=true) (h2:evL (fun a=>ev C.O n a r) xs=some (ds,l)) (h3:mtD .lower (.str k) ds=some z):EvOk C A F r (eval (.Call (.Attribute a' m p') es [] p) F.env) z (l1++l):=by
 replace hm:=and3 hm
 obtain ⟨hx,he,hl⟩:=hm
 cases eq_of_beq hx; cases List.isEmpty_iff.mp he; cases List.isEmpty_iff.mp hl
 obtain ⟨rfl,rfl⟩:=evL_nil h2
 replace h3:=if_s (α:=D) h3
 obtain ⟨hk,h3⟩:=h3
 cases h3
 rw [List.append_nil]
 exact ok_lower hb hline v1 hk.2
include K hc in
theorem m_replace {y:List Nat} {i:Int} (hm:mtM ((mt n).1 c) c (.replace y i) m xs es=true) (h2:evL (fun a=>ev C.O n a r) xs=some (ds,l)) (h3:mtD (.replace y i) (.str k) ds=some z):EvOk C A F r (eval (.Call (.Attribute a' m p') es [] p) F.env) z (l1++l):=by
 replace hm:=and3 hm
 obtain ⟨hx,hl,hm⟩:=hm
 replace hm:=b2_i hm
 obtain ⟨s,u,rfl,hm⟩:=hm
 replace hm:=ba hm
 obtain ⟨hs,hm⟩:=hm
 replace hs:=kStr_i hs
 obtain ⟨y',_,_,rfl,hs⟩:=hs
 replace hm:=eCallN_i hm
 obtain ⟨x,as,_,_,rfl,hm⟩:=hm
 replace hm:=and5 hm
 obtain ⟨hx',hg,hm,hi,hne⟩:=hm
 replace hm:=b1_i hm
 obtain ⟨v,rfl,hm⟩:=hm
 replace hm:=kInt_i hm
 obtain ⟨j,_,_,rfl,hm⟩:=hm
 cases eq_of_beq hx; cases eq_of_beq hx'; cases eq_of_beq hs; cases eq_of_beq hm; cases List.isEmpty_iff.mp hl
 obtain ⟨rfl,rfl⟩:=evL_nil h2
 replace h3:=if_s (α:=D) h3
 obtain ⟨hk,h3⟩:=h3
 cases h3
 rw [List.append_nil]
 exact ok_replace hb hline (K.bi .chr) (gl_iff hc hg).1 v1 (of_decide_eq_true hi) (not_t hne) hk.2
include hV hc
theorem m_index (hm:mtM ((mt n).1 c) c .index m xs es=true) (h2:evL (fun a=>ev C.O n a r) xs=some (ds,l)) (h3:mtD .index (.str k) ds=some z):EvOk C A F r (eval (.Call (.Attribute a' m p') es [] p) F.env) z (l1++l):=by
 replace hm:=ba hm
 obtain ⟨hx,hm⟩:=hm
 replace hm:=b1_i hm
 obtain ⟨b',rfl,hm⟩:=hm
 replace hm:=b1_i hm
 obtain ⟨b,rfl,hb'⟩:=hm
 cases eq_of_beq hx
 obtain ⟨d2,h4,rfl⟩:=evL_one h2
 replace h3:=onS_i (d:=d2) h3
 obtain ⟨y,rfl,h3⟩:=h3
 replace h3:=if_s (α:=D) h3
 obtain ⟨hk,h3⟩:=h3
 cases h3
 exact ok_index hb hline (mt_star hb').1 v1 (hV c F r _ _ _ _ hc hb' h4).1 hk
theorem m_join (hm:mtM ((mt n).1 c) c .join m xs es=true) (h2:evL (fun a=>ev C.O n a r) xs=some (ds,l)) (h3:mtD .join (.str k) ds=some z):EvOk C A F r (eval (.Call (.Attribute a' m p') es [] p) F.env) z (l1++l):=by
 replace hm:=ba hm
 obtain ⟨hx,hm⟩:=hm
 replace hm:=b1_i hm
 obtain ⟨b',rfl,hm⟩:=hm
 replace hm:=b1_i hm
 obtain ⟨b,rfl,hb'⟩:=hm
 cases eq_of_beq hx
 obtain ⟨d2,h4,rfl⟩:=evL_one h2
 replace h3:=onL_i (d:=d2) h3
 obtain ⟨y,rfl,h3⟩:=h3
 replace h3:=b1o h3
 obtain ⟨ts,h5,h3⟩:=h3
 replace h3:=if_s (α:=D) h3
 obtain ⟨hk,h3⟩:=h3
 cases h3
 cases hk.1
 exact ok_join hb hline (mt_star hb').1 v1 (hV c F r _ _ _ _ hc hb' h4).1 h5 hk.2.1 hk.2.2
end
theorem v_mth {g:Mt} {a:X} {xs:List X} (hm:(mt (n+1)).1 c (.mth g a xs) e=true) (h:ev C.O (n+1) (.mth g a xs) r=some (d,l)):EvOk C A F r (eval e F.env) d l:=by
 replace hm:=eCallM_i (mt_V hm)
 obtain ⟨a',m,p',es,p,rfl,hline,hm⟩:=hm
 replace hm:=and3 hm
 obtain ⟨hb,ha,hm⟩:=hm
 replace h:=bo h
 obtain ⟨d1,l1,h1,h⟩:=h
 replace h:=bo h
 obtain ⟨ds,l2,h2,h⟩:=h
 replace h:=b1o h
 obtain ⟨z,h3,h⟩:=h
 obtain ⟨rfl,rfl⟩:=sp h
 obtain ⟨k,rfl,_⟩:=onS_i (d:=d1) h3
 have v1:=(hV c F r a _ _ _ hc ha h1).1
 cases g with
 | lower=>exact m_lower hline hb v1 hm h2 h3
 | index=>exact m_index hV hc hline hb v1 hm h2 h3
 | join=>exact m_join hV hc hline hb v1 hm h2 h3
 | replace=>exact m_replace K hc hline hb v1 hm h2 h3
end
end
section
section
variable {C:Cx} {A:Around} {F:Frm} {c:Sc} {r:Rho} {n:Nat} {e:Expr} {d:D} {l:List D}
inductive LcI (C:Cx) (A:Around) (F:Frm) (r:Rho) (e:Expr) (d:D) (l:List D):Prop
 | mk (elt:Expr) (gs:List Comprehension) (sc:Scope) (p:Pos) (h:e=.ListComp elt gs sc p) (q:CompOk C A F r (compOf elt gs sc p F.env) d l)
theorem cond_ok {fs tgs:List Nat} {sc:Scope} {cn:Option X} {ifs:List Expr} {L:Addr} {b:Bool} (hT:HT C A n) (hif:mtIfs ((mt n).2 (c.comp sc fs tgs)) cn ifs=true)
  (hcn:condD (fun a=>ev C.O n a r) cn=some (b,l)):TestOk C A (F.comp c sc fs tgs L) r (ifsOf ifs (F.comp c sc fs tgs L).env) b l:=by
 cases cn with
 | none =>
  cases List.isEmpty_iff.mp hif
  obtain ⟨rfl,rfl⟩:=sp hcn
  exact ifs_nil
 | some tx =>
  replace hif:=b1_i hif
  obtain ⟨u,rfl,hif⟩:=hif
  replace hcn:=bo hcn
  obtain ⟨d1,l3,h3,hcn⟩:=hcn
  replace hcn:=b1o hcn
  obtain ⟨q,h4,hcn⟩:=hcn
  obtain ⟨rfl,rfl⟩:=sp hcn
  exact ifs_one (hT _ _ r tx _ d1 _ _ (comp_scOk L) hif h3 h4)
theorem lc_comp (K:Kn C A) (hV:HV C A n) (hT:HT C A n) (hc:ScOk c F) {x:X} {t:Tg} {i:It} {cn:Option X} {fs:List Nat} (hm:(mt (n+1)).1 c (.lc x t i cn fs) e=true) (h:ev C.O (n+1) (.lc x t i cn fs) r=some (d,l)):LcI C A F r e d l:=by
 replace hm:=eListComp_i (mt_V hm)
 obtain ⟨e',gs,sc,p,rfl,hm⟩:=hm
 replace hm:=gen1L_i hm
 obtain ⟨tg,it,ifs,rfl,hm⟩:=hm
 replace hm:=ba hm
 obtain ⟨hm,hx⟩:=hm
 replace hm:=ba hm
 obtain ⟨hm,hif⟩:=hm
 replace hm:=and4 hm
 obtain ⟨hsc,htg,hns,hi⟩:=hm
 replace h:=bo h
 obtain ⟨ds,l1,h1,h⟩:=h
 replace h:=bo h
 obtain ⟨xs,l2,h2,h⟩:=h
 replace h:=if_s h
 obtain ⟨hlen,h⟩:=h
 obtain ⟨rfl,rfl⟩:=sp h
 have I:=it_sound K hV hc hi h1
 exact ⟨_,_,_,_,rfl,compOk1 K.hh hc hsc htg I.tup (I.sf rfl ▸ I.ok) (folded hns _) (fun L r' b l' hcn=>cond_ok hT hif hcn) (fun L r' x' l' hx'=>(hV _ _ r' x e' x' l' (comp_scOk L) hx hx').1) h2 hlen⟩
theorem itS_name {comp:Bool} {m:Nat} {tg:Expr} {i:It} {ds l:List D} (I:ItS C A F r e comp (.name m) tg i ds l):tupI i=false:=by
 cases h:tupI i with
 | false=>rfl
 | true=>obtain ⟨_,q⟩:=I.tup h; cases q
theorem lc2_name (K:Kn C A) (hV:HV C A n) (hc:ScOk c F) {x:X} {k m:Nat} {i i':It} {fs:List Nat} (hm:(mt (n+1)).1 c (.lc2 x (.name k) i (.name m) i' fs) e=true) (h:ev C.O (n+1) (.lc2 x (.name k) i (.name m) i' fs) r=some (d,l)):LcI C A F r e d l:=by
 replace hm:=eListComp_i (mt_V hm)
 obtain ⟨e',gs,sc,p,rfl,hm⟩:=hm
 replace hm:=b2_i hm
 obtain ⟨g,g',rfl,hm⟩:=hm
 replace hm:=gen1_i (g:=g) hm
 obtain ⟨tg,it,ifs,rfl,hm⟩:=hm
 replace hm:=gen1_i (g:=g') hm
 obtain ⟨tg',it',ifs',rfl,hm⟩:=hm
 replace hm:=and6 hm
 obtain ⟨hif,hif',hsc,hm,hi,hm'⟩:=hm
 replace hm':=ba hm'
 obtain ⟨hi',hx⟩:=hm'
 replace hm:=and6 hm
 obtain ⟨htg,htg',hkm,hfm,hns,hns'⟩:=hm
 cases List.isEmpty_iff.mp hif; cases List.isEmpty_iff.mp hif'
 replace h:=bo h
 obtain ⟨ds,l1,h1,h⟩:=h
 replace h:=bo h
 obtain ⟨xs,l2,h2,h⟩:=h
 replace h:=if_s h
 obtain ⟨hlen,h⟩:=h
 obtain ⟨rfl,rfl⟩:=sp h
 have I:=it_sound K hV hc hi h1
 have I0:=I.ok
 rw [itS_name I,I.sf rfl] at I0
 refine ⟨_,_,_,_,rfl,compOk2 (tup:=false) (tup':=false) K.hh hc hsc htg (fun q=>nomatch q) htg' (fun q=>nomatch q) (Ne.symm (beq_eq_false_iff_ne.mp (not_t hkm))) (not_t hfm) I0 (folded hns _) (fun L=>folded hns' _) (fun L r' x' l' hx'=>(hV _ _ r' x e' x' l' (comp_scOk L) hx hx').1) (fun L r' xs' l' he=>?_) h2 hlen⟩
 replace he:=bo he
 obtain ⟨ds',l3,h3,he⟩:=he
 replace he:=bo he
 obtain ⟨ys,l4,h4,he⟩:=he
 obtain ⟨rfl,rfl⟩:=sp he
 have I:=it_sound (F:=F.comp c sc fs [k,m] L) K hV (comp_scOk L) hi' h3
 have I0:=I.ok
 rw [itS_name I,I.sf rfl] at I0
 exact ⟨ds',l3,l4,I0,h4,rfl⟩
theorem lc2_comp (K:Kn C A) (hV:HV C A n) (hc:ScOk c F) {x:X} {t t':Tg} {i i':It} {fs:List Nat} (hm:(mt (n+1)).1 c (.lc2 x t i t' i' fs) e=true) (h:ev C.O (n+1) (.lc2 x t i t' i' fs) r=some (d,l)):LcI C A F r e d l:=by
 have no:∀ {P:Prop},(∀ k m,t=.name k→t'=.name m→P)→P:=fun k=>by
  obtain ⟨e',gs,sc,p,_,hm⟩:=eListComp_i (mt_V hm)
  obtain ⟨g,g',_,hm⟩:=b2_i hm
  cases t with
  | tup _=>cases hm
  | name a=>cases t' with
   | tup _=>cases hm
   | name b=>exact k a b rfl rfl
 refine no fun k m e1 e2=>?_
 subst e1 e2
 exact lc2_name K hV hc hm h
theorem v_dc (K:Kn C A) (hV:HV C A n) (hc:ScOk c F) {x y:X} {t:Tg} {i:It} {fs:List Nat} (hm:(mt (n+1)).1 c (.dc x y t i fs) e=true) (h:ev C.O (n+1) (.dc x y t i fs) r=some (d,l)):NewOk C A F r (eval e F.env) d l:=by
 replace hm:=eDictComp_i (mt_V hm)
 obtain ⟨k',v',gs,sc,p,rfl,hm⟩:=hm
 replace hm:=gen1L_i hm
 obtain ⟨tg,it,ifs,rfl,hm⟩:=hm
 replace hm:=ba hm
 obtain ⟨hif,hm⟩:=hm
 replace hm:=and6 hm
 obtain ⟨hsc,htg,hns,hi,hx,hy⟩:=hm
 cases List.isEmpty_iff.mp hif
 replace h:=bo h
 obtain ⟨ds,l1,h1,h⟩:=h
 replace h:=bo h
 obtain ⟨xs,l2,h2,h⟩:=h
 replace h:=b1o h
 obtain ⟨z,h3,h⟩:=h
 obtain ⟨rfl,rfl⟩:=sp h
 have I:=it_sound K hV hc hi h1
 exact ok_dcN K.hh hc hsc htg I.tup (I.sf rfl ▸ I.ok) (folded hns _) (fun L r' x' l' hx'=>(hV _ _ r' x _ x' l' (comp_scOk L) hx hx').1) (fun L r' x' l' hx'=>(hV _ _ r' y _ x' l' (comp_scOk L) hy hx').1) h2 h3
theorem comp_all {x:X} (h:LcI C A F r e d l):VOk C A F r x e d l:=by
 obtain ⟨elt,gs,sc,p,rfl,hC⟩:=h
 have hN:NewOk C A F r (eval (.ListComp elt gs sc p) F.env) d l:=by
  rw [eval_ListComp]
  exact hC.new
 exact ⟨hN.ev,fun _=>hN,fun elt' gs' sc' p' he=>by cases he; exact hC⟩
theorem not_lc {x:X} (hx:isLcX x=false) (hm:(mt (n+1)).1 c x e=true) {P:Prop} {elt:Expr} {gs:List Comprehension} {sc:Scope} {p:Pos} (he:e=.ListComp elt gs sc p):P:=by
 have:=eq_of_beq (mt_W hm).2.2.1
 rw [hx,he] at this
 cases this
theorem new_all {x:X} (h:NewOk C A F r (eval e F.env) d l) (hx:isLcX x=false) (hm:(mt (n+1)).1 c x e=true):VOk C A F r x e d l:=⟨h.ev,fun _=>h,fun _ _ _ _ he=>not_lc hx hm he⟩
theorem ev_all {x:X} (hx:isNewX x=false) (hl:isLcX x=false) (h:EvOk C A F r (eval e F.env) d l) (hm:(mt (n+1)).1 c x e=true):VOk C A F r x e d l :=
 ⟨h,(fun q=>by rw [hx] at q; cases q),fun _ _ _ _ he=>not_lc hl hm he⟩
theorem step_V (K:Kn C A) (hV:HV C A n) (hT:HT C A n):HV C A (n+1):=fun c F r x e d l hc hm h=>by
 cases x with
 | lst xs=>exact new_all (v_lst hV hc hm h) rfl hm
 | dct0=>exact new_all (v_dct0 hm h) rfl hm
 | dct1 a b=>exact new_all (v_dct1 hV hc hm h) rfl hm
 | dc a b t i fs=>exact new_all (v_dc K hV hc hm h) rfl hm
 | lc a t i cn fs=>exact comp_all (lc_comp K hV hT hc hm h)
 | lc2 a t i t' i' fs=>exact comp_all (lc2_comp K hV hc hm h)
 | bin o a b=>exact ev_all rfl rfl (v_bin hV hc hm h) hm
 | neg a=>exact ev_all rfl rfl (v_neg hV hc hm h) hm
 | cmp o a b=>exact ev_all rfl rfl (v_cmp K hV hc hm h) hm
 | cmp2 o p a b f=>exact ev_all rfl rfl (v_cmp2 K hV hc hm h) hm
 | ife t a b=>exact ev_all rfl rfl (v_ife hV hT hc hm h) hm
 | not a=>cases mt_V hm
 | and a b=>cases mt_V hm
 | or a=>cases mt_V hm
 | tup xs=>exact ev_all rfl rfl (v_tup hV hc hm h) hm
 | sub a b=>exact ev_all rfl rfl (v_sub hV hc hm h) hm
 | slc a k=>exact ev_all rfl rfl (v_slc hV hc hm h) hm
 | subo m b=>exact ev_all rfl rfl (v_subo hV hc hm h) hm
 | ino g a m=>exact ev_all rfl rfl (v_ino hV hc hm h) hm
 | bi g xs=>exact ev_all rfl rfl (v_bi K hV hc hm h) hm
 | mth g a xs=>exact ev_all rfl rfl (v_mth K hV hc hm h) hm
 | listr i=>exact ev_all rfl rfl (v_listr K hV hc hm h) hm
 | inset a=>exact ev_all rfl rfl (v_inset K hV hc hm h) hm
 | b3 a=>exact ev_all rfl rfl (v_b3 K hV hc hm h) hm
 | call k xs=>exact ev_all rfl rfl (v_call K hV hc hm h) hm
 | mk a=>exact ev_all rfl rfl (v_mk K hV hc hm h) hm
 | attr a=>exact ev_all rfl rfl (v_attr K hV hc hm h) hm
 | compare a b f=>exact ev_all rfl rfl (v_compare K hV hc hm h) hm
 | none=>exact ev_all rfl rfl (v_none hm h) hm
 | bool b=>exact ev_all rfl rfl (v_bool hm h) hm
 | int b=>exact ev_all rfl rfl (v_int hm h) hm
 | flt b=>exact ev_all rfl rfl (v_flt hm h) hm
 | str b=>exact ev_all rfl rfl (v_str hm h) hm
 | var b=>exact ev_all rfl rfl (v_var hc hm h) hm
 | gflt a b=>exact ev_all rfl rfl (v_gflt K hc hm h) hm
theorem evO_bool {f:X→R1} {xs:List X}:∀ {d:D} {l:List D},evO f xs=some (d,l)→∃ q,d=.bool q:=by
 induction xs with
 | nil=>intro d l h; obtain ⟨rfl,rfl⟩:=sp h; exact ⟨_,rfl⟩
 | cons x xs ih =>
  intro d l h
  replace h:=bo h
  obtain ⟨d,l1,h1,h⟩:=h
  replace h:=b1o h
  obtain ⟨q1,h2,h⟩:=h
  cases q1 with
  | true=>obtain ⟨rfl,rfl⟩:=sp h; exact ⟨_,rfl⟩
  | false =>
   replace h:=bo h
   obtain ⟨d2,l2,h3,h⟩:=h
   obtain ⟨rfl,rfl⟩:=sp h
   exact ih h3
theorem or_sound (hT:HT C A n) (hc:ScOk c F) {xs:List X}:∀ {es:List Expr} {q:Bool} {l:List D},mtL ((mt n).2 c) xs es=true→evO (fun a=>ev C.O n a r) xs=some (.bool q,l)→OrOk C A F r es q l:=by
 induction xs with
 | nil =>
  intro es q l hm h
  cases mtL_nil hm
  cases h
  exact or_nil
 | cons x xs ih =>
  intro es q l hm h
  replace hm:=mtL_cons hm
  obtain ⟨e,es,rfl,hm⟩:=hm
  replace hm:=ba hm
  obtain ⟨m1,m2⟩:=hm
  replace h:=bo h
  obtain ⟨d,l1,h1,h⟩:=h
  replace h:=b1o h
  obtain ⟨q1,h2,h⟩:=h
  cases q1 with
  | true=>cases h; exact or_hit (hT c F r x e d _ true hc m1 h1 h2)
  | false =>
   replace h:=bo h
   obtain ⟨d2,l2,h3,h⟩:=h
   obtain ⟨rfl,rfl⟩:=sp h
   exact or_miss (hT c F r x e d _ false hc m1 h1 h2) (ih m2 h3)
section
variable {q:Bool} (hT:HT C A n) (hc:ScOk c F)
include hc
theorem t_val (hV1:HV C A (n+1)) {x:X} (hm:(valTest e&&mtW (mt n).1 (mt n).2 c x e)=true) (h:ev C.O (n+1) x r=some (d,l)) (hq:truthD d=some q):TestOk C A F r (isTrue e F.env (eval e F.env)) q l :=
 ok_valT (ba hm).1 (hV1 c F r x e d l hc (ba hm).2 h).1 hq
include hT
theorem t_not {a:X} (hm:(mt (n+1)).2 c (.not a) e=true) (h:ev C.O (n+1) (.not a) r=some (d,l)) (hq:truthD d=some q):TestOk C A F r (isTrue e F.env (eval e F.env)) q l:=by
 replace hm:=eUnaryOp_i (e:=e) hm
 obtain ⟨o,a',p,rfl,hm⟩:=hm
 replace hm:=ba hm
 obtain ⟨ho,hm⟩:=hm
 cases eq_of_beq ho
 replace h:=bo h
 obtain ⟨d1,l1,h1,h⟩:=h
 replace h:=ofB_i h
 obtain ⟨q',h5,rfl,rfl⟩:=h
 obtain ⟨q1,h6,h7⟩:=mp_i h5
 cases h7
 cases hq
 exact ok_notT (hT c F r a _ d1 _ q1 hc hm h1 h6)
theorem t_and {a b:X} (hm:(mt (n+1)).2 c (.and a b) e=true) (h:ev C.O (n+1) (.and a b) r=some (d,l)) (hq:truthD d=some q):TestOk C A F r (isTrue e F.env (eval e F.env)) q l:=by
 replace hm:=eBoolOp_i (e:=e) hm
 obtain ⟨o,es,p,rfl,hm⟩:=hm
 replace hm:=ba hm
 obtain ⟨ho,hm⟩:=hm
 replace hm:=b2_i hm
 obtain ⟨a',b',rfl,hm⟩:=hm
 replace hm:=ba hm
 obtain ⟨ma,mb⟩:=hm
 cases eq_of_beq ho
 replace h:=bo h
 obtain ⟨d1,l1,h1,h⟩:=h
 replace h:=b1o h
 obtain ⟨q1,h2,h⟩:=h
 have va:=hT c F r a _ d1 _ q1 hc ma h1 h2
 cases q1 with
 | true =>
  replace h:=bo h
  obtain ⟨d2,l2,h3,h⟩:=h
  replace h:=ofB_i h
  obtain ⟨q',h5,rfl,rfl⟩:=h
  cases hq
  exact ok_andT va (hT c F r b _ d2 _ _ hc mb h3 h5)
 | false =>
  obtain ⟨rfl,rfl⟩:=sp h
  cases hq
  exact ok_andF va
theorem t_or {xs:List X} (hm:(mt (n+1)).2 c (.or xs) e=true) (h:ev C.O (n+1) (.or xs) r=some (d,l)) (hq:truthD d=some q):TestOk C A F r (isTrue e F.env (eval e F.env)) q l:=by
 replace hm:=eBoolOp_i (e:=e) hm
 obtain ⟨o,es,p,rfl,hm⟩:=hm
 replace hm:=ba hm
 obtain ⟨ho,hm⟩:=hm
 cases eq_of_beq ho
 have ⟨q',e⟩:=evO_bool h
 subst e
 cases hq
 exact ok_orT (or_sound hT hc hm h)
omit hT
variable (hV:HV C A n)
include hV
theorem t_cmp (K:Kn C A) {o:CmpOp} {a b:X} (hm:(mt (n+1)).2 c (.cmp o a b) e=true) (h:ev C.O (n+1) (.cmp o a b) r=some (d,l)) (hq:truthD d=some q):TestOk C A F r (isTrue e F.env (eval e F.env)) q l:=by
 replace hm:=eCompare_i (e:=e) hm
 obtain ⟨a',os,es,p,rfl,hm⟩:=hm
 replace hm:=b1_i hm
 obtain ⟨o',rfl,hm⟩:=hm
 replace hm:=b1_i hm
 obtain ⟨b',rfl,hm⟩:=hm
 replace hm:=and4 hm
 obtain ⟨ho,hmk,ha,hb⟩:=hm
 cases eq_of_beq ho
 replace h:=bo h
 obtain ⟨d1,l1,h1,h⟩:=h
 replace h:=bo h
 obtain ⟨d2,l2,h2,h⟩:=h
 replace h:=ofB_i h
 obtain ⟨q',h3,rfl,rfl⟩:=h
 cases hq
 exact ok_cmpT K.kit K.hu (hV c F r a _ _ _ hc ha h1).1 (hV c F r b _ _ _ hc hb h2).1 h3 (not_t hmk)
theorem t_ino {neg:Bool} {m:Nat} {b:X} (hm:(mt (n+1)).2 c (.ino neg b m) e=true) (h:ev C.O (n+1) (.ino neg b m) r=some (d,l)) (hq:truthD d=some q):TestOk C A F r (isTrue e F.env (eval e F.env)) q l:=by
 replace hm:=eCompare_i (e:=e) hm
 obtain ⟨a',os,es,p,rfl,hm⟩:=hm
 replace hm:=b1_i hm
 obtain ⟨o,rfl,hm⟩:=hm
 replace hm:=b1_i hm
 obtain ⟨b',rfl,hm⟩:=hm
 replace hm:=and3 hm
 obtain ⟨ho,ha,hm⟩:=hm
 replace hm:=eName_i hm
 obtain ⟨x,p',rfl,hm⟩:=hm
 replace h:=bo h
 obtain ⟨d2,l2,h2,h⟩:=h
 replace h:=b1o h
 obtain ⟨d1,h1,h⟩:=h
 replace h:=ofB_i h
 obtain ⟨q',h5,rfl,rfl⟩:=h
 obtain ⟨q1,h6,h7⟩:=mp_i h5
 cases h7
 cases hq
 obtain ⟨u1,u2,u3⟩:=name_i hc hm
 exact ok_inoT (neg_op ho) u1 u2 u3 h1 (hV c F r b _ _ _ hc ha h2).1 h6
end
theorem step_T (K:Kn C A) (hV:HV C A n) (hT:HT C A n) (hV1:HV C A (n+1)):HT C A (n+1):=fun c F r x e d l q hc hm h hq=>by
 cases x with
 | not a=>exact t_not hT hc hm h hq
 | and a b=>exact t_and hT hc hm h hq
 | or xs=>exact t_or hT hc hm h hq
 | cmp o a b=>exact t_cmp hc hV K hm h hq
 | ino neg b m=>exact t_ino hc hV hm h hq
 | _=>exact t_val hc hV1 hm h hq
theorem main_sound (K:Kn C A) (n:Nat):HV C A n∧HT C A n:=by
 induction n with
 | zero=>exact ⟨fun c F r x e d l hc hm h=>(nomatch hm),fun c F r x e d l q hc hm h hq=>(nomatch hm)⟩
 | succ n ih=>have v:=step_V K ih.1 ih.2; exact ⟨v,step_T K ih.1 ih.2 v⟩
end
end
section
section
variable {C:Cx} {A:Around} {c:Sc} {r r':Rho} {n:Nat} {st:Stmt} {fl:Fl} {l:List D} {env:Env}
noncomputable def mtS (c:Sc) (n:Nat) (s:St) (st:Stmt):Bool:=mtSt (mt EF).1 (mt EF).2 n c s st
theorem swaps_cell {elt:Expr} {gs:List Comprehension} {sc:Scope} {cp px:Pos} {x:Str} {n:Nat} {F:Frm} (hc:ScOk c F) (h:c.kd x=some .cell):swapsWith (.ListComp elt gs sc cp) (some (.Name x px)) n F.env=pure false:=by
 refine congrArg (fun b:Bool=>(pure b:Sem Bool)) ?_
 rw [(hc.cell x h).1,show (some NameKind.cell == some NameKind.local)=false from rfl,Bool.and_false]
 rfl
theorem ex_asgC {n:Nat} {x:Str} {value:Expr} {p p':Pos} {d:D} {l:List D} (env:Env) (hs:c.store n x=true) (hn:isLc value=true) (hk:c.kd x=some .cell)
  (hv:∀ F,F.env=env→ScOk c F→EvOk C A F r (eval value env) d l):ExOk C A c env r (exec (.Assign [.Name x p'] value p) env) .next (setV r n d) l:=fun F g s E Q he ht hc H h=>by
 subst he
 obtain ⟨_,_,_,_,rfl,_⟩:=eListComp_i hn
 exact wpAny_Assign_Name (hv F rfl hc g s E _ H fun g' s' v S rv=>store_sound hc hs (H.done S) rv fun s₂ S₂ H₂=>h F g' s₂ .next FrmLe.refl (Ste.trans0 (Ste.of S) S₂) H₂.ev rfl) (swaps_cell hc hk)
theorem mtI_tup {f:X→Expr→Bool} {comp:Bool} {t:Tg} {tg:Expr} {i:It} {e:Expr} (h:mtI f c comp t tg i e=true) (q:tupI i=true):∃ l,t=.tup l:=by
 cases i with
 | lsts a=>exact isTgName_tup (ba h).1
 | enum a =>
  replace h:=eCallN_i (e:=e) h
  obtain ⟨_,_,_,_,_,h⟩:=h
  exact isTgName_tup (and5 h).c
 | zip a b =>
  replace h:=eCallN_i (e:=e) h
  obtain ⟨_,_,_,_,_,h⟩:=h
  exact isTgName_tup (and5 h).c
 | items a =>
  replace h:=eCallM_i (e:=e) h
  obtain ⟨_,_,_,_,_,_,_,h⟩:=h
  exact isTgName_tup (and6 (ba h).1).c
 | _=>cases q
section
variable {f:St→Rho→R2} {s:St} {ss:List St} {z:Fl × Rho × List D}
theorem exB_cons {r1:Rho} {d:D} {l1:List D} (h1:f s r=some (.ret d,r1,l1)) (h:exB f (s::ss) r=some z):z=(.ret d,r1,l1):=by
 rw [show exB f (s::ss) r=(f s r).bind _ from rfl,h1] at h
 exact (Option.some.inj h).symm
inductive NextI (f:St→Rho→R2) (ss:List St) (r1:Rho) (l1:List D) (z:Fl × Rho × List D):Prop
 | mk (fl2:Fl) (r2:Rho) (l2:List D) (h:exB f ss r1=some (fl2,r2,l2)) (e:z=(fl2,r2,l1++l2))
theorem exB_next {r1:Rho} {l1:List D} (h1:f s r=some (.next,r1,l1)) (h:exB f (s::ss) r=some z):NextI f ss r1 l1 z:=by
 rw [show exB f (s::ss) r=(f s r).bind _ from rfl,h1] at h
 obtain ⟨fl2,r2,l2,h2,h3⟩:=bo3 (show (exB f ss r1).bind _=some z from h)
 exact ⟨fl2,r2,l2,h2,(Option.some.inj h3).symm⟩
end
theorem block_sound {f:St→Rho→R2} {g:St→Stmt→Bool} (hf:∀ s st r fl r' l,g s st=true→f s r=some (fl,r',l)→ExOk C A c env r (exec st env) fl r' l) {ss:List St} :
  ∀ {sts:List Stmt} {r:Rho} {fl:Fl} {r':Rho} {l:List D},mtB g ss sts=true→exB f ss r=some (fl,r',l)→ExOk C A c env r (execs sts env) fl r' l:=by
 induction ss with
 | nil =>
  intro sts r fl r' l hm h
  cases sts with
  | cons _ _=>cases hm
  | nil =>
   replace h:=sp3 h
   obtain ⟨rfl,rfl,rfl⟩:=h
   exact ex_nil env
 | cons s ss ih =>
  intro sts r fl r' l hm h
  cases sts with
  | nil=>cases hm
  | cons st sts =>
   replace hm:=ba hm
   obtain ⟨m1,m2⟩:=hm
   obtain ⟨fl1,r1,l1,h1,_⟩:=bo3 h
   have v:=hf s st r fl1 r1 l1 m1 h1
   cases fl1 with
   | ret d=>cases exB_cons h1 h; exact ex_stop env v
   | next =>
    obtain ⟨fl2,r2,l2,h2,e⟩:=exB_next h1 h
    cases e
    exact ex_cons env v (ih m2 h2)
variable (K:Kn C A)
include K
theorem e_val {x:X} {e:Expr} {d:D} {l:List D} (hm:(mt EF).1 c x e=true) (h:ev C.O EF x r=some (d,l)):∀ F,F.env=env→ScOk c F→EvOk C A F r (eval e env) d l:=fun F he hc=>by
 subst he
 exact ((main_sound K EF).1 c F r x e d l hc hm h).1
theorem e_new {x:X} {e:Expr} {d:D} {l:List D} (hx:isNewX x=true) (hm:(mt EF).1 c x e=true) (h:ev C.O EF x r=some (d,l)):∀ F,F.env=env→ScOk c F→NewOk C A F r (eval e env) d l:=fun F he hc=>by
 subst he
 exact ((main_sound K EF).1 c F r x e d l hc hm h).2.1 hx
theorem e_tst {x:X} {e:Expr} {d:D} {l:List D} {q:Bool} (hm:(mt EF).2 c x e=true) (h:ev C.O EF x r=some (d,l)) (hq:truthD d=some q):∀ F,F.env=env→ScOk c F→TestOk C A F r (isTrue e env (eval e env)) q l:=fun F he hc=>by
 subst he
 exact (main_sound K EF).2 c F r x e d l q hc hm h hq
theorem e_lc {x:X} {elt:Expr} {gs:List Comprehension} {sc:Scope} {cp:Pos} {d:D} {l:List D} (hm:(mt EF).1 c x (.ListComp elt gs sc cp)=true) (h:ev C.O EF x r=some (d,l)):∀ F,F.env=env→ScOk c F→CompOk C A F r (compOf elt gs sc cp env) d l:=fun F he hc=>by
 subst he
 exact ((main_sound K EF).1 c F r x _ _ l hc hm h).2.2 elt gs sc cp rfl
theorem s_asg {k:Nat} {e:X} (hm:mtS c (n+1) (.asg k e) st=true) (h:ex C.O (n+1) (.asg k e) r=some (fl,r',l)):ExOk C A c env r (exec st env) fl r' l:=by
 replace hm:=sName_i (s:=st) hm
 obtain ⟨x,px,v,p,rfl,hm⟩:=hm
 replace hm:=and3 hm
 obtain ⟨hs,hv,hu⟩:=hm
 replace h:=bo h
 obtain ⟨d,l1,h1,h⟩:=h
 replace h:=sp3 h
 obtain ⟨rfl,rfl,rfl⟩:=h
 rcases Bool.or_eq_true_iff.mp hu with hu | hu
 ·rcases Bool.or_eq_true_iff.mp hu with hu | hu
  ·exact ex_asg env hs hu (e_val K hv h1)
  ·obtain ⟨elt,gs,sc,cp,rfl,hu⟩:=eListComp_i hu
   exact ex_comp env hs hu (e_lc K hv h1)
 ·exact ex_asgC env hs (ba hu).1 (eq_of_beq (ba hu).2) (e_val K hv h1)
theorem s_own {k:Nat} {e:X} (hm:mtS c (n+1) (.own k e) st=true) (h:ex C.O (n+1) (.own k e) r=some (fl,r',l)):ExOk C A c env r (exec st env) fl r' l:=by
 replace hm:=sName_i (s:=st) hm
 obtain ⟨x,px,v,p,rfl,hm⟩:=hm
 replace hm:=and4 hm
 obtain ⟨hs,hnew,hv,hu⟩:=hm
 replace h:=bo h
 obtain ⟨d,l1,h1,h⟩:=h
 replace h:=if_s h
 obtain ⟨hcond,h⟩:=h
 replace h:=sp3 h
 obtain ⟨rfl,rfl,rfl⟩:=h
 rcases Bool.or_eq_true_iff.mp hu with hu | hu
 ·exact ex_own env hs hu (ba hcond).2 (e_new K hnew hv h1)
 ·obtain ⟨elt,gs,sc,cp,rfl,hu⟩:=eListComp_i hu
  exact ex_compO env hs hu (e_lc K hv h1) (ba hcond).2
theorem s_own2 {k m:Nat} {a b:X} (hm:mtS c (n+1) (.own2 k m a b) st=true) (h:ex C.O (n+1) (.own2 k m a b) r=some (fl,r',l)):ExOk C A c env r (exec st env) fl r' l:=by
 replace hm:=sPair_i (s:=st) hm
 obtain ⟨x,px,y,py,k1,p1,u,v,k2,p2,p,rfl,hm⟩:=hm
 replace hm:=and6 hm
 obtain ⟨h1,h2,hsw,hn,ha,hb⟩:=hm
 replace h:=bo h
 obtain ⟨d,l1,e1,h⟩:=h
 replace h:=bo h
 obtain ⟨d',l2,e2,h⟩:=h
 replace h:=if_s h
 obtain ⟨hq,h⟩:=h
 replace hq:=and5 hq
 replace h:=sp3 h
 obtain ⟨rfl,rfl,rfl⟩:=h
 exact ex_own2 env K.hh h1 h2 hsw hq.c hq.d (e_new K (ba hn).1 ha e1) (e_new K (ba hn).2 hb e2)
theorem s_unp {ks:List Nat} {e:X} (hm:mtS c (n+1) (.unp ks e) st=true) (h:ex C.O (n+1) (.unp ks e) r=some (fl,r',l)):ExOk C A c env r (exec st env) fl r' l:=by
 replace hm:=sAssign_i (e:=st) hm
 obtain ⟨ts,v,p,rfl,hm⟩:=hm
 replace hm:=b1_i hm
 obtain ⟨t,rfl,hm⟩:=hm
 replace hm:=eTuple_i hm
 obtain ⟨es,k,p',rfl,hm⟩:=hm
 replace hm:=and3 hm
 obtain ⟨m1,m2,m3⟩:=hm
 replace h:=bo h
 obtain ⟨d,l1,h1,h⟩:=h
 replace h:=b1o h
 obtain ⟨ds,h2,h⟩:=h
 replace h:=b1o h
 obtain ⟨r2,h3,h⟩:=h
 replace h:=sp3 h
 obtain ⟨rfl,rfl,rfl⟩:=h
 exact ex_unp env K.hh m1 m2 (ds:=ds) h2 h3 (e_val K m3 h1)
theorem s_swp {ks:List Nat} {es:List X} (hm:mtS c (n+1) (.swp ks es) st=true) (h:ex C.O (n+1) (.swp ks es) r=some (fl,r',l)):ExOk C A c env r (exec st env) fl r' l:=by
 replace hm:=sPair_i (s:=st) hm
 obtain ⟨x,px,y,py,k1,p1,u,v,k2,p2,p,rfl,hm⟩:=hm
 replace hm:=b2_i hm
 obtain ⟨k,m,rfl,hm⟩:=hm
 replace hm:=b2_i hm
 obtain ⟨a,b,rfl,hm⟩:=hm
 replace hm:=and5 hm
 obtain ⟨s1,s2,hsw,ha,hb⟩:=hm
 replace h:=bo h
 obtain ⟨ds,l1,h1,h⟩:=h
 replace h:=b1o h
 obtain ⟨r2,h3,h⟩:=h
 replace h:=sp3 h
 obtain ⟨rfl,rfl,rfl⟩:=h
 obtain ⟨d1,d2,l2,l3,h4,h6,rfl,rfl⟩:=evL_two h1
 cases h3
 exact ex_swp env K.hh s1 s2 hsw (e_val K ha h4) (e_val K hb h6)
theorem s_popd {k m q:Nat} {i b:X} (hm:mtS c (n+1) (.popd k m q i b) st=true) (h:ex C.O (n+1) (.popd k m q i b) r=some (fl,r',l)):ExOk C A c env r (exec st env) fl r' l:=by
 replace hm:=sPair_i (s:=st) hm
 obtain ⟨x,px,y,py,k1,p1,u,v,k2,p2,p,rfl,hm⟩:=hm
 replace hm:=ba hm
 obtain ⟨hm,hm'⟩:=hm
 replace hm':=eBinOp_i hm'
 obtain ⟨lf,o,u,p3,rfl,hm'⟩:=hm'
 replace hm':=and3 hm'
 obtain ⟨ho,hl,hm'⟩:=hm'
 replace hl:=eName_i hl
 obtain ⟨x',p4,rfl,hl⟩:=hl
 replace hm':=eCallM_i hm'
 obtain ⟨z,pp,ap,es,cp,rfl,hline,hm'⟩:=hm'
 obtain ⟨hp,hz,hi⟩:=and3 hm'
 replace hz:=eName_i hz
 obtain ⟨z,pz,rfl,hz⟩:=hz
 replace hi:=b1_i hi
 obtain ⟨i',rfl,hi⟩:=hi
 cases eq_of_beq ho; cases eq_of_beq hl; cases eq_of_beq hp
 clear ho hl hp
 replace hm:=ba hm
 obtain ⟨hm,hb⟩:=hm
 replace hm:=and4 hm
 obtain ⟨s1,s2,s3,hsw⟩:=hm
 replace h:=b1o h
 obtain ⟨d1,h1,h⟩:=h
 replace h:=bo h
 obtain ⟨d2,l2,h2,h⟩:=h
 replace h:=b1o h
 obtain ⟨d3,h3,h⟩:=h
 replace h:=onS_i (d:=d1) h
 obtain ⟨sr,rfl,h⟩:=h
 replace h:=onI_i (d:=d2) h
 obtain ⟨j,rfl,h⟩:=h
 replace h:=onL_i (d:=d3) h
 obtain ⟨ds,rfl,h⟩:=h
 replace h:=if_s h
 obtain ⟨h0,h⟩:=h
 replace h:=b1o h
 obtain ⟨t,hj,h⟩:=h
 replace h:=onS_i (d:=t) h
 obtain ⟨t,rfl,h⟩:=h
 replace h:=if_s h
 obtain ⟨hlen,h⟩:=h
 replace h:=bo h
 obtain ⟨d4,l4,h4,h⟩:=h
 replace h:=sp3 h
 obtain ⟨rfl,rfl,rfl⟩:=h
 obtain ⟨j,rfl⟩:=Int.eq_ofNat_of_zero_le h0
 exact ex_popd env K.hh s1 s3 s2 hz (mt_star hi).1 hline hsw h1 (e_val K hi h2) h3 hj hlen (e_val K hb h4)
theorem s_aug {k:Nat} {o:Operator} {e:X} (hm:mtS c (n+1) (.aug k o e) st=true) (h:ex C.O (n+1) (.aug k o e) r=some (fl,r',l)):ExOk C A c env r (exec st env) fl r' l:=by
 replace hm:=sAugAssign_i (e:=st) hm
 obtain ⟨t,o',v,p,rfl,hm⟩:=hm
 replace hm:=and3 hm
 obtain ⟨ho,hv,hm⟩:=hm
 replace hm:=eName_i hm
 obtain ⟨x,p',rfl,hm⟩:=hm
 cases eq_of_beq ho
 replace h:=b1o h
 obtain ⟨d1,h1,h⟩:=h
 replace h:=bo h
 obtain ⟨d2,l2,h2,h⟩:=h
 replace h:=b1o h
 obtain ⟨z,h3,h⟩:=h
 replace h:=sp3 h
 obtain ⟨rfl,rfl,rfl⟩:=h
 exact ex_aug env (ba hm).1 (ba hm).2 h1 (e_val K hv h2) h3
theorem s_augo {k:Nat} {i:X} {o:Operator} {e:X} (hm:mtS c (n+1) (.augo k i o e) st=true) (h:ex C.O (n+1) (.augo k i o e) r=some (fl,r',l)):ExOk C A c env r (exec st env) fl r' l:=by
 replace hm:=sAugAssign_i (e:=st) hm
 obtain ⟨t,o',v,p,rfl,hm⟩:=hm
 replace hm:=and3 hm
 obtain ⟨ho,hv,hm⟩:=hm
 replace hm:=eSubscript_i hm
 obtain ⟨a,i',p',rfl,hm⟩:=hm
 replace hm:=ba hm
 obtain ⟨hi,hm⟩:=hm
 replace hm:=eName_i hm
 obtain ⟨x,p'',rfl,hm⟩:=hm
 cases eq_of_beq ho
 replace h:=b1o h
 obtain ⟨d1,h1,h⟩:=h
 replace h:=bo h
 obtain ⟨d2,l2,h2,h⟩:=h
 replace h:=b1o h
 obtain ⟨x,h3,h⟩:=h
 replace h:=bo h
 obtain ⟨d4,l4,h4,h⟩:=h
 replace h:=b1o h
 obtain ⟨z,h5,h⟩:=h
 replace h:=b1o h
 obtain ⟨c2,h6,h⟩:=h
 replace h:=sp3 h
 obtain ⟨rfl,rfl,rfl⟩:=h
 exact ex_augo env hm (mt_star hi).2 h1 (e_val K hi h2) h3 (e_val K hv h4) h5 h6
theorem s_seto {k:Nat} {i e:X} (hm:mtS c (n+1) (.seto k i e) st=true) (h:ex C.O (n+1) (.seto k i e) r=some (fl,r',l)):ExOk C A c env r (exec st env) fl r' l:=by
 replace hm:=sAssign_i (e:=st) hm
 obtain ⟨ts,v,p,rfl,hm⟩:=hm
 replace hm:=and3 hm
 obtain ⟨hn,hv,hm⟩:=hm
 replace hm:=b1_i hm
 obtain ⟨t,rfl,hm⟩:=hm
 replace hm:=eSubscript_i hm
 obtain ⟨a,i',p',rfl,hm⟩:=hm
 replace hm:=ba hm
 obtain ⟨hi,hm⟩:=hm
 replace hm:=eName_i hm
 obtain ⟨x,p'',rfl,hm⟩:=hm
 replace h:=bo h
 obtain ⟨d2,l2,h2,h⟩:=h
 replace h:=b1o h
 obtain ⟨d1,h1,h⟩:=h
 replace h:=bo h
 obtain ⟨d4,l4,h4,h⟩:=h
 replace h:=b1o h
 obtain ⟨c2,h6,h⟩:=h
 replace h:=sp3 h
 obtain ⟨rfl,rfl,rfl⟩:=h
 exact ex_seto env hm hn h1 (e_val K hv h2) (e_val K hi h4) h6
theorem s_app {k:Nat} {e:X} (hm:mtS c (n+1) (.app k e) st=true) (h:ex C.O (n+1) (.app k e) r=some (fl,r',l)):ExOk C A c env r (exec st env) fl r' l:=by
 replace hm:=sCall_i (s:=st) hm
 obtain ⟨x,px,m,ap,v,cp,p,rfl,hline,hm⟩:=hm
 replace hm:=and3 hm
 obtain ⟨hx,s1,hv⟩:=hm
 cases eq_of_beq hx
 replace h:=bo h
 obtain ⟨d2,l2,h2,h⟩:=h
 replace h:=b1o h
 obtain ⟨c1,h1,h⟩:=h
 replace h:=onL_i (d:=c1) h
 obtain ⟨ds,rfl,h⟩:=h
 replace h:=if_s h
 obtain ⟨hlen,h⟩:=h
 replace h:=sp3 h
 obtain ⟨rfl,rfl,rfl⟩:=h
 exact ex_app env s1 h1 (mt_star hv).1 hline (e_val K hv h2) hlen
theorem s_note {k:Nat} {e:X} (hm:mtS c (n+1) (.note k e) st=true) (h:ex C.O (n+1) (.note k e) r=some (fl,r',l)):ExOk C A c env r (exec st env) fl r' l:=by
 replace hm:=sCall_i (s:=st) hm
 obtain ⟨x,px,m,ap,v,cp,p,rfl,hline,hm⟩:=hm
 replace hm:=and3 hm
 obtain ⟨hx,s1,hv⟩:=hm
 cases eq_of_beq hx
 replace h:=bo h
 obtain ⟨d2,l2,h2,h⟩:=h
 replace h:=b1o h
 obtain ⟨c1,h1,h⟩:=h
 replace h:=if_s h
 obtain ⟨hc,h⟩:=h
 replace h:=sp3 h
 obtain ⟨rfl,rfl,rfl⟩:=h
 have h1:getV r k=some .notes:=h1.trans (congrArg some (D.notes.elim (motive_1:=fun d=>d=.notes) c1 hc rfl))
 exact ex_note env s1 h1 (mt_star hv).1 hline (e_val K hv h2)
theorem s_ret {e:X} (hm:mtS c (n+1) (.ret e) st=true) (h:ex C.O (n+1) (.ret e) r=some (fl,r',l)):ExOk C A c env r (exec st env) fl r' l:=by
 replace hm:=sReturn_i (e:=st) hm
 obtain ⟨o,p,rfl,hm⟩:=hm
 replace hm:=oS_i hm
 obtain ⟨v,rfl,hm⟩:=hm
 replace h:=bo h
 obtain ⟨d2,l2,h2,h⟩:=h
 replace h:=sp3 h
 obtain ⟨rfl,rfl,rfl⟩:=h
 exact ex_ret env (e_val K hm h2)
omit K in
theorem s_reto {k:Nat} (hm:mtS c (n+1) (.reto k) st=true) (h:ex C.O (n+1) (.reto k) r=some (fl,r',l)):ExOk C A c env r (exec st env) fl r' l:=by
 replace hm:=sReturn_i (e:=st) hm
 obtain ⟨o,p,rfl,hm⟩:=hm
 replace hm:=oS_i hm
 obtain ⟨v,rfl,hm⟩:=hm
 replace hm:=eName_i hm
 obtain ⟨x,p',rfl,hm⟩:=hm
 replace h:=b1o h
 obtain ⟨d2,h2,h⟩:=h
 replace h:=sp3 h
 obtain ⟨rfl,rfl,rfl⟩:=h
 exact ex_reto env hm h2
theorem ex_sound (n:Nat):∀ (s:St) (st:Stmt) (r:Rho) (fl:Fl) (r':Rho) (l:List D),mtS c n s st=true→ex C.O n s r=some (fl,r',l)→ExOk C A c env r (exec st env) fl r' l:=by
 induction n with
 | zero=>intro s st r fl r' l hm; cases hm
 | succ n ih =>
  intro s st r fl r' l hm h
  cases s with
  | asg k e=>exact s_asg K hm h
  | own k e=>exact s_own K hm h
  | own2 k m a b=>exact s_own2 K hm h
  | unp ks e=>exact s_unp K hm h
  | swp ks es=>exact s_swp K hm h
  | popd k m q i b=>exact s_popd K hm h
  | aug k o e=>exact s_aug K hm h
  | augo k i o e=>exact s_augo K hm h
  | seto k i e=>exact s_seto K hm h
  | app k e=>exact s_app K hm h
  | note k e=>exact s_note K hm h
  | ret e=>exact s_ret K hm h
  | reto k=>exact s_reto hm h
  | dead=>cases h
  | ite t a b =>
   replace hm:=sIf_i (e:=st) hm
   obtain ⟨t',a',b',p,rfl,hm⟩:=hm
   replace hm:=and3 hm
   obtain ⟨ht,ha,hb⟩:=hm
   replace h:=bo h
   obtain ⟨d1,l1,h1,h⟩:=h
   replace h:=b1o h
   obtain ⟨q,h2,h⟩:=h
   replace h:=bo3 h
   obtain ⟨fl1,r1,l2,h3,h⟩:=h
   replace h:=sp3 h
   obtain ⟨rfl,rfl,rfl⟩:=h
   refine ex_ite env (e_tst K ht h1 h2) ?_
   cases q with
   | false=>exact block_sound ih hb h3
   | true=>exact block_sound ih ha h3
  | for_ t i b =>
   replace hm:=sFor_i (e:=st) hm
   obtain ⟨tg,it,b',es,p,rfl,hm⟩:=hm
   replace hm:=and5 hm
   obtain ⟨he,ht,hns,hi,hb⟩:=hm
   cases List.isEmpty_iff.mp he
   replace h:=bo h
   obtain ⟨ds,l1,h1,h⟩:=h
   replace h:=bo3 h
   obtain ⟨fl1,r1,l2,h3,h⟩:=h
   replace h:=sp3 h
   obtain ⟨rfl,rfl,rfl⟩:=h
   have hit:∀ F,F.env=env→ScOk c F→ItS C A F r it false t tg i ds l1:=fun F he hc=>it_sound K (main_sound K EF).1 hc hi h1
   exact ex_for env K.hh ht (mtI_tup hi) (folded hns _) (fun F he hc=>(hit F he hc).ok) (fun r fl r' l hfb=>block_sound ih hb hfb) h3
end
end
noncomputable def T_rgb_to_hls:List Str:=["r","g","b","maxc","minc","sumc","rangec","l","s","rc","gc","bc","h"]
noncomputable def f_rgb_to_hls:Fn:=⟨3,13,[
 .asg 3 (.bi .max3 [(.var 0),(.var 1),(.var 2)]),
 .asg 4 (.bi .min3 [(.var 0),(.var 1),(.var 2)]),
 .asg 5 (.bin .Add (.var 3) (.var 4)),
 .asg 6 (.bin .Sub (.var 3) (.var 4)),
 .asg 7 (.bin .Div (.var 5) (.flt 4611686018427387904)),
 .ite (.cmp .Eq (.var 4) (.var 3)) [.ret (.tup [(.flt 0),(.var 7),(.flt 0)])] [],
 .ite (.cmp .LtE (.var 7) (.flt 4602678819172646912)) [.asg 8 (.bin .Div (.var 6) (.var 5))] [.asg 8 (.bin .Div (.var 6) (.bin .Sub (.bin .Sub (.flt 4611686018427387904) (.var 3)) (.var 4)))],
 .asg 9 (.bin .Div (.bin .Sub (.var 3) (.var 0)) (.var 6)),
 .asg 10 (.bin .Div (.bin .Sub (.var 3) (.var 1)) (.var 6)),
 .asg 11 (.bin .Div (.bin .Sub (.var 3) (.var 2)) (.var 6)),
 .ite (.cmp .Eq (.var 0) (.var 3)) [.asg 12 (.bin .Sub (.var 11) (.var 10))] [.ite (.cmp .Eq (.var 1) (.var 3)) [.asg 12 (.bin .Sub (.bin .Add (.flt 4611686018427387904) (.var 9)) (.var 11))] [.asg 12 (.bin .Sub (.bin .Add (.flt 4616189618054758400) (.var 10)) (.var 9))]],
 .asg 12 (.bin .Mod (.bin .Div (.var 12) (.flt 4618441417868443648)) (.flt 4607182418800017408)),
 .ret (.tup [(.var 12),(.var 7),(.var 8)])]⟩
noncomputable def T_hls_to_rgb:List Str:=["h","l","s","m2","m1"]
noncomputable def f_hls_to_rgb:Fn:=⟨3,5,[
 .ite (.cmp .Eq (.var 2) (.flt 0)) [.ret (.tup [(.var 1),(.var 1),(.var 1)])] [],
 .ite (.cmp .LtE (.var 1) (.flt 4602678819172646912)) [.asg 3 (.bin .Mult (.var 1) (.bin .Add (.flt 4607182418800017408) (.var 2)))] [.asg 3 (.bin .Sub (.bin .Add (.var 1) (.var 2)) (.bin .Mult (.var 1) (.var 2)))],
 .asg 4 (.bin .Sub (.bin .Mult (.flt 4611686018427387904) (.var 1)) (.var 3)),
 .ret (.tup [(.call 2 [(.var 4),(.var 3),(.bin .Add (.var 0) (.gflt "ONE_THIRD" 0x3fd5555555555555))]),(.call 2 [(.var 4),(.var 3),(.var 0)]),(.call 2 [(.var 4),(.var 3),(.bin .Sub (.var 0) (.gflt "ONE_THIRD" 0x3fd5555555555555))])])]⟩
noncomputable def T__v:List Str:=["m1","m2","hue"]
noncomputable def f__v:Fn:=⟨3,3,[
 .asg 2 (.bin .Mod (.var 2) (.flt 4607182418800017408)),
 .ite (.cmp .Lt (.var 2) (.gflt "ONE_SIXTH" 0x3fc5555555555555)) [.ret (.bin .Add (.var 0) (.bin .Mult (.bin .Mult (.bin .Sub (.var 1) (.var 0)) (.var 2)) (.flt 4618441417868443648)))] [],
 .ite (.cmp .Lt (.var 2) (.flt 4602678819172646912)) [.ret (.var 1)] [],
 .ite (.cmp .Lt (.var 2) (.gflt "TWO_THIRD" 0x3fe5555555555555)) [.ret (.bin .Add (.var 0) (.bin .Mult (.bin .Mult (.bin .Sub (.var 1) (.var 0)) (.bin .Sub (.gflt "TWO_THIRD" 0x3fe5555555555555) (.var 2))) (.flt 4618441417868443648)))] [],
 .ret (.var 0)]⟩
noncomputable def T_rgb_to_hsv:List Str:=["r","g","b","maxc","minc","rangec","v","s","rc","gc","bc","h"]
noncomputable def f_rgb_to_hsv:Fn:=⟨3,12,[
 .asg 3 (.bi .max3 [(.var 0),(.var 1),(.var 2)]),
 .asg 4 (.bi .min3 [(.var 0),(.var 1),(.var 2)]),
 .asg 5 (.bin .Sub (.var 3) (.var 4)),
 .asg 6 (.var 3),
 .ite (.cmp .Eq (.var 4) (.var 3)) [.ret (.tup [(.flt 0),(.flt 0),(.var 6)])] [],
 .asg 7 (.bin .Div (.var 5) (.var 3)),
 .asg 8 (.bin .Div (.bin .Sub (.var 3) (.var 0)) (.var 5)),
 .asg 9 (.bin .Div (.bin .Sub (.var 3) (.var 1)) (.var 5)),
 .asg 10 (.bin .Div (.bin .Sub (.var 3) (.var 2)) (.var 5)),
 .ite (.cmp .Eq (.var 0) (.var 3)) [.asg 11 (.bin .Sub (.var 10) (.var 9))] [.ite (.cmp .Eq (.var 1) (.var 3)) [.asg 11 (.bin .Sub (.bin .Add (.flt 4611686018427387904) (.var 8)) (.var 10))] [.asg 11 (.bin .Sub (.bin .Add (.flt 4616189618054758400) (.var 9)) (.var 8))]],
 .asg 11 (.bin .Mod (.bin .Div (.var 11) (.flt 4618441417868443648)) (.flt 4607182418800017408)),
 .ret (.tup [(.var 11),(.var 7),(.var 6)])]⟩
noncomputable def T_hsv_to_rgb:List Str:=["h","s","v","i","f","p","q","t"]
noncomputable def f_hsv_to_rgb:Fn:=⟨3,8,[
 .ite (.cmp .Eq (.var 1) (.flt 0)) [.ret (.tup [(.var 2),(.var 2),(.var 2)])] [],
 .asg 3 (.bi .int [(.bin .Mult (.var 0) (.flt 4618441417868443648))]),
 .asg 4 (.bin .Sub (.bin .Mult (.var 0) (.flt 4618441417868443648)) (.var 3)),
 .asg 5 (.bin .Mult (.var 2) (.bin .Sub (.flt 4607182418800017408) (.var 1))),
 .asg 6 (.bin .Mult (.var 2) (.bin .Sub (.flt 4607182418800017408) (.bin .Mult (.var 1) (.var 4)))),
 .asg 7 (.bin .Mult (.var 2) (.bin .Sub (.flt 4607182418800017408) (.bin .Mult (.var 1) (.bin .Sub (.flt 4607182418800017408) (.var 4))))),
 .asg 3 (.bin .Mod (.var 3) (.int 6)),
 .ite (.cmp .Eq (.var 3) (.int 0)) [.ret (.tup [(.var 2),(.var 7),(.var 5)])] [],
 .ite (.cmp .Eq (.var 3) (.int 1)) [.ret (.tup [(.var 6),(.var 2),(.var 5)])] [],
 .ite (.cmp .Eq (.var 3) (.int 2)) [.ret (.tup [(.var 5),(.var 2),(.var 7)])] [],
 .ite (.cmp .Eq (.var 3) (.int 3)) [.ret (.tup [(.var 5),(.var 6),(.var 2)])] [],
 .ite (.cmp .Eq (.var 3) (.int 4)) [.ret (.tup [(.var 7),(.var 5),(.var 2)])] [],
 .ite (.cmp .Eq (.var 3) (.int 5)) [.ret (.tup [(.var 2),(.var 5),(.var 6)])] []]⟩
noncomputable def T___init__:List Str:=["self","comp_select_list"]
noncomputable def T_compare:List Str:=["self","left","right","index","direction","l","r"]
noncomputable def f_compare:Fn:=⟨3,7,[
 .for_ (.tup [(.name 3),(.name 4)]) (.lsts (.attr (.var 0))) [.asg 5 (.sub (.var 1) (.var 3)),
   .asg 6 (.sub (.var 2) (.var 3)),
   .ite (.cmp .Lt (.var 5) (.var 6)) [.ret (.neg (.var 4))] [],
   .ite (.cmp .Gt (.var 5) (.var 6)) [.ret (.var 4)] []],
 .ret (.int 0)]⟩
noncomputable def T_add_func_stats:List Str:=["target","source","cc","nc","tt","ct","callers","t_cc","t_nc","t_tt","t_ct","t_callers"]
noncomputable def f_add_func_stats:Fn:=⟨2,12,[
 .unp [2,3,4,5,6] (.var 1),
 .unp [7,8,9,10,11] (.var 0),
 .ret (.tup [(.bin .Add (.var 2) (.var 7)),(.bin .Add (.var 3) (.var 8)),(.bin .Add (.var 4) (.var 9)),(.bin .Add (.var 5) (.var 10)),(.call 6 [(.var 11),(.var 6)])])]⟩
noncomputable def T_add_callers:List Str:=["target","source","new_callers","func","caller"]
noncomputable def f_add_callers:Fn:=⟨2,5,[
 .own 2 .dct0,
 .for_ (.tup [(.name 3),(.name 4)]) (.items (.var 0)) [.seto 2 (.var 3) (.var 4)],
 .for_ (.tup [(.name 3),(.name 4)]) (.items (.var 1)) [.ite (.ino false (.var 3) 2) [.ite (.bi .isTup [(.var 4)]) [.dead] [.augo 2 (.var 3) .Add (.var 4)]] [.seto 2 (.var 3) (.var 4)]],
 .reto 2]⟩
noncomputable def T_count_calls:List Str:=["callers","nc","calls"]
noncomputable def f_count_calls:Fn:=⟨1,3,[
 .asg 1 (.int 0),
 .for_ (.name 2) (.values (.var 0)) [.aug 1 .Add (.var 2)],
 .ret (.var 1)]⟩
noncomputable def T_in_table_b1:List Str:=["code"]
noncomputable def f_in_table_b1:Fn:=⟨1,1,[
 .ret (.inset (.bi .ord [(.var 0)]))]⟩
noncomputable def T_map_table_b3:List Str:=["code","r"]
noncomputable def f_map_table_b3:Fn:=⟨1,2,[
 .asg 1 (.b3 (.bi .ord [(.var 0)])),
 .ite (.cmp .IsNot (.var 1) .none) [.ret (.var 1)] [],
 .ret (.mth .lower (.var 0) [])]⟩
noncomputable def T__law_typed:List Str:=["word","style","unseen","bases","other","typed","place","sign","kind"]
noncomputable def f__law_typed:Fn:=⟨2,9,[
 .asg 2 (.bin .Add (.lst [(.int 173),(.int 847),(.int 6150),(.int 6155),(.int 6156),(.int 6157),(.int 8203),(.int 8204),(.int 8205),(.int 8288),(.int 65279)]) (.listr (.rng2 (.int 65024) (.int 65040)))),
 .asg 3 (.lst [(.int 97),(.int 65),(.int 119808),(.int 119860),(.int 119912),(.int 120016),(.int 120172),(.int 120224),(.int 120276),(.int 120328),(.int 120380),(.int 120432)]),
 .asg 4 (.lst [(.lst [(.int 8475),(.int 8476),(.int 8477)]),(.lst [(.int 119970),(.int 120074),(.int 120126)]),(.lst [(.int 8492),(.int 120069),(.int 120121)])]),
 .own 5 (.lst []),
 .for_ (.tup [(.name 6),(.name 7)]) (.enum (.ife (.bin .Mod (.var 1) (.int 2)) (.mth (.replace [103,98] 13191) (.var 0) []) (.var 0))) [.app 5 (.bi .chr [(.sub (.var 2) (.bin .Mod (.bin .Add (.bin .FloorDiv (.var 1) (.int 2)) (.bin .Mult (.int 10) (.var 6))) (.int 27)))]),
   .asg 8 (.bin .Mod (.bin .Add (.bin .FloorDiv (.var 1) (.int 54)) (.bin .Mult (.int 4) (.var 6))) (.int 15)),
   .ite (.and (.cmp .In (.var 7) (.str [114,103,98])) (.cmp .Lt (.var 8) (.int 12))) [.asg 7 (.bi .chr [(.bin .Sub (.bin .Add (.sub (.var 3) (.var 8)) (.bi .ord [(.var 7)])) (.int 97))])] [.ite (.cmp .In (.var 7) (.str [114,103,98])) [.asg 7 (.bi .chr [(.sub (.sub (.var 4) (.mth .index (.str [114,103,98]) [(.var 7)])) (.bin .Sub (.var 8) (.int 12)))])] []],
   .app 5 (.var 7)],
 .reto 5]⟩
noncomputable def T__law_sum:List Str:=["letters","fronts","letter",".0","lamp"]
noncomputable def f__law_sum:Fn:=⟨1,5,[
 .own 1 (.lst [(.tup [(.int 0),(.int 0),(.int 0),(.int 0),.dct0])]),
 .for_ (.name 2) (.val (.var 0)) [.app 1 (.call 5 [(.subo 1 (.neg (.int 1))),(.bin .Add (.bi .tuple [(.lc (.bi .int [(.cmp .Eq (.var 2) (.var 4))]) (.name 4) (.val (.str [114,103,98])) none [2])]) (.tup [(.int 1),(.dct1 (.var 2) (.int 1))]))])],
 .reto 1]⟩
noncomputable def T__law_tell:List Str:=["code","ink","notes","counts","grey","hsv","red","green","blue","hls","far","told",".0","count"]
noncomputable def f__law_tell:Fn:=⟨3,14,[
 .asg 3 (.lst [(.bin .FloorDiv (.var 0) (.int 10000)),(.bin .Mod (.bin .FloorDiv (.var 0) (.int 100)) (.int 100)),(.bin .Mod (.var 0) (.int 100))]),
 .asg 4 (.cmp .Eq (.bi .max1 [(.var 3)]) (.bi .min1 [(.var 3)])),
 .asg 5 (.call 3 [(.bin .Div (.sub (.var 3) (.int 0)) (.int 16)),(.bin .Div (.sub (.var 3) (.int 1)) (.int 16)),(.bin .Div (.sub (.var 3) (.int 2)) (.int 16))]),
 .unp [6,7,8] (.lc (.bi .abs [(.bin .Sub (.var 1) (.bin .Div (.var 13) (.int 16)))]) (.name 13) (.val (.var 3)) none [1]),
 .asg 9 (.call 0 [(.var 6),(.var 7),(.var 8)]),
 .asg 10 (.bi .abs [(.bin .Sub (.bin .Mult (.int 2) (.bi .abs [(.bin .Sub (.sub (.var 5) (.int 0)) (.sub (.var 9) (.int 0)))])) (.ife (.var 4) (.int 0) (.var 1)))]),
 .asg 11 (.lst [(.bi .isTup [(.var 5)]),(.bi .isTup [(.var 9)]),(.cmp2 .LtE .Lt (.int 0) (.sub (.var 5) (.int 0)) (.int 1)),(.cmp2 .LtE .Lt (.int 0) (.sub (.var 9) (.int 0)) (.int 1)),(.cmp .Lt (.bin .Mult (.var 10) (.bin .Pow (.int 10) (.int 9))) (.int 1))]),
 .note 2 (.tup [(.bin .Add (.var 11) (.lst [(.cmp .Eq (.slc (.var 5) 2) (.tup [(.int 0),(.int 0)]))])),(.bin .Add (.bin .Mult (.lst [(.bool true)]) (.int 5)) (.lst [(.var 4)]))]),
 .ret (.lst [(.var 5),(.tup [(.sub (.var 9) (.int 0)),(.sub (.var 9) (.int 2)),(.bi .abs [(.bin .Sub (.var 1) (.sub (.var 9) (.int 1)))])])])]⟩
noncomputable def T__law_fair:List Str:=["ring","take","left","notes","size","share","fronts","codes","ink","own","seen","rows","place","first","head","gap","code","told",".0","front","k","one","two"]
noncomputable def f__law_fair:Fn:=⟨4,23,[
 .unp [4,5,6] (.tup [(.bi .len [(.var 0)]),(.bin .FloorDiv (.bin .Mult (.bi .len [(.var 0)]) (.var 1)) (.var 2)),(.call 11 [(.bin .Add (.var 0) (.var 0))])]),
 .note 3 (.tup [(.lc (.tup [(.sub (.var 19) (.int 3)),(.bi .str [(.call 7 [(.sub (.var 19) (.int 4))])])]) (.name 19) (.val (.var 6)) none []),(.lc (.tup [(.var 20),(.bi .str [(.var 20)])]) (.name 20) (.rng1 (.bin .Add (.bin .Mult (.int 2) (.var 4)) (.int 1))) none [])]),
 .asg 7 (.lc (.bin .Add (.bin .Add (.bin .Mult (.int 10000) (.sub (.var 19) (.int 0))) (.bin .Mult (.int 100) (.sub (.var 19) (.int 1)))) (.sub (.var 19) (.int 2))) (.name 19) (.val (.var 6)) none []),
 .asg 9 (.lc (.call 12 [(.sub (.var 7) (.var 4)),(.var 8),(.var 3)]) (.name 8) (.rng1 (.int 2)) none [7,3,4]),
 .own2 10 11 .dct0 (.lst []),
 .for_ (.name 12) (.rng1 (.var 4)) [.for_ (.tup [(.name 13),(.name 14)]) (.lsts (.lc (.tup [(.var 20),(.bin .Sub (.sub (.var 7) (.bin .Add (.var 12) (.var 20))) (.sub (.var 7) (.var 12)))]) (.name 20) (.rng2 (.int 1) (.bin .Add (.var 5) (.int 1))) none [7,12])) [.for_ (.name 15) (.rng1 (.ife (.cmp .Lt (.var 13) (.var 5)) (.bin .Add (.bin .Sub (.var 4) (.var 5)) (.int 1)) (.int 1))) [.asg 16 (.bin .Sub (.bin .Add (.var 14) (.sub (.var 7) (.bin .Add (.bin .Add (.var 12) (.var 15)) (.var 5)))) (.sub (.var 7) (.bin .Add (.bin .Add (.var 12) (.var 15)) (.var 13)))),
     .ite (.ino true (.var 16) 10) [.asg 8 (.bin .Mod (.bin .Add (.bin .Add (.var 12) (.var 13)) (.var 15)) (.int 2)),
      .asg 17 (.call 12 [(.var 16),(.var 8),(.var 3)]),
      .seto 10 (.var 16) (.cmp .Eq (.bin .Mult (.var 16) (.var 2)) (.bin .Mult (.sub (.var 7) (.var 4)) (.var 1))),
      .note 3 (.tup [(.lc (.cmp .Eq (.slc (.var 21) 2) (.slc (.var 22) 2)) (.tup [(.name 21),(.name 22)]) (.zip (.var 17) (.sub (.var 9) (.var 8))) none []),(.bin .Mult (.lst [(.subo 10 (.var 16))]) (.int 2))]),
      .ite (.subo 10 (.var 16)) [.note 3 (.tup [(.lc (.bin .Mult (.sub (.var 21) (.int 2)) (.var 2)) (.name 21) (.val (.var 17)) none [2]),(.lc (.bin .Mult (.sub (.var 22) (.int 2)) (.var 1)) (.name 22) (.val (.sub (.var 9) (.var 8))) none [1])])] []] [],
     .ite (.subo 10 (.var 16)) [.app 11 (.tup [(.var 13),(.var 12),(.var 15)])] []]]],
 .reto 11]⟩
noncomputable def T_law1:List Str:=["script","cells","place","number","parts","pool","ring","draw","size","typed","gone","text","notes","draws","keys","order","chooser","whole","ink","own","hue","depth","light","rest","left","total","step","take","hand","share"]
noncomputable def T_law2:List Str:=["rows","row","firsts","places","lack","best","gap","told","first","spots","entry","tone","deep","dark","one","two","far",".0","k","letter","sign","out","key","way","weight","spot","count","lamp","pair"]
noncomputable def T_law:List Str:=T_law1++T_law2
noncomputable def law_a:List St:=[
 .own 1 (.lst [(.int 144),(.int 271697583),(.int 289),(.int 607188)]),
 .for_ (.tup [(.name 2),(.name 3)]) (.enum (.slc (.var 0) 60)) [.augo 1 (.bin .Mod (.var 2) (.int 4)) .Add (.bin .Mod (.var 3) (.int 1000000000))],
 .asg 4 (.sub (.lst [(.int 2),(.int 3),(.int 4)]) (.bin .Mod (.subo 1 (.int 0)) (.int 3))),
 .own 5 (.lc2 (.var 49) (.name 48) (.rng1 (.bin .FloorDiv (.int 12) (.var 4))) (.name 49) (.val (.bin .Mult (.sub (.str [114,103,98]) (.bin .Mod (.bin .FloorDiv (.bin .FloorDiv (.subo 1 (.int 0)) (.int 3)) (.bin .Pow (.int 3) (.var 48))) (.int 3))) (.var 4))) [1,4]),
 .swp [6,7] [(.str []),(.subo 1 (.int 1))],
 .for_ (.name 8) (.rng3 (.int 12) (.int 0)) [.popd 6 7 5 (.bin .Mod (.var 7) (.var 8)) (.bin .FloorDiv (.var 7) (.var 8))],
 .asg 9 (.call 10 [(.var 6),(.subo 1 (.int 2))]),
 .asg 10 (.lc (.call 8 [(.var 50)]) (.name 50) (.val (.var 9)) none []),
 .asg 11 (.mth .join (.str []) [(.lc (.call 9 [(.var 50)]) (.tup [(.name 50),(.name 51)]) (.zip (.var 9) (.var 10)) (some (.not (.var 51))) [])])]
noncomputable def law_n:X:=(.lst [(.tup [(.var 11),(.var 6)]),(.tup [(.lc (.tup [(.cmp .Is (.var 51) (.bool true)),(.cmp .Is (.var 51) (.bool false))]) (.name 51) (.val (.var 10)) none []),(.lc (.tup [(.cmp .Eq (.bin .Mod (.var 48) (.int 2)) (.int 0)),(.cmp .Eq (.bin .Mod (.var 48) (.int 2)) (.int 1))]) (.name 48) (.rng1 (.bi .len [(.var 10)])) none [])])])
noncomputable def law_step:List St:=[.unp [27,28,18] (.tup [(.int 1),(.var 23),(.bin .Mod (.bin .Add (.sub (.var 13) (.int 2)) (.var 26)) (.int 2))]),
   .ite (.cmp .Gt (.var 24) (.int 1)) [.asg 27 (.bin .Add (.int 1) (.bin .Mod (.sub (.var 13) (.var 26)) (.bin .Sub (.var 24) (.int 1)))),
    .asg 29 (.bin .FloorDiv (.bin .Mult (.bi .len [(.var 23)]) (.var 27)) (.var 24)),
    .asg 30 (.call 13 [(.var 23),(.var 27),(.var 24),(.var 12)]),
    .unp [32,33] (.tup [(.lc (.sub (.var 31) (.int 0)) (.name 31) (.val (.var 30)) none []),(.lc (.sub (.var 31) (.int 1)) (.name 31) (.val (.var 30)) none [])]),
    .asg 34 (.lc (.var 2) (.name 2) (.rng1 (.bi .len [(.var 23)])) (some (.and (.cmp .Eq (.bin .Mult (.int 2) (.var 27)) (.var 24)) (.cmp .NotIn (.var 2) (.var 33)))) [24,33,27]),
    .ite (.or [(.cmp .Eq (.var 30) (.lst [])),(.var 34),(.and (.cmp .Lt (.bi .sum [(.lc (.cmp .In (.var 49) (.var 23)) (.name 49) (.val (.str [114,103,98])) none [23])]) (.int 3)) (.cmp .NotIn (.var 29) (.var 32)))]) [.ret (.bool false)] [],
    .asg 35 (.sub (.var 30) (.int 0)),
    .for_ (.name 31) (.val (.slc (.var 30) 12)) [.asg 36 (.bi .sum [(.lc (.bin .Mult (.bin .Mult (.var 53) (.bin .Sub (.sub (.var 31) (.var 48)) (.sub (.var 35) (.var 48)))) (.var 54)) (.tup [(.tup [(.name 48),(.name 53)]),(.name 54)]) (.zip (.var 15) (.lst [(.int 10000),(.int 100),(.int 1)])) none [35,31])]),
     .asg 37 (.lst [(.compare (.var 16) (.var 31) (.var 35)),(.compare (.var 16) (.var 35) (.var 31))]),
     .note 12 (.tup [(.bin .Add (.var 37) (.lst [(.bi .isBool [(.sub (.var 37) (.int 0))])])),(.lst [(.bin .Sub (.cmp .Gt (.var 36) (.int 0)) (.cmp .Lt (.var 36) (.int 0))),(.bin .Sub (.cmp .Lt (.var 36) (.int 0)) (.cmp .Gt (.var 36) (.int 0))),(.bool false)])]),
     .asg 35 (.ife (.cmp .Lt (.var 36) (.int 0)) (.var 31) (.var 35))],
    .unp [38,2,36] (.var 35),
    .asg 39 (.lc (.bin .Mod (.bin .Add (.var 2) (.var 48)) (.bi .len [(.var 23)])) (.name 48) (.val (.bin .Add (.listr (.rng1 (.var 38))) (.listr (.rng2 (.bin .Add (.var 38) (.var 36)) (.bin .Add (.var 29) (.var 36)))))) none [2,23]),
    .asg 28 (.mth .join (.str []) [(.lc (.sub (.var 23) (.var 55)) (.name 55) (.val (.var 39)) none [23])]),
    .asg 23 (.mth .join (.str []) [(.lc (.var 49) (.tup [(.name 55),(.name 49)]) (.enum (.var 23)) (some (.cmp .NotIn (.var 55) (.var 39))) [39])])] [],
   .ite (.cmp .Gt (.var 24) (.int 0)) [.asg 40 (.sub (.call 11 [(.var 28)]) (.bi .len [(.var 28)])),
    .note 12 (.tup [(.lc (.bin .Mult (.var 56) (.var 4)) (.name 56) (.val (.slc (.var 40) 4)) none [4]),(.lc (.bin .Mult (.var 56) (.var 27)) (.name 56) (.val (.slc (.var 17) 4)) none [27])]),
    .note 12 (.tup [(.dc (.var 48) (.bin .Mult (.sub (.sub (.var 40) (.int 4)) (.var 48)) (.var 4)) (.name 48) (.val (.sub (.var 40) (.int 4))) [40,4]),(.dc (.var 48) (.bin .Mult (.sub (.sub (.var 17) (.int 4)) (.var 48)) (.var 27)) (.name 48) (.val (.sub (.var 17) (.int 4))) [27,17])]),
    .asg 25 (.call 5 [(.var 25),(.var 40)]),
    .unp [41,42,43] (.sub (.sub (.var 19) (.var 18)) (.int 1)),
    .asg 44 (.call 4 [(.bin .Add (.var 20) (.bin .Mod (.sub (.var 13) (.int 5)) (.int 3))),(.var 21),(.bin .Div (.bin .Mult (.var 22) (.var 27)) (.var 4))]),
    .asg 45 (.call 1 [(.bin .Sub (.var 41) (.bin .Mod (.sub (.var 13) (.int 5)) (.int 3))),(.bi .abs [(.bin .Sub (.var 18) (.bin .Div (.bin .Mult (.var 43) (.var 27)) (.var 4)))]),(.var 42)]),
    .asg 46 (.bi .max1 [(.lc (.bi .abs [(.bin .Sub (.bin .Mult (.int 16) (.bi .abs [(.bin .Sub (.bin .Mult (.var 18) (.bin .FloorDiv (.var 48) (.int 3))) (.var 57))])) (.sub (.var 40) (.bin .Mod (.var 48) (.int 3))))]) (.tup [(.name 48),(.name 57)]) (.enum (.bin .Add (.var 44) (.var 45))) none [40,18])]),
    .note 12 (.tup [(.lst [(.bi .isTup [(.var 44)]),(.bi .isTup [(.var 45)]),(.cmp .Lt (.bin .Mult (.var 46) (.bin .Pow (.int 10) (.int 9))) (.int 1))]),(.bin .Mult (.lst [(.bool true)]) (.int 3))])] [],
   .aug 24 .Sub (.var 27)]
noncomputable def law_b:List St:=[
 .asg 13 (.lc (.bin .Mod (.bin .FloorDiv (.subo 1 (.int 3)) (.bin .Pow (.int 12) (.var 48))) (.int 12)) (.name 48) (.rng1 (.int 6)) none [1]),
 .asg 14 (.sub (.lst [(.lst [(.int 0),(.int 1),(.int 2)]),(.lst [(.int 0),(.int 2),(.int 1)]),(.lst [(.int 1),(.int 0),(.int 2)]),(.lst [(.int 1),(.int 2),(.int 0)]),(.lst [(.int 2),(.int 0),(.int 1)]),(.lst [(.int 2),(.int 1),(.int 0)])]) (.bin .Mod (.sub (.var 13) (.int 3)) (.int 6))),
 .asg 15 (.lc (.tup [(.var 52),(.bin .Sub (.int 1) (.bin .Mult (.int 2) (.bin .Mod (.bin .FloorDiv (.sub (.var 13) (.int 4)) (.bin .Pow (.int 2) (.var 48))) (.int 2))))]) (.tup [(.name 48),(.name 52)]) (.enum (.var 14)) none [13]),
 .unp [16,17] (.tup [(.mk (.var 15)),(.sub (.call 11 [(.var 11)]) (.int 12))]),
 .asg 19 (.lc (.call 12 [(.bin .Add (.bin .Add (.bin .Mult (.int 10000) (.sub (.var 17) (.int 0))) (.bin .Mult (.int 100) (.sub (.var 17) (.int 1)))) (.sub (.var 17) (.int 2))),(.var 18),(.var 12)]) (.name 18) (.rng1 (.int 2)) none [12,17]),
 .unp [20,21,22] (.sub (.sub (.var 19) (.int 0)) (.int 0)),
 .unp [23,24,25] (.tup [(.var 11),(.var 4),(.tup [(.int 0),(.int 0),(.int 0),(.int 0),.dct0])]),
 .for_ (.name 26) (.rng1 (.int 4)) law_step,
 .note 12 (.tup [(.var 25),(.var 17)])]
noncomputable def law_r:X:=(.cmp .Eq (.lc (.var 58) (.name 58) (.val (.var 12)) (some (.cmp .NotEq (.sub (.var 58) (.int 0)) (.sub (.var 58) (.int 1)))) []) (.lst []))
noncomputable def fns (k:Nat):Option Fn:=[f_rgb_to_hls,f_hls_to_rgb,f__v,f_rgb_to_hsv,f_hsv_to_rgb,f_add_func_stats,f_add_callers,f_count_calls,f_in_table_b1,f_map_table_b3,f__law_typed,f__law_sum,f__law_tell,f__law_fair,f_compare][k]?
noncomputable def tbl (k:Nat):List Str:=([T_rgb_to_hls,T_hls_to_rgb,T__v,T_rgb_to_hsv,T_hsv_to_rgb,T_add_func_stats,T_add_callers,T_count_calls,T_in_table_b1,T_map_table_b3,T__law_typed,T__law_sum,T__law_tell,T__law_fair,T_compare][k]?).getD []
noncomputable def pars (k:Nat):List Str:=(tbl k).take ((fns k).elim 0 Fn.params)
noncomputable def fParts (s:Stmt):Option (Str × Arguments × List Stmt × Scope):=match s with
 | .FunctionDef n a b _ _ _ sc _ _ _=>some (n,a,b,sc)
 | _=>none
noncomputable def cBody (s:Stmt):Option (List Stmt):=match s with
 | .ClassDef _ _ _ b _ _ _ _ _ _ _=>some b
 | _=>none
noncomputable def fnIn (x:Str) (l:List Stmt):Option (Str × Arguments × List Stmt × Scope):=l.findSome? fun s=>(fParts s).bind fun p=>if p.1 == x then some p else none
noncomputable def defOf (k:Nat):Option (Str × Arguments × List Stmt × Scope):=(fnName k).elim ((pw.main.body.findSome? cBody).bind (fnIn "compare")) fun x=>fnIn x pw.main.body
noncomputable def argsOf (k:Nat):Arguments:=(defOf k).elim default fun p=>p.2.1
noncomputable def bodyOf (k:Nat):List Stmt:=(defOf k).elim [] fun p=>p.2.2.1
noncomputable def scopeOf (k:Nat):Scope:=(defOf k).elim default fun p=>p.2.2.2
noncomputable def okFn (k:Nat):Bool:=(fns k).elim false fun f=>mtFn (scopeOf k) (tbl k) (pars k)&&(f.params == (pars k).length)&&mtB (mtS (scOf (scopeOf k) (tbl k)) 8) f.body (bodyOf k)
noncomputable def lawDef:Option (Str × Arguments × List Stmt × Scope):=fnIn "law" pw.main.body
noncomputable def lawBody:List Stmt:=lawDef.elim [] fun p=>p.2.2.1
noncomputable def lawScope:Scope:=lawDef.elim default fun p=>p.2.2.2
noncomputable def lawSc:Sc:=scOf lawScope T_law
noncomputable def okLaw:Bool:=mtFn lawScope T_law ["script"]&&mtB (mtS lawSc 8) law_a (lawBody.take 9)&&mtB (mtS lawSc 8) law_b ((lawBody.drop 10).take 9) &&
 lCons (lawBody.drop 9) fun s _=>sName s fun x _ v=>lawSc.store 12 x&&isNewX law_n&&(mt EF).1 lawSc law_n v&&noComp v
noncomputable def okRet:Bool:=b1 (lawBody.drop 19) fun s=>sReturn s fun v _=>oS v ((mt EF).1 lawSc law_r)
theorem fns_ok:((List.range 15).all okFn)=true:=by decide +kernel
theorem law_ok:okLaw=true:=by decide +kernel
theorem ret_ok:okRet=true:=by decide +kernel
section
structure Md (C:Cx) (fa:Nat→Addr) (fd:Nat→FuncData):Prop where
 kit:Kit C.K
 tabs:Tabs C
 bi:∀ f,GlobIs C.K (biName f) (biVal f)
 ty:∀ x ∈ ["tuple","bool","range","list","enumerate","zip"],GlobIs C.K (Str.ofString x) (.type x)
 gf:∀ nm x,gfl.lookup nm=some x→∃ t,GlobIs C.K nm (.float x t)∧(t,x) ∈ C.gf
 glob:∀ k x,fnName k=some x→GlobIs C.K x (.ref (fa k))
 is:∀ k < 15,FnIs C.K (fa k) (fd k) (bodyOf k)∧(fd k).scope=scopeOf k∧(∀ vs:List Value,vs.length=(pars k).length→bindArgs (fd k) ⟨vs,[]⟩=pure ((pars k).zip vs))
 cls:∃ N mN fI fdI bodyI,MakeOk C N fI (fa 14) mN fdI bodyI
 tcg:GlobIs C.K "TupleComp" (.ref C.tc)
structure Room (n:Nat) (A:Around):Prop where
 hh:A.handled=none
 u:A.units+3*n+100 < cLine
 d:A.depth+n+3 < recursionLimit
theorem Room.deeper {n:Nat} {A:Around} (h:Room (n+1) A) (env:Env):Room n (A.deeper env) :=
 ⟨h.hh,by have:=h.u; show A.units+3+3*n+100 < cLine; lia,by have:=h.d; show A.depth+1+n+3 < recursionLimit; lia⟩
noncomputable abbrev Cx.at (C:Cx) (n:Nat):Cx:=C.ora (oraN fns C.O.b1 C.O.b3 n)
theorem oraN_b {fs:Nat→Option Fn} {b1:Int→Bool} {b3:Int→Option (List Nat)} (n:Nat):(oraN fs b1 b3 n).b1=b1∧(oraN fs b1 b3 n).b3=b3:=by cases n <;> exact ⟨rfl,rfl⟩
theorem fns_lt {k:Nat} {f:Fn} (h:fns k=some f):k < 15:=(List.getElem?_eq_some_iff.mp h).1
structure FnOk (k:Nat) (f:Fn):Prop where
 sc:mtFn (scopeOf k) (tbl k) (pars k)=true
 pl:f.params=(pars k).length
 b:mtB (mtS (scOf (scopeOf k) (tbl k)) 8) f.body (bodyOf k)=true
theorem okFn_iff {k:Nat} {f:Fn} (h:fns k=some f):FnOk k f:=by
 have q:=List.all_eq_true.mp fns_ok k (List.mem_range.mpr (fns_lt h))
 unfold okFn at q
 rw [h] at q
 have q:=and3 q
 exact ⟨q.a,eq_of_beq q.b,q.c⟩
section
variable {C:Cx} {fa:Nat→Addr} {fd:Nat→FuncData}
theorem Md.kn (M:Md C fa fd) {n:Nat} {A:Around} (R:Room n A) (hF:∀ k < 15,FunOk (C.at n) A (.ref (fa k)) k):Kn (C.at n) A:=by
 obtain ⟨N,mN,fI,fdI,bodyI,H⟩:=M.cls
 have hat:∀ k < 15,FnAt C.K (fa k)∧∃ o,C.K.lookup (fa k)=some o∧o.cls=.type "function":=fun k hk=>by
  obtain ⟨o,e1,e2,e3⟩:=(M.is k hk).1.at_
  exact ⟨⟨o,_,e1,e3⟩,o,e1,e2⟩
 have hname:∀ k x,fnName k=some x→k < 15:=fun k x h=>Nat.lt_succ_of_lt (List.getElem?_eq_some_iff.mp h).1
 have H':MakeOk (C.at n) N fI (fa 14) mN fdI bodyI:=⟨H.kit,H.cls,H.fn,H.body,H.par,H.k1,H.k2,H.cell⟩
 refine ⟨M.kit,R.hh,by have:=R.u; lia,?_,M.bi,M.ty,M.gf,fun k x h=>⟨fa k,M.glob k x h,(hat k (hname k x h)).1,hF k (hname k x h)⟩,
  fun F r a d l p p' hk hs x=>ok_mk H' (by have:=R.d; lia) M.tcg hk hs x,fun F r a d l p hv x=>ok_attr H'.cls hv x,fun F r a b c d d' d'' z l l' l3 p p' hb hs hline x y hz=>ok_compare H'.cls (hat 14 (by decide)).2 (hat 14 (by decide)).1 (hF 14 (by decide)) hb hs hline x y hz⟩
 have hb:=oraN_b (fs:=fns) (b1:=C.O.b1) (b3:=C.O.b3) n
 obtain ⟨⟨a,b,d⟩,⟨a',b',d',e'⟩⟩:=M.tabs
 exact ⟨⟨a,b,fun h hk=>hb.1.symm ▸ d h hk⟩,a',b',d',fun h hk=>hb.2.symm ▸ e' h hk⟩
theorem Md.funs (M:Md C fa fd) (n:Nat):∀ A:Around,Room n A→∀ k < 15,FunOk (C.at n) A (.ref (fa k)) k:=by
 induction n with
 | zero=>exact fun A R k hk g s E Q vs ds z l G hl hv hz=>nomatch hz
 | succ n ih =>
  intro A R k hk g s E Q vs ds z l G hl hv hz h
  obtain ⟨f,hf,hz⟩:=b1o (x:=fns k) hz
  obtain ⟨i1,i2,i3⟩:=M.is k hk
  have o:=okFn_iff hf
  refine fun_call (C:=C.at (n+1)) (O:=oraN fns C.O.b1 C.O.b3 n) M.kit i1 (T:=tbl k) (ps:=pars k) (i2.symm ▸ o.sc) i3 (by have:=R.d; lia) o.pl (fun env r fl r' l henv hb=>?_) G hl hv hz h
  rw [i2]
  have R':=R.deeper env
  exact block_sound (C:=C.at n) (fun s st r fl r' l hm he=>ex_sound (M.kn R' (ih _ R')) 8 s st r fl r' l hm he) o.b hb
end
end
section
noncomputable def Sub (r r':Rho):Prop:=∀ n b,r n=some b→r' n=some b
noncomputable def Up {α:Type} (a b:Option α):Prop:=∀ z,a=some z→b=some z
noncomputable def UpR (a b:R2):Prop:=∀ fl r l,a=some (fl,r,l)→∃ r',b=some (fl,r',l)∧Sub r r'
section
variable {α β γ:Type}
theorem Up.refl {a:Option α}:Up a a:=fun _=>id
theorem up_bind {a a':Option α} {f f':α→Option β} (h:Up a a') (k:∀ x,Up (f x) (f' x)):Up (a.bind f) (a'.bind f'):=fun z e=>by
 obtain ⟨x,h1,h2⟩:=b1o e
 rw [h x h1]
 exact k x z h2
theorem up_pair {a a':Option (α × β)} {f f':α × β→Option γ} (h:Up a a') (k:∀ x l,Up (f (x,l)) (f' (x,l))):Up (a.bind f) (a'.bind f'):=up_bind h fun p=>k p.1 p.2
theorem up_rest {a a':Option α} {f:α→Option β} (h:Up a a'):Up (a.bind f) (a'.bind f):=up_bind h fun _=>Up.refl
theorem up_ite {c:Prop} [Decidable c] {a a' b b':Option α} (h:c→Up a a') (k:¬ c→Up b b'):Up (if c then a else b) (if c then a' else b'):=by
 by_cases q:c
 ·rw [if_pos q,if_pos q]; exact h q
 ·rw [if_neg q,if_neg q]; exact k q
theorem upr_bind {a a':Option α} {f f':α→R2} (h:Up a a') (k:∀ x,UpR (f x) (f' x)):UpR (a.bind f) (a'.bind f'):=fun fl r l e=>by
 obtain ⟨x,h1,h2⟩:=b1o e
 rw [h x h1]
 exact k x fl r l h2
theorem upr_pair {a a':Option (α × β)} {f f':α × β→R2} (h:Up a a') (k:∀ x l,UpR (f (x,l)) (f' (x,l))):UpR (a.bind f) (a'.bind f'):=upr_bind h fun p=>k p.1 p.2
theorem upr_three {a a':R2} {f f':Fl × Rho × List D→R2} (h:UpR a a') (k:∀ fl r r' l,Sub r r'→UpR (f (fl,r,l)) (f' (fl,r',l))):UpR (a.bind f) (a'.bind f'):=fun fl r l e=>by
 obtain ⟨fl1,r1,l1,h1,h2⟩:=bo3 e
 obtain ⟨r2,h3,h4⟩:=h _ _ _ h1
 rw [h3]
 exact k fl1 r1 r2 l1 h4 fl r l h2
theorem upr_some {fl:Fl} {r r':Rho} {l:List D} (h:Sub r r'):UpR (some (fl,r,l)) (some (fl,r',l)):=fun fl1 r1 l1 e=>by
 obtain ⟨rfl,rfl,rfl⟩:=sp3 e
 exact ⟨r',rfl,h⟩
theorem upr_none {a:R2}:UpR none a:=fun _ _ _ e=>nomatch e
theorem upr_ite {c:Prop} [Decidable c] {a a' b b':R2} (h:c→UpR a a') (k:¬ c→UpR b b'):UpR (if c then a else b) (if c then a' else b'):=by
 by_cases q:c
 ·rw [if_pos q,if_pos q]; exact h q
 ·rw [if_neg q,if_neg q]; exact k q
end
section
variable {r r':Rho}
theorem Sub.refl:Sub r r:=fun _ _=>id
theorem Sub.trans {r'':Rho} (h:Sub r r') (h':Sub r' r''):Sub r r'':=fun n b e=>h' n b (h n b e)
theorem Sub.set (h:Sub r r') (k:Nat) (b:B):Sub (setB r k b) (setB r' k b):=fun n b e=>by
 unfold setB at e ⊢
 cases q:Nat.beq n k <;> rw [q] at e
 ·exact h n b e
 ·exact e
theorem Sub.mask (h:Sub r r') (fs:List Nat):Sub (mask fs r) (mask fs r'):=fun n b e=>by
 obtain ⟨h1,h2⟩:=mask_get e
 unfold Mine.mask
 rw [h1]
 exact h n b h2
theorem Sub.getV (h:Sub r r') (n:Nat):Up (getV r n) (getV r' n):=fun d e=>getV_iff.mpr (h n _ (getV_iff.mp e))
theorem Sub.getO (h:Sub r r') (n:Nat):Up (getO r n) (getO r' n):=fun d e=>getO_iff.mpr (h n _ (getO_iff.mp e))
theorem Sub.free (h:Sub r r') {n:Nat} (e:isFree r n=true):isFree r' n=true:=by
 have q:=h n _ (free_iff e)
 unfold isFree
 rw [q]
end
noncomputable def AsgUp (t:Tg):Prop:=∀ d r r' r1,Sub r r'→asgT t d r=some r1→∃ r1',asgT t d r'=some r1'∧Sub r1 r1'
noncomputable def AsgsUp (ts:List Tg):Prop:=∀ ds r r' r1,Sub r r'→asgTs ts ds r=some r1→∃ r1',asgTs ts ds r'=some r1'∧Sub r1 r1'
theorem asg_up0 (n:Nat):AsgUp (.name n):=fun d r r' r1 h e=>⟨setV r' n d,rfl,Option.some.inj e ▸ h.set n _⟩
theorem asg_up1 {ts:List Tg} (ih:AsgsUp ts):AsgUp (.tup ts):=fun d r r' r1 h e=>by
 obtain ⟨ds,rfl,e⟩:=asgT_tup e
 exact ih ds r r' r1 h e
theorem asg_up2:AsgsUp []:=fun ds r r' r1 h e=>by
 obtain ⟨rfl,rfl⟩:=asgTs_0 e
 exact ⟨r',rfl,h⟩
theorem asg_up3 {t:Tg} {ts:List Tg} (h1:AsgUp t) (h2:AsgsUp ts):AsgsUp (t::ts):=fun ds r r' r1 h e=>by
 obtain ⟨d,ds,r2,rfl,e1,e2⟩:=asgTs_i e
 obtain ⟨r3,e3,h3⟩:=h1 d r r' r2 h e1
 obtain ⟨r4,e4,h4⟩:=h2 ds r2 r3 r1 h3 e2
 exact ⟨r4,(congrArg (fun o=>o.bind (asgTs ts ds)) e3).trans e4,h4⟩
theorem asg_up (t:Tg):AsgUp t:=Tg.rec (motive_1:=AsgUp) (motive_2:=AsgsUp) asg_up0 (fun _=>asg_up1) asg_up2 (fun _ _=>asg_up3) t
theorem asgs_up (ts:List Tg):AsgsUp ts:=Tg.rec_1 (motive_1:=AsgUp) (motive_2:=AsgsUp) asg_up0 (fun _=>asg_up1) asg_up2 (fun _ _=>asg_up3) ts
noncomputable def Mono {α:Type} (f:Rho→Option α):Prop:=∀ r r',Sub r r'→Up (f r) (f r')
theorem turns_up {α:Type} {t:Tg} {c:Rho→Option (Bool × List D)} {e:Rho→Option (α × List D)} (hc:Mono c) (he:Mono e) (ds:List D):Mono (turns t c e ds):=by
 induction ds with
 | nil=>exact fun _ _ _=>Up.refl
 | cons d ds ih =>
  intro r r' h z q
  obtain ⟨r1,h1,q⟩:=b1o q
  obtain ⟨r2,h2,s⟩:=asg_up t d r r' r1 h h1
  show Option.bind (asgT t d r') _=some z
  rw [h2]
  refine up_pair (hc r1 r2 s) (fun b l=>?_) z q
  cases b with
  | true=>exact up_pair (he r1 r2 s) fun x l'=>up_rest (ih r1 r2 s)
  | false=>exact up_rest (ih r1 r2 s)
section
variable {f g:X→R1} (h:∀ x,Up (f x) (g x))
include h
theorem evL_up (xs:List X):Up (evL f xs) (evL g xs):=by
 induction xs with
 | nil=>exact Up.refl
 | cons x xs ih=>exact up_pair (h x) fun _ _=>up_rest ih
theorem evO_up (xs:List X):Up (evO f xs) (evO g xs):=by
 induction xs with
 | nil=>exact Up.refl
 | cons x xs ih=>exact up_pair (h x) fun d l=>up_bind Up.refl fun q=>up_ite (fun _=>Up.refl) fun _=>up_rest ih
theorem itr_up (i:It):Up (itr f i) (itr g i):=by
 cases i with
 | rng2 a b=>exact up_pair (h a) fun _ _=>up_rest (h b)
 | rng3 a b=>exact up_pair (h a) fun _ _=>up_rest (h b)
 | zip a b=>exact up_pair (h a) fun _ _=>up_rest (h b)
 | _=>exact up_rest (h _)
theorem condD_up (c:Option X):Up (condD f c) (condD g c):=by
 cases c with
 | none=>exact Up.refl
 | some x=>exact up_rest (h x)
end
theorem ev_up (O:Ora) (n:Nat):∀ x,Mono (ev O n x):=by
 induction n with
 | zero=>exact fun x r r' _ _ e=>nomatch e
 | succ n ih =>
  intro x r r' h
  have hx:∀ x,Up (ev O n x r) (ev O n x r'):=fun x=>ih x r r' h
  have hc:∀ c,Mono fun r=>condD (fun a=>ev O n a r) c:=fun c r r' h=>condD_up (fun x=>ih x r r' h) c
  have ht:Mono fun _:Rho=>some (true,([]:List D)):=fun _ _ _=>Up.refl
  cases x with
  | var k=>exact fun z e=>(Option.map_eq_some_iff.mp e).elim fun d q=>Option.map_eq_some_iff.mpr ⟨d,h.getV k d q.1,q.2⟩
  | bin o a b=>exact up_pair (hx a) fun _ _=>up_rest (hx b)
  | neg a=>exact up_rest (hx a)
  | cmp o a b=>exact up_pair (hx a) fun _ _=>up_rest (hx b)
  | cmp2 o p a b c=>exact up_pair (hx a) fun _ _=>up_pair (hx b) fun _ _=>up_bind Up.refl fun q=>up_ite (fun _=>up_rest (hx c)) fun _=>Up.refl
  | ife t a b=>exact up_pair (hx t) fun _ _=>up_bind Up.refl fun q=>up_rest (hx _)
  | not a=>exact up_rest (hx a)
  | and a b=>exact up_pair (hx a) fun _ _=>up_bind Up.refl fun q=>up_ite (fun _=>up_rest (hx b)) fun _=>Up.refl
  | or as=>exact evO_up hx as
  | tup as=>exact up_rest (evL_up hx as)
  | lst as=>exact up_rest (evL_up hx as)
  | dct1 a b=>exact up_pair (hx a) fun _ _=>up_rest (hx b)
  | sub a b=>exact up_pair (hx a) fun _ _=>up_rest (hx b)
  | slc a k=>exact up_rest (hx a)
  | subo k i=>exact up_bind (h.getO k) fun _=>up_rest (hx i)
  | ino q a k=>exact up_pair (hx a) fun _ _=>up_rest (h.getO k)
  | bi f as=>exact up_rest (evL_up hx as)
  | mth f a as=>exact up_pair (hx a) fun _ _=>up_rest (evL_up hx as)
  | listr i=>exact up_rest (itr_up hx i)
  | inset a=>exact up_rest (hx a)
  | b3 a=>exact up_rest (hx a)
  | call f as=>exact up_rest (evL_up hx as)
  | mk a=>exact up_rest (hx a)
  | attr a=>exact up_rest (hx a)
  | compare a b c=>exact up_pair (hx a) fun _ _=>up_rest (evL_up hx _)
  | lc e t i c fs=>exact up_pair (itr_up hx i) fun _ _=>up_rest (turns_up (hc c) (ih e) _ _ _ (h.mask fs))
  | lc2 e t i t' i' fs=>exact up_pair (itr_up hx i) fun _ _=>up_rest (turns_up ht (fun r r' h=>up_pair (itr_up (fun x=>ih x r r' h) i') fun _ _=>up_rest (turns_up ht (ih e) _ _ _ h)) _ _ _ (h.mask fs))
  | dc k v t i fs=>exact up_pair (itr_up hx i) fun _ _=>up_rest (turns_up ht (fun r r' h=>up_pair (ih k r r' h) fun _ _=>up_rest (ih v r r' h)) _ _ _ (h.mask fs))
  | _=>exact Up.refl
noncomputable def MonoR (f:Rho→R2):Prop:=∀ r r',Sub r r'→UpR (f r) (f r')
theorem forD_up {f:Rho→R2} (hf:MonoR f) (t:Tg) (ds:List D):MonoR (forD f t ds):=by
 induction ds with
 | nil=>exact fun r r' h=>upr_some h
 | cons d ds ih =>
  intro r r' h fl r0 l q
  obtain ⟨r1,h1,q⟩:=b1o q
  obtain ⟨r2,h2,s⟩:=asg_up t d r r' r1 h h1
  show ∃ r',Option.bind (asgT t d _) _=some (fl,r',l)∧_
  rw [h2]
  refine upr_three (hf r1 r2 s) (fun fl r r' l s=>?_) fl r0 l q
  cases fl with
  | ret v=>exact upr_some s
  | next=>exact upr_three (ih r r' s) fun fl r r' l s=>upr_some s
theorem exB_up {f:St→Rho→R2} (hf:∀ s,MonoR (f s)) (ss:List St):MonoR (exB f ss):=by
 induction ss with
 | nil=>exact fun r r' h=>upr_some h
 | cons s ss ih =>
  intro r r' h
  refine upr_three (hf s r r' h) fun fl r r' l s=>?_
  cases fl with
  | ret v=>exact upr_some s
  | next=>exact upr_three (ih r r' s) fun fl r r' l s=>upr_some s
section
variable {d:D}
theorem upr_S {f g:List Nat→R2} (h:∀ x,UpR (f x) (g x)):UpR (dS d f) (dS d g):=fun fl r l e=>by
 obtain ⟨x,rfl,e⟩:=onS_i e
 exact h x fl r l e
theorem upr_I {f g:Int→R2} (h:∀ x,UpR (f x) (g x)):UpR (dI d f) (dI d g):=fun fl r l e=>by
 obtain ⟨x,rfl,e⟩:=onI_i e
 exact h x fl r l e
theorem upr_L {f g:List D→R2} (h:∀ x,UpR (f x) (g x)):UpR (dL d f) (dL d g):=fun fl r l e=>by
 obtain ⟨x,rfl,e⟩:=onL_i e
 exact h x fl r l e
theorem upr_if {c c':Bool} {a a':R2} (hc:c=true→c'=true) (h:UpR a a'):UpR (if c then a else none) (if c' then a' else none):=by
 cases c with
 | false=>exact upr_none
 | true=>rw [hc rfl]; exact h
end
theorem asgNs_up {r r':Rho} (h:Sub r r') (ks:List Nat) (ds l:List D):UpR ((asgNs ks ds r).bind fun r=>some (.next,r,l)) ((asgNs ks ds r').bind fun r=>some (.next,r,l)):=fun fl r1 l1 q=>by
 obtain ⟨r2,h1,q⟩:=b1o q
 obtain ⟨r3,h3,s⟩:=asgs_up _ ds r r' r2 h h1
 rw [show asgNs ks ds r'=some r3 from h3]
 exact upr_some s fl r1 l1 q
theorem ex_up (O:Ora) (n:Nat):∀ s,MonoR (ex O n s):=by
 induction n with
 | zero=>exact fun s r r' _ _ _ _ e=>nomatch e
 | succ n ih =>
  intro s r r' h
  have hx:∀ x,Up (ev O EF x r) (ev O EF x r'):=fun x=>ev_up O EF x r r' h
  cases s with
  | asg k e=>exact upr_pair (hx e) fun d l=>upr_some (h.set k _)
  | own k e=>exact upr_pair (hx e) fun d l=>upr_if (fun q=>and_tt (ba q).1 (h.free (ba q).2)) (upr_some (h.set k _))
  | own2 a b x y=>exact upr_pair (hx x) fun d l=>upr_pair (hx y) fun d' l'=>upr_if (fun q=>have q:=and5 q; and_tt (and_tt (and_tt (and_tt q.a q.b) (h.free q.c)) (h.free q.d)) q.e) (upr_some ((h.set a _).set b _))
  | unp ks e=>exact upr_pair (hx e) fun d l=>upr_bind Up.refl fun ds=>asgNs_up h ks ds l
  | swp ks es=>exact upr_pair (evL_up hx es) fun ds l=>asgNs_up h ks ds l
  | popd k m p i b=>exact upr_bind (h.getV k) fun s=>upr_pair (hx i) fun j l=>upr_bind (h.getO p) fun c=>upr_S fun s=>upr_I fun j=>upr_L fun ds=>upr_ite (fun _=>upr_bind Up.refl fun t=>upr_S fun t=>upr_ite (fun _ =>
    upr_pair (ev_up O EF b _ _ (h.set p _)) fun y l'=>upr_some (((h.set p _).set k _).set m _)) fun _=>upr_none) fun _=>upr_none
  | aug k o e=>exact upr_bind (h.getV k) fun x=>upr_pair (hx e) fun y l=>upr_bind Up.refl fun z=>upr_some (h.set k _)
  | augo k i o e=>exact upr_bind (h.getO k) fun c=>upr_pair (hx i) fun j l=>upr_bind Up.refl fun x=>upr_pair (hx e) fun y l'=>upr_bind Up.refl fun z=>upr_bind Up.refl fun c=>upr_some (h.set k _)
  | seto k i e=>exact upr_pair (hx e) fun y l=>upr_bind (h.getO k) fun c=>upr_pair (hx i) fun j l'=>upr_bind Up.refl fun c=>upr_some (h.set k _)
  | app k e=>exact upr_pair (hx e) fun y l=>upr_bind (h.getO k) fun c=>upr_L fun ds=>upr_ite (fun _=>upr_some (h.set k _)) fun _=>upr_none
  | note k e=>exact upr_pair (hx e) fun y l=>upr_bind (h.getV k) fun c=>upr_ite (fun _=>upr_some h) fun _=>upr_none
  | ite t a b=>exact upr_pair (hx t) fun x l=>upr_bind Up.refl fun q=>upr_three (exB_up ih _ r r' h) fun fl r r' l s=>upr_some s
  | for_ t i b=>exact upr_pair (itr_up hx i) fun ds l=>upr_three (forD_up (exB_up ih b) t ds r r' h) fun fl r r' l s=>upr_some s
  | ret e=>exact upr_pair (hx e) fun d l=>upr_some h
  | reto k=>exact upr_bind (h.getO k) fun d=>upr_some h
  | dead=>exact upr_none
end
section
noncomputable def e0:Rho:=fun _=>none
theorem sub0 (r:Rho):Sub e0 r:=fun _ _ e=>nomatch e
theorem Sub.add {ρ r:Rho} {k:Nat} {b:B} (h:r k=some b) (s:Sub ρ r):Sub (setB ρ k b) r:=fun n c e=>by
 rcases setB_at ρ k b n with ⟨rfl,q⟩ | ⟨_,q⟩
 ·exact Option.some.inj (q.symm.trans e) ▸ h
 ·exact s n c (q.symm.trans e)
theorem Sub.fresh {ρ r:Rho} {k:Nat} (b:B) (h:ρ k=none) (s:Sub ρ r):Sub ρ (setB r k b):=fun n c e=>by
 rcases setB_at r k b n with ⟨rfl,q⟩ | ⟨_,q⟩
 ·exact nomatch h.symm.trans e
 ·exact q.trans (s n c e)
noncomputable def P (O:Ora) (n:Nat) (x:X) (r:Rho) (d:D):Prop:=ev O n x r=some (d,[])
noncomputable def PL' (O:Ora) (n:Nat) (xs:List X) (r:Rho) (ds:List D):Prop:=evL (fun a=>ev O n a r) xs=some (ds,[])
noncomputable def PI (O:Ora) (n:Nat) (i:It) (r:Rho) (ds:List D):Prop:=itr (fun a=>ev O n a r) i=some (ds,[])
section
variable {O:Ora} {n:Nat} {r:Rho} {a b c x:X} {d d' d'' z:D} {xs:List X} {ds:List D} {q q':Bool}
theorem bnd {α β γ:Type} {o:Option (α × β)} {f:α × β→Option γ} {u:α} {v:β} {w:Option γ} (h:o=some (u,v)) (k:f (u,v)=w):o.bind f=w:=by rw [h]; exact k
theorem bn1 {α γ:Type} {o:Option α} {f:α→Option γ} {u:α} {w:Option γ} (h:o=some u) (k:f u=w):o.bind f=w:=by rw [h]; exact k
theorem P.le {r':Rho} (p:P O n x r d) (s:Sub r r'):P O n x r' d:=ev_up O n x r r' s _ p
theorem y_var {k:Nat} (h:r k=some (.val d)):P O (n+1) (.var k) r d:=Option.map_eq_some_iff.mpr ⟨d,getV_iff.mpr h,rfl⟩
theorem y_dct0:P O (n+1) .dct0 r (.dctS [] []):=rfl
theorem y_int {i:Int}:P O (n+1) (.int i) r (.int i):=rfl
theorem y_str {s:List Nat}:P O (n+1) (.str s) r (.str s):=rfl
theorem y_bool {s:Bool}:P O (n+1) (.bool s) r (.bool s):=rfl
theorem y_bin {o:Operator} (p:P O n a r d) (p':P O n b r d') (h:binD o d d'=some z):P O (n+1) (.bin o a b) r z:=bnd p (bnd p' (bn1 h rfl))
theorem y_neg {i:Int} (p:P O n a r (.int i)):P O (n+1) (.neg a) r (.int (-i)):=bnd p rfl
theorem y_cmp {o:CmpOp} (p:P O n a r d) (p':P O n b r d') (h:cmpD o d d'=some q):P O (n+1) (.cmp o a b) r (.bool q):=bnd p (bnd p' (congrArg (fun o=>ofB o []) h))
theorem y_ife (p:P O n a r d) (h:truthD d=some q) (p':P O n (if q then b else c) r d'):P O (n+1) (.ife a b c) r d':=bnd p (bn1 h (bnd p' rfl))
theorem y_not (p:P O n a r d) (h:truthD d=some q):P O (n+1) (.not a) r (.bool (!q)):=bnd p (congrArg (fun o:Option Bool=>ofB (o.map (!·)) []) h)
theorem y_and (p:P O n a r (.bool q)) (p':q=true→P O n b r (.bool q')):P O (n+1) (.and a b) r (.bool (q&&q')):=bnd p (bn1 rfl (by
 cases q with
 | false=>rfl
 | true=>exact bnd (p' rfl) rfl))
theorem yl0:PL' O n [] r []:=rfl
theorem yl (p:P O n x r d) (p':PL' O n xs r ds):PL' O n (x::xs) r (d::ds):=bnd p (bnd p' rfl)
theorem y_tup (p:PL' O n xs r (d::ds)) (h:(d::ds).length≤65536):P O (n+1) (.tup xs) r (.tup (d::ds)):=bnd p (if_pos (decide_eq_true h))
theorem y_lst (p:PL' O n xs r ds) (h:ds.length≤65536):P O (n+1) (.lst xs) r (.lst ds):=bnd p (if_pos h)
theorem y_sub (p:P O n a r d) (p':P O n b r d') (h:subD d d'=some z):P O (n+1) (.sub a b) r z:=bnd p (bnd p' (bn1 h rfl))
theorem y_slc {k:Nat} (p:P O n a r d) (h:slcD d k=some z):P O (n+1) (.slc a k) r z:=bnd p (bn1 h rfl)
theorem y_subo {k:Nat} (h:r k=some (.own d)) (p:P O n b r d') (h':subD d d'=some z):P O (n+1) (.subo k b) r z:=bn1 (getO_iff.mpr h) (bnd p (bn1 h' rfl))
theorem y_ino {k:Nat} {g:Bool} (p:P O n a r d) (h:r k=some (.own d')) (h':inoD d d'=some q):P O (n+1) (.ino g a k) r (.bool (xor g q)):=bnd p (bn1 (getO_iff.mpr h) (congrArg (fun o:Option Bool=>ofB (o.map (xor g)) []) h'))
theorem y_bi {f:Bi} (p:PL' O n xs r ds) (h:biD f ds=some z):P O (n+1) (.bi f xs) r z:=bnd p (bn1 h rfl)
theorem y_mth {f:Mt} (p:P O n a r d) (p':PL' O n xs r ds) (h:mtD f d ds=some z):P O (n+1) (.mth f a xs) r z:=bnd p (bnd p' (bn1 h rfl))
theorem y_listr {i:It} (p:PI O n i r ds):P O (n+1) (.listr i) r (.lst ds):=bnd p rfl
theorem y_call {k:Nat} {l:List D} (p:PL' O n xs r ds) (h:O.call k ds=some (z,l)):ev O (n+1) (.call k xs) r=some (z,l):=bnd p (bnd h rfl)
theorem yi_val (p:P O n a r d) (h:seqD d=some ds):PI O n (.val a) r ds:=bnd p (bn1 h rfl)
theorem yi_lsts (p:P O n a r (.lst ds)) (h:ds.all isTupD=true):PI O n (.lsts a) r ds:=bnd p (if_pos h)
theorem yi_enum (p:P O n a r d) (h:seqE d=some ds):PI O n (.enum a) r (enumD 0 ds):=bnd p (bn1 h rfl)
theorem yi_zip {ds':List D} (p:P O n a r (.lst ds)) (p':P O n b r (.lst ds')):PI O n (.zip a b) r (zipD ds ds'):=bnd p (bnd p' rfl)
theorem yi_rng1 {i:Int} (p:P O n a r (.int i)) (h:okI i=true∧i≤65536):PI O n (.rng1 a) r (rangeD 0 i.toNat):=bnd p (if_pos h)
theorem yi_rng2 {i j:Int} (p:P O n a r (.int i)) (p':P O n b r (.int j)) (h:okI i=true∧okI j=true∧j - i≤65536):PI O n (.rng2 a b) r (rangeD i (j - i).toNat):=bnd p (bnd p' (if_pos h))
theorem yi_items {ks:List (List Nat)} (p:P O n a r (.dctS ks ds)):PI O n (.items a) r (zipD (ks.map .str) ds):=bnd p rfl
theorem yi_values {ks:List (List Nat)} (p:P O n a r (.dctS ks ds)):PI O n (.values a) r ds:=bnd p rfl
theorem turns_each {α:Type} {t:Tg} {c:Rho→Option (Bool × List D)} {e:Rho→Option (α × List D)} {p:D→Bool} {f:D→α} {ρ:Rho} (ds:List D) (h:∀ d ∈ ds,∀ r,Sub ρ r→∃ r1,asgT t d r=some r1∧Sub ρ r1∧c r1=some (p d,[])∧(p d=true→e r1=some (f d,[]))) :
  ∀ r,Sub ρ r→turns t c e ds r=some ((ds.filter p).map f,[]):=by
 induction ds with
 | nil=>exact fun _ _=>rfl
 | cons d ds ih =>
  intro r s
  obtain ⟨r1,h1,s1,h2,h3⟩:=h d List.mem_cons_self r s
  have i:=ih (fun d hd=>h d (List.mem_cons_of_mem _ hd)) r1 s1
  refine bn1 h1 (bnd h2 ?_)
  cases q:p d with
  | true =>
   rw [List.filter_cons_of_pos q]
   exact bnd (h3 q) (bnd i rfl)
  | false =>
   rw [List.filter_cons_of_neg (Bool.eq_false_iff.mp q)]
   exact bnd i rfl
theorem y_lc {k:Nat} {i:It} {fs:List Nat} {f:D→D} (p:PI O n i r ds) (hk:fs.contains k=false) (h:∀ d ∈ ds,P O n a (setV (mask fs r) k d) (f d)) (hl:ds.length≤65536):P O (n+1) (.lc a (.name k) i none fs) r (.lst (ds.map f)):=by
 have hn:mask fs r k=none:=by unfold mask; rw [hk]; rfl
 have e:=turns_each (t:=.name k) (c:=fun _=>some (true,[])) (e:=ev O n a) (p:=fun _=>true) (f:=f) (ρ:=mask fs r) ds (fun d hd r' s=>⟨setV r' k d,rfl,s.fresh _ hn,rfl,fun _=>(h d hd).le (s.set k _)⟩) (mask fs r) Sub.refl
 rw [List.filter_eq_self.mpr fun _ _=>rfl] at e
 exact bnd p (bnd e (if_pos (by rw [List.length_map]; exact hl)))
end
mutual
noncomputable def clean:D→Bool
 | .notes=>false
 | .tup l=>cleanL l
 | .lst l=>cleanL l
 | .dctS _ vs=>cleanL vs
 | .dctI _ vs=>cleanL vs
 | .cmp d=>clean d
 | .none=>true
 | .bool _=>true
 | .int _=>true
 | .flt _=>true
 | .str _=>true
noncomputable def cleanL:List D→Bool
 | []=>true
 | d::ds=>clean d&&cleanL ds
end
inductive OkN (e:D):Prop
 | mk (a b:D) (h1:e=.tup [a,b]) (h2:cmpD .NotEq a b=some false) (h3:clean e=true)
noncomputable def AllOk (l:List D):Prop:=∀ e ∈ l,OkN e
theorem AllOk.nil:AllOk []:=fun _ h=>nomatch h
theorem AllOk.one {e:D} (h:OkN e):AllOk [e]:=fun x hx=>List.mem_singleton.mp hx ▸ h
theorem AllOk.app {l l':List D} (h:AllOk l) (h':AllOk l'):AllOk (l++l'):=fun x hx=>(List.mem_append.mp hx).elim (h x) (h' x)
noncomputable def Tr (m:Rho→R2) (A B:Rho→Prop) (k:Nat):Prop:=∀ r,A r→∃ r' l,m r=some (.next,r',l)∧B r'∧AllOk l∧l.length≤k
section
variable {O:Ora} {n:Nat} {ρ ρ':Rho} {A A' B B' R:Rho→Prop} {l l':List D} {s:St} {ss:List St} {f:St→Rho→R2} {x y:X} {d d':D} {k m a b:Nat}
theorem Tr.of (e:ex O n s ρ=some (.next,ρ',l)) (h:AllOk l) (hl:l.length≤a):Tr (ex O n s) (Sub ρ) (Sub ρ') a:=fun r q=>by
 obtain ⟨r',h1,h2⟩:=ex_up O n s ρ r q _ _ _ e
 exact ⟨r',l,h1,h2,h,hl⟩
theorem Tr.of0 (e:ex O n s ρ=some (.next,ρ',[])):Tr (ex O n s) (Sub ρ) (Sub ρ') 0:=Tr.of e AllOk.nil (Nat.le_refl _)
theorem Tr.w {m:Rho→R2} (t:Tr m A B a) (h:∀ r,A' r→A r) (h':∀ r,B r→B' r):Tr m A' B' a:=fun r s=>by
 obtain ⟨r',l,h1,h2,h3⟩:=t r (h r s)
 exact ⟨r',l,h1,h' r' h2,h3⟩
theorem tr_asg (p:P O EF x ρ d):Tr (ex O (n+1) (.asg k x)) (Sub ρ) (Sub (setV ρ k d)) 0:=Tr.of0 (bnd p rfl)
theorem tr_asgN (p:ev O EF x ρ=some (d,l)) (h:AllOk l) (hl:l.length≤a):Tr (ex O (n+1) (.asg k x)) (Sub ρ) (Sub (setV ρ k d)) a:=Tr.of (bnd p rfl) h hl
theorem tr_own (p:P O EF x ρ d) (h:isCont d=true) (hf:isFree ρ k=true):Tr (ex O (n+1) (.own k x)) (Sub ρ) (Sub (setO ρ k d)) 0:=Tr.of0 (bnd p (if_pos (and_tt h hf)))
theorem tr_own2 (p:P O EF x ρ d) (p':P O EF y ρ d') (h:(isCont d&&isCont d'&&isFree ρ k&&isFree ρ m&&k != m)=true):Tr (ex O (n+1) (.own2 k m x y)) (Sub ρ) (Sub (setO (setO ρ k d) m d')) 0:=Tr.of0 (bnd p (bnd p' (if_pos h)))
theorem tr_unp {ks:List Nat} {ds:List D} (p:P O EF x ρ d) (h:itemsD d=some ds) (h':asgNs ks ds ρ=some ρ'):Tr (ex O (n+1) (.unp ks x)) (Sub ρ) (Sub ρ') 0:=Tr.of0 (bnd p (bn1 h (bn1 h' rfl)))
theorem tr_swp {ks:List Nat} {xs:List X} {ds:List D} (p:PL' O EF xs ρ ds) (h':asgNs ks ds ρ=some ρ'):Tr (ex O (n+1) (.swp ks xs)) (Sub ρ) (Sub ρ') 0:=Tr.of0 (bnd p (bn1 h' rfl))
theorem tr_aug {o:Operator} {z:D} (h:ρ k=some (.val d)) (p:P O EF x ρ d') (h':iopD o d d'=some z):Tr (ex O (n+1) (.aug k o x)) (Sub ρ) (Sub (setV ρ k z)) 0:=Tr.of0 (bn1 (getV_iff.mpr h) (bnd p (bn1 h' rfl)))
theorem tr_augo {o:Operator} {i:X} {c c' j u z:D} (h:ρ k=some (.own c)) (p:P O EF i ρ j) (hs:subD c j=some u) (p':P O EF x ρ d') (h':iopD o u d'=some z) (hz:setD c j z=some c'):Tr (ex O (n+1) (.augo k i o x)) (Sub ρ) (Sub (setO ρ k c')) 0:=Tr.of0 (bn1 (getO_iff.mpr h) (bnd p (bn1 hs (bnd p' (bn1 h' (bn1 hz rfl))))))
theorem tr_seto {c c':D} (p:P O EF y ρ d) (h:ρ k=some (.own c)) (p':P O EF x ρ d') (h':setD c d' d=some c'):Tr (ex O (n+1) (.seto k x y)) (Sub ρ) (Sub (setO ρ k c')) 0:=Tr.of0 (bnd p (bn1 (getO_iff.mpr h) (bnd p' (bn1 h' rfl))))
theorem tr_app {ds:List D} (p:P O EF x ρ d) (h:ρ k=some (.own (.lst ds))) (h':ds.length < 65536):Tr (ex O (n+1) (.app k x)) (Sub ρ) (Sub (setO ρ k (.lst (ds++[d])))) 0:=Tr.of0 (bnd p (bn1 (getO_iff.mpr h) (if_pos h')))
theorem tr_note (p:P O EF x ρ d) (h:ρ k=some (.val .notes)) (ok:OkN d):Tr (ex O (n+1) (.note k x)) (Sub ρ) (Sub ρ) 1:=Tr.of (l:=[d]) (bnd p (bn1 (getV_iff.mpr h) (if_pos rfl))) (AllOk.one ok) (Nat.le_refl _)
theorem tr_ite {u v:List St} {q:Bool} (p:P O EF x ρ d) (h:truthD d=some q) (t:Tr (exB (ex O n) (if q then u else v)) (Sub ρ) B a):Tr (ex O (n+1) (.ite x u v)) (Sub ρ) B a:=fun r s=>by
 obtain ⟨r',l,h1,h2⟩:=t r s
 exact ⟨r',l,bnd (p.le s) (bn1 h (bn1 h1 rfl)),h2⟩
theorem tr_nil:Tr (exB f []) A A 0:=fun r s=>⟨r,[],rfl,s,AllOk.nil,Nat.le_refl _⟩
theorem tr_cons (t:Tr (f s) A R a) (t':Tr (exB f ss) R B b):Tr (exB f (s::ss)) A B (a+b):=fun r q=>by
 obtain ⟨r1,l1,h1,s1,a1,b1⟩:=t r q
 obtain ⟨r2,l2,h2,s2,a2,b2⟩:=t' r1 s1
 exact ⟨r2,l1++l2,bn1 h1 (bn1 h2 rfl),s2,a1.app a2,List.length_append ▸ Nat.add_le_add b1 b2⟩
theorem tr_one (t:Tr (f s) A B a):Tr (exB f [s]) A B a:=tr_cons t tr_nil
theorem exB_app {fl:Fl} {r r1 r2:Rho} {ss':List St} (h':exB f ss' r1=some (fl,r2,l')):∀ {r l},exB f ss r=some (.next,r1,l)→exB f (ss++ss') r=some (fl,r2,l++l'):=by
 induction ss with
 | nil =>
  intro r l h
  obtain ⟨_,rfl,rfl⟩:=sp3 h
  exact h'
 | cons s ss ih =>
  intro r l h
  obtain ⟨fl1,r3,l1,h1,h⟩:=bo3 (x:=f s r) h
  cases fl1 with
  | ret v=>cases (sp3 h).1
  | next =>
   obtain ⟨fl2,r4,l2,h2,h⟩:=bo3 (x:=exB f ss r3) h
   obtain ⟨rfl,rfl,rfl⟩:=sp3 h
   rw [List.append_assoc]
   exact bn1 h1 (bn1 (ih h2) rfl)
theorem tr_cat {ss':List St} (t:Tr (exB f ss) A R a) (t':Tr (exB f ss') R B b):Tr (exB f (ss++ss')) A B (a+b):=fun r q=>by
 obtain ⟨r1,l1,h1,s1,a1,b1⟩:=t r q
 obtain ⟨r2,l2,h2,s2,a2,b2⟩:=t' r1 s1
 exact ⟨r2,l1++l2,exB_app (r:=r) h2 h1,s2,a1.app a2,List.length_append ▸ Nat.add_le_add b1 b2⟩
theorem forD_inv {α:Type} {v:α→D} {g:Rho→R2} {t:Tg} {I:Nat→Rho→Prop} {c:Nat}:∀ (as:List α) (j:Nat),(∀ i (hi:i < as.length) r,I (j+i) r→∃ r1,asgT t (v as[i]) r=some r1∧∃ r2 l,g r1=some (.next,r2,l)∧I (j+i+1) r2∧AllOk l∧l.length≤c) →
  Tr (forD g t (as.map v)) (I j) (I (j+as.length)) (as.length*c):=by
 intro as
 induction as with
 | nil=>exact fun j _ r h=>⟨r,[],rfl,h,AllOk.nil,Nat.zero_le _⟩
 | cons d ds ih =>
  intro j h r hr
  obtain ⟨r1,e1,r2,l,e2,i2,a2,b2⟩:=h 0 (Nat.succ_pos _) r hr
  obtain ⟨r3,l3,e3,i3,a3,b3⟩:=ih (j+1) (fun i hi r hr=>by
   have e:j+1+i=j+(i+1):=by rw [Nat.add_assoc,Nat.add_comm 1]
   rw [e] at hr ⊢
   exact h (i+1) (Nat.succ_lt_succ hi) r hr) r2 i2
  refine ⟨r3,l++l3,bn1 e1 (bn1 e2 (bn1 e3 rfl)),?_,a2.app a3,?_⟩
  ·rw [List.length_cons,Nat.add_comm ds.length,← Nat.add_assoc]; exact i3
  ·rw [List.length_append,List.length_cons,Nat.succ_mul,Nat.add_comm]
   exact Nat.add_le_add b3 b2
theorem tr_for {α:Type} {v:α→D} {t:Tg} {u:List St} {i:It} {as:List α} {I:Nat→Rho→Prop} {c:Nat} (p:PI O EF i ρ (as.map v)) (h0:∀ r,Sub ρ r→I 0 r) (h:∀ j (hj:j < as.length) r,I j r→∃ r1,asgT t (v as[j]) r=some r1∧∃ r2 l,exB (ex O n) u r1=some (.next,r2,l)∧I (j+1) r2∧AllOk l∧l.length≤c) :
  Tr (ex O (n+1) (.for_ t i u)) (Sub ρ) (I as.length) (as.length*c):=fun r s=>by
 obtain ⟨r',l,h1,h2,h3⟩:=forD_inv as 0 (fun i hi r hr=>by rw [Nat.zero_add] at hr ⊢; exact h i hi r hr) r (h0 r s)
 rw [Nat.zero_add] at h2
 exact ⟨r',l,bnd (itr_up (fun x=>ev_up O EF x ρ r s) i _ p) (bn1 h1 rfl),h2,h3⟩
theorem tr_forS {α:Type} {v:α→D} {t:Tg} {u:List St} {i:It} {as:List α} {σ:Nat→Rho} {c:Nat} (p:PI O EF i ρ (as.map v)) (h0:Sub (σ 0) ρ) (h:∀ j (hj:j < as.length),∃ ρ1,asgT t (v as[j]) (σ j)=some ρ1∧Tr (exB (ex O n) u) (Sub ρ1) (Sub (σ (j+1))) c) :
  Tr (ex O (n+1) (.for_ t i u)) (Sub ρ) (Sub (σ as.length)) (as.length*c):=tr_for p (fun r s=>h0.trans s) fun j hj r hr=>by
 obtain ⟨ρ1,h1,h2⟩:=h j hj
 obtain ⟨r1,h3,h4⟩:=asg_up t _ _ r _ hr h1
 exact ⟨r1,h3,h2 r1 h4⟩
noncomputable def Rt (m:Rho→R2) (A:Rho→Prop) (d:D) (k:Nat):Prop:=∀ r,A r→∃ r' l,m r=some (.ret d,r',l)∧AllOk l∧l.length≤k
theorem rt_cons (t:Tr (f s) A R a) (t':Rt (exB f ss) R d b):Rt (exB f (s::ss)) A d (a+b):=fun r q=>by
 obtain ⟨r1,l1,h1,s1,a1,b1⟩:=t r q
 obtain ⟨r2,l2,h2,a2,b2⟩:=t' r1 s1
 exact ⟨r2,l1++l2,bn1 h1 (bn1 h2 rfl),a1.app a2,List.length_append ▸ Nat.add_le_add b1 b2⟩
theorem rt_of (e:ex O n s ρ=some (.ret d,ρ',[])):Rt (exB (ex O n) (s::ss)) (Sub ρ) d 0:=fun r q=>by
 obtain ⟨r',h1,_⟩:=ex_up O n s ρ r q _ _ _ e
 exact ⟨r',[],bn1 h1 rfl,AllOk.nil,Nat.le_refl _⟩
theorem rt_ret (p:P O EF x ρ d):Rt (exB (ex O (n+1)) (.ret x::ss)) (Sub ρ) d 0:=rt_of (ρ':=ρ) (bnd p rfl)
theorem rt_reto (h:ρ k=some (.own d)):Rt (exB (ex O (n+1)) (.reto k::ss)) (Sub ρ) d 0:=rt_of (ρ':=ρ) (bn1 (getO_iff.mpr h) rfl)
theorem rt_ite {u v:List St} {q:Bool} (p:P O EF x ρ d') (h:truthD d'=some q) (t:Rt (exB (ex O n) (if q then u else v)) (Sub ρ) d a):Rt (exB (ex O (n+1)) (.ite x u v::ss)) (Sub ρ) d a:=fun r s=>by
 obtain ⟨r',l,h1,h2⟩:=t r s
 exact ⟨r',l,bn1 (bnd (p.le s) (bn1 h (bn1 h1 rfl)):ex O (n+1) (.ite x u v) r=some (.ret d,r',[]++l)) rfl,h2⟩
theorem Rt.w {m:Rho→R2} (t:Rt m A d a) (h:∀ r,A' r→A r):Rt m A' d a:=fun r s=>t r (h r s)
theorem run_fn {fn:Fn} {args:List D} (hp:args.length=fn.params) (h:Rt (exB (ex O 8) fn.body) A d k) (hs:A (entry args)):∃ l,runFn O fn args=some (d,l)∧AllOk l∧l.length≤k:=by
 obtain ⟨r',l,h1,h2⟩:=h _ hs
 exact ⟨l,(if_pos hp).trans (bn1 h1 rfl),h2⟩
theorem run_fn0 {fn:Fn} {args:List D} (hp:args.length=fn.params) (h:Rt (exB (ex O 8) fn.body) A d 0) (hs:A (entry args)):runFn O fn args=some (d,[]):=by
 obtain ⟨l,h1,_,h2⟩:=run_fn hp h hs
 rwa [List.eq_nil_of_length_eq_zero (Nat.le_zero.mp h2)] at h1
end
end
section
namespace Bw
section
variable {x y L M j:Nat}
theorem two_lo (h:j < L):(x ||| (y <<< L)).testBit j=x.testBit j:=by
 rw [Nat.testBit_or,Nat.testBit_shiftLeft,decide_eq_false (Nat.not_le_of_lt h),Bool.false_and,Bool.or_false]
theorem two_hi (h:x < 2 ^ L):(x ||| (y <<< L)).testBit (L+j)=y.testBit j:=by
 rw [Nat.testBit_or,Nat.testBit_shiftLeft,Nat.testBit_lt_two_pow (Nat.lt_of_lt_of_le h (Nat.pow_le_pow_right (by decide) (Nat.le_add_right L j))),decide_eq_true (Nat.le_add_right L j),Nat.add_sub_cancel_left,Bool.true_and,Bool.false_or]
theorem two_lt (hx:x < 2 ^ L) (hy:y < 2 ^ M):x ||| (y <<< L) < 2 ^ (L+M) :=
 Nat.or_lt_two_pow (Nat.lt_of_lt_of_le hx (Nat.pow_le_pow_right (by decide) (Nat.le_add_right L M))) (by rw [Nat.shiftLeft_eq,Nat.pow_add,Nat.mul_comm]; exact Nat.mul_lt_mul_of_pos_left hy (Nat.pow_pos (by decide)))
end
noncomputable def sz (n:Nat):Nat:=Nat.rec 1 (fun _ s=>s+(s+s)) n
noncomputable def cat (L x y z:Nat):Nat:=x ||| ((y ||| (z <<< L)) <<< L)
noncomputable def off (a L j:Nat):Nat:=match a with
 | 0=>j
 | 1=>L+j
 | _+2=>L+(L+j)
noncomputable def pick (a x y z:Nat):Nat:=match a with
 | 0=>x
 | 1=>y
 | _+2=>z
theorem cat_bit {L x y z a j:Nat} (hx:x < 2 ^ L) (hy:y < 2 ^ L) (hj:j < L):(cat L x y z).testBit (off a L j)=(pick a x y z).testBit j:=by
 rcases a with _ | _ | a
 ·exact two_lo hj
 ·exact (two_hi hx).trans (two_lo hj)
 ·exact (two_hi hx).trans (two_hi hy)
noncomputable def ones (n:Nat):Nat:=2 ^ sz n - 1
theorem ones_bit {n j:Nat} (h:j < sz n):(ones n).testBit j=true:=by
 unfold ones
 rw [Nat.testBit_two_pow_sub_one,decide_eq_true h]
noncomputable def one (q:Bool) (n:Nat):Nat:=cond q (ones n) 0
theorem one_lt (q:Bool) (n:Nat):one q n < 2 ^ sz n:=by
 have p:0 < 2 ^ sz n:=Nat.pow_pos (by decide)
 cases q
 ·exact p
 ·exact Nat.sub_lt p (by decide)
theorem one_bit {q:Bool} {n j:Nat} (h:j < sz n):(one q n).testBit j=q:=by
 cases q
 ·exact Nat.zero_testBit j
 ·exact ones_bit h
noncomputable def B (l n:Nat):Nat→Nat:=Nat.rec (motive:=fun _=>Nat→Nat) (fun _=>0) (fun n b i=>match i with
 | 0=>cat (sz n) (one (Nat.beq 0 l) n) (one (Nat.beq 1 l) n) (one (Nat.beq 2 l) n)
 | i+1=>cat (sz n) (b i) (b i) (b i)) n
noncomputable def idx:List Nat→Nat
 | []=>0
 | a::w=>off a (sz w.length) (idx w)
theorem idx_lt (w:List Nat):idx w < sz w.length:=by
 induction w with
 | nil=>exact Nat.one_pos
 | cons a w ih =>
  show off a _ _ < sz w.length+(sz w.length+sz w.length)
  rcases a with _ | _ | a
  ·exact Nat.lt_of_lt_of_le ih (Nat.le_add_right _ _)
  ·exact Nat.add_lt_add_left (Nat.lt_of_lt_of_le ih (Nat.le_add_right _ _)) _
  ·exact Nat.add_lt_add_left (Nat.add_lt_add_left ih _) _
theorem B_lt (l n:Nat):∀ i,B l n i < 2 ^ sz n:=by
 induction n with
 | zero=>exact fun i=>Nat.pow_pos (by decide)
 | succ n ih =>
  intro i
  cases i with
  | zero=>exact two_lt (one_lt _ _) (two_lt (one_lt _ _) (one_lt _ _))
  | succ i=>exact two_lt (ih i) (two_lt (ih i) (ih i))
theorem beq_dec (a l:Nat):Nat.beq a l=decide (some a=some l):=by
 cases h:Nat.beq a l
 ·exact (decide_eq_false fun q=>Nat.ne_of_beq_eq_false h (Option.some.inj q)).symm
 ·exact (decide_eq_true (congrArg some (Nat.eq_of_beq_eq_true h))).symm
theorem B_bit {l:Nat} {w:List Nat}:∀ {i:Nat},(∀ a ∈ w,a < 3)→(B l w.length i).testBit (idx w)=decide (w[i]?=some l):=by
 induction w with
 | nil=>exact fun _=>Nat.zero_testBit _
 | cons a w ih =>
  intro i h
  have hi:=idx_lt w
  cases i with
  | zero =>
   refine (cat_bit (one_lt _ _) (one_lt _ _) hi).trans ?_
   have ha:=h a List.mem_cons_self
   rcases a with _ | _ | _ | a
   ·exact (one_bit hi).trans (beq_dec 0 l)
   ·exact (one_bit hi).trans (beq_dec 1 l)
   ·exact (one_bit hi).trans (beq_dec 2 l)
   ·exact absurd ha (Nat.not_lt_of_le (Nat.le_add_left 3 a))
  | succ i =>
   refine (cat_bit (B_lt _ _ _) (B_lt _ _ _) hi).trans ?_
   refine Eq.trans ?_ (ih fun b hb=>h b (List.mem_cons_of_mem _ hb))
   rcases a with _ | _ | a <;> rfl
noncomputable def addU (full x:Nat):Nat→List Nat→List Nat
 | p,[]=>[p &&& x]
 | p,c::cs=>((c &&& (full ^^^ x)) ||| (p &&& x))::addU full x c cs
noncomputable def Ct (m c:Nat):Nat→List Nat→Prop
 | k,[]=>c < k
 | k,x::xs=>x.testBit m=decide (c=k)∧Ct m c (k+1) xs
theorem add_ct {full m c x:Nat} {b:Bool} (hf:full.testBit m=true) (hx:x.testBit m=b) {cs:List Nat}:∀ {k p:Nat},p.testBit m=decide (c+1=k)→Ct m c k cs→Ct m (c+b.toNat) k (addU full x p cs):=by
 induction cs with
 | nil =>
  intro k p hp h
  have h:c < k:=h
  refine ⟨?_,Nat.lt_of_le_of_lt (Nat.add_le_add_left (Bool.toNat_le b) c) (Nat.succ_lt_succ h)⟩
  rw [Nat.testBit_and,hx,hp]
  cases b
  ·rw [Bool.and_false]; exact (decide_eq_false (Nat.ne_of_lt h)).symm
  ·exact Bool.and_true _
 | cons y cs ih =>
  intro k p hp h
  refine ⟨?_,ih (h.1.trans (decide_eq_decide.mpr Nat.succ_inj.symm)) h.2⟩
  rw [Nat.testBit_or,Nat.testBit_and,Nat.testBit_and,Nat.testBit_xor,hf,hx,h.1,hp]
  cases b
  ·rw [Bool.and_false,Bool.or_false]; exact Bool.and_true _
  ·rw [show (true ^^ true)=false from rfl,Bool.and_false,Bool.and_true]; exact Bool.false_or _
noncomputable def nth:List Nat→Nat→Nat
 | [],_=>0
 | x::_,0=>x
 | _::xs,k+1=>nth xs k
theorem ct_nth {m c:Nat} {cs:List Nat}:∀ {s k:Nat},Ct m c s cs→((nth cs k).testBit m=true ↔ c=s+k):=by
 induction cs with
 | nil=>exact fun {s k} h=>⟨fun q=>absurd ((Nat.zero_testBit m).symm.trans q) Bool.false_ne_true,fun q=>absurd (q ▸ h:s+k < s) (Nat.not_lt_of_le (Nat.le_add_right s k))⟩
 | cons x cs ih =>
  intro s k h
  cases k with
  | zero=>exact ⟨fun q=>of_decide_eq_true (h.1.symm.trans q),fun q=>h.1.trans (decide_eq_true q)⟩
  | succ k =>
   have i:=ih (k:=k) h.2
   rwa [Nat.succ_add_eq_add_succ] at i
noncomputable def cntW (w:List Nat) (l:Nat):List Nat→Nat
 | []=>0
 | i::S=>cntW w l S+(decide (w[i]?=some l)).toNat
noncomputable def cnt (n l:Nat):List Nat→List Nat
 | []=>[ones n]
 | i::S=>addU (ones n) (B l n i) 0 (cnt n l S)
theorem cnt_ct {w:List Nat} {l:Nat} (h:∀ a ∈ w,a < 3) (S:List Nat):Ct (idx w) (cntW w l S) 0 (cnt w.length l S):=by
 induction S with
 | nil=>exact ⟨ones_bit (idx_lt w),Nat.one_pos⟩
 | cons i S ih=>exact add_ct (ones_bit (idx_lt w)) (B_bit h) (Nat.zero_testBit _) ih
noncomputable def ors:List Nat→Nat
 | []=>0
 | x::xs=>x ||| ors xs
theorem ors_bit {m:Nat} {l:List Nat}:(ors l).testBit m=true ↔ ∃ x ∈ l,x.testBit m=true:=by
 induction l with
 | nil=>exact ⟨fun q=>absurd ((Nat.zero_testBit m).symm.trans q) Bool.false_ne_true,fun q=>nomatch q.choose_spec.1⟩
 | cons x xs ih =>
  show (x ||| ors xs).testBit m=true ↔ _
  rw [Nat.testBit_or,Bool.or_eq_true_iff,ih]
  exact ⟨fun q=>q.elim (fun h=>⟨x,List.mem_cons_self,h⟩) fun h=>h.imp fun y h=>⟨List.mem_cons_of_mem _ h.1,h.2⟩,fun q=>q.elim fun y h=>(List.mem_cons.mp h.1).imp (fun (e:y=x)=>e ▸ h.2) fun e=>⟨y,e,h.2⟩⟩
noncomputable def fairL (n left take l:Nat) (tot:List Nat) (S:List Nat):Nat:=(fun c=>ors ((List.range (n / left+1)).map fun k=>nth c (take*k) &&& nth tot (left*k))) (cnt n l S)
noncomputable def multL (n left:Nat) (tot:List Nat):Nat:=ors ((List.range (n / left+1)).map fun k=>nth tot (left*k))
noncomputable def tot (n l:Nat):List Nat:=cnt n l (List.range n)
structure T3 where
 f:Nat
 p:Nat
 g:Nat
noncomputable def posn (n share:Nat) (t:T3):List Nat:=((List.range t.f).map fun k=>(t.p+k) % n)++((List.range (share - t.f)).map fun k=>(t.p+(t.f+t.g+k)) % n)
noncomputable def okT (n share:Nat) (t:T3):Bool:=Nat.ble 1 t.f&&(Nat.ble t.f share&&(Nat.blt t.p n&&Nat.blt t.g (cond (Nat.blt t.f share) (n - share+1) 1)))
noncomputable def fairS (n left take:Nat) (t0 t1 t2:List Nat) (S:List Nat):Nat:=fairL n left take 0 t0 S &&& (fairL n left take 1 t1 S &&& fairL n left take 2 t2 S)
noncomputable def covers (two:Bool) (n left take:Nat) (ts:List T3):Bool:=ts.all (okT n (n*take / left))&&(fun t0 t1 t2=>(fun V=>Nat.beq (V &&& ors (ts.map fun t=>fairS n left take t0 t1 t2 (posn n (n*take / left) t))) V)
 (cond two (nth t0 0 ||| (nth t1 0 ||| nth t2 0)) (ones n) &&& (multL n left t0 &&& (multL n left t1 &&& multL n left t2)))) (tot n 0) (tot n 1) (tot n 2)
theorem cntW_map {w w':List Nat} {l:Nat} {φ:Nat→Nat} {S:List Nat} (h:∀ i ∈ S,w'[i]?=w[φ i]?):cntW w l (S.map φ)=cntW w' l S:=by
 induction S with
 | nil=>rfl
 | cons i S ih =>
  show cntW w l (S.map φ)+(decide (w[φ i]?=some l)).toNat=cntW w' l S+(decide (w'[i]?=some l)).toNat
  rw [ih fun j hj=>h j (List.mem_cons_of_mem _ hj),h i List.mem_cons_self]
theorem cntW_all (l:Nat) (w:List Nat):cntW w l (List.range w.length)=w.count l:=by
 induction w with
 | nil=>rfl
 | cons a w ih =>
  rw [List.length_cons,List.range_succ_eq_map]
  show cntW (a::w) l ((List.range w.length).map Nat.succ)+(decide (some a=some l)).toNat=_
  rw [cntW_map (w':=w) (φ:=Nat.succ) fun i _=>rfl,ih,List.count_cons]
  refine congrArg (w.count l+·) ?_
  by_cases h:a=l
  ·rw [if_pos (beq_iff_eq.mpr h),decide_eq_true (congrArg some h)]; rfl
  ·rw [if_neg fun q=>h (beq_iff_eq.mp q),decide_eq_false fun q=>h (Option.some.inj q)]; rfl
structure Valid (left:Nat) (w:List Nat):Prop where
 lt:∀ a ∈ w,a < 3
 dv:∀ l < 3,left ∣ w.count l
noncomputable def Fair (w:List Nat) (left take:Nat) (S:List Nat):Prop:=∀ l < 3,cntW w l S*left=w.count l*take
theorem three {P:Nat→Prop} (h0:P 0) (h1:P 1) (h2:P 2):∀ l < 3,P l:=fun l h=>by
 rcases l with _ | _ | _ | l
 ·exact h0
 ·exact h1
 ·exact h2
 ·exact absurd h (Nat.not_lt_of_le (Nat.le_add_left 3 l))
theorem and_bit {m x y:Nat}:(x &&& y).testBit m=true ↔ x.testBit m=true∧y.testBit m=true:=by rw [Nat.testBit_and]; exact Bool.and_eq_true_iff
theorem covers_sound {two:Bool} {n left take:Nat} {ts:List T3} (hl:0 < left) (hc:covers two n left take ts=true) {w:List Nat} (hn:w.length=n) (hv:Valid left w) (h2:two=true→∃ l < 3,w.count l=0) :
  ∃ t ∈ ts,okT n (n*take / left) t=true∧Fair w left take (posn n (n*take / left) t):=by
 subst hn
 obtain ⟨hok,hc⟩:=ba hc
 have ct:∀ l S,Ct (idx w) (cntW w l S) 0 (cnt w.length l S):=fun l S=>cnt_ct hv.lt S
 have ht:∀ l k,(nth (tot w.length l) k).testBit (idx w)=true ↔ w.count l=k:=fun l k=>by
  have q:=ct_nth (k:=k) (ct l (List.range w.length))
  rwa [cntW_all,Nat.zero_add] at q
 have hm:∀ l < 3,(multL w.length left (tot w.length l)).testBit (idx w)=true:=fun l q=>by
  obtain ⟨k,hk⟩:=hv.dv l q
  have hle:left*k≤w.length:=hk ▸ List.count_le_length
  exact ors_bit.mpr ⟨_,List.mem_map.mpr ⟨k,List.mem_range.mpr (Nat.lt_succ_of_le ((Nat.le_div_iff_mul_le hl).mpr (Nat.mul_comm left k ▸ hle))),rfl⟩,(ht l _).mpr hk⟩
 have hV:=Nat.eq_of_beq_eq_true hc
 have h0:(cond two (nth (tot w.length 0) 0 ||| (nth (tot w.length 1) 0 ||| nth (tot w.length 2) 0)) (ones w.length)).testBit (idx w)=true:=by
  cases two with
  | false=>exact ones_bit (idx_lt w)
  | true =>
   obtain ⟨l,q,hz⟩:=h2 rfl
   have z:=(ht l 0).mpr hz
   show Nat.testBit (_ ||| (_ ||| _)) _=true
   rw [Nat.testBit_or,Nat.testBit_or]
   revert z
   exact three (P:=fun l=>(nth (tot w.length l) 0).testBit (idx w)=true→_) (fun z=>by rw [z]; rfl) (fun z=>by rw [z,Bool.true_or,Bool.or_true]) (fun z=>by rw [z,Bool.or_true,Bool.or_true]) l q
 have hb:=and_bit.mpr ⟨h0,and_bit.mpr ⟨hm 0 (by decide),and_bit.mpr ⟨hm 1 (by decide),hm 2 (by decide)⟩⟩⟩
 rw [← hV] at hb
 obtain ⟨x,hx,hb⟩:=ors_bit.mp (and_bit.mp hb).2
 obtain ⟨t,htm,rfl⟩:=List.mem_map.mp hx
 refine ⟨t,htm,List.all_eq_true.mp hok t htm,?_⟩
 obtain ⟨b0,hb⟩:=and_bit.mp hb
 obtain ⟨b1,b2⟩:=and_bit.mp hb
 have fin:∀ l,(fairL w.length left take l (tot w.length l) (posn w.length (w.length*take / left) t)).testBit (idx w)=true→cntW w l (posn w.length (w.length*take / left) t)*left=w.count l*take:=fun l hb=>by
  obtain ⟨x,hx,hb⟩:=ors_bit.mp hb
  obtain ⟨k,hk,rfl⟩:=List.mem_map.mp hx
  obtain ⟨c1,c2⟩:=and_bit.mp hb
  rw [(ct_nth (ct l _)).mp c1,Nat.zero_add,(ht l _).mp c2,Nat.mul_assoc,Nat.mul_comm,Nat.mul_comm left k]
 exact three (fin 0 b0) (fin 1 b1) (fin 2 b2)
noncomputable def rot (p:Nat) (w:List Nat):List Nat:=w.drop p++w.take p
theorem rot_count (p l:Nat) (w:List Nat):(rot p w).count l=w.count l:=by
 unfold rot
 rw [List.count_append,Nat.add_comm,← List.count_append,List.take_append_drop]
theorem posn_lt {n share:Nat} {t:T3} (hn:0 < n) (i:Nat) (hi:i ∈ posn n share t):i < n:=by
 rcases List.mem_append.mp hi with h | h
 ·obtain ⟨k,_,rfl⟩:=List.mem_map.mp h
  exact Nat.mod_lt _ hn
 ·obtain ⟨k,_,rfl⟩:=List.mem_map.mp h
  exact Nat.mod_lt _ hn
theorem posn_rot (n share f g p:Nat):posn n share ⟨f,p,g⟩=(posn n share ⟨f,0,g⟩).map fun i=>(p+i) % n:=by
 unfold posn
 rw [List.map_append,List.map_map,List.map_map]
 exact congr (congrArg _ (List.map_congr_left fun k _=>by show _=(p+(0+k) % n) % n; rw [Nat.zero_add,Nat.add_mod_mod])) (List.map_congr_left fun k _=>by show _=(p+(0+(f+g+k)) % n) % n; rw [Nat.zero_add,Nat.add_mod_mod])
section
variable {p:Nat} {w:List Nat} (hp:p < w.length)
include hp
theorem rot_len:(rot p w).length=w.length:=by
 unfold rot
 rw [List.length_append,List.length_drop,List.length_take,Nat.min_eq_left (Nat.le_of_lt hp),Nat.sub_add_cancel (Nat.le_of_lt hp)]
theorem rot_get {i:Nat} (hi:i < w.length):(rot p w)[i]?=w[(p+i) % w.length]?:=by
 unfold rot
 rcases Nat.lt_or_ge (p+i) w.length with h | h
 ·rw [Nat.mod_eq_of_lt h,List.getElem?_append_left (by rw [List.length_drop]; exact Nat.lt_sub_of_add_lt (Nat.add_comm p i ▸ h)),List.getElem?_drop]
 ·have e:p+i - w.length=i - (w.length - p):=(Nat.sub_sub_right i (Nat.le_of_lt hp) ▸ Nat.add_comm p i ▸ rfl)
  have l1:w.length - p≤i:=Nat.sub_le_of_le_add (Nat.add_comm p i ▸ h)
  have l2:p+i - w.length < p:=Nat.sub_lt_left_of_lt_add h (Nat.add_comm w.length p ▸ Nat.add_lt_add_left hi p)
  rw [Nat.mod_eq_sub_mod h,Nat.mod_eq_of_lt (Nat.lt_trans l2 hp),List.getElem?_append_right (by rw [List.length_drop]; exact l1),List.length_drop,← e,List.getElem?_take_of_lt l2]
theorem rot_valid {left:Nat} (h:Valid left w):Valid left (rot p w):=⟨fun a ha=>h.lt a ((List.mem_append.mp ha).elim List.mem_of_mem_drop List.mem_of_mem_take),fun l q=>rot_count p l w ▸ h.dv l q⟩
end
end Bw
end
section
namespace Bw
structure Ce where
 n:Nat
 left:Nat
 take:Nat
 any:List (Nat × Nat × Nat)
 two:List Nat
noncomputable def t3 (t:Nat × Nat × Nat):T3:=⟨t.1,t.2.1,t.2.2⟩
noncomputable def c0:Ce:=⟨6,2,1,[(1,0,0),(1,0,1),(1,0,2),(2,0,2)],[0,1,2]⟩
noncomputable def c1:Ce:=⟨8,2,1,[(1,0,0),(1,0,2),(2,0,3),(1,0,1),(1,0,3),(3,0,2),(2,0,2),(3,0,3)],[0,2,1,3]⟩
noncomputable def c2:Ce:=⟨9,3,1,[(1,0,0),(1,0,2),(1,1,2),(1,0,4),(2,2,1),(1,5,2),(2,0,4),(1,0,1),(2,1,3)],[0,2,1,3,4]⟩
noncomputable def c3:Ce:=⟨9,3,2,[(1,0,0),(1,0,2),(3,2,2),(4,0,2),(4,1,1),(5,2,1),(3,2,1),(1,1,0),(2,0,1)],[0,2,1,3,4]⟩
noncomputable def c4:Ce:=⟨12,2,1,[(1,0,0),(1,0,3),(3,0,4),(4,0,2),(2,0,6),(1,0,5),(2,0,3),(4,0,5),(2,0,1),(5,0,5),(3,0,5),(3,0,3),(1,0,4),(5,0,2),(2,0,2),(2,0,4),(4,0,3),(3,0,2),(2,0,5),(1,0,1),(4,0,4),(1,0,2)],[0,3,1,4,2,5]⟩
noncomputable def c5:Ce:=⟨12,4,2,[(1,0,0),(1,0,3),(3,0,3),(3,0,6),(2,0,5),(4,0,4),(1,0,4),(3,0,1),(2,0,2),(1,0,5),(4,0,3),(5,0,4),(2,0,6),(2,0,4),(3,0,2),(3,0,5),(1,0,1),(2,0,3),(3,0,4),(5,0,2),(4,0,5),(5,0,5)],[0,3,1,4,2,5]⟩
noncomputable def c6:Ce:=⟨12,3,1,[(1,0,0),(1,0,3),(1,1,4),(1,6,4),(1,2,2),(2,3,1),(1,0,6),(1,7,2),(2,5,2),(2,4,5),(1,0,5),(2,1,2),(2,1,3),(2,0,3),(2,2,7),(2,3,2),(2,4,3),(1,4,1),(3,1,1)],[0,3,1,4,2,5,6]⟩
noncomputable def c7:Ce:=⟨12,3,2,[(1,0,0),(1,0,3),(4,2,3),(6,2,1),(4,3,3),(2,5,2),(5,0,3),(4,3,1),(6,1,1),(7,0,2),(2,2,1),(3,1,2),(5,4,2),(2,1,1),(5,2,2),(2,3,1),(3,3,2),(4,4,1)],[0,3,1,4,2,5,6]⟩
noncomputable def c8:Ce:=⟨12,4,1,[(1,0,0),(1,0,2),(1,1,2),(1,0,4),(2,2,1),(1,5,5),(2,0,5),(1,0,5),(1,2,2),(2,5,1),(2,4,2),(1,6,0),(1,3,3),(1,0,7),(1,0,1)],[0,2,4,1,3,5,6]⟩
noncomputable def c9:Ce:=⟨12,4,3,[(1,0,0),(1,0,2),(6,2,2),(7,0,2),(4,2,2),(1,2,0),(6,0,1),(5,0,2),(4,1,1),(7,2,1),(7,1,1),(1,8,2),(1,0,1),(1,2,1),(2,0,1)],[0,2,4,1,3,5,6]⟩
noncomputable def ces:List Ce:=[c0,c1,c2,c3,c4,c5,c6,c7,c8,c9]
noncomputable def Ce.twoT (c:Ce):List T3:=c.two.map fun p=>⟨c.n*c.take / c.left,p,0⟩
noncomputable def Ce.ok (c:Ce):Bool:=Nat.blt 0 c.left&&(covers false c.n c.left c.take (c.any.map t3)&&(covers true c.n c.left c.take c.twoT&&(!Nat.beq (2*c.take) c.left || c.any.all fun t=>Nat.beq t.2.1 0)))
theorem ok0:c0.ok=true:=by decide +kernel
theorem ok1:c1.ok=true:=by decide +kernel
theorem ok2:c2.ok=true:=by decide +kernel
theorem ok3:c3.ok=true:=by decide +kernel
theorem ok4:c4.ok=true:=by decide +kernel
theorem ok5:c5.ok=true:=by decide +kernel
theorem ok6:c6.ok=true:=by decide +kernel
theorem ok7:c7.ok=true:=by decide +kernel
theorem ok8:c8.ok=true:=by decide +kernel
theorem ok9:c9.ok=true:=by decide +kernel
theorem ces_ok:ces.all Ce.ok=true:=by
 show (c0.ok&&(c1.ok&&(c2.ok&&(c3.ok&&(c4.ok&&(c5.ok&&(c6.ok&&(c7.ok&&(c8.ok&&(c9.ok&&true))))))))))=true
 rw [ok0,ok1,ok2,ok3,ok4,ok5,ok6,ok7,ok8,ok9]
 rfl
structure CeI (c:Ce):Prop where
 l:0 < c.left
 any:covers false c.n c.left c.take (c.any.map t3)=true
 two:covers true c.n c.left c.take c.twoT=true
 half:2*c.take=c.left→∀ t ∈ c.any,t.2.1=0
theorem ce_i {c:Ce} (h:c ∈ ces):CeI c:=by
 obtain ⟨h1,h⟩:=ba (List.all_eq_true.mp ces_ok c h)
 obtain ⟨h3,h⟩:=ba h
 obtain ⟨h4,h⟩:=ba h
 refine ⟨Nat.blt_eq.mp h1,h3,h4,fun q t ht=>?_⟩
 rw [q,Nat.beq_refl] at h
 exact Nat.eq_of_beq_eq_true (List.all_eq_true.mp h t ht)
section
variable {c:Ce} (h:c ∈ ces) {w:List Nat} (hn:w.length=c.n) (hv:Valid c.left w)
include h hn hv
theorem ring_any:∃ t,okT c.n (c.n*c.take / c.left) t=true∧Fair w c.left c.take (posn c.n (c.n*c.take / c.left) t) :=
 have i:=ce_i h
 (covers_sound i.l i.any hn hv fun q=>nomatch q).imp fun t q=>q.2
theorem ring_half (h2:2*c.take=c.left) (p:Nat) (hp:p < c.n):∃ f g,okT c.n (c.n*c.take / c.left) ⟨f,p,g⟩=true∧Fair w c.left c.take (posn c.n (c.n*c.take / c.left) ⟨f,p,g⟩):=by
 have i:=ce_i h
 have hp':p < w.length:=hn.symm ▸ hp
 obtain ⟨t,ht,q,q2⟩:=covers_sound i.l i.any ((rot_len hp').trans hn) (rot_valid hp' hv) fun q=>nomatch q
 obtain ⟨⟨f,p0,g⟩,hu,rfl⟩:=List.mem_map.mp ht
 have e:p0=0:=i.half h2 _ hu
 subst e
 obtain ⟨k1,k⟩:=ba q
 obtain ⟨k2,k⟩:=ba k
 obtain ⟨_,k4⟩:=ba k
 refine ⟨f,g,and_tt k1 (and_tt k2 (and_tt (Nat.blt_eq.mpr hp) k4)),fun l hl=>?_⟩
 have q2:=q2 l hl
 rw [rot_count] at q2
 rw [posn_rot,cntW_map fun j hj=>hn ▸ rot_get hp' (hn.symm ▸ posn_lt (Nat.lt_of_le_of_lt (Nat.zero_le _) hp) j hj)]
 exact q2
theorem ring_two (h2:∃ l < 3,w.count l=0):∃ p < c.n,Fair w c.left c.take (posn c.n (c.n*c.take / c.left) ⟨c.n*c.take / c.left,p,0⟩):=by
 have i:=ce_i h
 obtain ⟨t,ht,q,q2⟩:=covers_sound i.l i.two hn hv fun _=>h2
 obtain ⟨p,_,rfl⟩:=List.mem_map.mp ht
 exact ⟨p,Nat.blt_eq.mp (ba (ba (ba q).2).2).1,q2⟩
end
end Bw
end
section
noncomputable def Dk (ks:List Nat) (f:Nat→Nat):D:=.dctS (ks.map fun c=>[c]) (ks.map fun c=>.int (f c))
noncomputable def upd (f:Nat→Nat) (c v:Nat):Nat→Nat:=fun x=>if x=c then v else f x
theorem one_inj (x y:Nat) (h:[x]=[y]):x=y:=List.singleton_inj.mp h
theorem has_key {c:Nat} {ks:List Nat}:(ks.map fun c=>[c]).contains [c]=ks.contains c:=by
 induction ks with
 | nil=>rfl
 | cons x ks ih =>
  rw [List.map_cons,List.contains_cons,List.contains_cons,ih]
  exact congrArg (· || _) (Bool.and_true _)
theorem put_k {f:Nat→Nat} {c v:Nat}:∀ {ks:List Nat},putK [c] (.int v) (ks.map fun c=>[c]) (ks.map fun c=>.int (f c))=ks.map fun x=>.int (upd f c v x):=by
 intro ks
 induction ks with
 | nil=>rfl
 | cons x ks ih =>
  show (if [x]=[c] then D.int v else .int (f x))::putK _ _ _ _=D.int (upd f c v x)::_
  rw [ih]
  refine congrArg (·::_) ?_
  unfold upd
  by_cases h:x=c
  ·rw [if_pos (show [x]=[c] from h ▸ rfl),if_pos h]
  ·rw [if_neg fun q=>h (one_inj _ _ q),if_neg h]
noncomputable def addk (ks:List Nat) (c:Nat):List Nat:=if ks.contains c then ks else ks++[c]
theorem Dk_congr {ks:List Nat} {f g:Nat→Nat} (h:∀ c ∈ ks,f c=g c):Dk ks f=Dk ks g:=congrArg (D.dctS _) (List.map_congr_left fun c hc=>congrArg (fun n:Nat=>D.int n) (h c hc))
theorem set_k {ks:List Nat} {f:Nat→Nat} {c v:Nat} (hn:ks.length < 65536):setD (Dk ks f) (.str [c]) (.int v)=some (Dk (addk ks c) (upd f c v)):=by
 show putD _ _ _ _ _=_
 unfold putD addk
 rw [contains_f (f:=fun c=>[c]) one_inj]
 by_cases h:ks.contains c=true
 ·rw [if_pos h,if_pos h,put_k]; rfl
 ·rw [if_neg h,if_neg h,List.length_map,if_pos hn]
  have e:∀ x ∈ ks,upd f c v x=f x:=fun x hx=>if_neg fun (q:x=c)=>h (List.contains_iff_mem.mpr (q ▸ hx))
  show some (D.dctS _ _)=some (D.dctS _ _)
  rw [List.map_append,List.map_append,List.map_congr_left fun x hx=>congrArg (fun n:Nat=>D.int n) (e x hx)]
  show _=some (D.dctS _ (_++[D.int (upd f c v c)]))
  rw [show upd f c v c=v from if_pos rfl]
  rfl
theorem sub_k {f:Nat→Nat} {c:Nat}:∀ {ks:List Nat},c ∈ ks→subD (Dk ks f) (.str [c])=some (.int (f c)):=by
 intro ks
 induction ks with
 | nil=>exact fun h=>nomatch h
 | cons x ks ih =>
  intro h
  show (if [x]=[c] then some (D.int (f x)) else lookK [c] (ks.map fun c=>[c]) (ks.map fun c=>.int (f c)))=_
  by_cases e:x=c
  ·rw [if_pos (show [x]=[c] from e ▸ rfl),e]
  ·rw [if_neg fun q=>e (one_inj _ _ q)]
   exact ih ((List.mem_cons.mp h).resolve_left fun q=>e q.symm)
theorem ino_k {ks:List Nat} {f:Nat→Nat} {c:Nat}:inoD (.str [c]) (Dk ks f)=some (ks.contains c):=congrArg some has_key
theorem mem_addk {ks:List Nat} {c x:Nat}:x ∈ addk ks c ↔ x ∈ ks ∨ x=c:=by
 unfold addk
 by_cases h:ks.contains c=true
 ·rw [if_pos h]
  exact ⟨.inl,fun q=>q.elim id fun q=>q ▸ List.contains_iff_mem.mp h⟩
 ·rw [if_neg h,List.mem_append,List.mem_singleton]
theorem nd_addk {ks:List Nat} {c:Nat} (h:ks.Nodup):(addk ks c).Nodup:=by
 unfold addk
 by_cases q:ks.contains c=true
 ·rw [if_pos q]; exact h
 ·rw [if_neg q]
  exact List.nodup_append.mpr ⟨h,List.nodup_cons.mpr ⟨List.not_mem_nil,List.nodup_nil⟩,fun a ha b hb e=>q (List.contains_iff_mem.mpr (List.mem_singleton.mp hb ▸ e ▸ ha))⟩
noncomputable def RGB:List Nat:=[114,103,98]
structure Ks (ks:List Nat) (f:Nat→Nat):Prop where
 nd:ks.Nodup
 lt:∀ c ∈ ks,c ∈ RGB
 pos:∀ c,0 < f c→c ∈ ks
noncomputable def Dc (d:D) (f:Nat→Nat):Prop:=∃ ks,d=Dk ks f∧Ks ks f
theorem short {ks:List Nat} {f:Nat→Nat} (h:Ks ks f):ks.length≤3:=h.nd.length_le_of_subset (l₂:=RGB) h.lt
theorem Ks.add {ks:List Nat} {f:Nat→Nat} {c v:Nat} (h:Ks ks f) (hc:c ∈ RGB):Ks (addk ks c) (upd f c v):=⟨nd_addk h.nd,fun x hx=>(mem_addk.mp hx).elim (h.lt x) fun q=>q ▸ hc,fun x hx=>mem_addk.mpr (by
 by_cases e:x=c
 ·exact .inr e
 ·exact .inl (h.pos x ((if_neg e:upd f c v x=f x) ▸ hx)))⟩
theorem zip_k (ks:List Nat) (f:Nat→Nat):zipD ((ks.map fun c=>[c]).map .str) (ks.map fun c=>.int (f c))=ks.map fun c=>.tup [.str [c],.int (f c)]:=by
 induction ks with
 | nil=>rfl
 | cons c ks ih=>exact congrArg (_::·) ih
theorem lt4 {n:Nat} (h:n≤3):n < 65536:=Nat.lt_of_le_of_lt h (by decide)
theorem take_s {ks:List Nat} {j:Nat} (hj:j < ks.length):ks.take (j+1)=ks.take j++[ks[j]]:=List.take_succ_eq_append_getElem hj
theorem not_take {ks:List Nat} (hn:ks.Nodup) {j:Nat} (hj:j < ks.length):ks[j] ∉ ks.take j:=fun h=>by
 have q:=take_s hj ▸ hn.sublist (List.take_sublist (j+1) ks)
 exact (List.nodup_append.mp q).2.2 _ h _ (List.mem_singleton.mpr rfl) rfl
noncomputable def sumTo (f1 f2:Nat→Nat) (S:List Nat):Nat→Nat:=fun c=>f1 c+if c ∈ S then f2 c else 0
noncomputable def keysTo (ks1 S:List Nat):List Nat:=S.foldl addk ks1
theorem keys_s (ks1 S:List Nat) (c:Nat):keysTo ks1 (S++[c])=addk (keysTo ks1 S) c:=List.foldl_append
theorem keys_ok {ks1:List Nat} {f:Nat→Nat} (h:Ks ks1 f):∀ {S:List Nat},(∀ c ∈ S,c ∈ RGB)→∀ f',(∀ c,0 < f' c→c ∈ ks1 ∨ c ∈ S)→Ks (keysTo ks1 S) f':=by
 have go:∀ (S K:List Nat),K.Nodup→(∀ c ∈ K,c ∈ RGB)→(∀ c ∈ S,c ∈ RGB)→(keysTo K S).Nodup∧(∀ c ∈ keysTo K S,c ∈ RGB)∧∀ c,c ∈ K ∨ c ∈ S→c ∈ keysTo K S:=by
  intro S
  induction S with
  | nil=>exact fun K h1 h2 _=>⟨h1,h2,fun c q=>q.elim id fun q=>nomatch q⟩
  | cons a S ih =>
   intro K h1 h2 h3
   obtain ⟨i1,i2,i3⟩:=ih (addk K a) (nd_addk h1) (fun c hc=>(mem_addk.mp hc).elim (h2 c) fun q=>q ▸ h3 a List.mem_cons_self) fun c hc=>h3 c (List.mem_cons_of_mem _ hc)
   exact ⟨i1,i2,fun c q=>i3 c (q.elim (fun q=>.inl (mem_addk.mpr (.inl q))) fun q=>(List.mem_cons.mp q).imp (fun q=>mem_addk.mpr (.inr q)) id)⟩
 intro S hS f' hf
 obtain ⟨h1,h2,h3⟩:=go S ks1 h.nd h.lt hS
 exact ⟨h1,h2,fun c q=>h3 c (hf c q)⟩
section
variable {O:Ora} {ks1 ks2:List Nat} {f1 f2:Nat→Nat} (h1:Ks ks1 f1) (h2:Ks ks2 f2)
noncomputable def acE (d1 d2 d:D):Rho:=setO (setV (setV e0 0 d1) 1 d2) 2 d
noncomputable def acL (d1 d2 d:D) (c v:Nat):Rho:=setV (setV (acE d1 d2 d) 3 (.str [c])) 4 (.int v)
include h1 h2
theorem ac_len (j:Nat):(keysTo ks1 (ks2.take j)).length < 65536:=lt4 (short (keys_ok h1 (fun c hc=>h2.lt c (List.mem_of_mem_take hc)) (fun _=>0) fun c q=>absurd q (Nat.lt_irrefl 0)))
theorem ac_turn (j:Nat) (hj:j < ks2.length):Tr (exB (ex O 7) [.ite (.ino false (.var 3) 2) [.ite (.bi .isTup [(.var 4)]) [.dead] [.augo 2 (.var 3) .Add (.var 4)]] [.seto 2 (.var 3) (.var 4)]]) (Sub (acL (Dk ks1 f1) (Dk ks2 f2) (Dk (keysTo ks1 (ks2.take j)) (sumTo f1 f2 (ks2.take j))) ks2[j] (f2 ks2[j])))
  (Sub (acE (Dk ks1 f1) (Dk ks2 f2) (Dk (keysTo ks1 (ks2.take (j+1))) (sumTo f1 f2 (ks2.take (j+1)))))) 0:=by
 have hn:=ac_len h1 h2 j
 have hc:=not_take h2.nd hj
 have hs:=take_s hj
 have hS:∀ c ∈ ks2.take j,c ∈ RGB:=fun c hc=>h2.lt c (List.mem_of_mem_take hc)
 generalize ks2.take (j+1)=S' at *
 generalize ks2.take j=S at *
 generalize ks2[j]=c at *
 subst hs
 rw [keys_s]
 have ht:sumTo f1 f2 S c=f1 c:=by unfold sumTo; rw [if_neg hc]; exact Nat.add_zero _
 have hu:sumTo f1 f2 (S++[c])=upd (sumTo f1 f2 S) c (f1 c+f2 c):=funext fun x=>by
  unfold sumTo upd
  by_cases e:x=c
  ·rw [if_pos e,e,if_pos (List.mem_append_right _ (List.mem_singleton.mpr rfl))]
  ·rw [if_neg e]
   refine congrArg (f1 x+·) (ite_congr (propext ⟨fun q=>(List.mem_append.mp q).resolve_right fun q=>e (List.mem_singleton.mp q),List.mem_append_left _⟩) (fun _=>rfl) fun _=>rfl)
 rw [hu]
 have fin:∀ v:Nat,Sub (acE (Dk ks1 f1) (Dk ks2 f2) (Dk (addk (keysTo ks1 S) c) (upd (sumTo f1 f2 S) c v))) (setO (acL (Dk ks1 f1) (Dk ks2 f2) (Dk (keysTo ks1 S) (sumTo f1 f2 S)) c (f2 c)) 2 (Dk (addk (keysTo ks1 S) c) (upd (sumTo f1 f2 S) c v))):=fun v=>Sub.add rfl (Sub.add rfl (Sub.add rfl (sub0 _)))
 cases hq:(keysTo ks1 S).contains c with
 | true =>
  refine tr_one (tr_ite (y_ino (y_var rfl) rfl (ino_k.trans (congrArg some hq))) rfl (tr_one (tr_ite (q:=false) (y_bi (yl (y_var rfl) yl0) rfl) rfl (tr_one ?_))))
  exact (tr_augo (j:=.str [c]) (u:=.int (f1 c)) (z:=.int (f1 c+f2 c:Nat)) rfl (y_var rfl) ((sub_k (List.contains_iff_mem.mp hq)).trans (by rw [ht])) (y_var rfl) rfl (set_k hn)).w (fun _=>id) fun _ s=>(fin _).trans s
 | false =>
  have z:f1 c=0:=Nat.eq_zero_of_not_pos fun q=>Bool.false_ne_true (hq.symm.trans (List.contains_iff_mem.mpr ((keys_ok h1 (S:=S) hS f1 fun c q=>.inl (h1.pos c q)).pos c q)))
  rw [z,Nat.zero_add]
  exact tr_one (tr_ite (y_ino (y_var rfl) rfl (ino_k.trans (congrArg some hq))) rfl (tr_one ((tr_seto (y_var rfl) rfl (y_var rfl) (set_k hn)).w (fun _=>id) fun _ s=>(fin _).trans s)))
theorem ac_copy (j:Nat) (hj:j < ks1.length):Tr (exB (ex O 7) [.seto 2 (.var 3) (.var 4)]) (Sub (acL (Dk ks1 f1) (Dk ks2 f2) (Dk (ks1.take j) f1) ks1[j] (f1 ks1[j]))) (Sub (acE (Dk ks1 f1) (Dk ks2 f2) (Dk (ks1.take (j+1)) f1))) 0:=by
 have hl:(ks1.take j).length < 65536:=Nat.lt_of_le_of_lt (List.length_take_le ..) (lt4 (Nat.le_trans (Nat.le_of_lt hj |> fun _=>Nat.le_of_lt hj) (short h1)))
 have e1:addk (ks1.take j) ks1[j]=ks1.take (j+1):=by
  unfold addk
  rw [if_neg fun q=>not_take h1.nd hj (List.contains_iff_mem.mp q),take_s hj]
 have e2:upd f1 ks1[j] (f1 ks1[j])=f1:=funext fun x=>by
  unfold upd
  by_cases e:x=ks1[j]
  ·rw [if_pos e,e]
  ·rw [if_neg e]
 have t:=tr_seto (O:=O) (n:=6) (x:=.var 3) (y:=.var 4) (k:=2) (ρ:=acL (Dk ks1 f1) (Dk ks2 f2) (Dk (ks1.take j) f1) ks1[j] (f1 ks1[j])) (y_var rfl) rfl (y_var rfl) (set_k hl)
 rw [e1,e2] at t
 exact tr_one (t.w (fun _=>id) fun _ s=>(Sub.add rfl (Sub.add rfl (Sub.add rfl (sub0 _))):Sub (acE _ _ _) _).trans s)
theorem sumTo_all:sumTo f1 f2 ks2=fun c=>f1 c+f2 c:=funext fun c=>by
 unfold sumTo
 by_cases e:c ∈ ks2
 ·rw [if_pos e]
 ·rw [if_neg e,Nat.eq_zero_of_not_pos fun q=>e (h2.pos c q)]
theorem run_addc:runFn O f_add_callers [Dk ks1 f1,Dk ks2 f2]=some (Dk (keysTo ks1 ks2) (fun c=>f1 c+f2 c),[]):=by
 refine run_fn0 (A:=Sub (setB (setV (setV e0 0 (Dk ks1 f1)) 1 (Dk ks2 f2)) 2 .free)) rfl ?_ (Sub.add rfl (Sub.add rfl (Sub.add rfl (sub0 _))))
 have L1:=tr_forS (O:=O) (n:=7) (ρ:=acE (Dk ks1 f1) (Dk ks2 f2) (.dctS [] [])) (as:=ks1) (v:=fun c=>.tup [.str [c],.int (f1 c)]) (t:=.tup [.name 3,.name 4]) (i:=.items (.var 0)) (σ:=fun j=>acE (Dk ks1 f1) (Dk ks2 f2) (Dk (ks1.take j) f1)) (c:=0)
  (zip_k ks1 f1 ▸ yi_items (y_var rfl)) Sub.refl fun j hj=>⟨_,rfl,ac_copy h1 h2 j hj⟩
 have L2:=tr_forS (O:=O) (n:=7) (ρ:=acE (Dk ks1 f1) (Dk ks2 f2) (Dk ks1 f1)) (as:=ks2) (v:=fun c=>.tup [.str [c],.int (f2 c)]) (t:=.tup [.name 3,.name 4]) (i:=.items (.var 1)) (σ:=fun j=>acE (Dk ks1 f1) (Dk ks2 f2) (Dk (keysTo ks1 (ks2.take j)) (sumTo f1 f2 (ks2.take j)))) (c:=0)
  (zip_k ks2 f2 ▸ yi_items (y_var rfl)) (show Sub (acE _ _ (Dk ks1 (sumTo f1 f2 []))) _ from (funext fun c=>Nat.add_zero _:sumTo f1 f2 []=f1) ▸ Sub.refl) fun j hj=>⟨_,rfl,ac_turn h1 h2 j hj⟩
 rw [List.take_length] at L1 L2
 rw [sumTo_all h1 h2] at L2
 exact rt_cons ((tr_own (ρ:=setB (setV (setV e0 0 (Dk ks1 f1)) 1 (Dk ks2 f2)) 2 .free) y_dct0 rfl rfl).w (fun _=>id) fun _ s=>(Sub.add rfl (Sub.add rfl (Sub.add rfl (sub0 _))):Sub (acE (Dk ks1 f1) (Dk ks2 f2) (.dctS [] [])) _).trans s) (rt_cons L1 (rt_cons L2 (rt_reto rfl)))
end
end
section
theorem add_nn (a b:Nat):binD .Add (.int a) (.int b)=some (.int (a+b:Nat)):=rfl
noncomputable def sumK (f:Nat→Nat) (ks:List Nat):Nat:=(ks.map f).sum
theorem sumK_s (f:Nat→Nat) (ks:List Nat) (c:Nat):sumK f (ks++[c])=sumK f ks+f c:=by
 unfold sumK
 rw [List.map_append,List.sum_append]
 exact congrArg (_+·) (Nat.add_zero _)
theorem Ks.sum {ks:List Nat} {f:Nat→Nat} (h:Ks ks f):sumK f ks=f 114+(f 103+f 98):=by
 have p:ks.Perm (RGB.filter fun c=>ks.contains c):=(List.perm_ext_iff_of_nodup h.nd (List.Nodup.sublist List.filter_sublist (by decide +kernel))).mpr fun c =>
  ⟨fun q=>List.mem_filter.mpr ⟨h.lt c q,List.contains_iff_mem.mpr q⟩,fun q=>List.contains_iff_mem.mp (List.mem_filter.mp q).2⟩
 have z:∀ c,ks.contains c=false→f c=0:=fun c q=>Nat.eq_zero_of_not_pos fun r=>Bool.false_ne_true (q.symm.trans (List.contains_iff_mem.mpr (h.pos c r)))
 have g:∀ (c:Nat) (l:List Nat),sumK f ((c::l).filter fun c=>ks.contains c)=f c+sumK f (l.filter fun c=>ks.contains c):=fun c l=>by
  cases q:ks.contains c
  ·rw [List.filter_cons_of_neg (Bool.eq_false_iff.mp q),z c q,Nat.zero_add]
  ·rw [List.filter_cons_of_pos q]; rfl
 exact ((p.map f).sum_nat).trans ((g ..).trans (congrArg _ ((g ..).trans (congrArg _ (g ..)))))
section
variable {O:Ora} {ks ks1 ks2:List Nat} {f f1 f2:Nat→Nat}
theorem run_count (h:Ks ks f):runFn O f_count_calls [Dk ks f]=some (.int (f 114+(f 103+f 98):Nat),[]):=by
 refine run_fn0 (A:=Sub (setV e0 0 (Dk ks f))) rfl ?_ (Sub.add rfl (sub0 _))
 have L:=tr_forS (O:=O) (n:=7) (ρ:=setV (setV e0 0 (Dk ks f)) 1 (.int 0)) (as:=ks) (v:=fun c=>.int (f c)) (t:=.name 2) (i:=.values (.var 0)) (u:=[.aug 1 .Add (.var 2)]) (σ:=fun j=>setV (setV e0 0 (Dk ks f)) 1 (.int (sumK f (ks.take j)))) (c:=0)
  (yi_values (y_var rfl)) Sub.refl fun j hj=>⟨_,rfl,tr_one ((tr_aug rfl (y_var rfl) rfl).w (fun _=>id) fun _ s=>(Sub.add (by rw [take_s hj,sumK_s]; rfl) (Sub.add rfl (sub0 _)):Sub (setV (setV e0 0 (Dk ks f)) 1 _) _).trans s)⟩
 rw [List.take_length,h.sum] at L
 exact rt_cons (tr_asg y_int) (rt_cons L (rt_ret (y_var rfl)))
noncomputable def FrD (f:Nat→Nat) (k:Nat) (ks:List Nat):D:=.tup [.int (f 114),.int (f 103),.int (f 98),.int k,Dk ks f]
noncomputable def H6 (O:Ora):Prop:=∀ ks1 ks2 f1 f2,Ks ks1 f1→Ks ks2 f2→O.call 6 [Dk ks1 f1,Dk ks2 f2]=some (Dk (keysTo ks1 ks2) (fun c=>f1 c+f2 c),[])
noncomputable def H5 (O:Ora):Prop:=∀ ks1 ks2 f1 f2 k1 k2,Ks ks1 f1→Ks ks2 f2→O.call 5 [FrD f1 k1 ks1,FrD f2 k2 ks2]=some (FrD (fun c=>f1 c+f2 c) (k1+k2) (keysTo ks1 ks2),[])
theorem add_com (a b:Nat):binD .Add (.int b) (.int a)=some (.int (a+b:Nat)):=by rw [Nat.add_comm]; rfl
theorem run_adds (h6:H6 O) {k1 k2:Nat} (h1:Ks ks1 f1) (h2:Ks ks2 f2):runFn O f_add_func_stats [FrD f1 k1 ks1,FrD f2 k2 ks2]=some (FrD (fun c=>f1 c+f2 c) (k1+k2) (keysTo ks1 ks2),[]) :=
 run_fn0 (A:=Sub (setV (setV e0 0 (FrD f1 k1 ks1)) 1 (FrD f2 k2 ks2))) rfl (rt_cons (tr_unp (y_var rfl) rfl rfl) (rt_cons (tr_unp (y_var rfl) rfl rfl) (rt_ret (y_tup
  (yl (y_bin (y_var rfl) (y_var rfl) (add_com _ _)) (yl (y_bin (y_var rfl) (y_var rfl) (add_com _ _)) (yl (y_bin (y_var rfl) (y_var rfl) (add_com _ _)) (yl (y_bin (y_var rfl) (y_var rfl) (add_com _ _)) (yl (y_call (yl (y_var rfl) (yl (y_var rfl) yl0)) (h6 _ _ _ _ h1 h2)) yl0))))) (show 5≤65536 by decide))))) (Sub.add rfl (Sub.add rfl (sub0 _)))
noncomputable def cn (u:List Nat):Nat→Nat:=fun c=>u.count c
noncomputable def ksOf (u:List Nat):List Nat:=keysTo [] u
noncomputable def fr (u:List Nat):D:=FrD (cn u) u.length (ksOf u)
theorem ks0:Ks [] fun _=>0:=⟨List.nodup_nil,fun _ h=>(nomatch h),fun _ h=>absurd h (Nat.lt_irrefl 0)⟩
theorem ks_of {u:List Nat} (h:∀ c ∈ u,c ∈ RGB):Ks (ksOf u) (cn u):=keys_ok ks0 h _ fun c q=>.inr (List.count_pos_iff.mp q)
noncomputable def un (a:Nat):Nat→Nat:=fun c=>if a=c then 1 else 0
theorem ks_un {a:Nat} (h:a ∈ RGB):Ks [a] (un a):=⟨List.nodup_cons.mpr ⟨List.not_mem_nil,List.nodup_nil⟩,fun c hc=>List.mem_singleton.mp hc ▸ h,fun c hc=>by
 unfold un at hc
 by_cases e:a=c
 ·exact e ▸ List.mem_cons_self
 ·rw [if_neg e] at hc; exact absurd hc (Nat.lt_irrefl 0)⟩
theorem fr_s (u:List Nat) (a:Nat):FrD (fun c=>cn u c+un a c) (u.length+1) (keysTo (ksOf u) [a])=fr (u++[a]):=by
 have e:(fun c=>cn u c+un a c)=cn (u++[a]):=funext fun c=>by
  unfold cn un
  rw [List.count_append,List.count_singleton]
  refine congrArg (_+·) (ite_congr (propext beq_iff_eq.symm) (fun _=>rfl) fun _=>rfl)
 unfold fr
 rw [e,List.length_append]
 show FrD _ _ (addk (ksOf u) a)=FrD _ _ (keysTo [] (u++[a]))
 rw [keys_s]; rfl
noncomputable def frs (u:List Nat):List D:=(List.range (u.length+1)).map fun k=>fr (u.take k)
theorem frs_len (u:List Nat):(frs u).length=u.length+1:=by unfold frs; rw [List.length_map,List.length_range]
theorem frs_s (u:List Nat) (a:Nat):frs (u++[a])=frs u++[fr (u++[a])]:=by
 unfold frs
 rw [List.length_append,List.range_succ,List.map_append]
 refine congr (congrArg _ (List.map_congr_left fun k hk=>?_)) ?_
 ·rw [List.take_append_of_le_length (Nat.le_of_lt_succ (List.mem_range.mp hk))]
 ·show [fr ((u++[a]).take (u.length+1))]=_
  rw [List.take_of_length_le (by rw [List.length_append]; exact Nat.le_refl _)]
end
theorem last_sub {fs:List D} {x:D}:subD (.lst (fs++[x])) (.int (-1))=some x:=by
 have h:0 < (fs++[x]).length:=by rw [List.length_append]; exact Nat.succ_pos _
 show (if 0 < (fs++[x]).length then (fs++[x])[(fs++[x]).length - 1]? else none)=_
 rw [if_pos h,List.length_append]
 exact List.getElem?_concat_length
theorem frs_last (u:List Nat):∃ fs,frs u=fs++[fr u]:=by
 refine ⟨(List.range u.length).map fun k=>fr (u.take k),?_⟩
 unfold frs
 rw [List.range_succ,List.map_append]
 exact congrArg (fun x=>_++[fr x]) (List.take_length)
noncomputable def bI (q:Bool):D:=.int (b2i q)
section
variable {O:Ora}
noncomputable def sumX:X:=.bin .Add (.bi .tuple [(.lc (.bi .int [(.cmp .Eq (.var 2) (.var 4))]) (.name 4) (.val (.str [114,103,98])) none [2])]) (.tup [(.int 1),(.dct1 (.var 2) (.int 1))])
theorem sum_tup {a:Nat} (ha:a ∈ RGB) {ρ:Rho} (h2:ρ 2=some (.val (.str [a]))):P O 13 sumX ρ (FrD (un a) 1 [a]):=by
 have k:∀ x ∈ RGB,P O 13 sumX (setV e0 2 (.str [x])) (FrD (un x) 1 [x]):=fun x hx=>by
  rcases List.mem_cons.mp hx with rfl | hx
  ·unfold P; kernel_rfl
  ·rcases List.mem_cons.mp hx with rfl | hx
   ·unfold P; kernel_rfl
   ·rw [List.mem_singleton.mp hx]
    unfold P; kernel_rfl
 exact (k a ha).le (Sub.add h2 (sub0 _))
noncomputable def suE (s:D) (fs:List D):Rho:=setO (setV e0 0 s) 1 (.lst fs)
theorem run_sum (h5:H5 O) {u:List Nat} (h:∀ c ∈ u,c ∈ RGB) (hn:u.length≤1000):runFn O f__law_sum [.str u]=some (.lst (frs u),[]):=by
 refine run_fn0 (A:=Sub (setB (setV e0 0 (.str u)) 1 .free)) rfl ?_ (Sub.add rfl (Sub.add rfl (sub0 _)))
 have L:=tr_forS (O:=O) (n:=7) (ρ:=suE (.str u) (frs [])) (as:=u) (v:=fun c=>.str [c]) (t:=.name 2) (i:=.val (.var 0)) (u:=[.app 1 (.call 5 [(.subo 1 (.neg (.int 1))),sumX])]) (σ:=fun j=>suE (.str u) (frs (u.take j))) (c:=0)
  (yi_val (y_var rfl) rfl) Sub.refl fun j hj=>⟨_,rfl,by
   have hm:∀ c ∈ u.take j,c ∈ RGB:=fun c hc=>h c (List.mem_of_mem_take hc)
   obtain ⟨fs,hf⟩:=frs_last (u.take j)
   refine tr_one ((tr_app (ds:=frs (u.take j)) (d:=fr (u.take j++[u[j]])) ?_ rfl ?_).w (fun _=>id) fun _ s=>(Sub.add (by rw [take_s hj,frs_s]; rfl) (Sub.add rfl (sub0 _)):Sub (suE (.str u) _) _).trans s)
   ·refine y_call (yl (y_subo rfl (y_neg y_int) (hf ▸ last_sub)) (yl (sum_tup (h _ (List.getElem_mem hj)) rfl) yl0)) ?_
    exact (h5 _ _ _ _ _ _ (ks_of hm) (ks_un (h _ (List.getElem_mem hj)))).trans (congrArg (fun d=>some (d,[])) (fr_s _ _))
   ·rw [frs_len]
    exact Nat.lt_of_le_of_lt (Nat.succ_le_succ (Nat.le_trans (List.length_take_le' ..) hn)) (show 1001 < 65536 by decide)⟩
 rw [List.take_length] at L
 exact rt_cons ((tr_own (ρ:=setB (setV e0 0 (.str u)) 1 .free) (d:=.lst (frs [])) (by unfold P; kernel_rfl) rfl rfl).w (fun _=>id) fun _ s=>(Sub.add rfl (Sub.add rfl (sub0 _)):Sub (suE (.str u) (frs [])) _).trans s) (rt_cons L (rt_reto rfl))
end
end
noncomputable def plain:Nat→D→Bool
 | 0,_=>false
 | n+1,d=>match d with
  | .bool _=>true
  | .int _=>true
  | .str _=>true
  | .lst l=>l.all (plain n)
  | .tup l=>l.all (plain n)
  | .none=>false
  | .flt _=>false
  | .dctS _ _=>false
  | .dctI _ _=>false
  | .cmp _=>false
  | .notes=>false
theorem eqLf_refl {f:D→D→Option Bool} {l:List D} (h:∀ d ∈ l,f d d=some true):eqLf f l l=some true:=by
 induction l with
 | nil=>rfl
 | cons d l ih=>exact bn1 (h d List.mem_cons_self) (bn1 (ih fun x hx=>h x (List.mem_cons_of_mem _ hx)) rfl)
theorem eqD_refl {n:Nat}:∀ {d:D},plain n d=true→eqD n d d=some true:=by
 induction n with
 | zero=>exact fun h=>nomatch h
 | succ n ih =>
  intro d h
  cases d with
  | lst l=>exact eqLf_refl fun d hd=>ih (List.all_eq_true.mp h d hd)
  | tup l=>exact eqLf_refl fun d hd=>ih (List.all_eq_true.mp h d hd)
  | bool b=>exact congrArg some (beq_self_eq_true b)
  | int b=>exact congrArg some (beq_self_eq_true b)
  | str b=>exact congrArg some (beq_self_eq_true b)
  | _=>cases h
theorem clean_mem {l:List D} (h:∀ d ∈ l,clean d=true):cleanL l=true:=by
 induction l with
 | nil=>rfl
 | cons d l ih=>exact and_tt (h d List.mem_cons_self) (ih fun x hx=>h x (List.mem_cons_of_mem _ hx))
theorem plain_clean {n:Nat}:∀ {d:D},plain n d=true→clean d=true:=by
 induction n with
 | zero=>exact fun h=>nomatch h
 | succ n ih =>
  intro d h
  cases d with
  | lst l=>exact clean_mem fun d hd=>ih (List.all_eq_true.mp h d hd)
  | tup l=>exact clean_mem fun d hd=>ih (List.all_eq_true.mp h d hd)
  | bool b=>rfl
  | int b=>rfl
  | str b=>rfl
  | _=>cases h
theorem clean_all {l:List D} (h:AllOk l):cleanL l=true:=clean_mem fun d hd=>by
 obtain ⟨_,_,_,_,c⟩:=h d hd
 exact c
theorem okN_lst {l:List D} (h:l.all (plain 7)=true):OkN (.tup [.lst l,.lst l]) :=
 have p:plain 8 (.lst l)=true:=h
 ⟨.lst l,.lst l,rfl,congrArg (Option.map (!·)) (eqD_refl p),and_tt (plain_clean p) (and_tt (plain_clean p) rfl)⟩
section
open Bw
noncomputable def cd (f:Nat→Nat):Nat:=10000*f 114+100*f 103+f 98
theorem cntW_app (w:List Nat) (c:Nat) (S S':List Nat):cntW w c (S++S')=cntW w c S+cntW w c S':=by
 induction S with
 | nil=>exact (Nat.zero_add _).symm
 | cons i S ih =>
  show cntW w c (S++S')+_=cntW w c S+_+_
  rw [ih,Nat.add_right_comm]
theorem dbl_get {w:List Nat} {i:Nat} (h:i < w.length+w.length):(w++w)[i]?=w[i % w.length]?:=by
 rcases Nat.lt_or_ge i w.length with q | q
 ·rw [List.getElem?_append_left q,Nat.mod_eq_of_lt q]
 ·rw [List.getElem?_append_right q,Nat.mod_eq_sub_mod q,Nat.mod_eq_of_lt (Nat.sub_lt_left_of_lt_add q h)]
theorem cn_win {w:List Nat} {c a:Nat}:∀ (m:Nat),a+m≤w.length+w.length→cn ((w++w).take (a+m)) c=cn ((w++w).take a) c+cntW w c ((List.range m).map fun k=>(a+k) % w.length):=by
 intro m
 induction m with
 | zero=>exact fun _=>rfl
 | succ m ih =>
  intro h
  have hlt:a+m < (w++w).length:=by rw [List.length_append]; exact h
  have hg:=dbl_get (w:=w) (i:=a+m) h
  rw [List.getElem?_eq_getElem hlt] at hg
  have e:(w++w).take (a+(m+1))=(w++w).take (a+m)++[(w++w)[a+m]]:=List.take_succ_eq_append_getElem hlt
  rw [e,List.range_succ,List.map_append,cntW_app,← Nat.add_assoc,← ih (Nat.le_of_succ_le h)]
  unfold cn
  rw [List.count_append,List.count_singleton]
  refine congrArg (((w++w).take (a+m)).count c+·) ?_
  show _=0+(decide (w[(a+m) % w.length]?=some c)).toNat
  rw [← hg,Nat.zero_add]
  by_cases q:(w++w)[a+m]=c
  ·rw [if_pos (beq_iff_eq.mpr q),decide_eq_true (congrArg some q)]; rfl
  ·rw [if_neg fun r=>q (beq_iff_eq.mp r),decide_eq_false fun r=>q (Option.some.inj r)]; rfl
noncomputable def codesOf (w:List Nat):List Nat:=(List.range (w.length+w.length+1)).map fun k=>cd (cn ((w++w).take k))
theorem codes_get {w:List Nat} {k:Nat} (h:k≤w.length+w.length):(codesOf w)[k]?=some (cd (cn ((w++w).take k))):=by
 unfold codesOf
 rw [List.getElem?_map,List.getElem?_range (Nat.lt_succ_of_le h)]
 rfl
noncomputable def ft (w:List Nat) (share:Nat) (t:T3):Nat→Nat:=fun c=>cntW w c (posn w.length share t)
theorem cd_add (f g:Nat→Nat):cd (fun c=>f c+g c)=cd f+cd g:=by unfold cd; lia
theorem code_eq {w:List Nat} {share f p g:Nat} (h1:p+f≤w.length+w.length) (h2:p+g+share≤w.length+w.length) (hf:f≤share) :
  cd (cn ((w++w).take (p+f)))+cd (cn ((w++w).take (p+g+share)))=cd (ft w share ⟨f,p,g⟩)+(cd (cn ((w++w).take p))+cd (cn ((w++w).take (p+g+f)))):=by
 have e:p+g+f+(share - f)=p+g+share:=by rw [Nat.add_assoc,Nat.add_sub_cancel' hf]
 have a1:=fun c=>cn_win (w:=w) (c:=c) (a:=p) f h1
 have a2:=fun c=>cn_win (w:=w) (c:=c) (a:=p+g+f) (share - f) (e ▸ h2)
 rw [e] at a2
 have a3:∀ c,ft w share ⟨f,p,g⟩ c=cntW w c ((List.range f).map fun k=>(p+k) % w.length)+cntW w c ((List.range (share - f)).map fun k=>(p+g+f+k) % w.length):=fun c=>by
  unfold ft posn
  rw [cntW_app]
  refine congrArg (cntW w c ((List.range f).map fun k=>(p+k) % w.length)+·) (congrArg _ (List.map_congr_left fun k _=>?_))
  show (p+(f+g+k)) % w.length=_
  rw [Nat.add_comm f g,← Nat.add_assoc,← Nat.add_assoc]
 rw [funext a1,funext a2,funext a3,cd_add,cd_add,cd_add]
 lia
noncomputable def ix (c:Nat):Nat:=cond (Nat.beq c 114) 0 (cond (Nat.beq c 103) 1 2)
noncomputable def lt (l:Nat):Nat:=match l with
 | 0=>114
 | 1=>103
 | _+2=>98
theorem rgb {P:Nat→Prop} (h0:P 114) (h1:P 103) (h2:P 98):∀ c ∈ RGB,P c:=fun c h=>by
 rcases List.mem_cons.mp h with rfl | h
 ·exact h0
 ·rcases List.mem_cons.mp h with rfl | h
  ·exact h1
  ·exact List.mem_singleton.mp h ▸ h2
theorem ix_lt:∀ c ∈ RGB,ix c < 3:=rgb (by decide +kernel) (by decide +kernel) (by decide +kernel)
theorem lt_ix:∀ c ∈ RGB,lt (ix c)=c:=rgb rfl rfl rfl
theorem ix_rgb:∀ c ∈ RGB,∀ l < 3,ix c=l ↔ c=lt l:=fun c hc=>three ⟨fun q=>(lt_ix c hc).symm.trans (congrArg lt q),fun q=>q ▸ rfl⟩ ⟨fun q=>(lt_ix c hc).symm.trans (congrArg lt q),fun q=>q ▸ rfl⟩ ⟨fun q=>(lt_ix c hc).symm.trans (congrArg lt q),fun q=>q ▸ rfl⟩
section
variable {w:List Nat} (hw:∀ c ∈ w,c ∈ RGB)
include hw
theorem cntW_ix {l:Nat} (hl:l < 3) (S:List Nat):cntW (w.map ix) l S=cntW w (lt l) S:=by
 induction S with
 | nil=>rfl
 | cons i S ih =>
  show _+(decide ((w.map ix)[i]?=some l)).toNat=_+(decide (w[i]?=some (lt l))).toNat
  rw [ih,List.getElem?_map]
  refine congrArg (fun b:Bool=>cntW w (Mine.lt l) S+b.toNat) (decide_eq_decide.mpr ?_)
  cases h:w[i]? with
  | none=>exact ⟨nofun,nofun⟩
  | some c=>exact ⟨fun q=>congrArg some ((ix_rgb c (hw c (List.mem_of_getElem? h)) l hl).mp (Option.some.inj q)),fun q=>congrArg some ((ix_rgb c (hw c (List.mem_of_getElem? h)) l hl).mpr (Option.some.inj q))⟩
theorem count_ix {l:Nat} (hl:l < 3):(w.map ix).count l=cn w (lt l):=by
 rw [← cntW_all,List.length_map,cntW_ix hw hl]
 exact cntW_all _ _
theorem valid_ix {left:Nat} (h:∀ c ∈ RGB,left ∣ cn w c):Valid left (w.map ix):=⟨fun a ha=>by
  obtain ⟨c,hc,rfl⟩:=List.mem_map.mp ha
  exact ix_lt c (hw c hc),three ((count_ix hw (l:=0) (by decide)).symm ▸ h 114 (by decide +kernel)) ((count_ix hw (l:=1) (by decide)).symm ▸ h 103 (by decide +kernel)) ((count_ix hw (l:=2) (by decide)).symm ▸ h 98 (by decide +kernel))⟩
noncomputable def FairW (w:List Nat) (share left take:Nat) (t:T3):Prop:=∀ c ∈ RGB,ft w share t c*left=cn w c*take
theorem fair_ix {left take share:Nat} {t:T3} (h:Fair (w.map ix) left take (posn w.length share t)):FairW w share left take t:=by
 have k:∀ l < 3,ft w share t (lt l)*left=cn w (lt l)*take:=fun l hl=>by
  have q:=h l hl
  rwa [cntW_ix hw hl,count_ix hw hl] at q
 exact rgb (k 0 (by decide)) (k 1 (by decide)) (k 2 (by decide))
theorem cntW_sum:∀ {S:List Nat},(∀ i ∈ S,i < w.length)→cntW w 114 S+(cntW w 103 S+cntW w 98 S)=S.length:=by
 intro S
 induction S with
 | nil=>exact fun _=>rfl
 | cons i S ih =>
  intro h
  have hi:=h i List.mem_cons_self
  have i':=ih fun j hj=>h j (List.mem_cons_of_mem _ hj)
  have k:∀ c ∈ RGB,(decide (some c=some 114)).toNat+((decide (some c=some 103)).toNat+(decide (some c=some 98)).toNat)=1:=rgb rfl rfl rfl
  have k:=k _ (hw _ (List.getElem_mem hi))
  show cntW w 114 S+(decide (w[i]?=some 114)).toNat+(cntW w 103 S+(decide (w[i]?=some 103)).toNat+(cntW w 98 S+(decide (w[i]?=some 98)).toNat))=S.length+1
  rw [List.getElem?_eq_getElem hi,← i',← k]
  lia
end
theorem posn_len {n share:Nat} {t:T3} (h:t.f≤share):(posn n share t).length=share:=by
 unfold posn
 rw [List.length_append,List.length_map,List.length_map,List.length_range,List.length_range,Nat.add_sub_cancel' h]
theorem ft_sum {w:List Nat} (hw:∀ c ∈ w,c ∈ RGB) (hn:0 < w.length) {share:Nat} {t:T3} (h:t.f≤share):ft w share t 114+(ft w share t 103+ft w share t 98)=share:=(cntW_sum hw (posn_lt hn)).trans (posn_len h)
theorem cn_sum {w:List Nat} (hw:∀ c ∈ w,c ∈ RGB):cn w 114+(cn w 103+cn w 98)=w.length:=by
 have q:=cntW_sum hw (S:=List.range w.length) fun i hi=>List.mem_range.mp hi
 rw [cntW_all,cntW_all,cntW_all,List.length_range] at q
 exact q
end
section
noncomputable def okNB (e:D):Bool:=(dT e fun l=>d2 l fun a b=>cmpD .NotEq a b) == some false&&clean e
theorem okNB_i {e:D} (h:okNB e=true):OkN e:=by
 obtain ⟨h1,h2⟩:=ba h
 obtain ⟨l,rfl,h3⟩:=onT_i (eq_of_beq h1)
 obtain ⟨a,b,rfl,h4⟩:=d2_i h3
 exact ⟨a,b,rfl,h4,h2⟩
noncomputable def oB {α:Type} (o:Option α) (f:α→Bool):Bool:=match o with
 | some a=>f a
 | none=>false
theorem oB_i {α:Type} {o:Option α} {f:α→Bool} (h:oB o f=true):V1 some f o:=by
 cases o with
 | none=>cases h
 | some a=>exact ⟨a,rfl,h⟩
noncomputable def ask (O:Ora) (c i:Nat):Option (D × List D):=O.call 12 [.int c,.int i,.notes]
noncomputable def tel (O:Ora) (c i:Nat):D:=(ask O c i).elim .none Prod.fst
noncomputable def tellOk (O:Ora) (c i:Nat):Bool:=oB (ask O c i) fun p=>b1 p.2 okNB
noncomputable def eqX:X:=.lc (.cmp .Eq (.slc (.var 21) 2) (.slc (.var 22) 2)) (.tup [(.name 21),(.name 22)]) (.zip (.var 17) (.sub (.var 9) (.var 8))) none []
noncomputable def mulX:X:=.tup [(.lc (.bin .Mult (.sub (.var 21) (.int 2)) (.var 2)) (.name 21) (.val (.var 17)) none [2]),(.lc (.bin .Mult (.sub (.var 22) (.int 2)) (.var 1)) (.name 22) (.val (.sub (.var 9) (.var 8))) none [1])]
noncomputable def pairE (t T0 T1:D) (left take i:Nat):Rho:=setV (setV (setV (setV (setV e0 17 t) 9 (.lst [T0,T1])) 8 (.int i)) 2 (.int left)) 1 (.int take)
noncomputable def isQQ (q:Bool) (d:D):Bool:=oB (dL d fun l=>d2 l fun a b=>dB a fun a=>dB b fun b=>some (a == q&&b == q)) id
noncomputable def pairOk (O:Ora) (left take C c i:Nat) (q:Bool):Bool:=(fun r=>oB (ev O 13 eqX r) (fun p=>p.2.isEmpty&&isQQ q p.1)&&(!q || oB (ev O EF mulX r) fun p=>p.2.isEmpty&&okNB p.1)) (pairE (tel O c i) (tel O C 0) (tel O C 1) left take i)
structure N3 where
 a:Nat
 b:Nat
 c:Nat
noncomputable def N3.cd (t:N3):Nat:=10000*t.a+100*t.b+t.c
noncomputable def comps (n:Nat):List N3:=(List.range (n+1)).flatMap fun a=>(List.range (n+1 - a)).map fun b=>⟨a,b,n - a - b⟩
noncomputable def N3.dv (l:Nat) (t:N3):Bool:=Nat.beq (t.a % l) 0&&(Nat.beq (t.b % l) 0&&Nat.beq (t.c % l) 0)
noncomputable def fairN (left take:Nat) (F f:N3):Bool:=Nat.beq (f.a*left) (F.a*take)&&(Nat.beq (f.b*left) (F.b*take)&&Nat.beq (f.c*left) (F.c*take))
noncomputable def ringOk (O:Ora) (n left take i:Nat):Bool:=((comps n).filter (N3.dv left)).all fun F=>tellOk O F.cd i&&(comps (n*take / left)).all fun f=>tellOk O f.cd i&&pairOk O left take F.cd f.cd i (fairN left take F f)
section
variable (b1:Int→Bool) (b3:Int→Option (List Nat)) (n:Nat)
theorem rg0_0:ringOk (oraN fns b1 b3 (n+2)) 6 2 1 0=true:=by kernel_rfl
theorem rg0_1:ringOk (oraN fns b1 b3 (n+2)) 6 2 1 1=true:=by kernel_rfl
theorem rg1_0:ringOk (oraN fns b1 b3 (n+2)) 8 2 1 0=true:=by kernel_rfl
theorem rg1_1:ringOk (oraN fns b1 b3 (n+2)) 8 2 1 1=true:=by kernel_rfl
theorem rg2_0:ringOk (oraN fns b1 b3 (n+2)) 9 3 1 0=true:=by kernel_rfl
theorem rg2_1:ringOk (oraN fns b1 b3 (n+2)) 9 3 1 1=true:=by kernel_rfl
theorem rg3_0:ringOk (oraN fns b1 b3 (n+2)) 9 3 2 0=true:=by kernel_rfl
theorem rg3_1:ringOk (oraN fns b1 b3 (n+2)) 9 3 2 1=true:=by kernel_rfl
theorem rg4_0:ringOk (oraN fns b1 b3 (n+2)) 12 2 1 0=true:=by kernel_rfl
theorem rg4_1:ringOk (oraN fns b1 b3 (n+2)) 12 2 1 1=true:=by kernel_rfl
theorem rg5_0:ringOk (oraN fns b1 b3 (n+2)) 12 4 2 0=true:=by kernel_rfl
theorem rg5_1:ringOk (oraN fns b1 b3 (n+2)) 12 4 2 1=true:=by kernel_rfl
theorem rg6_0:ringOk (oraN fns b1 b3 (n+2)) 12 3 1 0=true:=by kernel_rfl
theorem rg6_1:ringOk (oraN fns b1 b3 (n+2)) 12 3 1 1=true:=by kernel_rfl
theorem rg7_0:ringOk (oraN fns b1 b3 (n+2)) 12 3 2 0=true:=by kernel_rfl
theorem rg7_1:ringOk (oraN fns b1 b3 (n+2)) 12 3 2 1=true:=by kernel_rfl
theorem rg8_0:ringOk (oraN fns b1 b3 (n+2)) 12 4 1 0=true:=by kernel_rfl
theorem rg8_1:ringOk (oraN fns b1 b3 (n+2)) 12 4 1 1=true:=by kernel_rfl
theorem rg9_0:ringOk (oraN fns b1 b3 (n+2)) 12 4 3 0=true:=by kernel_rfl
theorem rg9_1:ringOk (oraN fns b1 b3 (n+2)) 12 4 3 1=true:=by kernel_rfl
noncomputable def ceOk (O:Ora) (c:Bw.Ce):Bool:=ringOk O c.n c.left c.take 0&&ringOk O c.n c.left c.take 1
theorem rg0:ceOk (oraN fns b1 b3 (n+2)) Bw.c0=true:=and_tt (rg0_0 b1 b3 n) (rg0_1 b1 b3 n)
theorem rg1:ceOk (oraN fns b1 b3 (n+2)) Bw.c1=true:=and_tt (rg1_0 b1 b3 n) (rg1_1 b1 b3 n)
theorem rg2:ceOk (oraN fns b1 b3 (n+2)) Bw.c2=true:=and_tt (rg2_0 b1 b3 n) (rg2_1 b1 b3 n)
theorem rg3:ceOk (oraN fns b1 b3 (n+2)) Bw.c3=true:=and_tt (rg3_0 b1 b3 n) (rg3_1 b1 b3 n)
theorem rg4:ceOk (oraN fns b1 b3 (n+2)) Bw.c4=true:=and_tt (rg4_0 b1 b3 n) (rg4_1 b1 b3 n)
theorem rg5:ceOk (oraN fns b1 b3 (n+2)) Bw.c5=true:=and_tt (rg5_0 b1 b3 n) (rg5_1 b1 b3 n)
theorem rg6:ceOk (oraN fns b1 b3 (n+2)) Bw.c6=true:=and_tt (rg6_0 b1 b3 n) (rg6_1 b1 b3 n)
theorem rg7:ceOk (oraN fns b1 b3 (n+2)) Bw.c7=true:=and_tt (rg7_0 b1 b3 n) (rg7_1 b1 b3 n)
theorem rg8:ceOk (oraN fns b1 b3 (n+2)) Bw.c8=true:=and_tt (rg8_0 b1 b3 n) (rg8_1 b1 b3 n)
theorem rg9:ceOk (oraN fns b1 b3 (n+2)) Bw.c9=true:=and_tt (rg9_0 b1 b3 n) (rg9_1 b1 b3 n)
theorem ces_tell:Bw.ces.all (ceOk (oraN fns b1 b3 (n+2)))=true:=and_tt (rg0 b1 b3 n) (and_tt (rg1 b1 b3 n) (and_tt (rg2 b1 b3 n) (and_tt (rg3 b1 b3 n) (and_tt (rg4 b1 b3 n) (and_tt (rg5 b1 b3 n) (and_tt (rg6 b1 b3 n) (and_tt (rg7 b1 b3 n) (and_tt (rg8 b1 b3 n) (and_tt (rg9 b1 b3 n) (rfl))))))))))
end
end
section
noncomputable def N3.of (f:Nat→Nat):N3:=⟨f 114,f 103,f 98⟩
theorem comps_mem {n:Nat} {f:Nat→Nat} (h:f 114+(f 103+f 98)=n):N3.of f ∈ comps n:=by
 refine List.mem_flatMap.mpr ⟨f 114,List.mem_range.mpr (by lia),List.mem_map.mpr ⟨f 103,List.mem_range.mpr (by lia),?_⟩⟩
 show N3.mk _ _ _=N3.mk _ _ _
 rw [show n - f 114 - f 103=f 98 by lia]
noncomputable def fairF (left take:Nat) (F f:Nat→Nat):Bool:=fairN left take (N3.of F) (N3.of f)
theorem fairF_iff {left take:Nat} {F f:Nat→Nat}:fairF left take F f=true ↔ ∀ c ∈ RGB,f c*left=F c*take:=by
 constructor
 ·intro h
  obtain ⟨h1,h⟩:=ba h
  obtain ⟨h2,h3⟩:=ba h
  exact rgb (Nat.eq_of_beq_eq_true h1) (Nat.eq_of_beq_eq_true h2) (Nat.eq_of_beq_eq_true h3)
 ·intro h
  have b:∀ {x y:Nat},x=y→Nat.beq x y=true:=fun e=>e ▸ Nat.beq_refl _
  exact and_tt (b (h 114 (by decide +kernel))) (and_tt (b (h 103 (by decide +kernel))) (b (h 98 (by decide +kernel))))
inductive Told (O:Ora) (c i:Nat):Prop
 | mk (nt:D) (h:O.call 12 [.int c,.int i,.notes]=some (tel O c i,[nt])) (ok:OkN nt)
theorem told_of {O:Ora} {c i:Nat} (h:tellOk O c i=true):Told O c i:=by
 obtain ⟨⟨t,l⟩,e,h⟩:=oB_i h
 obtain ⟨nt,rfl,h⟩:=b1_i h
 have et:tel O c i=t:=by unfold tel; rw [e]; rfl
 exact ⟨nt,et.symm ▸ e,okNB_i h⟩
theorem isQQ_i {q:Bool} {d:D} (h:isQQ q d=true):d=.lst [.bool q,.bool q]:=by
 obtain ⟨u,e,hu⟩:=oB_i h
 obtain ⟨l,rfl,e⟩:=onL_i e
 obtain ⟨a,b,rfl,e⟩:=d2_i e
 obtain ⟨a,rfl,e⟩:=onB_i e
 obtain ⟨b,rfl,e⟩:=onB_i e
 obtain ⟨h1,h2⟩:=ba ((congrArg (·=true) (Option.some.inj e)).mpr hu)
 rw [eq_of_beq h1,eq_of_beq h2]
structure Pair (O:Ora) (left take C c i:Nat) (q:Bool):Prop where
 eq:P O 13 eqX (pairE (tel O c i) (tel O C 0) (tel O C 1) left take i) (.lst [.bool q,.bool q])
 mul:q=true→∃ d,P O EF mulX (pairE (tel O c i) (tel O C 0) (tel O C 1) left take i) d∧OkN d
theorem pair_of {O:Ora} {left take C c i:Nat} {q:Bool} (h:pairOk O left take C c i q=true):Pair O left take C c i q:=by
 obtain ⟨h1,h2⟩:=ba h
 obtain ⟨⟨d,l⟩,e,h1⟩:=oB_i h1
 obtain ⟨hl,hq⟩:=ba h1
 have hl:l=[]:=List.isEmpty_iff.mp hl
 subst hl
 refine ⟨isQQ_i hq ▸ e,fun hq=>?_⟩
 subst hq
 obtain ⟨⟨d,l⟩,e,h2⟩:=oB_i (h2:oB _ _=true)
 obtain ⟨hl,h2⟩:=ba h2
 have hl:l=[]:=List.isEmpty_iff.mp hl
 subst hl
 exact ⟨d,e,okNB_i h2⟩
section
variable {b1:Int→Bool} {b3:Int→Option (List Nat)} {n:Nat} {c:Bw.Ce} (hc:c ∈ Bw.ces) {F f:Nat→Nat} (hF:F 114+(F 103+F 98)=c.n) (hd:∀ x ∈ RGB,c.left ∣ F x) {i:Nat} (hi:i < 2)
include hc hF hd hi
theorem ring_row:(tellOk (oraN fns b1 b3 (n+2)) (cd F) i&&(comps (c.n*c.take / c.left)).all (fun f=>tellOk (oraN fns b1 b3 (n+2)) f.cd i&&pairOk (oraN fns b1 b3 (n+2)) c.left c.take (cd F) f.cd i (fairN c.left c.take (N3.of F) f)))=true:=by
 have hk:∀ i < 2,ringOk (oraN fns b1 b3 (n+2)) c.n c.left c.take i=true:=fun i hi=>by
  obtain ⟨h0,h1⟩:=ba (List.all_eq_true.mp (ces_tell b1 b3 n) c hc)
  rcases i with _ | _ | i
  ·exact h0
  ·exact h1
  ·exact absurd hi (Nat.not_lt_of_le (Nat.le_add_left 2 i))
 have b:∀ x ∈ RGB,Nat.beq (F x % c.left) 0=true:=fun x hx=>by rw [Nat.mod_eq_zero_of_dvd (hd x hx)]; rfl
 exact List.all_eq_true.mp (hk i hi) (N3.of F) (List.mem_filter.mpr ⟨comps_mem hF,and_tt (b 114 (by decide +kernel)) (and_tt (b 103 (by decide +kernel)) (b 98 (by decide +kernel)))⟩)
theorem ring_told:Told (oraN fns b1 b3 (n+2)) (cd F) i:=told_of (ba (ring_row hc hF hd hi)).1
theorem ring_pair (hf:f 114+(f 103+f 98)=c.n*c.take / c.left):Told (oraN fns b1 b3 (n+2)) (cd f) i∧Pair (oraN fns b1 b3 (n+2)) c.left c.take (cd F) (cd f) i (fairF c.left c.take F f):=by
 obtain ⟨h1,h2⟩:=ba (List.all_eq_true.mp (ba (ring_row (b1:=b1) (b3:=b3) (n:=n) hc hF hd hi)).2 (N3.of f) (comps_mem hf))
 exact ⟨told_of h1,pair_of h2⟩
end
end
section
noncomputable def seenD (fb:Nat→Bool) (ks:List Nat):D:=match ks with
 | []=>.dctS [] []
 | k::ks=>.dctI ((k::ks).map fun c:Nat=>(c:Int)) ((k::ks).map fun c=>.bool (fb c))
section
variable {fb:Nat→Bool} {ks:List Nat} {c:Nat}
theorem int_inj (x y:Nat) (h:(x:Int)=(y:Int)):x=y:=Int.ofNat.inj h
theorem ino_seen:inoD (.int c) (seenD fb ks)=some (ks.contains c):=by
 cases ks with
 | nil=>rfl
 | cons k ks=>exact congrArg some (contains_f (f:=fun c:Nat=>(c:Int)) int_inj)
theorem look_seen (h:ks.contains c=true):subD (seenD fb ks) (.int c)=some (.bool (fb c)):=by
 have g:∀ ks:List Nat,ks.contains c=true→lookK (c:Int) (ks.map fun c:Nat=>(c:Int)) (ks.map fun c=>.bool (fb c))=some (.bool (fb c)):=by
  intro ks
  induction ks with
  | nil=>exact fun h=>nomatch h
  | cons k ks ih =>
   intro h
   show (if (k:Int)=c then some (D.bool (fb k)) else lookK (c:Int) (ks.map fun c:Nat=>(c:Int)) (ks.map fun c=>.bool (fb c)))=_
   by_cases e:k=c
   ·rw [if_pos (congrArg _ e),e]
   ·rw [if_neg fun q=>e (int_inj _ _ q)]
    exact ih (List.contains_iff_mem.mpr ((List.mem_cons.mp (List.contains_iff_mem.mp h)).resolve_left fun q=>e q.symm))
 cases ks with
 | nil=>cases h
 | cons k ks=>exact g _ h
theorem set_seen (h:ks.contains c=false) (hn:ks.length < 65536):setD (seenD fb ks) (.int c) (.bool (fb c))=some (seenD fb (ks++[c])):=by
 cases ks with
 | nil=>rfl
 | cons k ks =>
  show putD _ _ _ _ _=_
  unfold putD
  rw [contains_f (f:=fun c:Nat=>(c:Int)) int_inj,h,if_neg Bool.false_ne_true,List.length_map,if_pos hn]
  show _=some (D.dctI ((k::(ks++[c])).map fun c:Nat=>(c:Int)) ((k::(ks++[c])).map fun c=>.bool (fb c)))
  rw [← List.cons_append,List.map_append,List.map_append]
  rfl
theorem sub_cs {cs:List Nat} {k:Nat} (h:cs[k]?=some c):subD (.lst (cs.map fun c:Nat=>.int c)) (.int k)=some (.int c):=(List.getElem?_map ..).trans (congrArg (Option.map fun c:Nat=>D.int c) h)
theorem mul_ii {a b:Int} (h:okI b=true):binD .Mult (.int a) (.int b)=some (.int (a*b)):=(if_pos (by rw [h]; exact Bool.or_true _))
theorem mul_ok {a b:Nat} (h:okI b=true):binD .Mult (.int a) (.int b)=some (.int (a*b:Nat)):=mul_ii h
theorem okI_le {a:Nat} (h:a≤65536):okI a=true:=and_tt (decide_eq_true (Int.lt_of_lt_of_le (by decide) (Int.natCast_nonneg a))) (decide_eq_true (Int.lt_of_le_of_lt (Int.ofNat_le.mpr h) (by decide)))
theorem fmod2 (a:Nat):binD .Mod (.int a) (.int 2)=some (.int (a % 2:Nat)):=by
 show some (D.int (Int.fmod (a:Int) 2))=_
 rw [Int.fmod_eq_emod_of_nonneg _ (by decide)]
 rfl
end
noncomputable def gapNew:List St:=[.asg 8 (.bin .Mod (.bin .Add (.bin .Add (.var 12) (.var 13)) (.var 15)) (.int 2)),
      .asg 17 (.call 12 [(.var 16),(.var 8),(.var 3)]),
      .seto 10 (.var 16) (.cmp .Eq (.bin .Mult (.var 16) (.var 2)) (.bin .Mult (.sub (.var 7) (.var 4)) (.var 1))),
      .note 3 (.tup [eqX,(.bin .Mult (.lst [(.subo 10 (.var 16))]) (.int 2))]),
      .ite (.subo 10 (.var 16)) [.note 3 mulX] []]
noncomputable def gapSts:List St:=[.asg 16 (.bin .Sub (.bin .Add (.var 14) (.sub (.var 7) (.bin .Add (.bin .Add (.var 12) (.var 15)) (.var 5)))) (.sub (.var 7) (.bin .Add (.bin .Add (.var 12) (.var 15)) (.var 13)))),
     .ite (.ino true (.var 16) 10) gapNew [],
     .ite (.subo 10 (.var 16)) [.app 11 (.tup [(.var 13),(.var 12),(.var 15)])] []]
noncomputable def feE (n share left take:Nat) (cs:List Nat) (T0 T1 sd:D) (rw:List D):Rho:=setO (setO (setV (setV (setV (setV (setV (setV (setV e0 1 (.int take)) 2 (.int left)) 3 .notes) 4 (.int n)) 5 (.int share)) 7 (.lst (cs.map fun c:Nat=>.int c))) 9 (.lst [T0,T1])) 10 sd) 11 (.lst rw)
noncomputable def rowD (t:Bw.T3):D:=.tup [.int t.f,.int t.p,.int t.g]
section
variable {O:Ora} {n share left take:Nat} {cs:List Nat} {C:Nat} {fb:Nat→Bool} {ks:List Nat} {rw:List D} {p f g c:Nat} {hd:Int}
noncomputable abbrev gE (n share left take:Nat) (cs:List Nat) (T0 T1 sd:D) (rw:List D) (p f:Nat) (hd:Int):Rho:=setV (setV (setV (feE n share left take cs T0 T1 sd rw) 12 (.int p)) 13 (.int f)) 14 (.int hd)
theorem gap_new (kN:cs[n]?=some C) (hl:left≤65536) (ht:take≤65536) (hfb:fb c=(c*left == C*take)) (hs:ks.contains c=false) (hks:ks.length < 65536) (T:Told O c ((p+f+g) % 2)) (Q:Pair O left take C c ((p+f+g) % 2) (fb c)) :
  Tr (exB (ex O 4) gapNew) (Sub (setV (setV (gE n share left take cs (tel O C 0) (tel O C 1) (seenD fb ks) rw p f hd) 15 (.int g)) 16 (.int c))) (Sub (setV (setV (gE n share left take cs (tel O C 0) (tel O C 1) (seenD fb (ks++[c])) rw p f hd) 15 (.int g)) 16 (.int c))) 3:=by
 obtain ⟨nt,hT,okT⟩:=T
 have hlook:subD (seenD fb (ks++[c])) (.int c)=some (.bool (fb c)):=look_seen (List.contains_iff_mem.mpr (List.mem_append_right _ List.mem_cons_self))
 show Tr (exB (ex O 4) [_,_,_,_,_]) _ _ (0+(1+(0+(1+1))))
 refine tr_cons (tr_asg (y_bin (y_bin (y_bin (y_var rfl) (y_var rfl) (add_nn _ _)) (y_var rfl) (add_nn _ _)) y_int (fmod2 _)))
  (tr_cons (tr_asgN (y_call (yl (y_var (k:=16) rfl) (yl (y_var (k:=8) rfl) (yl (y_var (k:=3) rfl) yl0))) hT) (AllOk.one okT) (Nat.le_refl 1))
  (tr_cons (tr_seto (d:=.bool (fb c)) (y_cmp (y_bin (y_var rfl) (y_var rfl) (mul_ok (okI_le hl))) (y_bin (y_sub (y_var rfl) (y_var rfl) (sub_cs kN)) (y_var rfl) (mul_ok (okI_le ht))) ?_) rfl (y_var rfl) (set_seen hs hks))
  (tr_cons (tr_note (y_tup (yl (Q.eq.le ?_) (yl (y_bin (z:=.lst [.bool (fb c),.bool (fb c)]) (y_lst (yl (y_subo rfl (y_var rfl) hlook) yl0) (show 1≤65536 by decide)) y_int rfl) yl0)) (show 2≤65536 by decide)) rfl ?_)
  (tr_one (tr_ite (y_subo rfl (y_var rfl) hlook) rfl ?_)))))
 ·refine congrArg some (Eq.trans ?_ hfb.symm)
  exact decide_eq_decide.mpr ⟨int_inj _ _,congrArg _⟩
 ·exact Sub.add rfl (Sub.add rfl (Sub.add rfl (Sub.add rfl (Sub.add rfl (sub0 _)))))
 ·exact okN_lst rfl
 ·have w:Sub (setV (setV (gE n share left take cs (tel O C 0) (tel O C 1) (seenD fb (ks++[c])) rw p f hd) 15 (.int g)) 16 (.int c)) (setO (setV (setV (setV (setV (gE n share left take cs (tel O C 0) (tel O C 1) (seenD fb ks) rw p f hd) 15 (.int g)) 16 (.int c)) 8 (.int ((p+f+g) % 2:Nat))) 17 (tel O c ((p+f+g) % 2))) 10 (seenD fb (ks++[c]))):=by
   repeat (first | exact sub0 _ | refine Sub.add rfl ?_)
  cases hq:fb c with
  | true =>
   obtain ⟨d,hd,ok⟩:=Q.mul hq
   exact (tr_one (tr_note (hd.le (by repeat (first | exact sub0 _ | refine Sub.add rfl ?_))) rfl ok)).w (fun _=>id) fun _ s=>w.trans s
  | false=>exact fun r s=>⟨r,[],rfl,w.trans s,AllOk.nil,Nat.zero_le _⟩
theorem Tr.none {f:St→Rho→R2} {ρ σ:Rho} {k:Nat} (h:Sub σ ρ):Tr (exB f []) (Sub ρ) (Sub σ) k:=fun r s=>⟨r,[],rfl,h.trans s,AllOk.nil,Nat.zero_le _⟩
noncomputable def rowsTo (fb:Nat→Bool) (rw:List D) (p f g c:Nat):List D:=cond (fb c) (rw++[rowD ⟨f,p,g⟩]) rw
theorem gap_turn {x1 x2:Nat} (k1:cs[p+g+share]?=some x1) (k2:cs[p+g+f]?=some x2) (hcode:hd+x1=c+x2) (kN:cs[n]?=some C) (hl:left≤65536) (ht:take≤65536) (hfb:fb c=(c*left == C*take)) (hks:ks.length < 65536) (hrw:rw.length < 65536) (T:Told O c ((p+f+g) % 2)) (Q:Pair O left take C c ((p+f+g) % 2) (fb c)) :
  Tr (exB (ex O 5) gapSts) (Sub (setV (gE n share left take cs (tel O C 0) (tel O C 1) (seenD fb ks) rw p f hd) 15 (.int g))) (Sub (gE n share left take cs (tel O C 0) (tel O C 1) (seenD fb (addk ks c)) (rowsTo fb rw p f g c) p f hd)) 3:=by
 have hlook:subD (seenD fb (addk ks c)) (.int c)=some (.bool (fb c)):=look_seen (List.contains_iff_mem.mpr (mem_addk.mpr (.inr rfl)))
 show Tr (exB (ex O 5) [_,_,_]) _ _ (0+(3+0))
 refine tr_cons (R:=Sub (setV (setV (gE n share left take cs (tel O C 0) (tel O C 1) (seenD fb ks) rw p f hd) 15 (.int g)) 16 (.int c))) (tr_asg (y_bin (y_bin (y_var rfl) (y_sub (y_var rfl) (y_bin (y_bin (y_var rfl) (y_var rfl) (add_nn _ _)) (y_var rfl) (add_nn _ _)) (sub_cs k1)) rfl) (y_sub (y_var rfl) (y_bin (y_bin (y_var rfl) (y_var rfl) (add_nn _ _)) (y_var rfl) (add_nn _ _)) (sub_cs k2)) ?_))
  (tr_cons (R:=Sub (setV (setV (gE n share left take cs (tel O C 0) (tel O C 1) (seenD fb (addk ks c)) rw p f hd) 15 (.int g)) 16 (.int c))) ?_ (tr_one ?_))
 ·show some (D.int (hd+x1 - x2))=_
  rw [hcode,Int.add_sub_cancel]
 ·cases hs:ks.contains c with
  | true =>
   rw [show addk ks c=ks from if_pos hs]
   exact tr_ite (y_ino (y_var rfl) rfl (ino_seen.trans (congrArg some hs))) rfl (Tr.none Sub.refl)
  | false =>
   rw [show addk ks c=ks++[c] from if_neg (Bool.eq_false_iff.mp hs)]
   exact tr_ite (y_ino (y_var rfl) rfl (ino_seen.trans (congrArg some hs))) rfl (gap_new kN hl ht hfb hs hks T Q)
 ·unfold rowsTo
  cases hq:fb c with
  | true=>exact tr_ite (y_subo rfl (y_var rfl) (hq ▸ hlook)) rfl (tr_one ((tr_app (y_tup (yl (y_var rfl) (yl (y_var rfl) (yl (y_var rfl) yl0))) (show 3≤65536 by decide)) rfl hrw).w (fun _=>id) fun _ s=>Sub.trans (by repeat (first | exact sub0 _ | refine Sub.add rfl ?_)) s))
  | false=>exact tr_ite (y_subo rfl (y_var rfl) (hq ▸ hlook)) rfl (Tr.none (by repeat (first | exact sub0 _ | refine Sub.add rfl ?_)))
end
end
section
open Bw
theorem rangeD_eq (a:Nat):∀ k:Nat,rangeD (a:Int) k=(List.range' a k).map fun j:Nat=>.int j:=by
 intro k
 induction k generalizing a with
 | zero=>rfl
 | succ k ih=>exact congrArg (D.int a::·) (ih (a+1))
theorem rng0 (k:Nat):rangeD 0 k=(List.range k).map fun j:Nat=>.int j:=(rangeD_eq 0 k).trans (by rw [List.range_eq_range'])
theorem fb_eq {left take:Nat} {F f:Nat→Nat} (hf:∀ c ∈ RGB,f c*left < 100) (hF:∀ c ∈ RGB,F c*take < 100):(cd f*left == cd F*take)=fairF left take F f:=by
 have f1:=hf 114 (by decide +kernel)
 have f2:=hf 103 (by decide +kernel)
 have f3:=hf 98 (by decide +kernel)
 have g1:=hF 114 (by decide +kernel)
 have g2:=hF 103 (by decide +kernel)
 have g3:=hF 98 (by decide +kernel)
 have e1:cd f*left=10000*(f 114*left)+100*(f 103*left)+f 98*left:=by unfold cd; rw [Nat.add_mul,Nat.add_mul,Nat.mul_assoc,Nat.mul_assoc]
 have e2:cd F*take=10000*(F 114*take)+100*(F 103*take)+F 98*take:=by unfold cd; rw [Nat.add_mul,Nat.add_mul,Nat.mul_assoc,Nat.mul_assoc]
 rw [Bool.eq_iff_iff,beq_iff_eq,fairF_iff,e1,e2]
 exact ⟨fun q=>rgb (by lia) (by lia) (by lia),fun q=>by rw [q 114 (by decide +kernel),q 103 (by decide +kernel),q 98 (by decide +kernel)]⟩
structure Ring (c:Ce) (w:List Nat):Prop where
 hc:c ∈ ces
 rgb:∀ x ∈ w,x ∈ RGB
 n:w.length=c.n
 dv:∀ x ∈ RGB,c.left ∣ cn w x
noncomputable def Bw.Ce.share (c:Ce):Nat:=c.n*c.take / c.left
noncomputable def Bw.Ce.fine (c:Ce):Bool:=Nat.ble 1 c.n&&(Nat.ble c.n 12&&(Nat.ble c.left 4&&(Nat.ble c.take c.left&&Nat.ble (c.n*c.take / c.left) c.n)))
structure CeF (c:Ce):Prop where
 n1:1≤c.n
 n12:c.n≤12
 l4:c.left≤4
 tl:c.take≤c.left
 sh:c.share≤c.n
theorem ces_fine:ces.all Bw.Ce.fine=true:=by decide +kernel
theorem ce_f {c:Ce} (h:c ∈ ces):CeF c:=by
 obtain ⟨h1,h⟩:=ba (List.all_eq_true.mp ces_fine c h)
 obtain ⟨h2,h⟩:=ba h
 obtain ⟨h3,h⟩:=ba h
 obtain ⟨h4,h5⟩:=ba h
 exact ⟨Nat.le_of_ble_eq_true h1,Nat.le_of_ble_eq_true h2,Nat.le_of_ble_eq_true h3,Nat.le_of_ble_eq_true h4,Nat.le_of_ble_eq_true h5⟩
section
variable {b1:Int→Bool} {b3:Int→Option (List Nat)} {m:Nat} {c:Ce} {w:List Nat}
noncomputable def codeW (c:Ce) (w:List Nat) (t:T3):Nat:=cd (ft w c.share t)
noncomputable def fbW (c:Ce) (w:List Nat) (x:Nat):Bool:=x*c.left == cd (cn w)*c.take
noncomputable def gaps (c:Ce) (f:Nat):Nat:=if f < c.share then c.n - c.share+1 else 1
variable (R:Ring c w)
include R
theorem Ring.sum:cn w 114+(cn w 103+cn w 98)=c.n:=(cn_sum R.rgb).trans R.n
theorem Ring.le (x:Nat):cn w x≤12:=Nat.le_trans List.count_le_length (R.n ▸ (ce_f R.hc).n12)
theorem Ring.win {t:T3} (ht:t.f≤c.share) {i:Nat} (hi:i < 2):Told (oraN fns b1 b3 (m+2)) (codeW c w t) i∧Pair (oraN fns b1 b3 (m+2)) c.left c.take (cd (cn w)) (codeW c w t) i (fbW c w (codeW c w t)):=by
 have F:=ce_f R.hc
 have s:=ft_sum R.rgb (R.n.symm ▸ F.n1) (share:=c.share) ht
 have k:fbW c w (codeW c w t)=fairF c.left c.take (cn w) (ft w c.share t):=by
  have hs:c.share≤12:=Nat.le_trans F.sh F.n12
  refine fb_eq (fun x hx=>Nat.lt_of_le_of_lt (Nat.mul_le_mul (?_:_≤12) F.l4) (by decide)) fun x hx=>Nat.lt_of_le_of_lt (Nat.mul_le_mul (R.le x) (Nat.le_trans F.tl F.l4)) (by decide)
  revert x
  exact Mine.rgb (by lia) (by lia) (by lia)
 rw [k]
 exact ring_pair R.hc R.sum R.dv hi s
omit R in
theorem addk_len (ks:List Nat) (x:Nat):(addk ks x).length≤ks.length+1:=by
 unfold addk
 by_cases h:ks.contains x=true
 ·rw [if_pos h]; exact Nat.le_succ _
 ·rw [if_neg h,List.length_append]; exact Nat.le_refl _
noncomputable def keysG (c:Ce) (w:List Nat) (p f:Nat) (ks:List Nat) (j:Nat):List Nat:=(List.range j).foldl (fun ks g=>addk ks (codeW c w ⟨f,p,g⟩)) ks
noncomputable def rowsG (c:Ce) (w:List Nat) (p f:Nat) (rw:List D) (j:Nat):List D:=(List.range j).foldl (fun rw g=>rowsTo (fbW c w) rw p f g (codeW c w ⟨f,p,g⟩)) rw
omit R in
theorem keysG_s (p f:Nat) (ks:List Nat) (j:Nat):keysG c w p f ks (j+1)=addk (keysG c w p f ks j) (codeW c w ⟨f,p,j⟩):=by unfold keysG; rw [List.range_succ,List.foldl_append]; rfl
omit R in
theorem rowsG_s (p f:Nat) (rw:List D) (j:Nat):rowsG c w p f rw (j+1)=rowsTo (fbW c w) (rowsG c w p f rw j) p f j (codeW c w ⟨f,p,j⟩):=by unfold rowsG; rw [List.range_succ,List.foldl_append]; rfl
omit R in
theorem lenG (p f:Nat) (ks:List Nat) (rw:List D) (j:Nat):(keysG c w p f ks j).length≤ks.length+j∧(rowsG c w p f rw j).length≤rw.length+j:=by
 induction j with
 | zero=>exact ⟨Nat.le_refl _,Nat.le_refl _⟩
 | succ j ih =>
  rw [keysG_s,rowsG_s]
  refine ⟨Nat.le_trans (addk_len _ _) (Nat.succ_le_succ ih.1),?_⟩
  unfold rowsTo
  cases fbW c w (codeW c w ⟨f,p,j⟩)
  ·exact Nat.le_succ_of_le ih.2
  ·exact Nat.le_trans (Nat.le_of_eq List.length_append) (Nat.succ_le_succ ih.2)
noncomputable def gapX:X:=.ife (.cmp .Lt (.var 13) (.var 5)) (.bin .Add (.bin .Sub (.var 4) (.var 5)) (.int 1)) (.int 1)
noncomputable def gapFor:St:=.for_ (.name 15) (.rng1 gapX) gapSts
noncomputable abbrev rE (O:Ora) (c:Ce) (w:List Nat) (ks:List Nat) (rw:List D) (p f:Nat) (hd:Int):Rho:=gE c.n c.share c.left c.take (codesOf w) (tel O (cd (cn w)) 0) (tel O (cd (cn w)) 1) (seenD (fbW c w) ks) rw p f hd
noncomputable def headW (w:List Nat) (p f:Nat):Int:=(cd (cn ((w++w).take (p+f))):Int) - (cd (cn ((w++w).take p)):Int)
theorem gap_x {ρ:Rho} {O:Ora} {f:Nat} (h13:ρ 13=some (.val (.int f))) (h5:ρ 5=some (.val (.int c.share))) (h4:ρ 4=some (.val (.int c.n))):P O EF gapX ρ (.int (gaps c f)):=by
 have hs:=(ce_f R.hc).sh
 unfold gaps
 refine y_ife (q:=decide (f < c.share)) (y_cmp (y_var h13) (y_var h5) (congrArg some (decide_eq_decide.mpr Int.ofNat_lt))) rfl ?_
 by_cases h:f < c.share
 ·rw [if_pos h,if_pos (decide_eq_true h)]
  refine y_bin (y_bin (y_var h4) (y_var h5) (z:=.int (c.n - c.share:Nat)) ?_) y_int rfl
  show some (D.int ((c.n:Int) - c.share))=_
  rw [Int.ofNat_sub hs]
 ·rw [if_neg h,if_neg (by rw [decide_eq_false h]; exact Bool.false_ne_true)]
  exact y_int
theorem gap_loop {ks:List Nat} {rw:List D} {p f:Nat} (hp:p < c.n) (hf:f≤c.share) (hks:ks.length+13 < 65536) (hrw:rw.length+13 < 65536) :
  Tr (ex (oraN fns b1 b3 (m+2)) 6 gapFor) (Sub (rE (oraN fns b1 b3 (m+2)) c w ks rw p f (headW w p f))) (Sub (rE (oraN fns b1 b3 (m+2)) c w (keysG c w p f ks (gaps c f)) (rowsG c w p f rw (gaps c f)) p f (headW w p f))) (gaps c f*3):=by
 have F:=ce_f R.hc
 have hg:gaps c f≤13:=by
  unfold gaps
  split
  ·exact Nat.succ_le_succ (Nat.le_trans (Nat.sub_le _ _) F.n12)
  ·decide
 have hb:∀ j < gaps c f,p+j+c.share≤w.length+w.length:=fun j hj=>by
  rw [R.n]
  have:=F.sh
  unfold gaps at hj
  split at hj <;> lia
 have L:=tr_forS (O:=oraN fns b1 b3 (m+2)) (n:=5) (ρ:=rE (oraN fns b1 b3 (m+2)) c w ks rw p f (headW w p f)) (as:=List.range (gaps c f)) (v:=fun j:Nat=>.int j) (t:=.name 15) (i:=.rng1 gapX) (u:=gapSts)
  (σ:=fun j=>rE (oraN fns b1 b3 (m+2)) c w (keysG c w p f ks j) (rowsG c w p f rw j) p f (headW w p f)) (c:=3) ?_ Sub.refl fun j hj=>?_
 ·rw [List.length_range] at L
  exact L
 ·rw [← rng0]
  exact yi_rng1 (gap_x R rfl rfl rfl) ⟨okI_le (Nat.le_trans hg (by decide)),Int.ofNat_le.mpr (Nat.le_trans hg (show 13≤65536 by decide))⟩
 ·rw [List.length_range] at hj
  refine ⟨_,rfl,?_⟩
  rw [List.getElem_range,keysG_s,rowsG_s]
  have l:=lenG (c:=c) (w:=w) p f ks rw j
  have hj13:=Nat.le_trans (Nat.le_of_lt hj) hg
  obtain ⟨T,Q⟩:=R.win (b1:=b1) (b3:=b3) (m:=m) (t:=⟨f,p,j⟩) hf (Nat.mod_lt (p+f+j) (show 0 < 2 by decide))
  have e:=code_eq (w:=w) (share:=c.share) (f:=f) (p:=p) (g:=j) (Nat.le_trans (by lia) (hb j hj)) (hb j hj) hf
  exact gap_turn (codes_get (hb j hj)) (codes_get (Nat.le_trans (by lia) (hb j hj))) (by unfold headW codeW; lia) ((codes_get (R.n ▸ Nat.le_add_right _ _)).trans (congrArg (fun l=>some (cd (cn l))) (by rw [← R.n]; exact List.take_left))) (Nat.le_trans F.l4 (by decide)) (Nat.le_trans (Nat.le_trans F.tl F.l4) (by decide)) rfl
   (Nat.lt_of_le_of_lt (Nat.le_trans l.1 (Nat.add_le_add_left hj13 _)) hks) (Nat.lt_of_le_of_lt (Nat.le_trans l.2 (Nat.add_le_add_left hj13 _)) hrw) T Q
end
end
section
open Bw
noncomputable def headX:X:=.lc (.tup [(.var 20),(.bin .Sub (.sub (.var 7) (.bin .Add (.var 12) (.var 20))) (.sub (.var 7) (.var 12)))]) (.name 20) (.rng2 (.int 1) (.bin .Add (.var 5) (.int 1))) none [7,12]
noncomputable def firstFor:St:=.for_ (.tup [(.name 13),(.name 14)]) (.lsts headX) [gapFor]
noncomputable def placeFor:St:=.for_ (.name 12) (.rng1 (.var 4)) [firstFor]
noncomputable abbrev pE (O:Ora) (c:Ce) (w:List Nat) (ks:List Nat) (rw:List D):Rho:=feE c.n c.share c.left c.take (codesOf w) (tel O (cd (cn w)) 0) (tel O (cd (cn w)) 1) (seenD (fbW c w) ks) rw
noncomputable def dnat (d:D):Nat:=(dI d some).elim 0 Int.toNat
noncomputable def headD (w:List Nat) (p:Nat) (d:D):D:=.tup [d,.int (headW w p (dnat d))]
noncomputable def both (c:Ce) (w:List Nat) (p j:Nat) (a:List Nat × List D):List Nat × List D:=(List.range j).foldl (fun a j=>(keysG c w p (1+j) a.1 (gaps c (1+j)),rowsG c w p (1+j) a.2 (gaps c (1+j)))) a
theorem both_s (c:Ce) (w:List Nat) (p j:Nat) (a:List Nat × List D):both c w p (j+1) a=(keysG c w p (1+j) (both c w p j a).1 (gaps c (1+j)),rowsG c w p (1+j) (both c w p j a).2 (gaps c (1+j))):=by unfold both; rw [List.range_succ,List.foldl_append]; rfl
section
variable {b1:Int→Bool} {b3:Int→Option (List Nat)} {m:Nat} {c:Ce} {w:List Nat} (R:Ring c w)
include R
theorem Ring.gaps_le (f:Nat):gaps c f≤13:=by
 unfold gaps
 split
 ·exact Nat.succ_le_succ (Nat.le_trans (Nat.sub_le _ _) (ce_f R.hc).n12)
 ·decide
theorem both_len (p j:Nat) (a:List Nat × List D):(both c w p j a).1.length≤a.1.length+j*13∧(both c w p j a).2.length≤a.2.length+j*13:=by
 induction j with
 | zero=>exact ⟨Nat.le_refl _,Nat.le_refl _⟩
 | succ j ih =>
  rw [both_s]
  have l:=lenG (c:=c) (w:=w) p (1+j) (both c w p j a).1 (both c w p j a).2 (gaps c (1+j))
  have g:=R.gaps_le (1+j)
  exact ⟨Nat.le_trans l.1 (by lia),Nat.le_trans l.2 (by lia)⟩
theorem head_list {p:Nat} (hp:p < c.n) {ρ:Rho} {O:Ora} (h7:ρ 7=some (.val (.lst ((codesOf w).map fun c:Nat=>.int c)))) (h12:ρ 12=some (.val (.int p))) (h5:ρ 5=some (.val (.int c.share))):PI O EF (.lsts headX) ρ ((List.range c.share).map fun j=>.tup [.int (1+j:Nat),.int (headW w p (1+j))]):=by
 have F:=ce_f R.hc
 have e:rangeD 1 (((c.share:Int)+1) - 1).toNat=(List.range c.share).map fun j:Nat=>.int (1+j:Nat):=by
  rw [Int.add_sub_cancel]
  show rangeD ((1:Nat):Int) c.share=_
  rw [rangeD_eq,List.range'_eq_map_range,List.map_map]
  rfl
 have hs:=Nat.le_trans F.sh F.n12
 have p1:PI O 13 (.rng2 (.int 1) (.bin .Add (.var 5) (.int 1))) ρ ((List.range c.share).map fun j:Nat=>.int (1+j:Nat)):=e ▸ yi_rng2 y_int (y_bin (y_var h5) y_int rfl) ⟨by decide,okI_le (a:=c.share+1) (Nat.le_trans (Nat.succ_le_succ hs) (by decide)),by lia⟩
 have h:=y_lc (fs:=[7,12]) (k:=20) (f:=headD w p) p1 rfl (fun d hd=>by
  obtain ⟨j,hj,rfl⟩:=List.mem_map.mp hd
  have hj:=List.mem_range.mp hj
  have hb:p+(1+j)≤w.length+w.length:=by rw [R.n]; have:=F.sh; lia
  exact y_tup (yl (y_var (k:=20) rfl) (yl (y_bin (o:=.Sub) (z:=.int (headW w p (1+j))) (y_sub (y_var (k:=7) h7) (y_bin (y_var (k:=12) h12) (y_var (k:=20) rfl) (add_nn _ _)) (sub_cs (codes_get hb))) (y_sub (y_var (k:=7) h7) (y_var (k:=12) h12) (sub_cs (codes_get (Nat.le_trans (Nat.le_add_right _ _) hb)))) rfl) yl0)) (show 2≤65536 by decide)) (by rw [List.length_map,List.length_range]; exact Nat.le_trans hs (by decide))
 rw [List.map_map] at h
 exact yi_lsts h (List.all_eq_true.mpr fun d hd=>by obtain ⟨j,_,rfl⟩:=List.mem_map.mp hd; rfl)
theorem first_loop {a:List Nat × List D} {p:Nat} (hp:p < c.n) (h1:a.1.length+200 < 65536) (h2:a.2.length+200 < 65536) :
  Tr (ex (oraN fns b1 b3 (m+2)) 7 firstFor) (Sub (setV (pE (oraN fns b1 b3 (m+2)) c w a.1 a.2) 12 (.int p))) (Sub (pE (oraN fns b1 b3 (m+2)) c w (both c w p c.share a).1 (both c w p c.share a).2)) (c.share*39):=by
 have F:=ce_f R.hc
 have hs:=Nat.le_trans F.sh F.n12
 have L:=tr_forS (O:=oraN fns b1 b3 (m+2)) (n:=6) (ρ:=setV (pE (oraN fns b1 b3 (m+2)) c w a.1 a.2) 12 (.int p)) (as:=List.range c.share) (v:=fun j=>.tup [.int (1+j:Nat),.int (headW w p (1+j))]) (t:=.tup [.name 13,.name 14]) (i:=.lsts headX) (u:=[gapFor])
  (σ:=fun j=>setV (pE (oraN fns b1 b3 (m+2)) c w (both c w p j a).1 (both c w p j a).2) 12 (.int p)) (c:=39) (head_list R hp rfl rfl rfl) Sub.refl fun j hj=>?_
 ·rw [List.length_range] at L
  exact L.w (fun _=>id) fun _ s=>Sub.trans (by repeat (first | exact sub0 _ | refine Sub.add rfl ?_)) s
 ·rw [List.length_range] at hj
  refine ⟨_,rfl,?_⟩
  rw [List.getElem_range,both_s]
  have l:=both_len R p j a
  have g:=gap_loop R (b1:=b1) (b3:=b3) (m:=m) (ks:=(both c w p j a).1) (rw:=(both c w p j a).2) (f:=1+j) hp (by lia) (by lia) (by lia)
  intro r hr
  obtain ⟨r',ln,e,s,ok,hl⟩:=tr_one g r hr
  exact ⟨r',ln,e,Sub.trans (by repeat (first | exact sub0 _ | refine Sub.add rfl ?_)) s,ok,Nat.le_trans hl (Nat.mul_le_mul_right 3 (R.gaps_le _))⟩
noncomputable def allW (c:Ce) (w:List Nat) (q:Nat):List Nat × List D:=(List.range q).foldl (fun a p=>both c w p c.share a) ([],[])
omit R in
theorem allW_s (q:Nat):allW c w (q+1)=both c w q c.share (allW c w q):=by unfold allW; rw [List.range_succ,List.foldl_append]; rfl
theorem allW_len (q:Nat):(allW c w q).1.length≤q*156∧(allW c w q).2.length≤q*156:=by
 induction q with
 | zero=>exact ⟨Nat.le_refl _,Nat.le_refl _⟩
 | succ q ih =>
  rw [allW_s]
  have l:=both_len R q c.share (allW c w q)
  have s:=Nat.le_trans (ce_f R.hc).sh (ce_f R.hc).n12
  exact ⟨Nat.le_trans l.1 (by lia),Nat.le_trans l.2 (by lia)⟩
theorem place_loop:Tr (ex (oraN fns b1 b3 (m+2)) 8 placeFor) (Sub (pE (oraN fns b1 b3 (m+2)) c w [] [])) (Sub (pE (oraN fns b1 b3 (m+2)) c w (allW c w c.n).1 (allW c w c.n).2)) (c.n*(c.share*39)):=by
 have n12:=(ce_f R.hc).n12
 have L:=tr_forS (O:=oraN fns b1 b3 (m+2)) (n:=7) (ρ:=pE (oraN fns b1 b3 (m+2)) c w [] []) (as:=List.range c.n) (v:=fun j:Nat=>.int j) (t:=.name 12) (i:=.rng1 (.var 4)) (u:=[firstFor])
  (σ:=fun q=>pE (oraN fns b1 b3 (m+2)) c w (allW c w q).1 (allW c w q).2) (c:=c.share*39) (rng0 c.n ▸ yi_rng1 (y_var rfl) ⟨okI_le (Nat.le_trans n12 (by decide)),Int.ofNat_le.mpr (Nat.le_trans n12 (show 12≤65536 by decide))⟩) Sub.refl fun q hq=>?_
 ·rw [List.length_range] at L
  exact L
 ·rw [List.length_range] at hq
  refine ⟨_,rfl,?_⟩
  rw [List.getElem_range,allW_s]
  have l:=allW_len R q
  exact tr_one (first_loop R hq (by lia) (by lia))
end
end
section
open Bw
theorem fdiv_nat (a:Nat) {b:Nat} (hb:0 < b) (hb':b≤65536):binD .FloorDiv (.int a) (.int b)=some (.int (a / b:Nat)):=by
 show (if (((b:Int) == 0) || !okI b)=true then none else some (D.int ((a:Int).fdiv b)))=_
 rw [okI_le hb',beq_eq_false_iff_ne.mpr (fun q:(b:Int)=0=>Nat.ne_of_gt hb (Int.ofNat.inj q)),if_neg (show ¬ ((false || !true)=true) by decide),Int.fdiv_eq_ediv_of_nonneg _ (Int.natCast_nonneg b)]
 rfl
theorem len_str {u:List Nat} (h:u.length≤65536):biD .len [.str u]=some (.int u.length):=if_pos h
theorem add_str {u v:List Nat} (h:u.length+v.length≤65536):binD .Add (.str u) (.str v)=some (.str (u++v)):=if_pos (decide_eq_true h)
theorem take_rgb {u:List Nat} (h:∀ c ∈ u,c ∈ RGB) (k:Nat):∀ c ∈ u.take k,c ∈ RGB:=fun c hc=>h c (List.mem_of_mem_take hc)
theorem cn_take {u:List Nat} (h:∀ c ∈ u,c ∈ RGB) {k:Nat} (hk:k≤u.length):cn (u.take k) 114+(cn (u.take k) 103+cn (u.take k) 98)=k:=(cn_sum (take_rgb h k)).trans (List.length_take.trans (Nat.min_eq_left hk))
noncomputable def sI (k:Nat):List Nat:=(Str.ofString (toString (k:Int))).cps.toList
theorem d1_int {α:Type} (i:Int) (f:Int→Option α):(d1 [D.int i] fun d=>dI d f)=f i:=rfl
theorem str_nat {k:Nat} (h:k≤65536):biD .str [.int k]=some (.str (sI k)):=by
 have e:=okI_le h
 unfold biD
 rw [d1_int,if_pos e]
 rfl
noncomputable def H7 (O:Ora):Prop:=∀ ks f,Ks ks f→O.call 7 [Dk ks f]=some (.int (f 114+(f 103+f 98):Nat),[])
noncomputable def H11 (O:Ora):Prop:=∀ u:List Nat,(∀ c ∈ u,c ∈ RGB)→u.length≤1000→O.call 11 [.str u]=some (.lst (frs u),[])
noncomputable def tkD (k:Nat):D:=.tup [.int k,.str (sI k)]
noncomputable def noteX:X:=.lc (.tup [(.sub (.var 19) (.int 3)),(.bi .str [(.call 7 [(.sub (.var 19) (.int 4))])])]) (.name 19) (.val (.var 6)) none []
noncomputable def rngX:X:=.lc (.tup [(.var 20),(.bi .str [(.var 20)])]) (.name 20) (.rng1 (.bin .Add (.bin .Mult (.int 2) (.var 4)) (.int 1))) none []
section
variable {O:Ora} {u:List Nat} (hu:∀ c ∈ u,c ∈ RGB)
include hu
omit hu in
theorem y_lcM {α:Type} {v g:α→D} {as:List α} {ρ:Rho} {i:It} {n k:Nat} {fs:List Nat} {e:X} (p:PI O n i ρ (as.map v)) (hk:fs.contains k=false) (hl:as.length≤65536) (h:∀ a ∈ as,P O n e (setV (mask fs ρ) k (v a)) (g a)):P O (n+1) (.lc e (.name k) i none fs) ρ (.lst (as.map g)):=by
 have hn:mask fs ρ k=none:=by unfold mask; rw [hk]; rfl
 have t:∀ (ds:List α),(∀ j ∈ ds,j ∈ as)→∀ r,Sub (mask fs ρ) r→turns (.name k) (fun _=>some (true,[])) (ev O n e) (ds.map v) r=some (ds.map g,[]):=by
  intro ds
  induction ds with
  | nil=>exact fun _ _ _=>rfl
  | cons j ds ih =>
   intro hd r s
   exact bnd ((h j (hd j List.mem_cons_self)).le (s.set k _)) (bnd (ih (fun j hj=>hd j (List.mem_cons_of_mem _ hj)) _ (s.fresh _ hn)) rfl)
 exact bnd p (bnd (t as (fun _=>id) _ Sub.refl) (if_pos (by rw [List.length_map]; exact hl)))
omit hu in
theorem lc_frs {ρ:Rho} {i:It} {n k:Nat} {fs:List Nat} {e:X} {g:Nat→D} (p:PI O n i ρ (frs u)) (hk:fs.contains k=false) (hl:u.length≤1000) (h:∀ j≤u.length,P O n e (setV (mask fs ρ) k (fr (u.take j))) (g j)):P O (n+1) (.lc e (.name k) i none fs) ρ (.lst ((List.range (u.length+1)).map g)) :=
 y_lcM (v:=fun j=>fr (u.take j)) p hk (by rw [List.length_range]; exact Nat.le_trans (Nat.succ_le_succ hl) (by decide)) fun j hj=>h j (Nat.le_of_lt_succ (List.mem_range.mp hj))
theorem note_x (h7:H7 O) (hl:u.length≤1000) {ρ:Rho} (h6:ρ 6=some (.val (.lst (frs u)))):P O 13 noteX ρ (.lst ((List.range (u.length+1)).map tkD)) :=
 lc_frs (yi_val (y_var h6) rfl) rfl hl fun j hj=>by
  have e:(u.take j).length=j:=List.length_take.trans (Nat.min_eq_left hj)
  have c:=h7 _ _ (ks_of (take_rgb hu j))
  rw [cn_take hu hj] at c
  exact y_tup (yl (y_sub (y_var (k:=19) rfl) y_int (show _=some (D.int j) from congrArg (fun n:Nat=>some (D.int n)) e)) (yl (y_bi (yl (y_call (yl (y_sub (y_var (k:=19) rfl) y_int rfl) yl0) c) yl0) (str_nat (Nat.le_trans hj (Nat.le_trans hl (by decide))))) yl0)) (show 2≤65536 by decide)
theorem code_x (hl:u.length≤1000) {ρ:Rho} (h6:ρ 6=some (.val (.lst (frs u)))):P O 14 (.lc (.bin .Add (.bin .Add (.bin .Mult (.int 10000) (.sub (.var 19) (.int 0))) (.bin .Mult (.int 100) (.sub (.var 19) (.int 1)))) (.sub (.var 19) (.int 2))) (.name 19) (.val (.var 6)) none []) ρ (.lst ((List.range (u.length+1)).map fun k=>.int (cd (cn (u.take k))))) :=
 lc_frs (yi_val (y_var h6) rfl) rfl hl fun j hj=>y_bin (y_bin (y_bin y_int (y_sub (y_var (k:=19) rfl) y_int rfl) rfl) (y_bin y_int (y_sub (y_var (k:=19) rfl) y_int rfl) rfl) rfl) (y_sub (y_var (k:=19) rfl) y_int rfl) rfl
omit hu in
theorem rng_x {n:Nat} (hn:n≤500) {ρ:Rho} (h4:ρ 4=some (.val (.int n))):P O 13 rngX ρ (.lst ((List.range (n+n+1)).map tkD)):=by
 have p:PI O 12 (.rng1 (.bin .Add (.bin .Mult (.int 2) (.var 4)) (.int 1))) ρ ((List.range (n+n+1)).map fun j:Nat=>.int j):=by
  have q:=yi_rng1 (O:=O) (n:=12) (i:=(n+n+1:Nat)) (y_bin (o:=.Add) (d':=.int 1) (y_bin (o:=.Mult) y_int (y_var h4) (mul_ok (a:=2) (okI_le (Nat.le_trans hn (by decide))))) y_int (by rw [Nat.two_mul]; rfl)) ⟨okI_le (by lia),by lia⟩
  exact rng0 (n+n+1) ▸ q
 exact y_lcM p rfl (by rw [List.length_range]; lia) fun j hj=>y_tup (yl (y_var (k:=20) rfl) (yl (y_bi (yl (y_var (k:=20) rfl) yl0) (str_nat (by have:=List.mem_range.mp hj; lia))) yl0)) (show 2≤65536 by decide)
omit hu in
theorem own_x {ρ:Rho} {cs:List Nat} {n C:Nat} (h7:ρ 7=some (.val (.lst (cs.map fun c:Nat=>.int c)))) (h4:ρ 4=some (.val (.int n))) (h3:ρ 3=some (.val .notes)) (kN:cs[n]?=some C) (T0:Told O C 0) (T1:Told O C 1) :
  ∃ l,ev O 14 (.lc (.call 12 [(.sub (.var 7) (.var 4)),(.var 8),(.var 3)]) (.name 8) (.rng1 (.int 2)) none [7,3,4]) ρ=some (.lst [tel O C 0,tel O C 1],l)∧AllOk l∧l.length≤2:=by
 obtain ⟨n0,t0,ok0⟩:=T0
 obtain ⟨n1,t1,ok1⟩:=T1
 have e:∀ (r:Rho) (i:Nat) (nt:D),Sub (mask [7,3,4] ρ) r→O.call 12 [.int C,.int i,.notes]=some (tel O C i,[nt])→ev O 13 (.call 12 [(.sub (.var 7) (.var 4)),(.var 8),(.var 3)]) (setV r 8 (.int i))=some (tel O C i,[nt]):=fun r i nt s h =>
  have s:=s.fresh (k:=8) (.val (.int i)) rfl
  y_call (yl (y_sub (y_var (k:=7) (s 7 _ h7)) (y_var (k:=4) (s 4 _ h4)) (sub_cs kN)) (yl (y_var (k:=8) rfl) (yl (y_var (k:=3) (s 3 _ h3)) yl0))) h
 exact ⟨[n0,n1],(bnd (show turns (.name 8) (fun _=>some (true,[])) (ev O 13 _) [.int (0:Nat),.int (1:Nat)] _=some ([tel O C 0,tel O C 1],[n0,n1]) from bnd (e _ 0 n0 Sub.refl t0) (bnd (bnd (e _ 1 n1 (Sub.refl.fresh _ rfl) t1) (bnd rfl rfl)) rfl)) (if_pos (show 2≤65536 by decide))),(AllOk.one ok0).app (AllOk.one ok1),Nat.le_refl _⟩
end
end
section
open Bw
section
variable {b1:Int→Bool} {b3:Int→Option (List Nat)} {m:Nat} {c:Ce} {w:List Nat} (R:Ring c w)
include R
noncomputable def fpE (c:Ce) (w:List Nat):Rho:=setB (setB (setV (setV (setV (setV (setV (setV e0 1 (.int c.take)) 2 (.int c.left)) 3 .notes) 4 (.int c.n)) 5 (.int c.share)) 7 (.lst ((codesOf w).map fun c:Nat=>.int c))) 10 .free) 11 .free
theorem fair_tail:Rt (exB (ex (oraN fns b1 b3 (m+2)) 8) [.asg 9 (.lc (.call 12 [(.sub (.var 7) (.var 4)),(.var 8),(.var 3)]) (.name 8) (.rng1 (.int 2)) none [7,3,4]),.own2 10 11 .dct0 (.lst []),placeFor,.reto 11]) (Sub (fpE c w)) (.lst (allW c w c.n).2) (2+(0+(c.n*(c.share*39)+0))):=by
 have kN:(codesOf w)[c.n]?=some (cd (cn w)):=(codes_get (R.n ▸ Nat.le_add_right _ _)).trans (congrArg (fun l=>some (cd (cn l))) (by rw [← R.n]; exact List.take_left))
 have told:∀ i < 2,Told (oraN fns b1 b3 (m+2)) (cd (cn w)) i:=fun i hi=>ring_told R.hc R.sum R.dv hi
 obtain ⟨l,e,ok,h2⟩:=own_x (ρ:=fpE c w) rfl rfl rfl kN (told 0 (by decide)) (told 1 (by decide))
 exact rt_cons (tr_asgN e ok h2) (rt_cons (tr_own2 y_dct0 (y_lst yl0 (Nat.zero_le _)) rfl) (rt_cons ((place_loop R).w (fun r s=>Sub.trans (by repeat (first | exact sub0 _ | refine Sub.add rfl ?_)) s) (fun _=>id)) (rt_reto rfl)))
theorem run_fair (h7:H7 (oraN fns b1 b3 (m+2))) (h11:H11 (oraN fns b1 b3 (m+2))):∃ l,runFn (oraN fns b1 b3 (m+2)) f__law_fair [.str w,.int c.take,.int c.left,.notes]=some (.lst (allW c w c.n).2,l)∧AllOk l∧l.length≤0+(1+(0+(2+(0+(c.n*(c.share*39)+0))))):=by
 have F:=ce_f R.hc
 have i:=ce_i R.hc
 have hw:w.length≤12:=R.n ▸ F.n12
 have hl:w.length+w.length≤1000:=by lia
 have hu:∀ x ∈ w++w,x ∈ RGB:=fun x hx=>(List.mem_append.mp hx).elim (R.rgb x) (R.rgb x)
 have ul:(w++w).length=w.length+w.length:=List.length_append
 have kN:(codesOf w)[c.n]?=some (cd (cn w)):=(codes_get (R.n ▸ Nat.le_add_right _ _)).trans (congrArg (fun l=>some (cd (cn l))) (by rw [← R.n]; exact List.take_left))
 have told:∀ i < 2,Told (oraN fns b1 b3 (m+2)) (cd (cn w)) i:=fun i hi=>ring_told R.hc R.sum R.dv hi
 have nx:=fun (ρ:Rho)=>note_x (ρ:=ρ) (O:=oraN fns b1 b3 (m+2)) hu h7 (ul ▸ hl)
 have cx:=fun (ρ:Rho)=>code_x (ρ:=ρ) (O:=oraN fns b1 b3 (m+2)) hu (ul ▸ hl)
 have e6:(w++w).length+1=w.length+w.length+1:=congrArg (·+1) ul
 have e7:(List.range ((w++w).length+1)).map (fun k=>D.int (cd (cn ((w++w).take k))))=(codesOf w).map fun c:Nat=>.int c:=by unfold codesOf; rw [e6,List.map_map]; rfl
 refine run_fn (A:=Sub (setB (setB (setV (setV (setV (setV e0 0 (.str w)) 1 (.int c.take)) 2 (.int c.left)) 3 .notes) 10 .free) 11 .free)) rfl ?_ (by repeat (first | exact sub0 _ | refine Sub.add rfl ?_))
 refine rt_cons (tr_unp (y_tup (yl (y_bi (yl (y_var rfl) yl0) (len_str (Nat.le_trans hw (by decide)))) (yl (y_bin (y_bin (y_bi (yl (y_var rfl) yl0) (len_str (Nat.le_trans hw (by decide)))) (y_var rfl) (mul_ok (okI_le (Nat.le_trans (Nat.le_trans F.tl F.l4) (by decide))))) (y_var rfl) (fdiv_nat _ i.l (Nat.le_trans F.l4 (by decide)))) (yl (y_call (yl (y_bin (y_var rfl) (y_var rfl) (add_str (by lia))) yl0) (h11 _ hu (ul ▸ hl))) yl0))) (show 3≤65536 by decide)) rfl rfl)
  (rt_cons (tr_note (y_tup (yl (e6 ▸ nx _ rfl) (yl (rng_x (n:=w.length) (by lia) rfl) yl0)) (show 2≤65536 by decide)) rfl ?_)
  (rt_cons (tr_asg (e7 ▸ cx _ rfl)) ?_))
 ·exact okN_lst (List.all_eq_true.mpr fun d hd=>by
   obtain ⟨k,_,rfl⟩:=List.mem_map.mp hd
   rfl)
 ·exact (fair_tail R).w fun r s=>Sub.trans (by repeat (first | exact sub0 _ | refine Sub.add (by first | rfl | (rw [R.n]; rfl)) ?_)) s
end
end
section
open Bw
section
variable {c:Ce} {w:List Nat} {d:D}
theorem mem_rowsTo {fb:Nat→Bool} {rw:List D} {p f g x:Nat}:d ∈ rowsTo fb rw p f g x ↔ d ∈ rw ∨ (fb x=true∧d=rowD ⟨f,p,g⟩):=by
 unfold rowsTo
 cases h:fb x
 ·exact ⟨.inl,fun q=>q.elim id fun q=>absurd q.1 Bool.false_ne_true⟩
 ·exact List.mem_append.trans (or_congr Iff.rfl (List.mem_singleton.trans ⟨fun q=>⟨rfl,q⟩,fun q=>q.2⟩))
theorem mem_rowsG {p f:Nat} {rw:List D} (j:Nat):d ∈ rowsG c w p f rw j ↔ d ∈ rw ∨ ∃ g < j,fbW c w (codeW c w ⟨f,p,g⟩)=true∧d=rowD ⟨f,p,g⟩:=by
 induction j with
 | zero=>exact ⟨.inl,fun q=>q.elim id fun q=>absurd q.choose_spec.1 (Nat.not_lt_zero _)⟩
 | succ j ih =>
  rw [rowsG_s,mem_rowsTo,ih]
  exact ⟨fun q=>q.elim (fun q=>q.imp id fun q=>q.imp fun g q=>⟨Nat.lt_succ_of_lt q.1,q.2⟩) fun q=>.inr ⟨j,Nat.lt_succ_self j,q⟩,
   fun q=>q.elim (fun q=>.inl (.inl q)) fun q=>q.elim fun g q=>(Nat.lt_succ_iff_lt_or_eq.mp q.1).elim (fun h=>.inl (.inr ⟨g,h,q.2⟩)) fun h=>.inr (h ▸ q.2)⟩
theorem mem_both {p:Nat} {a:List Nat × List D} (j:Nat):d ∈ (both c w p j a).2 ↔ d ∈ a.2 ∨ ∃ f < j,∃ g < gaps c (1+f),fbW c w (codeW c w ⟨1+f,p,g⟩)=true∧d=rowD ⟨1+f,p,g⟩:=by
 induction j with
 | zero=>exact ⟨.inl,fun q=>q.elim id fun q=>absurd q.choose_spec.1 (Nat.not_lt_zero _)⟩
 | succ j ih =>
  rw [both_s]
  show d ∈ rowsG c w p (1+j) (both c w p j a).2 (gaps c (1+j)) ↔ _
  rw [mem_rowsG,ih]
  exact ⟨fun q=>q.elim (fun q=>q.imp id fun q=>q.imp fun f q=>⟨Nat.lt_succ_of_lt q.1,q.2⟩) fun q=>.inr ⟨j,Nat.lt_succ_self j,q⟩,
   fun q=>q.elim (fun q=>.inl (.inl q)) fun q=>q.elim fun f q=>(Nat.lt_succ_iff_lt_or_eq.mp q.1).elim (fun h=>.inl (.inr ⟨f,h,q.2⟩)) fun h=>.inr (h ▸ q.2)⟩
theorem mem_allW (q:Nat):d ∈ (allW c w q).2 ↔ ∃ p < q,∃ f < c.share,∃ g < gaps c (1+f),fbW c w (codeW c w ⟨1+f,p,g⟩)=true∧d=rowD ⟨1+f,p,g⟩:=by
 induction q with
 | zero=>exact ⟨fun q=>(nomatch q),fun q=>absurd q.choose_spec.1 (Nat.not_lt_zero _)⟩
 | succ q ih =>
  rw [allW_s,mem_both,ih]
  exact ⟨fun h=>h.elim (fun h=>h.imp fun p h=>⟨Nat.lt_succ_of_lt h.1,h.2⟩) fun h=>⟨q,Nat.lt_succ_self q,h⟩,
   fun h=>h.elim fun p h=>(Nat.lt_succ_iff_lt_or_eq.mp h.1).elim (fun e=>.inl ⟨p,e,h.2⟩) fun e=>.inr (e ▸ h.2)⟩
theorem gaps_eq (f:Nat):cond (Nat.blt f c.share) (c.n - c.share+1) 1=gaps c f:=by
 unfold gaps
 by_cases h:f < c.share
 ·rw [if_pos h,Nat.blt_eq.mpr h]; rfl
 ·rw [if_neg h,Bool.eq_false_iff.mpr fun q=>h (Nat.blt_eq.mp q)]; rfl
variable (R:Ring c w)
include R
theorem Ring.fair {t:T3} (ht:t.f≤c.share):fbW c w (codeW c w t)=true ↔ FairW w c.share c.left c.take t:=by
 have F:=ce_f R.hc
 have s:=ft_sum R.rgb (R.n.symm ▸ F.n1) (share:=c.share) ht
 have hs:c.share≤12:=Nat.le_trans F.sh F.n12
 have k:fbW c w (codeW c w t)=fairF c.left c.take (cn w) (ft w c.share t):=by
  refine fb_eq (fun x hx=>Nat.lt_of_le_of_lt (Nat.mul_le_mul (?_:_≤12) F.l4) (by decide)) fun x hx=>Nat.lt_of_le_of_lt (Nat.mul_le_mul (R.le x) (Nat.le_trans F.tl F.l4)) (by decide)
  revert x
  exact Mine.rgb (by lia) (by lia) (by lia)
 rw [k]
 exact fairF_iff
theorem row_iff:d ∈ (allW c w c.n).2 ↔ ∃ t,okT c.n c.share t=true∧FairW w c.share c.left c.take t∧d=rowD t:=by
 rw [mem_allW]
 constructor
 ·rintro ⟨p,hp,f,hf,g,hg,h1,h2⟩
  refine ⟨⟨1+f,p,g⟩,and_tt (Nat.ble_eq.mpr (Nat.le_add_right 1 f)) (and_tt (Nat.ble_eq.mpr (by show 1+f≤_; lia)) (and_tt (Nat.blt_eq.mpr hp) (Nat.blt_eq.mpr ((gaps_eq (1+f)).symm ▸ hg)))),(R.fair (t:=⟨1+f,p,g⟩) (by show 1+f≤_; lia)).mp h1,h2⟩
 ·rintro ⟨⟨f,p,g⟩,h,h1,h2⟩
  obtain ⟨k1,h⟩:=ba h
  obtain ⟨k2,h⟩:=ba h
  obtain ⟨k3,k4⟩:=ba h
  have k1:=Nat.le_of_ble_eq_true k1
  have k2:=Nat.le_of_ble_eq_true k2
  obtain ⟨e,rfl⟩:∃ e,f=1+e:=⟨f - 1,(Nat.add_sub_cancel' k1).symm⟩
  exact ⟨p,Nat.blt_eq.mp k3,e,by have:1+e≤c.share:=k2; lia,g,gaps_eq (c:=c) (1+e) ▸ Nat.blt_eq.mp k4,(R.fair k2).mpr h1,h2⟩
end
end
section
open Bw
section
variable {c:Ce} {w:List Nat} (R:Ring c w)
include R
theorem Ring.len:(w.map ix).length=c.n:=(List.length_map (as:=w) ix).trans R.n
theorem row_any:∃ t,okT c.n c.share t=true∧FairW w c.share c.left c.take t:=by
 obtain ⟨t,h1,h2⟩:=ring_any R.hc R.len (valid_ix R.rgb R.dv)
 exact ⟨t,h1,fair_ix R.rgb (R.n.symm ▸ h2)⟩
theorem row_half (h:2*c.take=c.left) (p:Nat) (hp:p < c.n):∃ f g,okT c.n c.share ⟨f,p,g⟩=true∧FairW w c.share c.left c.take ⟨f,p,g⟩:=by
 obtain ⟨f,g,h1,h2⟩:=ring_half R.hc R.len (valid_ix R.rgb R.dv) h p hp
 exact ⟨f,g,h1,fair_ix R.rgb (R.n.symm ▸ h2)⟩
theorem row_two (h:∃ x ∈ RGB,cn w x=0):∃ p < c.n,FairW w c.share c.left c.take ⟨c.share,p,0⟩:=by
 obtain ⟨x,hx,hz⟩:=h
 obtain ⟨p,h1,h2⟩:=ring_two R.hc R.len (valid_ix R.rgb R.dv) ⟨ix x,ix_lt x hx,(count_ix R.rgb (ix_lt x hx)).trans ((congrArg (cn w) (lt_ix x hx)).trans hz)⟩
 exact ⟨p,h1,fair_ix R.rgb (R.n.symm ▸ h2)⟩
end
end
section
open Bw
noncomputable def comp (t:T3) (k:Nat):Nat:=match k with
 | 0=>t.f
 | 1=>t.p
 | _+2=>t.g
theorem sub_row (t:T3):∀ k:Nat,k < 3→subD (rowD t) (.int k)=some (.int (comp t k)):=three rfl rfl rfl
noncomputable def cmpO:List (Nat × Int)→T3→T3→Option Int
 | [],_,_=>none
 | q::rest,a,b=>if comp a q.1 < comp b q.1 then some (-q.2) else if comp b q.1 < comp a q.1 then some q.2 else cmpO rest a b
theorem cmp_c (q:Nat × Int) (o:List (Nat × Int)) (a b:T3):cmpO (q::o) a b=if comp a q.1 < comp b q.1 then some (-q.2) else if comp b q.1 < comp a q.1 then some q.2 else cmpO o a b:=rfl
noncomputable def kD (q:Nat × Int):D:=.tup [.int q.1,.int q.2]
noncomputable def ordD (o:List (Nat × Int)):D:=.lst (o.map kD)
noncomputable def cmpSts:List St:=[.asg 5 (.sub (.var 1) (.var 3)),.asg 6 (.sub (.var 2) (.var 3)),.ite (.cmp .Lt (.var 5) (.var 6)) [.ret (.neg (.var 4))] [],.ite (.cmp .Gt (.var 5) (.var 6)) [.ret (.var 4)] []]
noncomputable def cmpE (s:D) (a b:T3):Rho:=setV (setV (setV e0 0 s) 1 (rowD a)) 2 (rowD b)
noncomputable def cmpL (s:D) (a b:T3) (q:Nat × Int):Rho:=setV (setV (cmpE s a b) 3 (.int q.1)) 4 (.int q.2)
noncomputable def flOf:Option Int→Fl
 | some v=>.ret (.int v)
 | none=>.next
section
variable {O:Ora} {s:D} {a b:T3}
theorem cmp_ret {q:Nat × Int} (h:q.1 < 3) (hv:comp a q.1 < comp b q.1 ∨ comp b q.1 < comp a q.1):Rt (exB (ex O 7) cmpSts) (Sub (cmpL s a b q)) (.int (if comp a q.1 < comp b q.1 then -q.2 else q.2)) 0:=by
 refine show Rt (exB (ex O 7) cmpSts) _ _ (0+(0+0)) from rt_cons (tr_asg (O:=O) (n:=6) (k:=5) (ρ:=cmpL s a b q) (y_sub (y_var (k:=1) rfl) (y_var (k:=3) rfl) (sub_row a q.1 h))) (rt_cons (tr_asg (k:=6) (y_sub (a:=.var 2) (d':=.int q.1) (y_var (k:=2) rfl) (y_var (k:=3) rfl) (sub_row b q.1 h))) ?_)
 by_cases p:comp a q.1 < comp b q.1
 ·rw [if_pos p]
  exact rt_ite (y_cmp (y_var (k:=5) rfl) (y_var (k:=6) rfl) rfl) (congrArg some (decide_eq_true (Int.ofNat_lt.mpr p))) (rt_ret (y_neg (y_var (k:=4) rfl)))
 ·rw [if_neg p]
  exact rt_cons (a:=0) (b:=0) (tr_ite (y_cmp (y_var (k:=5) rfl) (y_var (k:=6) rfl) rfl) (congrArg some (decide_eq_false fun q=>p (Int.ofNat_lt.mp q))) tr_nil)
   (rt_ite (y_cmp (y_var (k:=5) rfl) (y_var (k:=6) rfl) rfl) (congrArg some (decide_eq_true (Int.ofNat_lt.mpr (hv.resolve_left p)))) (rt_ret (y_var (k:=4) rfl)))
theorem cmp_next {q:Nat × Int} (h:q.1 < 3) (h1:¬ comp a q.1 < comp b q.1) (h2:¬ comp b q.1 < comp a q.1):Tr (exB (ex O 7) cmpSts) (Sub (cmpL s a b q)) (Sub (cmpL s a b q)) 0:=
 (tr_cons (tr_asg (O:=O) (n:=6) (k:=5) (ρ:=cmpL s a b q) (y_sub (y_var (k:=1) rfl) (y_var (k:=3) rfl) (sub_row a q.1 h))) (tr_cons (tr_asg (k:=6) (y_sub (a:=.var 2) (d':=.int q.1) (y_var (k:=2) rfl) (y_var (k:=3) rfl) (sub_row b q.1 h)))
  (tr_cons (a:=0) (tr_ite (y_cmp (y_var (k:=5) rfl) (y_var (k:=6) rfl) rfl) (congrArg some (decide_eq_false fun q=>h1 (Int.ofNat_lt.mp q))) tr_nil)
   (tr_one (tr_ite (y_cmp (y_var (k:=5) rfl) (y_var (k:=6) rfl) rfl) (congrArg some (decide_eq_false fun q=>h2 (Int.ofNat_lt.mp q))) tr_nil))))).w (fun _=>id) fun r s=>Sub.trans (Sub.fresh _ rfl (Sub.fresh _ rfl Sub.refl)) s
theorem cmp_loop (o:List (Nat × Int)) (h:∀ p ∈ o,p.1 < 3):∀ r,Sub (cmpE s a b) r→∃ r',forD (exB (ex O 7) cmpSts) (.tup [(.name 3),(.name 4)]) (o.map kD) r=some (flOf (cmpO o a b),r',[]):=by
 induction o with
 | nil=>exact fun r _=>⟨r,rfl⟩
 | cons q o ih =>
  intro r sr
  have hq:=h q List.mem_cons_self
  show ∃ r',forD _ _ (kD q::o.map kD) r=_
  have s1:Sub (cmpL s a b q) (setV (setV r 3 (.int q.1)) 4 (.int q.2)):=(sr.set 3 _).set 4 _
  by_cases e:comp a q.1 < comp b q.1 ∨ comp b q.1 < comp a q.1
  ·obtain ⟨r',l,h1,_,h3⟩:=cmp_ret (O:=O) hq e _ s1
   cases List.eq_nil_of_length_eq_zero (Nat.le_zero.mp h3)
   refine ⟨r',bn1 h1 ?_⟩
   rw [cmp_c]
   by_cases p:comp a q.1 < comp b q.1
   ·rw [if_pos p,if_pos p]; rfl
   ·rw [if_neg p,if_neg p,if_pos (e.resolve_left p)]; rfl
  ·have n1:¬ comp a q.1 < comp b q.1:=fun p=>e (.inl p)
   have n2:¬ comp b q.1 < comp a q.1:=fun p=>e (.inr p)
   obtain ⟨r1,l,h1,s2,_,h3⟩:=cmp_next (O:=O) hq n1 n2 _ s1
   cases List.eq_nil_of_length_eq_zero (Nat.le_zero.mp h3)
   obtain ⟨r',i⟩:=ih (fun p hp=>h p (List.mem_cons_of_mem _ hp)) r1 (Sub.trans (show Sub (cmpE s a b) (cmpL s a b q) from Sub.fresh _ rfl (Sub.fresh _ rfl Sub.refl)) s2)
   refine ⟨r',bn1 h1 (bn1 i ?_)⟩
   rw [cmp_c,if_neg n1,if_neg n2]; rfl
end
theorem y_attr {O:Ora} {n:Nat} {a:X} {r:Rho} {d:D} (p:P O n a r (.cmp d)):P O (n+1) (.attr a) r d:=bnd p rfl
theorem run_cmp {O:Ora} {o:List (Nat × Int)} {a b:T3} (h:∀ p ∈ o,p.1 < 3):runFn O f_compare [.cmp (ordD o),rowD a,rowD b]=some (.int ((cmpO o a b).getD 0),[]):=by
 obtain ⟨r',c⟩:=cmp_loop (O:=O) (s:=.cmp (ordD o)) (a:=a) (b:=b) o h (entry [.cmp (ordD o),rowD a,rowD b]) (by repeat (first | exact sub0 _ | refine Sub.add rfl ?_))
 have h0:P O 14 (.attr (.var 0)) (entry [.cmp (ordD o),rowD a,rowD b]) (ordD o):=y_attr (y_var rfl)
 have hi:PI O EF (.lsts (.attr (.var 0))) (entry [.cmp (ordD o),rowD a,rowD b]) (o.map kD):=yi_lsts h0 (List.all_eq_true.mpr fun d hd=>by obtain ⟨q,_,rfl⟩:=List.mem_map.mp hd; rfl)
 have f:ex O 8 (.for_ (.tup [(.name 3),(.name 4)]) (.lsts (.attr (.var 0))) cmpSts) (entry [.cmp (ordD o),rowD a,rowD b])=some (flOf (cmpO o a b),r',[]):=bnd hi (bn1 c rfl)
 have g:exB (ex O 8) f_compare.body (entry [.cmp (ordD o),rowD a,rowD b])=some (.ret (.int ((cmpO o a b).getD 0)),r',[]):=by
  revert f
  cases cmpO o a b <;> exact fun f=>bn1 f rfl
 exact (if_pos rfl).trans (bn1 g rfl)
noncomputable def sgn (z:Int):Int:=b2i (decide (z > 0)) - b2i (decide (z < 0))
theorem sgn_pos {z:Int} (h:0 < z):sgn z=1:=by unfold sgn; rw [decide_eq_true h,decide_eq_false (Int.lt_asymm h)]; rfl
theorem sgn_neg {z:Int} (h:z < 0):sgn z=-1:=by unfold sgn; rw [decide_eq_true h,decide_eq_false (Int.lt_asymm h)]; rfl
noncomputable def gpX (q:Nat × Int) (a b:T3):Int:=q.2*((comp a q.1:Int) - comp b q.1)
theorem cmp_turn {q:Nat × Int} {o:List (Nat × Int)} {a b:T3} {M z:Int} (hd:q.2=1 ∨ q.2=-1) (hM:0 < M) (hz:-M < z) (hz':z < M) (h:(cmpO o a b).getD 0=sgn z):(cmpO (q::o) a b).getD 0=sgn (gpX q a b*M+z):=by
 have pos:∀ x:Int,0 < x→sgn (x*M+z)=1:=fun x hx=>sgn_pos (by have:=Int.mul_le_mul_of_nonneg_right (show 1≤x from hx) (Int.le_of_lt hM); lia)
 have neg:∀ x:Int,x < 0→sgn (x*M+z)=-1:=fun x hx=>sgn_neg (by have:=Int.mul_le_mul_of_nonneg_right (show x≤-1 by lia) (Int.le_of_lt hM); lia)
 rw [cmp_c]
 unfold gpX
 by_cases p:comp a q.1 < comp b q.1
 ·rw [if_pos p]
  rcases hd with e | e <;> rw [e]
  ·exact (neg _ (by lia)).symm
  ·exact (pos _ (by lia)).symm
 ·rw [if_neg p]
  by_cases p':comp b q.1 < comp a q.1
  ·rw [if_pos p']
   rcases hd with e | e <;> rw [e]
   ·exact (pos _ (by lia)).symm
   ·exact (neg _ (by lia)).symm
  ·rw [if_neg p',h,Nat.le_antisymm (Nat.not_lt.mp p') (Nat.not_lt.mp p),Int.sub_self,Int.mul_zero,Int.zero_mul,Int.zero_add]
noncomputable def gapO (q0 q1 q2:Nat × Int) (a b:T3):Int:=gpX q0 a b*10000+(gpX q1 a b*100+(gpX q2 a b*1+0))
theorem gpX_le {q:Nat × Int} {a b:T3} (hd:q.2=1 ∨ q.2=-1) (ha:comp a q.1≤12) (hb:comp b q.1≤12):-12≤gpX q a b∧gpX q a b≤12:=by
 unfold gpX
 rcases hd with e | e <;> rw [e] <;> exact ⟨by lia,by lia⟩
theorem gap_sign {q0 q1 q2:Nat × Int} {a b:T3} (h0:q0.2=1 ∨ q0.2=-1) (h1:q1.2=1 ∨ q1.2=-1) (h2:q2.2=1 ∨ q2.2=-1) (ha:∀ k,comp a k≤12) (hb:∀ k,comp b k≤12):(cmpO [q0,q1,q2] a b).getD 0=sgn (gapO q0 q1 q2 a b):=by
 have b1:=gpX_le h1 (ha q1.1) (hb q1.1)
 have b2:=gpX_le h2 (ha q2.1) (hb q2.1)
 exact cmp_turn h0 (by decide) (by lia) (by lia) (cmp_turn h1 (by decide) (by lia) (by lia) (cmp_turn h2 (by decide) (by decide) (by decide) rfl))
theorem gap_swap (q0 q1 q2:Nat × Int) (a b:T3):gapO q0 q1 q2 b a=- gapO q0 q1 q2 a b:=by
 have:∀ q,gpX q b a=- gpX q a b:=fun q=>by unfold gpX; rw [← Int.neg_sub,Int.mul_neg]
 unfold gapO
 rw [this,this,this]
 lia
theorem sgn_swap (z:Int):sgn (-z)=- sgn z:=by
 unfold sgn
 rw [show decide (-z > 0)=decide (z < 0) from decide_eq_decide.mpr (by lia),show decide (-z < 0)=decide (z > 0) from decide_eq_decide.mpr (by lia)]
 exact (Int.neg_sub _ _).symm
end
section
noncomputable def tabS:Option Stmt:=pw.main.body[17]?
noncomputable def oAssign {α:Type} (s:Stmt) (d:α) (k:List Expr→Expr→Pos→α):α:=if h:s.ctorIdx=5 then Stmt.Assign.elim s h k else d
noncomputable def oDict {α:Type} (e:Expr) (d:α) (k:List (Option Expr)→List Expr→Pos→α):α:=if h:e.ctorIdx=6 then Expr.Dict.elim e h k else d
noncomputable def tabOn {α:Type} (d:α) (k:List (Option Expr)→List Expr→Pos→α):α:=tabS.elim d fun s=>oAssign s d fun _ v _=>oDict v d k
noncomputable def tabKs:List (Option Expr):=tabOn [] fun ks _ _=>ks
noncomputable def tabVs:List Expr:=tabOn [] fun _ vs _=>vs
noncomputable def oConst {α:Type} (e:Expr) (k:Const→Option α):Option α:=if h:e.ctorIdx=19 then Expr.Constant.elim e h fun c _ _=>k c else none
noncomputable def cInt (e:Expr):Option Int:=oConst e fun c=>if h:c.ctorIdx=2 then Const.int.elim c h some else none
noncomputable def cStr (e:Expr):Option Str:=oConst e fun c=>if h:c.ctorIdx=5 then Const.str.elim c h some else none
noncomputable def tabOf:List (Option Expr)→List Expr→Option (List (Int × Str))
 | [],[]=>some []
 | k::ks,v::vs=>(k.bind cInt).bind fun i=>(cStr v).bind fun x=>(tabOf ks vs).map ((i,x)::·)
 | _,_=>none
noncomputable def tabL:List (Int × Str):=(tabOf tabKs tabVs).getD []
noncomputable def b3T (i:Int):Option (List Nat):=(tabL.lookup i).map fun s=>s.cps.toList
noncomputable def unN:List Nat:=[173,847,6150,6155,6156,6157,8203,8204,8205,8288,65279]
noncomputable def b1L:List Int:=[173,847,6150,6155,6156,6157,8203,8204,8205,8288,65279]
noncomputable def b1T (i:Int):Bool:=b1L.contains i || (decide (65024≤i)&&decide (i < 65040))
noncomputable def unL:List Nat:=unN++(List.range 16).map (65024+·)
noncomputable def baseN:List Nat:=[97,65,119808,119860,119912,120016,120172,120224,120276,120328,120380,120432]
noncomputable def otherN:List (List Nat):=[[8475,8476,8477],[119970,120074,120126],[8492,120069,120121]]
noncomputable def numsD (l:List Nat):D:=.lst (l.map fun u:Nat=>.int u)
noncomputable def tyOf (c k:Nat):Nat:=cond (Nat.beq c 13191) c (cond (Nat.blt k 12) (baseN.getD k 0+c - 97) ((otherN.getD (ix c) []).getD (k - 12) 0))
noncomputable def ex1 (c:Nat):List Nat:=cond (Nat.beq c 13191) [103,98] [c]
noncomputable def mapB (c:Nat):List Nat:=(b3T c).elim (Txt.lower (S [c])).cps.toList id
noncomputable def allC:List Nat:=[114,103,98,13191]
theorem un_ok:(unL.all fun u=>b1T u&&Nat.blt u 1114112)=true:=by decide +kernel
theorem ty_ok:(allC.all fun c=>(List.range 15).all fun k=>!b1T (tyOf c k)&&(mapB (tyOf c k) == ex1 c))=true:=by decide +kernel
section
variable {O:Ora}
theorem y_inset {n:Nat} {a:X} {r:Rho} {i:Int} (p:P O n a r (.int i)):P O (n+1) (.inset a) r (.bool (O.b1 i)):=bnd p rfl
theorem y_b3 {n:Nat} {a:X} {r:Rho} {i:Int} (p:P O n a r (.int i)):P O (n+1) (.b3 a) r ((O.b3 i).elim .none .str):=bnd p (by
 show some (_,_)=some (_,_)
 cases O.b3 i <;> rfl)
theorem ord_x (n:Nat) (c:Nat):P O (n+2) (.bi .ord [(.var 0)]) (setV e0 0 (.str [c])) (.int c):=y_bi (yl (y_var rfl) yl0) rfl
theorem run_b1 (hb:O.b1=b1T) (c:Nat):runFn O f_in_table_b1 [.str [c]]=some (.bool (b1T c),[]) :=
 hb ▸ run_fn0 (A:=Sub (setV e0 0 (.str [c]))) rfl (rt_ret (y_inset (ord_x 11 c))) (Sub.add rfl (sub0 _))
theorem run_b3 (hb:O.b3=b3T) (c:Nat):runFn O f_map_table_b3 [.str [c]]=some (.str (mapB c),[]):=by
 have e:P O 14 (.b3 (.bi .ord [(.var 0)])) (setV e0 0 (.str [c])) ((b3T c).elim .none .str):=hb ▸ y_b3 (ord_x 11 c)
 refine run_fn0 (A:=Sub (setV e0 0 (.str [c]))) rfl (show Rt _ _ _ (0+(0+0)) from rt_cons (tr_asg e) ?_) (Sub.add rfl (sub0 _))
 unfold mapB
 cases b3T c with
 | some t=>exact rt_ite (y_cmp (o:=.IsNot) (y_var (k:=1) rfl) rfl rfl) rfl (rt_ret (y_var (k:=1) rfl))
 | none=>exact rt_cons (a:=0) (tr_ite (y_cmp (o:=.IsNot) (y_var (k:=1) rfl) rfl rfl) rfl tr_nil) (rt_ret (y_mth (y_var (k:=0) rfl) yl0 rfl))
end
noncomputable def uAt (sN p:Nat):Nat:=unL.getD ((sN / 2+10*p) % 27) 0
noncomputable def tAt (sN p c:Nat):Nat:=tyOf c ((sN / 54+4*p) % 15)
noncomputable def typC (sN:Nat) (cs:List Nat):Nat→List Nat
 | 0=>[]
 | j+1=>typC sN cs j++[uAt sN j,tAt sN j (cs.getD j 0)]
noncomputable def ch (c:Nat):D:=.str [c]
noncomputable def chs (l:List Nat):D:=.lst (l.map ch)
theorem all_nat {n:Nat} {p:Nat→Bool} (h:(List.range n).all p=true) {k:Nat} (hk:k < n):p k=true:=List.all_eq_true.mp h k (List.mem_range.mpr hk)
theorem getD_mem {l:List Nat} {k:Nat} (h:k < l.length):l.getD k 0 ∈ l:=by
 rw [List.getD_eq_getElem?_getD,List.getElem?_eq_getElem h]
 exact List.getElem_mem h
theorem u_ok (sN p:Nat):b1T (uAt sN p)=true∧uAt sN p < 1114112:=by
 have q:=ba (List.all_eq_true.mp un_ok (uAt sN p) (getD_mem (l:=unL) (Nat.mod_lt _ (by decide))))
 exact ⟨q.1,Nat.le_of_ble_eq_true q.2⟩
theorem t_ok (sN p:Nat) {c:Nat} (h:c ∈ allC):b1T (tAt sN p c)=false∧mapB (tAt sN p c)=ex1 c:=by
 have q:=ba (all_nat (List.all_eq_true.mp ty_ok c h) (Nat.mod_lt (sN / 54+4*p) (show 0 < 15 by decide)))
 exact ⟨Bool.not_inj q.1,eq_of_beq q.2⟩
noncomputable def signX:X:=.bi .chr [(.bin .Sub (.bin .Add (.sub (.var 3) (.var 8)) (.bi .ord [(.var 7)])) (.int 97))]
noncomputable def signY:X:=.bi .chr [(.sub (.sub (.var 4) (.mth .index (.str [114,103,98]) [(.var 7)])) (.bin .Sub (.var 8) (.int 12)))]
noncomputable def otherD:D:=.lst (otherN.map numsD)
noncomputable def sgE (c k:Nat):Rho:=setV (setV (setV (setV e0 3 (numsD baseN)) 4 otherD) 7 (ch c)) 8 (.int k)
noncomputable def isC (o:R1) (t:Nat):Bool:=o.elim false fun p=>p.2.isEmpty&&(dS p.1 fun l=>some (l == [t])) == some true
theorem isC_i {o:R1} {t:Nat} (h:isC o t=true):o=some (ch t,[]):=by
 cases o with
 | none=>cases h
 | some p =>
  obtain ⟨h1,h2⟩:=ba (show (p.2.isEmpty&&(dS p.1 fun l=>some (l == [t])) == some true)=true from h)
  obtain ⟨l,e,h3⟩:=onS_i (eq_of_beq h2)
  rw [eq_of_beq (Option.some.inj h3)] at e
  exact congrArg some (Prod.ext e (List.isEmpty_iff.mp h1))
theorem sign_chk (O:Ora):(RGB.all fun c=>(List.range 15).all fun k=>isC (ev O 14 (cond (Nat.blt k 12) signX signY) (sgE c k)) (tyOf c k))=true:=by kernel_rfl
noncomputable def typSts:List St:=[.app 5 (.bi .chr [(.sub (.var 2) (.bin .Mod (.bin .Add (.bin .FloorDiv (.var 1) (.int 2)) (.bin .Mult (.int 10) (.var 6))) (.int 27)))]),
   .asg 8 (.bin .Mod (.bin .Add (.bin .FloorDiv (.var 1) (.int 54)) (.bin .Mult (.int 4) (.var 6))) (.int 15)),
   .ite (.and (.cmp .In (.var 7) (.str [114,103,98])) (.cmp .Lt (.var 8) (.int 12))) [.asg 7 signX] [.ite (.cmp .In (.var 7) (.str [114,103,98])) [.asg 7 signY] []],
   .app 5 (.var 7)]
noncomputable def typE (sN:Nat) (l:List Nat):Rho:=setO (setV (setV (setV (setV e0 1 (.int sN)) 2 (numsD unL)) 3 (numsD baseN)) 4 otherD) 5 (chs l)
noncomputable def typR (sN:Nat) (l:List Nat) (p c k:Nat):Rho:=setV (setV (setV (typE sN l) 6 (.int p)) 7 (ch c)) 8 (.int k)
noncomputable def signS:St:=.ite (.and (.cmp .In (.var 7) (.str [114,103,98])) (.cmp .Lt (.var 8) (.int 12))) [.asg 7 signX] [.ite (.cmp .In (.var 7) (.str [114,103,98])) [.asg 7 signY] []]
theorem chr_in:∀ c ∈ RGB,cmpD .In (ch c) (.str [114,103,98])=some true:=rgb (by kernel_rfl) (by kernel_rfl) (by kernel_rfl)
theorem cmp_lt (a b:Nat):cmpD .Lt (.int a) (.int b)=some (Nat.blt a b):=congrArg some (by
 refine (Bool.eq_iff_iff.mpr ⟨fun h=>Nat.blt_eq.mpr (Int.ofNat_lt.mp (of_decide_eq_true h)),fun h=>decide_eq_true (Int.ofNat_lt.mpr (Nat.blt_eq.mp h))⟩))
section
variable {O:Ora} {sN p c k:Nat} {l:List Nat}
theorem sign_tr (hc:c ∈ allC) (hk:k < 15):Tr (ex O 7 signS) (Sub (typR sN l p c k)) (Sub (setV (typR sN l p c k) 7 (ch (tyOf c k)))) 0:=by
 rcases List.mem_append.mp (show c ∈ RGB++[13191] from hc) with h | h
 ·have e:=isC_i (all_nat (List.all_eq_true.mp (sign_chk O) c h) hk)
  have e:P O 14 (cond (Nat.blt k 12) signX signY) (typR sN l p c k) (ch (tyOf c k)):=(show P O 14 _ (sgE c k) _ from e).le (by repeat (first | exact sub0 _ | refine Sub.add rfl ?_))
  have t:=y_and (y_cmp (O:=O) (n:=12) (r:=typR sN l p c k) (y_var (k:=7) rfl) y_str (chr_in c h)) fun _=>y_cmp (y_var (k:=8) rfl) y_int (cmp_lt k 12)
  cases q:Nat.blt k 12 <;> rw [q] at e t
  ·exact tr_ite t rfl (tr_one (tr_ite (y_cmp (y_var (k:=7) rfl) y_str (chr_in c h)) rfl (tr_one (tr_asg e))))
  ·exact tr_ite t rfl (tr_one (tr_asg e))
 ·cases List.mem_singleton.mp h
  have n:cmpD .In (ch 13191) (.str [114,103,98])=some false:=by kernel_rfl
  exact (tr_ite (y_and (q':=true) (y_cmp (y_var (k:=7) rfl) y_str n) nofun) rfl (tr_one (tr_ite (y_cmp (y_var (k:=7) rfl) y_str n) rfl tr_nil))).w (fun _=>id) fun r s=>Sub.trans (by
   repeat (first | exact sub0 _ | refine Sub.add rfl ?_)) s
end
end
section
theorem fmod_nat (a:Nat) {b:Nat} (hb:0 < b):binD .Mod (.int a) (.int b)=some (.int (a % b:Nat)):=by
 show (if ((b:Int) == 0)=true then none else some (D.int ((a:Int).fmod b)))=_
 rw [if_neg (show ¬ ((b:Int) == 0)=true from fun q=>Nat.ne_of_gt hb (Int.ofNat.inj (eq_of_beq q))),Int.fmod_eq_emod_of_nonneg _ (Int.natCast_nonneg b)]
 rfl
theorem chs_app (l l':List Nat):chs (l++l')=.lst (l.map ch++l'.map ch):=congrArg D.lst List.map_append
theorem get_getD {l:List Nat} {k:Nat} (h:k < l.length):l[k]?=some (l.getD k 0):=by
 rw [List.getD_eq_getElem?_getD,List.getElem?_eq_getElem h]
 rfl
theorem chr_ok {u:Nat} (h:u < 1114112):biD .chr [.int u]=some (ch u):=by
 show d1 [D.int u] (fun d=>dI d fun i=>if 0≤i∧i < 1114112 then some (D.str [i.toNat]) else none)=_
 rw [d1_int]
 have hc:(0:Int)≤u∧(u:Int) < 1114112:=⟨Int.natCast_nonneg u,Int.ofNat_lt.mpr h⟩
 rw [if_pos hc]
 rfl
section
variable {O:Ora} {sN p c k u:Nat} {l:List Nat}
theorem tr_appC {ρ:Rho} {n:Nat} {x:X} (q:P O EF x ρ (ch u)) (h:ρ k=some (.own (chs l))) (h':l.length < 65536):Tr (ex O (n+1) (.app k x)) (Sub ρ) (Sub (setO ρ k (chs (l++[u])))) 0 :=
 chs_app l [u] ▸ tr_app q h ((List.length_map (as:=l) ch).symm ▸ h')
theorem alph {a m n:Nat} {ρ:Rho} (hp:p≤65536) (h1:ρ 1=some (.val (.int sN))) (h6:ρ 6=some (.val (.int p))) (ha:0 < a) (ha':a≤65536) (hn:0 < n):P O 12 (.bin .Mod (.bin .Add (.bin .FloorDiv (.var 1) (.int a)) (.bin .Mult (.int m) (.var 6))) (.int n)) ρ (.int ((sN / a+m*p) % n:Nat)) :=
 y_bin (y_bin (y_bin (y_var h1) y_int (fdiv_nat sN ha ha')) (y_bin y_int (y_var h6) (mul_ok (okI_le hp))) rfl) y_int (fmod_nat _ hn)
theorem typ_turn (hc:c ∈ allC) (hp:p≤1000) (hl:l.length≤60000):Tr (exB (ex O 7) typSts) (Sub (setV (setV (typE sN l) 6 (.int p)) 7 (ch c))) (Sub (typE sN (l++[uAt sN p,tAt sN p c]))) 0:=by
 have hp':p≤65536:=Nat.le_trans hp (by decide)
 have s:subD (numsD unL) (.int ((sN / 2+10*p) % 27:Nat))=some (.int (uAt sN p)):=sub_cs (get_getD (Nat.mod_lt _ (by decide)))
 have e:l++[uAt sN p]++[tAt sN p c]=l++[uAt sN p,tAt sN p c]:=List.append_assoc ..
 refine e ▸ (show Tr (exB (ex O 7) typSts) _ _ (0+(0+(0+(0+0)))) from ?_)
 refine tr_cons (tr_appC (y_bi (yl (y_sub (y_var (k:=2) rfl) (alph hp' rfl rfl (by decide) (by decide) (by decide)) s) yl0) (chr_ok (u_ok sN p).2)) rfl (by lia)) ?_
 refine tr_cons (tr_asg (y_bin (y_bin (y_bin (y_var (k:=1) rfl) y_int (fdiv_nat sN (b:=54) (by decide) (by decide))) (y_bin y_int (y_var (k:=6) rfl) (mul_ok (a:=4) (okI_le hp'))) rfl) y_int (fmod_nat _ (b:=15) (by decide)))) ?_
 refine tr_cons ((sign_tr (sN:=sN) (l:=l++[uAt sN p]) (p:=p) hc (Nat.mod_lt (sN / 54+4*p) (by decide))).w (fun r s=>Sub.trans (by repeat (first | exact sub0 _ | refine Sub.add rfl ?_)) s) fun _=>id) ?_
 exact tr_one ((tr_appC (y_var (k:=7) rfl) rfl (by rw [List.length_append]; exact Nat.lt_of_le_of_lt (Nat.succ_le_succ hl) (by decide))).w (fun _=>id) fun r s=>Sub.trans (by repeat (first | exact sub0 _ | refine Sub.add rfl ?_)) s)
end
theorem en_map {f:Nat→D} {a:Nat}:∀ (cs:List Nat) (i:Nat),enumD i (cs.map f)=(List.range cs.length).map fun j=>.tup [.int (i+j:Nat),f (cs.getD j a)]:=by
 intro cs
 induction cs with
 | nil=>exact fun _=>rfl
 | cons c cs ih =>
  intro i
  show D.tup [.int i,f c]::enumD (i+1:Nat) (cs.map f)=(List.range (cs.length+1)).map _
  rw [List.range_succ_eq_map,List.map_cons,List.map_map]
  refine congrArg (_::·) ((ih (i+1)).trans (List.map_congr_left fun j _=>?_))
  show D.tup [.int (i+1+j:Nat),_]=D.tup [.int (i+(j+1):Nat),_]
  rw [Nat.add_assoc,Nat.add_comm 1]
  rfl
theorem typ_len (sN:Nat) (cs:List Nat) (j:Nat):(typC sN cs j).length=2*j:=by
 induction j with
 | zero=>rfl
 | succ j ih=>rw [typC,List.length_append,ih]; rfl
noncomputable def rep (x:List Nat):List Nat:=(Txt.replace (S x) (S [103,98]) (S [13191])).cps.toList
noncomputable def signs (sN:Nat) (x:List Nat):List Nat:=cond (Nat.beq (sN % 2) 0) x (rep x)
theorem in_all {c:Nat} (h:c ∈ RGB):c ∈ allC:=List.mem_append.mpr (.inl h:c ∈ RGB ∨ c ∈ [13191])
theorem ex1_rgb:∀ c ∈ RGB,ex1 c=[c]:=rgb rfl rfl rfl
theorem ex1_self {l:List Nat} (h:∀ c ∈ l,c ∈ RGB):l.flatMap ex1=l:=by
 induction l with
 | nil=>rfl
 | cons a l ih=>rw [List.flatMap_cons,ih fun c hc=>h c (List.mem_cons_of_mem _ hc),ex1_rgb a (h a List.mem_cons_self)]; rfl
open Builtin Builtin.Str in
theorem rep_spec {x:List Nat} (hx:∀ c ∈ x,c ∈ RGB):(∀ c ∈ rep x,c ∈ allC)∧(rep x).flatMap ex1=x:=by
 unfold rep
 have hid:(S x).cps.toList=x:=rfl
 unfold Txt.replace
 split
 ·exact ⟨fun c hc=>in_all (hx c hc),ex1_self hx⟩
 ·have hg:=StrLaws.glued_between_self (S x) (S [103,98]) ((S x).length+1)
  generalize hp:partsBetween (S x) (occurrences (S x) (S [103,98]) 0 (S x).length ((S x).length+1)) (S [103,98]).length=parts at *
  have hparts:∀ p ∈ parts,∀ c ∈ p.cps.toList,c ∈ RGB:=fun p hpm c hc=>by
   rw [← hp] at hpm
   obtain ⟨⟨i,j⟩,_,rfl⟩:=List.mem_map.mp hpm
   have hc:c ∈ ((S x).cps.extract i j).toList:=hc
   rw [Array.toList_extract,List.extract_eq_take_drop] at hc
   exact hx c (List.mem_of_mem_drop (List.mem_of_mem_take hc))
  have fold:∀ (z:Str) (ps:List Str) (acc:Array Nat),(ps.foldl (fun acc p=>acc++z.cps++p.cps) acc).toList=acc.toList++ps.flatMap fun p=>z.cps.toList++p.cps.toList:=fun z ps=>by
   induction ps with
   | nil=>exact fun acc=>(List.append_nil _).symm
   | cons p ps ih=>intro acc; rw [List.foldl_cons,ih,Array.toList_append,Array.toList_append,List.append_assoc,List.append_assoc,List.flatMap_cons,List.append_assoc]
  have gl:∀ z:Str,(glued z parts).cps.toList=(parts.headD Str.empty).cps.toList++(parts.drop 1).flatMap fun p=>z.cps.toList++p.cps.toList:=fun z=>fold z _ _
  have hhead:∀ c ∈ (parts.headD Str.empty).cps.toList,c ∈ RGB:=fun c hc=>by
   cases parts with
   | nil=>cases hc
   | cons p ps=>exact hparts p List.mem_cons_self c hc
  have hdrop:∀ p ∈ parts.drop 1,∀ c ∈ p.cps.toList,c ∈ RGB:=fun p hpm=>hparts p (List.mem_of_mem_drop hpm)
  have go:∀ ps:List Str,(∀ p ∈ ps,∀ c ∈ p.cps.toList,c ∈ RGB)→(∀ c ∈ ps.flatMap fun p=>(S [13191]).cps.toList++p.cps.toList,c ∈ allC)∧(ps.flatMap fun p=>(S [13191]).cps.toList++p.cps.toList).flatMap ex1=ps.flatMap fun p=>(S [103,98]).cps.toList++p.cps.toList:=fun ps=>by
   induction ps with
   | nil=>exact fun _=>⟨nofun,rfl⟩
   | cons p ps ih =>
    intro h
    obtain ⟨i1,i2⟩:=ih fun q hq=>h q (List.mem_cons_of_mem _ hq)
    have hp:=h p List.mem_cons_self
    rw [List.flatMap_cons,List.flatMap_cons,List.flatMap_append,List.flatMap_append,ex1_self hp,i2]
    exact ⟨fun c hc=>(List.mem_append.mp hc).elim (fun q=>(List.mem_cons.mp q).elim (fun q=>q ▸ by decide +kernel) fun q=>in_all (hp c q)) (i1 c),rfl⟩
  obtain ⟨g1,g2⟩:=go _ hdrop
  rw [gl,List.flatMap_append,ex1_self hhead,g2]
  exact ⟨fun c hc=>(List.mem_append.mp hc).elim (fun q=>in_all (hhead c q)) (g1 c),(gl _).symm.trans (congrArg (fun s:Str=>s.cps.toList) hg)⟩
theorem signs_ok {sN:Nat} {x:List Nat} (hx:∀ c ∈ x,c ∈ RGB):(∀ c ∈ signs sN x,c ∈ allC)∧(signs sN x).flatMap ex1=x:=by
 unfold signs
 cases Nat.beq (sN % 2) 0 with
 | true=>exact ⟨fun c hc=>in_all (hx c hc),ex1_self hx⟩
 | false=>exact rep_spec hx
theorem signs_len {sN:Nat} {x:List Nat} (hx:∀ c ∈ x,c ∈ RGB):(signs sN x).length≤x.length:=by
 have e:=(signs_ok (sN:=sN) hx).2
 have g:∀ l:List Nat,l.length≤(l.flatMap ex1).length:=fun l=>by
  induction l with
  | nil=>exact Nat.le_refl _
  | cons a l ih =>
   rw [List.flatMap_cons,List.length_append,List.length_cons,Nat.add_comm]
   exact Nat.add_le_add (by unfold ex1; cases Nat.beq a 13191 <;> exact Nat.succ_le_succ (Nat.zero_le _)) ih
 exact Nat.le_trans (g _) (Nat.le_of_eq (congrArg List.length e))
theorem un_x (O:Ora) (ρ:Rho):P O EF (.bin .Add (.lst [(.int 173),(.int 847),(.int 6150),(.int 6155),(.int 6156),(.int 6157),(.int 8203),(.int 8204),(.int 8205),(.int 8288),(.int 65279)]) (.listr (.rng2 (.int 65024) (.int 65040)))) ρ (numsD unL):=by unfold P; kernel_rfl
theorem ba_x (O:Ora) (ρ:Rho):P O EF (.lst [(.int 97),(.int 65),(.int 119808),(.int 119860),(.int 119912),(.int 120016),(.int 120172),(.int 120224),(.int 120276),(.int 120328),(.int 120380),(.int 120432)]) ρ (numsD baseN):=by unfold P; kernel_rfl
theorem ot_x (O:Ora) (ρ:Rho):P O EF (.lst [(.lst [(.int 8475),(.int 8476),(.int 8477)]),(.lst [(.int 119970),(.int 120074),(.int 120126)]),(.lst [(.int 8492),(.int 120069),(.int 120121)])]) ρ otherD:=by unfold P; kernel_rfl
theorem run_typed {O:Ora} {x:List Nat} (hx:∀ c ∈ x,c ∈ RGB) (hn:x.length≤1000) (sN:Nat):runFn O f__law_typed [.str x,.int sN]=some (chs (typC sN (signs sN x) (signs sN x).length),[]):=by
 have hs:=signs_ok (sN:=sN) hx
 have hl:=Nat.le_trans (signs_len (sN:=sN) hx) hn
 refine run_fn0 (A:=Sub (setB (setV (setV e0 0 (.str x)) 1 (.int sN)) 5 .free)) rfl (show Rt (exB (ex O 8) f__law_typed.body) _ _ (0+(0+(0+(0+((signs sN x).length*0+0))))) from ?_) (by repeat (first | exact sub0 _ | refine Sub.add rfl ?_))
 refine rt_cons (tr_asg (d:=numsD unL) (un_x O _)) (rt_cons (tr_asg (d:=numsD baseN) (ba_x O _)) (rt_cons (tr_asg (d:=otherD) (ot_x O _)) (rt_cons (tr_own (d:=.lst []) (y_lst yl0 (Nat.zero_le _)) rfl rfl) ?_)))
 have it:∀ ρ:Rho,ρ 0=some (.val (.str x))→ρ 1=some (.val (.int sN))→PI O EF (.enum (.ife (.bin .Mod (.var 1) (.int 2)) (.mth (.replace [103,98] 13191) (.var 0) []) (.var 0))) ρ ((List.range (signs sN x).length).map fun j:Nat=>.tup [.int j,ch ((signs sN x).getD j 0)]):=fun ρ h0 h1=>by
  have q:=yi_enum (O:=O) (n:=EF) (a:=(.ife (.bin .Mod (.var 1) (.int 2)) (.mth (.replace [103,98] 13191) (.var 0) []) (.var 0))) (r:=ρ) (d:=.str (signs sN x)) (by
   refine y_ife (q:=cond (Nat.beq (sN % 2) 0) false true) (y_bin (y_var h1) y_int (fmod2 sN)) ?_ ?_
   ·rcases Nat.mod_two_eq_zero_or_one sN with e | e <;> rw [e] <;> rfl
   ·unfold signs
    cases Nat.beq (sN % 2) 0 with
    | true=>exact y_var h0
    | false=>exact y_mth (y_var h0) yl0 (if_pos ⟨rfl,Nat.le_trans hn (by decide)⟩)) rfl
  refine (en_map (f:=ch) (a:=0) (signs sN x) 0).trans (List.map_congr_left fun j _=>?_) ▸ q
  rw [Nat.zero_add]
 have lp:=tr_forS (O:=O) (n:=7) (v:=fun j:Nat=>.tup [.int j,ch ((signs sN x).getD j 0)]) (as:=List.range (signs sN x).length) (t:=.tup [(.name 6),(.name 7)]) (u:=typSts) (σ:=fun j=>typE sN (typC sN (signs sN x) j)) (c:=0) (it (setO (setV (setV (setV (setB (setV (setV e0 0 (.str x)) 1 (.int sN)) 5 .free) 2 (numsD unL)) 3 (numsD baseN)) 4 otherD) 5 (.lst [])) rfl rfl)
  (by repeat (first | exact sub0 _ | refine Sub.add rfl ?_)) fun j hj=>by
   rw [List.length_range] at hj
   rw [List.getElem_range]
   exact ⟨_,rfl,typ_turn (hs.1 _ (getD_mem hj)) (Nat.le_trans (Nat.le_of_lt hj) hl) (by rw [typ_len]; lia)⟩
 rw [List.length_range] at lp
 exact rt_cons lp (rt_reto rfl)
theorem typ_b1 {sN:Nat} {cs:List Nat} (h:∀ c ∈ cs,c ∈ allC) (j:Nat) (hj:j≤cs.length):(typC sN cs j).map (fun c:Nat=>b1T c)=(List.range (2*j)).map (fun i=>Nat.beq (i % 2) 0)∧((typC sN cs j).filter fun c:Nat=>!b1T c).flatMap mapB=(cs.take j).flatMap ex1:=by
 induction j with
 | zero=>exact ⟨rfl,rfl⟩
 | succ j ih =>
  obtain ⟨i1,i2⟩:=ih (Nat.le_of_succ_le hj)
  obtain ⟨t1,t2⟩:=t_ok sN j (h _ (getD_mem hj))
  have u1:=(u_ok sN j).1
  rw [typC,List.map_append,List.filter_append,List.flatMap_append,i1,i2,show 2*(j+1)=2*j+1+1 from rfl,List.range_succ,List.range_succ,List.map_append,List.map_append,List.append_assoc]
  constructor
  ·refine congrArg (fun l=>_++l) ?_
   show [b1T (uAt sN j),b1T _]=[Nat.beq (2*j % 2) 0,Nat.beq ((2*j+1) % 2) 0]
   rw [u1,t1,Nat.mul_mod_right,Nat.mul_add_mod]
   rfl
  ·rw [List.filter_cons_of_neg (by rw [u1]; decide),List.filter_cons_of_pos (by rw [t1]; rfl),List.take_succ_eq_append_getElem hj,List.flatMap_append]
   refine congrArg ((cs.take j).flatMap ex1++·) ?_
   show mapB _++[]=ex1 _++[]
   rw [t2,List.getD_eq_getElem?_getD,List.getElem?_eq_getElem hj]
   rfl
end
section
open Bw
section
variable {O:Ora} {n:Nat} {ρ:Rho} {α β:Type} {t:Tg} {as:List β} {v:β→D}
theorem turns_map {c:Rho→Option (Bool × List D)} {e:Rho→Option (α × List D)} {p:β→Bool} {f:β→α}:∀ as:List β,(∀ a ∈ as,∀ r,Sub ρ r→∃ r1,asgT t (v a) r=some r1∧Sub ρ r1∧c r1=some (p a,[])∧(p a=true→e r1=some (f a,[]))) →
  ∀ r,Sub ρ r→turns t c e (as.map v) r=some ((as.filter p).map f,[]):=by
 intro as
 induction as with
 | nil=>exact fun _ _ _=>rfl
 | cons d ds ih =>
  intro h r s
  obtain ⟨r1,h1,s1,h2,h3⟩:=h d List.mem_cons_self r s
  have i:=ih (fun d hd=>h d (List.mem_cons_of_mem _ hd)) r1 s1
  refine bn1 h1 (bnd h2 ?_)
  cases q:p d with
  | true =>
   rw [List.filter_cons_of_pos q]
   exact bnd (h3 q) (bnd i rfl)
  | false =>
   rw [List.filter_cons_of_neg (Bool.eq_false_iff.mp q)]
   exact bnd i rfl
variable {e:X} {i:It} {fs:List Nat} {g:β→D}
theorem y_lcF {c:X} {q:β→Bool} (p:PI O n i ρ (as.map v)) (h:∀ a ∈ as,∃ ρ1,asgT t (v a) (mask fs ρ)=some ρ1∧Sub (mask fs ρ) ρ1∧P O n c ρ1 (.bool (q a))∧(q a=true→P O n e ρ1 (g a))) (hl:as.length≤65536):P O (n+1) (.lc e t i (some c) fs) ρ (.lst ((as.filter q).map g)):=by
 refine bnd p (bnd (turns_map (ρ:=mask fs ρ) as (fun a ha r s=>?_) _ Sub.refl) (if_pos (by rw [List.length_map]; exact Nat.le_trans (List.length_filter_le _ _) hl)))
 obtain ⟨ρ1,h1,h2,h3,h4⟩:=h a ha
 obtain ⟨r1,a1,a2⟩:=asg_up t _ _ r _ s h1
 exact ⟨r1,a1,h2.trans a2,bnd (h3.le a2) rfl,fun hq=>(h4 hq).le a2⟩
theorem y_lcT (p:PI O n i ρ (as.map v)) (h:∀ a ∈ as,∃ ρ1,asgT t (v a) (mask fs ρ)=some ρ1∧Sub (mask fs ρ) ρ1∧P O n e ρ1 (g a)) (hl:as.length≤65536):P O (n+1) (.lc e t i none fs) ρ (.lst (as.map g)):=by
 have:=turns_map (c:=fun _=>some (true,[])) (e:=ev O n e) (p:=fun _=>true) (f:=g) (v:=v) (t:=t) (ρ:=mask fs ρ) as (fun a ha r s=>by
  obtain ⟨ρ1,h1,h2,h3⟩:=h a ha
  obtain ⟨r1,a1,a2⟩:=asg_up t _ _ r _ s h1
  exact ⟨r1,a1,h2.trans a2,rfl,fun _=>h3.le a2⟩) _ Sub.refl
 rw [List.filter_eq_self.mpr fun _ _=>rfl] at this
 exact bnd p (bnd this (if_pos (by rw [List.length_map]; exact hl)))
end
theorem tr_popd {O:Ora} {n k m p j:Nat} {ρ:Rho} {i b:X} {s t:List Nat} {ds:List D} {y:D} (h:ρ k=some (.val (.str s))) (pi:P O EF i ρ (.int j)) (hp:ρ p=some (.own (.lst ds))) (ht:ds[j]?=some (.str t)) (hl:s.length+t.length≤65536) (pb:P O EF b (setO ρ p (.lst (ds.eraseIdx j))) y) :
  Tr (ex O (n+1) (.popd k m p i b)) (Sub ρ) (Sub (setV (setV (setO ρ p (.lst (ds.eraseIdx j))) k (.str (s++t))) m y)) 0 :=
 Tr.of0 (bn1 (getV_iff.mpr h) (bnd pi (bn1 (getO_iff.mpr hp) ((if_pos (e:=none) (Int.natCast_nonneg j)).trans (bn1 ht ((if_pos (e:=none) hl).trans (bnd pb rfl)))))))
noncomputable def fourD (f:Nat→Nat):D:=.lst [.int (f 0),.int (f 1),.int (f 2),.int (f 3)]
theorem four {P:Nat→Prop} (h0:P 0) (h1:P 1) (h2:P 2) (h3:P 3):∀ k < 4,P k:=fun k h=>by
 rcases Nat.lt_succ_iff_lt_or_eq.mp h with h | rfl
 ·exact three h0 h1 h2 k h
 ·exact h3
theorem sub_four (f:Nat→Nat):∀ k:Nat,k < 4→subD (fourD f) (.int k)=some (.int (f k)):=four rfl rfl rfl rfl
theorem set_four (f:Nat→Nat) (v:Nat):∀ k:Nat,k < 4→setD (fourD f) (.int k) (.int v)=some (fourD (upd f k v)):=four rfl rfl rfl rfl
noncomputable def cell0 (k:Nat):Nat:=[144,271697583,289,607188].getD k 0
noncomputable def num (ns:List Int) (j:Nat):Nat:=((ns.getD j 0) % 1000000000).toNat
noncomputable def cells (ns:List Int):Nat→Nat→Nat
 | 0=>cell0
 | j+1=>upd (cells ns j) (j % 4) (cells ns j (j % 4)+num ns j)
theorem num_mod (ns:List Int) (j:Nat):binD .Mod (.int (ns.getD j 0)) (.int 1000000000)=some (.int (num ns j)):=by
 show some (D.int (Int.fmod _ 1000000000))=_
 unfold num
 rw [Int.fmod_eq_emod_of_nonneg _ (by decide),Int.toNat_of_nonneg (Int.emod_nonneg _ (by decide))]
section
variable {O:Ora}
noncomputable def intsD (ns:List Int):D:=.lst (ns.map .int)
noncomputable def aE1 (f:Nat→Nat):Rho:=setB (setO (setB e0 12 .free) 1 (fourD f)) 5 .free
theorem en_ints (ns:List Int):∀ i:Nat,enumD i (ns.map .int)=(List.range ns.length).map fun j=>.tup [.int (i+j:Nat),.int (ns.getD j 0)]:=by
 induction ns with
 | nil=>exact fun _=>rfl
 | cons c cs ih =>
  intro i
  show D.tup [.int i,.int c]::enumD (i+1:Nat) (cs.map .int)=(List.range (cs.length+1)).map _
  rw [List.range_succ_eq_map,List.map_cons,List.map_map]
  refine congrArg (_::·) ((ih (i+1)).trans (List.map_congr_left fun j _=>?_))
  show D.tup [.int (i+1+j:Nat),_]=D.tup [.int (i+(j+1):Nat),_]
  rw [Nat.add_assoc,Nat.add_comm 1]
  rfl
theorem cells_tr (ns:List Int):Tr (exB (ex O 8) (law_a.take 2)) (Sub (setB (setB (setV (setB e0 12 .free) 0 (intsD ns)) 1 .free) 5 .free)) (Sub (aE1 (cells (ns.take 60) (ns.take 60).length))) (0+((ns.take 60).length*0+0)):=by
 refine tr_cons (tr_own (d:=fourD cell0) (y_lst (yl rfl (yl rfl (yl rfl (yl rfl yl0)))) (by decide)) rfl rfl) (tr_one ?_)
 have it:PI O EF (.enum (.slc (.var 0) 60)) (setO (setB (setB (setV (setB e0 12 .free) 0 (intsD ns)) 1 .free) 5 .free) 1 (fourD cell0)) ((List.range (ns.take 60).length).map fun j:Nat=>.tup [.int j,.int ((ns.take 60).getD j 0)]):=by
  have q:=yi_enum (O:=O) (n:=EF) (a:=.slc (.var 0) 60) (r:=setO (setB (setB (setV (setB e0 12 .free) 0 (intsD ns)) 1 .free) 5 .free) 1 (fourD cell0)) (y_slc (d:=intsD ns) (z:=intsD (ns.take 60)) (y_var rfl) (congrArg (fun l=>some (D.lst l)) List.map_take.symm)) rfl
  refine (en_ints (ns.take 60) 0).trans (List.map_congr_left fun j _=>?_) ▸ q
  rw [Nat.zero_add]
 generalize ns.take 60=ns' at *
 have lp:=tr_forS (O:=O) (n:=7) (v:=fun j:Nat=>.tup [.int j,.int (ns'.getD j 0)]) (as:=List.range ns'.length) (t:=.tup [(.name 2),(.name 3)]) (u:=[.augo 1 (.bin .Mod (.var 2) (.int 4)) .Add (.bin .Mod (.var 3) (.int 1000000000))]) (σ:=fun j=>aE1 (cells ns' j)) (c:=0) it
  (by repeat (first | exact sub0 _ | refine Sub.add rfl ?_)) fun j hj=>by
   rw [List.getElem_range]
   have h4:j % 4 < 4:=Nat.mod_lt _ (by decide)
   exact ⟨_,rfl,(tr_one (tr_augo (k:=1) rfl (y_bin (y_var (k:=2) rfl) y_int (fmod_nat j (b:=4) (by decide))) (sub_four _ _ h4) (y_bin (y_var (k:=3) rfl) y_int (num_mod ns' j)) rfl (set_four _ _ _ h4))).w (fun _=>id) fun r s=>Sub.trans (by repeat (first | exact sub0 _ | refine Sub.add rfl ?_)) s⟩
 rw [List.length_range] at lp
 exact lp
end
end
section
open Bw
noncomputable def dig (c k:Nat):Nat:=lt (c / 3 / 3 ^ k % 3)
noncomputable def pool (c p:Nat):List Nat:=(List.range (12 / p)).flatMap fun k=>List.replicate p (dig c k)
inductive Prt (p:Nat):Prop
 | two (h:p=2)
 | three (h:p=3)
 | four (h:p=4)
noncomputable def poolX:X:=.bin .Mult (.sub (.str [114,103,98]) (.bin .Mod (.bin .FloorDiv (.bin .FloorDiv (.subo 1 (.int 0)) (.int 3)) (.bin .Pow (.int 3) (.var 48))) (.int 3))) (.var 4)
theorem pow_nat {b k:Nat} (hb:2≤b) (hb':okI b=true) (h:k < 64):binD .Pow (.int b) (.int k)=some (.int (b ^ k:Nat)) :=
 (if_pos (and_tt (and_tt (and_tt (decide_eq_true (Int.ofNat_le.mpr hb)) hb') (decide_eq_true (Int.natCast_nonneg k))) (decide_eq_true (Int.ofNat_lt.mpr h)))).trans (by rw [Int.natCast_pow]; rfl)
theorem pow3 {k:Nat} (h:k < 6):3 ^ k≤65536:=Nat.le_trans (Nat.pow_le_pow_right (n:=3) (j:=5) (by decide) (Nat.le_of_lt_succ h)) (by decide)
theorem dig_sub:∀ d:Nat,d < 3→subD (.str [114,103,98]) (.int d)=some (ch (lt d)):=three rfl rfl rfl
theorem lt_rgb (l:Nat):lt l ∈ RGB:=by
 match l with
 | 0=>decide +kernel
 | 1=>decide +kernel
 | _+2=>exact (by decide +kernel:98 ∈ RGB)
section
variable {O:Ora} {f:Nat→Nat} {p:Nat} (hp:Prt p)
include hp
theorem rep_str (c:Nat):binD .Mult (ch c) (.int p)=some (.str (List.replicate p c)):=by
 cases hp with
 | _ h=>rw [h]; rfl
theorem pool_x {n k:Nat} {ρ:Rho} (hk:k < 6) (h1:ρ 1=some (.own (fourD f))) (h4:ρ 4=some (.val (.int p))) (h48:ρ 48=some (.val (.int k))):P O 13 poolX ρ (.str (List.replicate p (dig (f 0) k))) :=
 y_bin (y_sub y_str (y_bin (y_bin (y_bin (y_subo h1 y_int (sub_four f 0 (by decide))) y_int (fdiv_nat _ (b:=3) (by decide) (by decide))) (y_bin y_int (y_var h48) (pow_nat (b:=3) (by decide) (by decide +kernel) (Nat.lt_of_lt_of_le hk (by decide)))) (fdiv_nat _ (Nat.pow_pos (by decide)) (pow3 hk))) y_int (fmod_nat _ (b:=3) (by decide))) (dig_sub _ (Nat.mod_lt _ (by decide)))) (y_var h4) (rep_str hp _)
theorem Prt.le:12 / p≤6∧p≤4∧2≤p:=by
 cases hp with
 | _ h=>rw [h]; decide
theorem pool_len (c:Nat):(pool c p).length=12:=by
 cases hp with
 | _ h=>rw [h]; rfl
omit hp in
theorem pool_rgb (c p:Nat):∀ x ∈ pool c p,x ∈ RGB:=fun x hx=>by
 obtain ⟨k,_,h⟩:=List.mem_flatMap.mp hx
 exact List.eq_of_mem_replicate h ▸ lt_rgb _
omit hp in
theorem pool_dvd (c p l:Nat):p ∣ (pool c p).count l:=by
 unfold pool
 generalize List.range (12 / p)=L
 induction L with
 | nil=>exact Nat.dvd_zero p
 | cons k L ih =>
  rw [List.flatMap_cons,List.count_append,List.count_replicate]
  refine Nat.dvd_add ?_ ih
  split
  ·exact Nat.dvd_refl p
  ·exact Nat.dvd_zero p
theorem pool_lc {ρ:Rho} (h1:ρ 1=some (.own (fourD f))) (h4:ρ 4=some (.val (.int p))):P O 14 (.lc2 (.var 49) (.name 48) (.rng1 (.bin .FloorDiv (.int 12) (.var 4))) (.name 49) (.val poolX) [1,4]) ρ (chs (pool (f 0) p)):=by
 obtain ⟨l1,l2,l3⟩:=hp.le
 have i1:=yi_rng1 (O:=O) (n:=13) (i:=(12 / p:Nat)) (r:=ρ) (y_bin (a:=.int 12) y_int (y_var h4) (fdiv_nat 12 (by lia) (by lia))) ⟨okI_le (by lia),by lia⟩
 have i1:PI O 13 _ ρ ((List.range (12 / p)).map fun j:Nat=>.int j):=rng0 (12 / p) ▸ i1
 have e:((List.range (12 / p)).map fun k=>(List.replicate p (dig (f 0) k)).map ch).flatten=(pool (f 0) p).map ch:=(List.map_flatMap (f:=ch) (g:=fun k=>List.replicate p (dig (f 0) k)) (l:=List.range (12 / p))).symm
 refine bnd i1 (bnd (turns_map (ρ:=mask [1,4] ρ) (p:=fun _=>true) (f:=fun k=>(List.replicate p (dig (f 0) k)).map ch) _ (fun k hk r s=>?_) _ Sub.refl) ?_)
 ·have m1:mask [1,4] ρ 1=some (.own (fourD f)):=h1
  have m4:mask [1,4] ρ 4=some (.val (.int p)):=h4
  have x:=pool_x hp (O:=O) (n:=13) (ρ:=setV (mask [1,4] ρ) 48 (.int k)) (k:=k) (by have:=List.mem_range.mp hk; lia) m1 m4 rfl
  refine ⟨_,rfl,s.fresh _ rfl,rfl,fun _=>bnd (yi_val (n:=13) (x.le (s.set 48 _)) rfl) (bnd (turns_map (v:=ch) (ρ:=e0) (p:=fun _=>true) (f:=ch) (List.replicate p (dig (f 0) k)) (fun c _ r _=>⟨_,rfl,sub0 _,rfl,fun _=>y_var (k:=49) rfl⟩) _ (sub0 _)) ?_)⟩
  rw [List.filter_eq_self.mpr fun _ _=>rfl]
  rfl
 ·rw [List.filter_eq_self.mpr fun _ _=>rfl]
  show (if _ then some (D.lst (((List.range (12 / p)).map fun k=>(List.replicate p (dig (f 0) k)).map ch).flatten),_) else none)=_
  rw [e,if_pos (by rw [List.length_map,pool_len hp]; decide)]
  rfl
end
theorem count_era {l:Nat} {Q:List Nat}:∀ {j:Nat},j < Q.length→(Q.eraseIdx j).count l+[Q.getD j 0].count l=Q.count l:=by
 induction Q with
 | nil=>exact fun h=>nomatch h
 | cons a Q ih =>
  intro j h
  cases j with
  | zero =>
   show Q.count l+[a].count l=(a::Q).count l
   rw [List.count_singleton,List.count_cons]
  | succ j =>
   show (a::Q.eraseIdx j).count l+[Q.getD j 0].count l=(a::Q).count l
   rw [List.count_cons (l:=Q),List.count_cons (l:=Q.eraseIdx j),← ih (Nat.lt_of_succ_lt_succ h),Nat.add_right_comm]
theorem map_era {α β:Type} (f:α→β) (Q:List α):∀ j:Nat,(Q.map f).eraseIdx j=(Q.eraseIdx j).map f:=by
 induction Q with
 | nil=>exact fun _=>rfl
 | cons a Q ih =>
  intro j
  cases j with
  | zero=>rfl
  | succ j=>exact congrArg (f a::·) (ih j)
structure Dr where
 q:List Nat
 u:List Nat
 n:Nat
noncomputable def draw (P:List Nat) (c:Nat):Nat→Dr
 | 0=>⟨P,[],c⟩
 | j+1=>⟨(draw P c j).q.eraseIdx ((draw P c j).n % (12 - j)),(draw P c j).u++[(draw P c j).q.getD ((draw P c j).n % (12 - j)) 0],(draw P c j).n / (12 - j)⟩
theorem draw_q {P:List Nat} (c:Nat) (h:P.length=12) (j:Nat) (hj:j≤12):(draw P c j).q.length=12 - j∧(draw P c j).u.length=j∧∀ l,(draw P c j).q.count l+(draw P c j).u.count l=P.count l:=by
 induction j with
 | zero=>exact ⟨h,rfl,fun _=>rfl⟩
 | succ j ih =>
  obtain ⟨i1,i2,i3⟩:=ih (Nat.le_of_succ_le hj)
  have hk:(draw P c j).n % (12 - j) < (draw P c j).q.length:=Nat.lt_of_lt_of_eq (Nat.mod_lt _ (Nat.sub_pos_of_lt hj)) i1.symm
  unfold draw
  refine ⟨(List.length_eraseIdx_of_lt hk).trans (by rw [i1,Nat.sub_sub]),by rw [List.length_append,i2]; rfl,fun l=>?_⟩
  rw [← i3,List.count_append,← count_era hk,Nat.add_assoc,Nat.add_comm (List.count l (draw P c j).u)]
noncomputable def bE (f:Nat→Nat) (p:Nat) (x:Dr):Rho:=setO (setV (setV (setO (setV (setB e0 12 .free) 4 (.int p)) 1 (fourD f)) 6 (.str x.u)) 7 (.int x.n)) 5 (chs x.q)
theorem draw_tr {O:Ora} {f:Nat→Nat} {p:Nat} {P:List Nat} (h:P.length=12):Tr (ex O 8 (.for_ (.name 8) (.rng3 (.int 12) (.int 0)) [.popd 6 7 5 (.bin .Mod (.var 7) (.var 8)) (.bin .FloorDiv (.var 7) (.var 8))])) (Sub (bE f p (draw P (f 1) 0))) (Sub (bE f p (draw P (f 1) 12))) (12*0):=by
 refine tr_forS (O:=O) (n:=7) (v:=fun j:Nat=>.int (12 - j:Nat)) (as:=List.range 12) (σ:=fun j=>bE f p (draw P (f 1) j)) (c:=0) (by unfold PI; kernel_rfl) Sub.refl fun j hj=>?_
 rw [List.getElem_range]
 obtain ⟨q1,q2,_⟩:=draw_q (f 1) h j (Nat.le_of_lt hj)
 have hj:j < 12:=hj
 have pos:0 < 12 - j:=Nat.sub_pos_of_lt hj
 have hk:(draw P (f 1) j).n % (12 - j) < (draw P (f 1) j).q.length:=Nat.lt_of_lt_of_eq (Nat.mod_lt _ pos) q1.symm
 refine ⟨_,rfl,(tr_one (tr_popd (s:=(draw P (f 1) j).u) (t:=[(draw P (f 1) j).q.getD ((draw P (f 1) j).n % (12 - j)) 0]) rfl (y_bin (y_var (k:=7) rfl) (y_var (k:=8) rfl) (fmod_nat (draw P (f 1) j).n pos)) rfl ?_ ?_ (y_bin (y_var (k:=7) rfl) (y_var (k:=8) rfl) (fdiv_nat (draw P (f 1) j).n pos (by lia))))).w (fun _=>id) fun r s=>Sub.trans ?_ s⟩
 ·rw [List.getElem?_map,get_getD hk]; rfl
 ·rw [q2]; show j+1≤65536; lia
 ·refine Sub.add ?_ (Sub.add rfl (Sub.add rfl (Sub.add rfl (Sub.add rfl (Sub.add rfl (sub0 _))))))
  show some (B.own (.lst (((draw P (f 1) j).q.map ch).eraseIdx _)))=some (B.own (.lst ((((draw P (f 1) j).q).eraseIdx _).map ch)))
  rw [map_era]
end
section
open Bw
structure Ha (O:Ora):Prop where
 h8:∀ c:Nat,O.call 8 [.str [c]]=some (.bool (b1T c),[])
 h9:∀ c:Nat,O.call 9 [.str [c]]=some (.str (mapB c),[])
 h10:∀ (x:List Nat) (sN:Nat),(∀ c ∈ x,c ∈ RGB)→x.length≤1000→O.call 10 [.str x,.int sN]=some (chs (typC sN (signs sN x) (signs sN x).length),[])
theorem sub_m (ρ r:Rho):Sub (mask [] ρ) r:=fun _ _ e=>nomatch e
theorem strs_map {α:Type} (g:α→List Nat) (l:List α):strsD (l.map fun c=>.str (g c))=some (l.map g):=by
 induction l with
 | nil=>rfl
 | cons c l ih=>exact congrArg (Option.map (g c::·)) ih
theorem zip_map {α:Type} (f g:α→D) (l:List α):zipD (l.map f) (l.map g)=l.map fun c=>.tup [f c,g c]:=by
 induction l with
 | nil=>rfl
 | cons c l ih=>exact congrArg (_::·) ih
theorem join_map {α:Type} {g:α→List Nat} {l:List α} {x:List Nat} (h:l.flatMap g=x) (hx:x.length≤65536) (hl:l.length≤65536):mtD .join (.str []) [.lst (l.map fun c=>.str (g c))]=some (.str x):=by
 refine (congrArg (fun o:Option (List (List Nat))=>o.bind fun ts=>if ([]:List Nat)=[]∧(ts.map List.length).sum≤65536∧ts.length≤65536 then some (D.str ts.flatten) else none) (strs_map g l)).trans ((if_pos ⟨rfl,?_,?_⟩).trans (congrArg (fun l=>some (D.str l)) h))
 ·rw [← List.length_flatten]
  exact Nat.le_trans (Nat.le_of_eq (congrArg List.length h)) hx
 ·rw [List.length_map]; exact hl
noncomputable def goneD (C:List Nat):D:=.lst (C.map fun c:Nat=>.bool (b1T c))
noncomputable def laE (f:Nat→Nat) (p:Nat) (w C:List Nat):Rho:=setO (setV (setV (setV (setV (setB e0 12 .free) 4 (.int p)) 6 (.str w)) 10 (goneD C)) 11 (.str w)) 1 (fourD f)
structure La (p:Nat) (w C:List Nat):Prop where
 prt:Prt p
 rgb:∀ x ∈ w,x ∈ RGB
 len:w.length=12
 dv:∀ l,p ∣ cn w l
 gone:∃ m≤12,C.map (fun c:Nat=>b1T c)=(List.range (2*m)).map fun i=>Nat.beq (i % 2) 0
section
variable {O:Ora} (H:Ha O)
include H
theorem text_tr {f:Nat→Nat} {w:List Nat} {p:Nat} (hr:∀ x ∈ w,x ∈ RGB) (hl:w.length=12):∃ C,(∃ m≤12,C.map (fun c:Nat=>b1T c)=(List.range (2*m)).map fun i=>Nat.beq (i % 2) 0)∧Tr (exB (ex O 8) (law_a.drop 6)) (Sub (setV (setO (setV (setB e0 12 .free) 4 (.int p)) 1 (fourD f)) 6 (.str w))) (Sub (laE f p w C)) (0+(0+(0+0))):=by
 obtain ⟨s1,s2⟩:=signs_ok (sN:=f 2) hr
 have sl:=signs_len (sN:=f 2) hr
 have t:=typ_b1 (sN:=f 2) s1 _ (Nat.le_refl _)
 rw [List.take_length,s2] at t
 have cl:=typ_len (f 2) (signs (f 2) w) (signs (f 2) w).length
 have cc:=H.h10 w (f 2) hr (by rw [hl]; decide)
 generalize typC (f 2) (signs (f 2) w) (signs (f 2) w).length=C at *
 have hC:C.length≤65536:=by lia
 refine ⟨C,⟨_,hl ▸ sl,t.1⟩,tr_cons (tr_asg (d:=chs C) (y_call (yl (y_var rfl) (yl (y_subo (k:=1) (b:=.int 2) rfl y_int (sub_four f 2 (by decide))) yl0)) cc)) (tr_cons (tr_asg (d:=goneD C) ?_) (tr_one ((tr_asg (d:=.str w) (y_mth y_str (yl (y_lcF (as:=C) (v:=fun c:Nat=>.tup [ch c,.bool (b1T c)]) (q:=fun c:Nat=>!b1T c) (g:=fun c=>.str (mapB c)) ?_ (fun c _=>⟨_,rfl,sub_m _ _,y_not (y_var (k:=51) rfl) rfl,fun _=>y_call (yl (y_var (k:=50) rfl) yl0) (H.h9 c)⟩) hC) yl0) (join_map t.2 (by rw [hl]; decide) (Nat.le_trans (List.length_filter_le _ _) hC)))).w (fun _=>id) fun r s=>Sub.trans ?_ s)))⟩
 ·exact y_lcM (v:=ch) (g:=fun c:Nat=>.bool (b1T c)) (yi_val (y_var rfl) rfl) rfl hC fun c _=>y_call (yl (y_var (k:=50) rfl) yl0) (H.h8 c)
 ·exact zip_map ch (fun c:Nat=>.bool (b1T c)) C ▸ yi_zip (y_var rfl) (y_var rfl)
 ·repeat (first | exact sub0 _ | refine Sub.add rfl ?_)
theorem law_a_tr (ns:List Int):∃ f p w C,La p w C∧Tr (exB (ex O 8) law_a) (Sub (setB (setB (setV (setB e0 12 .free) 0 (intsD ns)) 1 .free) 5 .free)) (Sub (laE f p w C)) (0+((ns.take 60).length*0+0)+(0+(0+(0+(12*0+(0+(0+(0+0)))))))):=by
 have c:=cells_tr (O:=O) ns
 generalize cells (ns.take 60) (ns.take 60).length=f at *
 have hm:f 0 % 3 < 3:=Nat.mod_lt _ (by decide)
 have hp:Prt (f 0 % 3+2):=three (P:=fun m=>Prt (m+2)) (.two rfl) (.three rfl) (.four rfl) _ hm
 have hs:subD (.lst [.int 2,.int 3,.int 4]) (.int (f 0 % 3:Nat))=some (.int (f 0 % 3+2:Nat)):=three (P:=fun m=>subD (.lst [.int 2,.int 3,.int 4]) (.int (m:Nat))=some (.int (m+2:Nat))) rfl rfl rfl _ hm
 have pd:=pool_dvd (f 0) (f 0 % 3+2)
 have pr:=pool_rgb (f 0) (f 0 % 3+2)
 have pl:=pool_len hp (f 0)
 have px:=fun (ρ:Rho)=>pool_lc (O:=O) hp (f:=f) (ρ:=ρ)
 generalize f 0 % 3+2=p at *
 generalize pool (f 0) p=P at *
 obtain ⟨d1,d2,d3⟩:=draw_q (f 1) pl 12 (Nat.le_refl _)
 have dt:=draw_tr (O:=O) (f:=f) (p:=p) pl
 generalize hx:draw P (f 1) 12=x at *
 have q0:x.q=[]:=List.eq_nil_of_length_eq_zero d1
 have d3:∀ l,x.u.count l=P.count l:=fun l=>by
  have:=d3 l
  rw [q0] at this
  exact (Nat.zero_add _).symm.trans this
 have wr:∀ c ∈ x.u,c ∈ RGB:=fun c hc=>pr c (List.count_pos_iff.mp (d3 c ▸ List.count_pos_iff.mpr hc))
 obtain ⟨C,hC,tt⟩:=text_tr H (f:=f) (p:=p) wr d2
 refine ⟨f,p,x.u,C,⟨hp,wr,d2,fun l=>by unfold cn; rw [d3 l]; exact pd l,hC⟩,?_⟩
 refine tr_cat (ss:=law_a.take 2) (ss':=law_a.drop 2) c (tr_cons (tr_asg (y_sub (y_lst (yl y_int (yl y_int (yl y_int yl0))) (by decide)) (y_bin (y_subo (k:=1) (b:=.int 0) rfl y_int (sub_four f 0 (by decide))) y_int (fmod_nat _ (b:=3) (by decide))) hs)) (tr_cons (tr_own (px _ rfl rfl) rfl rfl)
  (tr_cons (tr_swp (yl (x:=.str []) y_str (yl (y_subo (k:=1) (b:=.int 1) rfl y_int (sub_four f 1 (by decide))) yl0)) rfl) (tr_cons (dt.w (fun r s=>Sub.trans ?_ s) fun _=>id) (tt.w (fun r s=>Sub.trans ?_ s) fun _=>id)))))
 ·repeat (first | exact sub0 _ | refine Sub.add rfl ?_)
 ·repeat (first | exact sub0 _ | refine Sub.add rfl ?_)
end
end
section
open Bw
noncomputable def sameD (d:D):D:=.tup [d,d]
theorem okN_str (w:List Nat):OkN (sameD (.str w)):=⟨.str w,.str w,rfl,congrArg (Option.map (!·)) (show eqD 8 (.str w) (.str w)=some true from eqD_refl rfl),rfl⟩
noncomputable def twoB (q:Bool):D:=.tup [.bool (q == true),.bool (q == false)]
theorem par_x (j:Nat):D.tup [.bool ((j % 2:Nat) == (0:Int)),.bool ((j % 2:Nat) == (1:Int))]=twoB (Nat.beq (j % 2) 0):=by
 rcases Nat.mod_two_eq_zero_or_one j with e | e <;> rw [e] <;> rfl
section
variable {O:Ora} {f:Nat→Nat} {p:Nat} {w C:List Nat}
theorem law_n_x (L:La p w C) {ρ:Rho} (h6:ρ 6=some (.val (.str w))) (h10:ρ 10=some (.val (goneD C))) (h11:ρ 11=some (.val (.str w))):∃ l,P O EF law_n ρ (.lst l)∧AllOk l∧l.length=2:=by
 obtain ⟨m,hm,e⟩:=L.gone
 have hl:C.length=2*m:=by
  have:=congrArg List.length e
  rwa [List.length_map,List.length_map,List.length_range] at this
 have hC:C.length≤65536:=by lia
 have x1:=y_lcM (O:=O) (n:=11) (k:=51) (fs:=[]) (v:=fun c:Nat=>.bool (b1T c)) (g:=fun c:Nat=>twoB (b1T c)) (as:=C) (ρ:=ρ) (i:=.val (.var 10)) (e:=.tup [(.cmp .Is (.var 51) (.bool true)),(.cmp .Is (.var 51) (.bool false))]) (yi_val (y_var h10) rfl) rfl hC fun c _=>y_tup (yl (y_cmp (o:=.Is) (d':=.bool true) (y_var (k:=51) rfl) rfl rfl) (yl (y_cmp (o:=.Is) (d':=.bool false) (y_var (k:=51) rfl) rfl rfl) yl0)) (show 2≤65536 by decide)
 have e1:C.map (fun c:Nat=>twoB (b1T c))=(List.range (2*m)).map fun j=>twoB (Nat.beq (j % 2) 0):=by
  have:=congrArg (List.map twoB) e
  rwa [List.map_map,List.map_map] at this
 have i2:PI O 11 (.rng1 (.bi .len [(.var 10)])) ρ ((List.range (2*m)).map fun j:Nat=>.int j):=by
  have q:=yi_rng1 (O:=O) (n:=11) (r:=ρ) (i:=(2*m:Nat)) (y_bi (f:=.len) (yl (y_var h10) yl0) (show some (D.int (List.length _:Nat))=_ by rw [List.length_map,hl])) ⟨okI_le (by lia),by lia⟩
  exact rng0 (2*m) ▸ q
 have x2:=y_lcM (O:=O) (n:=11) (k:=48) (fs:=[]) (v:=fun j:Nat=>.int j) (g:=fun j:Nat=>twoB (Nat.beq (j % 2) 0)) (e:=.tup [(.cmp .Eq (.bin .Mod (.var 48) (.int 2)) (.int 0)),(.cmp .Eq (.bin .Mod (.var 48) (.int 2)) (.int 1))]) i2 rfl (by rw [List.length_range]; lia) fun j _=>par_x j ▸ y_tup (yl (y_cmp (o:=.Eq) (d':=.int 0) (y_bin (y_var (k:=48) rfl) y_int (fmod2 j)) y_int rfl) (yl (y_cmp (o:=.Eq) (d':=.int 1) (y_bin (y_var (k:=48) rfl) y_int (fmod2 j)) y_int rfl) yl0)) (show 2≤65536 by decide)
 rw [e1] at x1
 refine ⟨_,y_lst (yl (y_tup (yl (y_var h11) (yl (y_var h6) yl0)) (show 2≤65536 by decide)) (yl (y_tup (yl x1 (yl x2 yl0)) (show 2≤65536 by decide)) yl0)) (show 2≤65536 by decide),fun d hd=>?_,rfl⟩
 rcases List.mem_cons.mp hd with rfl | hd
 ·exact okN_str w
 ·cases List.mem_singleton.mp hd
  exact okN_lst (List.all_eq_true.mpr fun d hd=>by
   obtain ⟨j,_,rfl⟩:=List.mem_map.mp hd
   rfl)
theorem fdiv_big (a:Nat) {b:Nat} (hb:0 < b) (hb':okI b=true):binD .FloorDiv (.int a) (.int b)=some (.int (a / b:Nat)):=by
 show (if (((b:Int) == 0) || !okI b)=true then none else some (D.int ((a:Int).fdiv b)))=_
 rw [hb',beq_eq_false_iff_ne.mpr (fun q:(b:Int)=0=>Nat.ne_of_gt hb (Int.ofNat.inj q)),if_neg (show ¬ ((false || !true)=true) by decide),Int.fdiv_eq_ediv_of_nonneg _ (Int.natCast_nonneg b)]
 rfl
theorem okI_big {a:Nat} (h:a < 1000000000000000000):okI a=true:=and_tt (decide_eq_true (Int.lt_of_lt_of_le (by decide) (Int.natCast_nonneg a))) (decide_eq_true (Int.ofNat_lt.mpr h))
noncomputable def drw (c k:Nat):Nat:=c / 12 ^ k % 12
noncomputable def draws (c:Nat):List Nat:=(List.range 6).map (drw c)
noncomputable def drawX:X:=.lc (.bin .Mod (.bin .FloorDiv (.subo 1 (.int 3)) (.bin .Pow (.int 12) (.var 48))) (.int 12)) (.name 48) (.rng1 (.int 6)) none [1]
theorem draw_x {ρ:Rho} (h1:ρ 1=some (.own (fourD f))):P O 14 drawX ρ (numsD (draws (f 3))):=by
 have i:=yi_rng1 (O:=O) (n:=13) (r:=ρ) (i:=(6:Nat)) y_int ⟨okI_le (by decide),by decide⟩
 have i:PI O 13 (.rng1 (.int 6)) ρ ((List.range 6).map fun j:Nat=>.int j):=rng0 6 ▸ i
 have x:=y_lcM (O:=O) (n:=13) (k:=48) (fs:=[1]) (g:=fun k:Nat=>.int (drw (f 3) k)) (e:=.bin .Mod (.bin .FloorDiv (.subo 1 (.int 3)) (.bin .Pow (.int 12) (.var 48))) (.int 12)) i rfl (by decide) fun k hk=>by
  have hk:=List.mem_range.mp hk
  have m1:(setV (mask [1] ρ) 48 (.int k)) 1=some (.own (fourD f)):=h1
  exact y_bin (y_bin (y_subo m1 y_int (sub_four f 3 (by decide))) (y_bin y_int (y_var (k:=48) rfl) (pow_nat (b:=12) (by decide) (by decide +kernel) (by lia))) (fdiv_big _ (Nat.pow_pos (by decide)) (okI_big (Nat.lt_of_le_of_lt (Nat.pow_le_pow_right (n:=12) (j:=5) (by decide) (Nat.le_of_lt_succ hk)) (by decide))))) y_int (fmod_nat _ (b:=12) (by decide))
 show P O 14 drawX ρ (.lst (((List.range 6).map (drw (f 3))).map fun u:Nat=>.int u))
 rw [List.map_map]
 exact x
noncomputable def perms:List (List Nat):=[[0,1,2],[0,2,1],[1,0,2],[1,2,0],[2,0,1],[2,1,0]]
noncomputable def permX:X:=.lst [(.lst [(.int 0),(.int 1),(.int 2)]),(.lst [(.int 0),(.int 2),(.int 1)]),(.lst [(.int 1),(.int 0),(.int 2)]),(.lst [(.int 1),(.int 2),(.int 0)]),(.lst [(.int 2),(.int 0),(.int 1)]),(.lst [(.int 2),(.int 1),(.int 0)])]
theorem perm_x (ρ:Rho):P O 13 permX ρ (.lst (perms.map numsD)):=by unfold P; kernel_rfl
noncomputable def keyD (l:List Nat):Bool:=Nat.beq l.length 3&&l.all fun k=>Nat.blt k 3
structure Key (l:List Nat):Prop where
 len:l.length=3
 lt:∀ k ∈ l,k < 3
theorem perms_ok:perms.all keyD=true:=by decide +kernel
theorem perm_sub {j:Nat} (h:j < 6):∃ l,Key l∧subD (.lst (perms.map numsD)) (.int j)=some (numsD l):=by
 have h:j < perms.length:=h
 obtain ⟨h1,h2⟩:=ba (List.all_eq_true.mp perms_ok _ (List.getElem_mem h))
 exact ⟨perms[j],⟨Nat.eq_of_beq_eq_true h1,fun k hk=>Nat.blt_eq.mp (List.all_eq_true.mp h2 k hk)⟩,(List.getElem?_map ..).trans (congrArg _ (List.getElem?_eq_getElem h))⟩
noncomputable def way (d k:Nat):Int:=1 - 2*(d / 2 ^ k % 2:Nat)
theorem way_one (d k:Nat):way d k=1 ∨ way d k=-1:=by
 unfold way
 rcases Nat.mod_two_eq_zero_or_one (d / 2 ^ k) with e | e <;> rw [e]
 ·exact .inl rfl
 ·exact .inr rfl
noncomputable def ordX:X:=.lc (.tup [(.var 52),(.bin .Sub (.int 1) (.bin .Mult (.int 2) (.bin .Mod (.bin .FloorDiv (.sub (.var 13) (.int 4)) (.bin .Pow (.int 2) (.var 48))) (.int 2))))]) (.tup [(.name 48),(.name 52)]) (.enum (.var 14)) none [13]
noncomputable def ordQ (l:List Nat) (d:Nat) (j:Nat):Nat × Int:=(l.getD j 0,way d j)
theorem ord_l {ρ:Rho} {ds l:List Nat} {d:Nat} (h13:ρ 13=some (.val (numsD ds))) (h14:ρ 14=some (.val (numsD l))) (hd:ds[4]?=some d) (hl:l.length=3):P O 14 ordX ρ (ordD ((List.range 3).map (ordQ l d))):=by
 have i:PI O 13 (.enum (.var 14)) ρ ((List.range 3).map fun j:Nat=>.tup [.int j,.int (l.getD j 0)]):=by
  have q:=yi_enum (O:=O) (n:=13) (y_var h14) rfl
  have e:enumD 0 (l.map fun u:Nat=>.int u)=(List.range 3).map fun j:Nat=>.tup [.int j,.int (l.getD j 0)]:=(en_map (f:=fun u:Nat=>.int u) (a:=0) l 0).trans (by
   rw [hl]
   exact List.map_congr_left fun j _=>by rw [Nat.zero_add])
  exact e ▸ q
 have x:=y_lcT (O:=O) (n:=13) (ρ:=ρ) (fs:=[13]) (t:=.tup [(.name 48),(.name 52)]) (g:=fun j:Nat=>kD (ordQ l d j)) (e:=.tup [(.var 52),(.bin .Sub (.int 1) (.bin .Mult (.int 2) (.bin .Mod (.bin .FloorDiv (.sub (.var 13) (.int 4)) (.bin .Pow (.int 2) (.var 48))) (.int 2))))]) i (fun j hj=>by
  have hj:=List.mem_range.mp hj
  have m13:setV (setV (mask [13] ρ) 48 (.int j)) 52 (.int (l.getD j 0)) 13=some (.val (numsD ds)):=h13
  refine ⟨_,rfl,Sub.fresh _ rfl (Sub.fresh _ rfl Sub.refl),?_⟩
  have e2:2 ^ j≤65536:=Nat.le_trans (Nat.pow_le_pow_right (n:=2) (j:=3) (by decide) (Nat.le_of_lt hj)) (by decide)
  exact y_tup (yl (y_var (k:=52) rfl) (yl (y_bin y_int (y_bin y_int (y_bin (y_bin (y_sub (y_var (k:=13) m13) y_int (sub_cs (k:=4) hd)) (y_bin y_int (y_var (k:=48) rfl) (pow_nat (b:=2) (by decide) (by decide +kernel) (by lia))) (fdiv_nat d (Nat.pow_pos (by decide)) e2)) y_int (fmod2 _)) (mul_ok (a:=2) (okI_le (Nat.le_trans (Nat.le_of_lt (Nat.mod_lt _ (by decide))) (by decide))))) rfl) yl0)) (show 2≤65536 by decide)) (by decide)
 show P O 14 ordX ρ (.lst (((List.range 3).map (ordQ l d)).map kD))
 rw [List.map_map]
 exact x
end
end
section
inductive TlI {α:Type} (t:D) (k:D→D→D→D→D→D→Option α) (z:α):Prop
 | mk (a b c x y u:D) (e:t=.lst [.tup [a,b,c],.tup [x,y,u]]) (h:k a b c x y u=some z)
noncomputable def tlK {α:Type} (t:D) (k:D→D→D→D→D→D→Option α):Option α:=dL t fun l=>d2 l fun a b=>dT a fun a=>dT b fun b=>d3 a fun h d l=>d3 b (k h d l)
theorem tlK_i {α:Type} {t:D} {k:D→D→D→D→D→D→Option α} {z:α} (h:tlK t k=some z):TlI t k z:=by
 obtain ⟨l,rfl,h⟩:=onL_i h
 obtain ⟨a,b,rfl,h⟩:=d2_i h
 obtain ⟨a,rfl,h⟩:=onT_i h
 obtain ⟨b,rfl,h⟩:=onT_i h
 obtain ⟨a,b,c,rfl,h⟩:=d3_i h
 obtain ⟨x,y,u,rfl,h⟩:=d3_i h
 exact ⟨a,b,c,x,y,u,rfl,h⟩
noncomputable def farX:X:=(.bi .max1 [(.lc (.bi .abs [(.bin .Sub (.bin .Mult (.int 16) (.bi .abs [(.bin .Sub (.bin .Mult (.var 18) (.bin .FloorDiv (.var 48) (.int 3))) (.var 57))])) (.sub (.var 40) (.bin .Mod (.var 48) (.int 3))))]) (.tup [(.name 48),(.name 57)]) (.enum (.bin .Add (.var 44) (.var 45))) none [40,18])])
noncomputable def backN:X:=(.tup [(.lst [(.bi .isTup [(.var 44)]),(.bi .isTup [(.var 45)]),(.cmp .Lt (.bin .Mult (.var 46) (.bin .Pow (.int 10) (.int 9))) (.int 1))]),(.bin .Mult (.lst [(.bool true)]) (.int 3))])
noncomputable def bkE (ink:Nat) (hand one two:D):Rho:=setV (setV (setV (setV e0 18 (.int ink)) 40 hand) 44 one) 45 two
noncomputable def pureO {α:Type} (o:R1) (k:D→Option α):Option α:=o.bind fun p=>if p.2.isEmpty then k p.1 else none
inductive PuI {α:Type} (o:R1) (k:D→Option α) (z:α):Prop
 | mk (d:D) (e:o=some (d,[])) (h:k d=some z)
theorem pureO_i {α:Type} {o:R1} {k:D→Option α} {z:α} (h:pureO o k=some z):PuI o k z:=by
 obtain ⟨d,l,rfl,h⟩:=bo h
 obtain ⟨h1,h2⟩:=if_s h
 exact ⟨d,congrArg (fun l=>some (d,l)) (List.isEmpty_iff.mp h1),h2⟩
noncomputable def backO (O:Ora) (t t':D) (ink m take p:Nat) (hand:D):Option Bool:=tlK t fun h d l _ _ _=>tlK t' fun _ _ _ tone deep dark =>
 (binD .Add h (.int m)).bind fun a=>(binD .Mult l (.int take)).bind fun x=>(binD .Div x (.int p)).bind fun x=>pureO (O.call 4 [a,d,x]) fun one =>
 (binD .Sub tone (.int m)).bind fun a=>(binD .Mult dark (.int take)).bind fun y=>(binD .Div y (.int p)).bind fun y=>(binD .Sub (.int ink) y).bind fun y=>(biD .abs [y]).bind fun y=>pureO (O.call 1 [a,y,deep]) fun two =>
 pureO (ev O EF farX (bkE ink hand one two)) fun far=>pureO (ev O EF backN (setV (bkE ink hand one two) 46 far)) fun nt=>some (okNB nt)
noncomputable def handD (F:N3) (take p:Nat) (x y:D):D:=.tup [.int (F.a*take / p),.int (F.b*take / p),.int (F.c*take / p),x,y]
noncomputable def backP (O:Ora) (x y:D) (p take i:Nat):Bool:=((comps 12).filter (N3.dv p)).all fun F=>(fun t t'=>(List.range 3).all fun m=>backO O t t' i m take p (handD F take p x y) == some true) (tel O F.cd 0) (tel O F.cd i)
section
variable (b1:Int→Bool) (b3:Int→Option (List Nat)) (n:Nat) (x y:D)
theorem bk0_0:backP (oraN fns b1 b3 (n+2)) x y 2 1 0=true:=by kernel_rfl
theorem bk0_1:backP (oraN fns b1 b3 (n+2)) x y 2 1 1=true:=by kernel_rfl
theorem bk1_0:backP (oraN fns b1 b3 (n+2)) x y 3 1 0=true:=by kernel_rfl
theorem bk1_1:backP (oraN fns b1 b3 (n+2)) x y 3 1 1=true:=by kernel_rfl
theorem bk2_0:backP (oraN fns b1 b3 (n+2)) x y 3 2 0=true:=by kernel_rfl
theorem bk2_1:backP (oraN fns b1 b3 (n+2)) x y 3 2 1=true:=by kernel_rfl
theorem bk3_0:backP (oraN fns b1 b3 (n+2)) x y 4 1 0=true:=by kernel_rfl
theorem bk3_1:backP (oraN fns b1 b3 (n+2)) x y 4 1 1=true:=by kernel_rfl
theorem bk4_0:backP (oraN fns b1 b3 (n+2)) x y 4 2 0=true:=by kernel_rfl
theorem bk4_1:backP (oraN fns b1 b3 (n+2)) x y 4 2 1=true:=by kernel_rfl
theorem bk5_0:backP (oraN fns b1 b3 (n+2)) x y 4 3 0=true:=by kernel_rfl
theorem bk5_1:backP (oraN fns b1 b3 (n+2)) x y 4 3 1=true:=by kernel_rfl
end
end
section
noncomputable def backSts:List St:=[.unp [41,42,43] (.sub (.sub (.var 19) (.var 18)) (.int 1)),
    .asg 44 (.call 4 [(.bin .Add (.var 20) (.bin .Mod (.sub (.var 13) (.int 5)) (.int 3))),(.var 21),(.bin .Div (.bin .Mult (.var 22) (.var 27)) (.var 4))]),
    .asg 45 (.call 1 [(.bin .Sub (.var 41) (.bin .Mod (.sub (.var 13) (.int 5)) (.int 3))),(.bi .abs [(.bin .Sub (.var 18) (.bin .Div (.bin .Mult (.var 43) (.var 27)) (.var 4)))]),(.var 42)]),
    .asg 46 farX,
    .note 12 backN]
inductive Tl3 (t h d l:D):Prop
 | mk (x y z:D) (e:t=.lst [.tup [h,d,l],.tup [x,y,z]])
section
variable {O:Ora} {t t' h d l hand:D} {ink m take p k:Nat} {ds:List Nat}
theorem back_tr {T:D} {ρ:Rho} (ht:Tl3 t h d l) (hb:backO O t t' ink m take p hand=some true) (hT:subD T (.int ink)=some t') (hd:ds[5]?=some k) (hm:k % 3=m) (h4:ρ 4=some (.val (.int p))) (h12:ρ 12=some (.val .notes)) (h13:ρ 13=some (.val (numsD ds))) (h18:ρ 18=some (.val (.int ink))) (h19:ρ 19=some (.val T)) (h20:ρ 20=some (.val h)) (h21:ρ 21=some (.val d)) (h22:ρ 22=some (.val l)) (h27:ρ 27=some (.val (.int take))) (h40:ρ 40=some (.val hand))
  (h41:ρ 41=none) (h42:ρ 42=none) (h43:ρ 43=none) (h44:ρ 44=none) (h45:ρ 45=none) (h46:ρ 46=none):Tr (exB (ex O 6) backSts) (Sub ρ) (Sub ρ) 1:=by
 obtain ⟨_,_,_,rfl⟩:=ht
 obtain ⟨_,_,_,_,_,_,e,hb⟩:=tlK_i hb
 cases e
 obtain ⟨_,_,_,tone,deep,dark,rfl,hb⟩:=tlK_i hb
 obtain ⟨a,ea,hb⟩:=b1o hb
 obtain ⟨x,ex,hb⟩:=b1o hb
 obtain ⟨x',ex',hb⟩:=b1o hb
 obtain ⟨one,e1,hb⟩:=pureO_i hb
 obtain ⟨a',ea',hb⟩:=b1o hb
 obtain ⟨y,ey,hb⟩:=b1o hb
 obtain ⟨y',ey',hb⟩:=b1o hb
 obtain ⟨u,eu,hb⟩:=b1o hb
 obtain ⟨v,ev,hb⟩:=b1o hb
 obtain ⟨two,e2,hb⟩:=pureO_i hb
 obtain ⟨far,e3,hb⟩:=pureO_i hb
 obtain ⟨nt,e4,hb⟩:=pureO_i hb
 have ok:=okNB_i (Option.some.inj hb)
 have pm:∀ n (ρ:Rho),ρ 13=some (.val (numsD ds))→P O (n+3) (.bin .Mod (.sub (.var 13) (.int 5)) (.int 3)) ρ (.int m):=fun n ρ h=>hm ▸ y_bin (y_sub (y_var h) y_int (sub_cs (k:=5) hd)) y_int (fmod_nat _ (b:=3) (by decide))
 refine show Tr (exB (Mine.ex O 6) backSts) _ _ (0+(0+(0+(0+1)))) from tr_cons (tr_unp (y_sub (y_sub (y_var (k:=19) h19) (y_var (k:=18) h18) hT) (y_int (i:=1)) rfl) rfl rfl)
  (tr_cons (tr_asg (y_call (yl (y_bin (y_var (k:=20) h20) (pm 10 _ h13) ea) (yl (y_var (k:=21) h21) (yl (y_bin (y_bin (y_var (k:=22) h22) (y_var (k:=27) h27) ex) (y_var (k:=4) h4) ex') yl0))) e1))
  (tr_cons (tr_asg (y_call (yl (y_bin (y_var (k:=41) rfl) (pm 10 _ h13) ea') (yl (y_bi (yl (y_bin (y_var (k:=18) h18) (y_bin (y_bin (y_var (k:=43) rfl) (y_var (k:=27) h27) ey) (y_var (k:=4) h4) ey') eu) yl0) ev) (yl (y_var (k:=42) rfl) yl0))) e2))
  (tr_cons (tr_asg ((show P O EF farX _ far from e3).le ?_)) (tr_one ((tr_note ((show P O EF backN _ nt from e4).le ?_) ?_ ok).w (fun _=>id) fun r s=>Sub.trans ?_ s)))))
 ·exact Sub.add rfl (Sub.add rfl (Sub.add h40 (Sub.add h18 (sub0 _))))
 ·exact Sub.add rfl (Sub.add rfl (Sub.add rfl (Sub.add h40 (Sub.add h18 (sub0 _)))))
 ·exact h12
 ·exact Sub.fresh _ h46 (Sub.fresh _ h45 (Sub.fresh _ h44 (Sub.fresh _ h43 (Sub.fresh _ h42 (Sub.fresh _ h41 Sub.refl)))))
end
section
variable {b1:Int→Bool} {b3:Int→Option (List Nat)} {n:Nat}
theorem backs (x y:D) {p take i:Nat} (hp:p=2 ∨ p=3 ∨ p=4) (h1:1≤take) (h2:take < p) (hi:i < 2):backP (oraN fns b1 b3 (n+2)) x y p take i=true:=by
 have two:∀ {P:Nat→Prop},P 0→P 1→∀ i < 2,P i:=fun h0 h1 i hi=>by
  rcases i with _ | _ | i
  ·exact h0
  ·exact h1
  ·exact absurd hi (Nat.not_lt_of_le (Nat.le_add_left 2 i))
 revert i
 show ∀ i < 2,_
 have:take=1 ∨ take=2 ∨ take=3:=by lia
 rcases hp with rfl | rfl | rfl <;> rcases this with rfl | rfl | rfl
 ·exact two (bk0_0 b1 b3 n x y) (bk0_1 b1 b3 n x y)
 ·exact absurd h2 (by decide)
 ·exact absurd h2 (by decide)
 ·exact two (bk1_0 b1 b3 n x y) (bk1_1 b1 b3 n x y)
 ·exact two (bk2_0 b1 b3 n x y) (bk2_1 b1 b3 n x y)
 ·exact absurd h2 (by decide)
 ·exact two (bk3_0 b1 b3 n x y) (bk3_1 b1 b3 n x y)
 ·exact two (bk4_0 b1 b3 n x y) (bk4_1 b1 b3 n x y)
 ·exact two (bk5_0 b1 b3 n x y) (bk5_1 b1 b3 n x y)
theorem back_of {p take i m:Nat} {F c:Nat→Nat} {x y:D} (hp:p=2 ∨ p=3 ∨ p=4) (h1:1≤take) (h2:take < p) (hi:i < 2) (hm:m < 3) (hF:F 114+(F 103+F 98)=12) (hd:∀ x ∈ RGB,p ∣ F x) (hc:∀ x ∈ RGB,c x*p=F x*take):backO (oraN fns b1 b3 (n+2)) (tel (oraN fns b1 b3 (n+2)) (cd F) 0) (tel (oraN fns b1 b3 (n+2)) (cd F) i) i m take p (.tup [.int (c 114),.int (c 103),.int (c 98),x,y])=some true:=by
 have b:∀ x ∈ RGB,Nat.beq (F x % p) 0=true:=fun x hx=>by rw [Nat.mod_eq_zero_of_dvd (hd x hx)]; rfl
 have h:=List.all_eq_true.mp (backs (b1:=b1) (b3:=b3) (n:=n) x y hp h1 h2 hi) (N3.of F) (List.mem_filter.mpr ⟨comps_mem hF,and_tt (b 114 (by decide +kernel)) (and_tt (b 103 (by decide +kernel)) (b 98 (by decide +kernel)))⟩)
 have h:=eq_of_beq (all_nat h hm)
 have q:∀ x ∈ RGB,c x=F x*take / p:=fun x hx=>by rw [← hc x hx,Nat.mul_div_cancel _ (Nat.lt_of_le_of_lt (Nat.zero_le _) h2)]
 rw [q 114 (by decide +kernel),q 103 (by decide +kernel),q 98 (by decide +kernel)]
 exact h
theorem tl_of {t t' hand:D} {ink m take p:Nat} {O:Ora} (h:backO O t t' ink m take p hand=some true):∃ a b c,Tl3 t a b c:=by
 obtain ⟨a,b,c,x,y,z,e,_⟩:=tlK_i h
 exact ⟨a,b,c,x,y,z,e⟩
end
end
section
open Bw
structure Fx where
 p:Nat
 w:List Nat
 ds:List Nat
 o:List (Nat × Int)
 t0:D
 t1:D
 h:D
 d:D
 l:D
noncomputable def Fx.E (x:Fx):Rho:=setV (setV (setV (setV (setV (setV (setV (setV (setV (setV e0 4 (.int x.p)) 12 .notes) 13 (numsD x.ds)) 15 (ordD x.o)) 16 (.cmp (ordD x.o))) 17 (fr x.w)) 19 (.lst [x.t0,x.t1])) 20 x.h) 21 x.d) 22 x.l
noncomputable def Fx.L (x:Fx) (w':List Nat) (left:Int) (tot:D):Rho:=setV (setV (setV x.E 23 (.str w')) 24 (.int left)) 25 tot
structure Key3 (o:List (Nat × Int)):Prop where
 e:∃ q0 q1 q2:Nat × Int,o=[q0,q1,q2]
 lt:∀ q ∈ o,q.1 < 3
 one:∀ q ∈ o,q.2=1 ∨ q.2=-1
structure FxOk (O:Ora) (x:Fx):Prop where
 prt:Prt x.p
 rgb:∀ c ∈ x.w,c ∈ RGB
 len:x.w.length=12
 dv:∀ l,x.p ∣ cn x.w l
 ds:∀ k < 6,∃ d,x.ds[k]?=some d
 o:Key3 x.o
 t0:x.t0=tel O (cd (cn x.w)) 0
 t1:x.t1=tel O (cd (cn x.w)) 1
 tl:Tl3 x.t0 x.h x.d x.l
theorem Prt.or {p:Nat} (h:Prt p):p=2 ∨ p=3 ∨ p=4:=by
 cases h with
 | two h=>exact .inl h
 | three h=>exact .inr (.inl h)
 | four h=>exact .inr (.inr h)
theorem Prt.ce {p:Nat} (h:Prt p):∃ c ∈ ces,c.n=12∧c.left=p:=by
 have m:c4 ∈ ces∧c6 ∈ ces∧c8 ∈ ces:=by
  unfold ces
  exact ⟨by repeat (first | exact List.mem_cons_self | apply List.mem_cons_of_mem),by repeat (first | exact List.mem_cons_self | apply List.mem_cons_of_mem),by repeat (first | exact List.mem_cons_self | apply List.mem_cons_of_mem)⟩
 cases h with
 | two h=>exact ⟨c4,m.1,rfl,h.symm⟩
 | three h=>exact ⟨c6,m.2.1,rfl,h.symm⟩
 | four h=>exact ⟨c8,m.2.2,rfl,h.symm⟩
noncomputable def wholeX:X:=.bin .Add (.bin .Add (.bin .Mult (.int 10000) (.sub (.var 17) (.int 0))) (.bin .Mult (.int 100) (.sub (.var 17) (.int 1)))) (.sub (.var 17) (.int 2))
noncomputable def tellsX:X:=.lc (.call 12 [wholeX,(.var 18),(.var 12)]) (.name 18) (.rng1 (.int 2)) none [12,17]
theorem tells_x {O:Ora} {ρ:Rho} {w:List Nat} (h17:ρ 17=some (.val (fr w))) (h12:ρ 12=some (.val .notes)) (T0:Told O (cd (cn w)) 0) (T1:Told O (cd (cn w)) 1) :
  ∃ l,ev O EF tellsX ρ=some (.lst [tel O (cd (cn w)) 0,tel O (cd (cn w)) 1],l)∧AllOk l∧l.length≤2:=by
 obtain ⟨n0,t0,ok0⟩:=T0
 obtain ⟨n1,t1,ok1⟩:=T1
 have e:∀ (r:Rho) (i:Nat) (nt:D),Sub (mask [12,17] ρ) r→O.call 12 [.int (cd (cn w)),.int i,.notes]=some (tel O (cd (cn w)) i,[nt])→ev O 13 (.call 12 [wholeX,(.var 18),(.var 12)]) (setV r 18 (.int i))=some (tel O (cd (cn w)) i,[nt]):=fun r i nt s h =>
  have s:=s.fresh (k:=18) (.val (.int i)) rfl
  have v:∀ n,P O (n+1) (.var 17) (setV r 18 (.int i)) (fr w):=fun n=>y_var (s 17 _ h17)
  y_call (yl (y_bin (y_bin (y_bin y_int (y_sub (v 8) y_int rfl) rfl) (y_bin y_int (y_sub (v 8) y_int rfl) rfl) rfl) (y_sub (v 9) y_int rfl) rfl) (yl (y_var (k:=18) rfl) (yl (y_var (k:=12) (s 12 _ h12)) yl0))) h
 exact ⟨[n0,n1],(bnd (show turns (.name 18) (fun _=>some (true,[])) (ev O 13 _) [.int (0:Nat),.int (1:Nat)] _=some ([tel O (cd (cn w)) 0,tel O (cd (cn w)) 1],[n0,n1]) from bnd (e _ 0 n0 Sub.refl t0) (bnd (bnd (e _ 1 n1 (Sub.refl.fresh _ rfl) t1) (bnd rfl rfl)) rfl)) (if_pos (show 2≤65536 by decide))),(AllOk.one ok0).app (AllOk.one ok1),Nat.le_refl _⟩
theorem sub_frs {w:List Nat} (h:w.length=12):subD (.lst (frs w)) (.int 12)=some (fr w):=by
 have e:(frs w)[12]?=some (fr (w.take 12)):=by
  unfold frs
  rw [List.getElem?_map,List.getElem?_range (by rw [h]; decide)]
  rfl
 rw [List.take_of_length_le (Nat.le_of_eq h)] at e
 exact e
theorem y_mk {O:Ora} {n:Nat} {a:X} {r:Rho} {d:D} (p:P O n a r d):P O (n+1) (.mk a) r (.cmp d):=bnd p rfl
noncomputable def totD:D:=FrD (fun _=>0) 0 []
section
variable {b1:Int→Bool} {b3:Int→Option (List Nat)} {n:Nat}
theorem law_b1_tr {p:Nat} {w C:List Nat} {f:Nat→Nat} (L:La p w C) (h11:H11 (oraN fns b1 b3 (n+2))):∃ x:Fx,FxOk (oraN fns b1 b3 (n+2)) x∧x.p=p∧x.w=w∧Tr (exB (ex (oraN fns b1 b3 (n+2)) 8) (law_b.take 7)) (Sub (setV (laE f p w C) 12 .notes)) (Sub (x.L w p totD)) (0+(0+(0+(0+(2+(0+0)))))):=by
 obtain ⟨c,hc,cn',cl⟩:=L.prt.ce
 have hF:cn w 114+(cn w 103+cn w 98)=12:=(cn_sum L.rgb).trans L.len
 have told:∀ i < 2,Told (oraN fns b1 b3 (n+2)) (cd (cn w)) i:=fun i hi=>ring_told hc (hF.trans cn'.symm) (fun x _=>cl.symm ▸ L.dv x) hi
 have bk:=back_of (b1:=b1) (b3:=b3) (n:=n) (p:=p) (take:=1) (i:=0) (m:=0) (F:=cn w) (c:=fun x=>cn w x / p) (x:=.none) (y:=.none) L.prt.or (by decide) L.prt.le.2.2 (by decide) (by decide) hF (fun x _=>L.dv x) fun x _=>(Nat.div_mul_cancel (L.dv x)).trans (Nat.mul_one _).symm
 obtain ⟨h,d,l,tl⟩:=tl_of bk
 obtain ⟨ks,hk,sk⟩:=perm_sub (j:=drw (f 3) 3 % 6) (Nat.mod_lt _ (by decide))
 obtain ⟨nl,te,tok,tn⟩:=tells_x (O:=oraN fns b1 b3 (n+2)) (w:=w) (ρ:=setV (setV (setV e0 12 .notes) 17 (fr w)) 12 .notes) rfl rfl (told 0 (by decide)) (told 1 (by decide))
 refine ⟨⟨p,w,draws (f 3),(List.range 3).map (ordQ ks (drw (f 3) 4)),tel (oraN fns b1 b3 (n+2)) (cd (cn w)) 0,tel (oraN fns b1 b3 (n+2)) (cd (cn w)) 1,h,d,l⟩,⟨L.prt,L.rgb,L.len,L.dv,fun k hk=>⟨drw (f 3) k,(List.getElem?_map ..).trans (congrArg _ (List.getElem?_range hk))⟩,⟨⟨_,_,_,rfl⟩,fun q hq=>?_,fun q hq=>?_⟩,rfl,rfl,tl⟩,rfl,rfl,?_⟩
 ·obtain ⟨j,hj,rfl⟩:=List.mem_map.mp hq
  exact hk.lt _ (getD_mem (hk.len.symm ▸ List.mem_range.mp hj))
 ·obtain ⟨j,hj,rfl⟩:=List.mem_map.mp hq
  exact way_one _ _
 ·obtain ⟨_,_,_,te'⟩:=id tl
  refine tr_cons (tr_asg (draw_x rfl)) (tr_cons (tr_asg (y_sub (perm_x _) (y_bin (y_sub (y_var (k:=13) rfl) y_int (sub_cs (k:=3) rfl)) y_int (fmod_nat _ (b:=6) (by decide))) sk)) (tr_cons (tr_asg (ord_l (d:=drw (f 3) 4) rfl rfl rfl hk.len))
   (tr_cons (tr_unp (y_tup (yl (y_mk (y_var (k:=15) rfl)) (yl (y_sub (y_call (yl (y_var (k:=11) rfl) yl0) (h11 w L.rgb (by rw [L.len]; decide))) y_int (sub_frs L.len)) yl0)) (show 2≤65536 by decide)) rfl rfl)
   (tr_cons (tr_asgN (ev_up _ _ _ _ _ ?_ _ te) tok tn) (tr_cons (tr_unp (y_sub (y_sub (y_var (k:=19) rfl) (y_int (i:=0)) rfl) (y_int (i:=0)) (congrArg (fun t=>subD t (.int 0)) te')) rfl rfl)
   (tr_one ((tr_unp (y_tup (yl (y_var (k:=11) rfl) (yl (y_var (k:=4) rfl) (yl (y_tup (yl y_int (yl y_int (yl y_int (yl y_int (yl y_dct0 yl0))))) (show 5≤65536 by decide)) yl0))) (show 3≤65536 by decide)) rfl rfl).w (fun _=>id) fun r s=>Sub.trans ?_ s)))))))
  ·repeat (first | exact sub0 _ | refine Sub.add rfl ?_)
  ·repeat (first | exact sub0 _ | refine Sub.add rfl ?_)
end
end
section
open Bw
theorem okT_i {n share:Nat} {t:T3} (h:okT n share t=true):1≤t.f∧t.f≤share∧t.p < n∧(share≤n→t.f+t.g+(share - t.f)≤n):=by
 obtain ⟨k1,h⟩:=ba h
 obtain ⟨k2,h⟩:=ba h
 obtain ⟨k3,k4⟩:=ba h
 have k1:=Nat.le_of_ble_eq_true k1
 have k2:=Nat.le_of_ble_eq_true k2
 refine ⟨k1,k2,Nat.blt_eq.mp k3,fun hs=>?_⟩
 have k4:=Nat.blt_eq.mp k4
 have e:t.f+t.g+(share - t.f)=share+t.g:=by rw [Nat.add_right_comm,Nat.add_sub_cancel' k2]
 rw [e]
 by_cases q:t.f < share
 ·rw [Nat.blt_eq.mpr q] at k4
  exact Nat.add_le_of_le_sub' hs (Nat.le_of_lt_succ k4)
 ·rw [Bool.eq_false_iff.mpr fun r=>q (Nat.blt_eq.mp r)] at k4
  have k4:t.g < 1:=k4
  rw [Nat.lt_one_iff.mp k4]
  exact hs
theorem mod_le {n p x y:Nat} (hx:x < n) (e:(p+x) % n=(p+y) % n):x≤y:=by
 have z:=Nat.sub_mod_eq_zero_of_mod_eq e
 rw [Nat.add_sub_add_left,Nat.mod_eq_of_lt (Nat.lt_of_le_of_lt (Nat.sub_le ..) hx)] at z
 exact Nat.le_of_sub_eq_zero z
theorem mod_inj {n p x y:Nat} (hx:x < n) (hy:y < n) (e:(p+x) % n=(p+y) % n):x=y:=Nat.le_antisymm (mod_le hx e) (mod_le hy e.symm)
noncomputable def offs (share:Nat) (t:T3):List Nat:=List.range t.f++(List.range (share - t.f)).map fun k=>t.f+t.g+k
theorem posn_offs (n share:Nat) (t:T3):posn n share t=(offs share t).map fun k=>(t.p+k) % n:=by
 unfold posn offs
 rw [List.map_append,List.map_map]
 rfl
theorem posn_nodup {n share:Nat} {t:T3} (h:okT n share t=true) (hs:share≤n):(posn n share t).Nodup:=by
 obtain ⟨h1,h2,h3,h4⟩:=okT_i h
 have h4:=h4 hs
 have lt:∀ k ∈ offs share t,k < n:=fun k hk=>by
  rcases List.mem_append.mp hk with hk | hk
  ·have:=List.mem_range.mp hk; lia
  ·obtain ⟨j,hj,rfl⟩:=List.mem_map.mp hk
   have:=List.mem_range.mp hj; lia
 have nd:(offs share t).Nodup:=List.nodup_append.mpr ⟨List.nodup_range,List.pairwise_map.mpr (List.nodup_range.imp fun hab e=>hab (Nat.add_left_cancel e)),fun a ha b hb e=>by
  obtain ⟨j,hj,rfl⟩:=List.mem_map.mp hb
  have:=List.mem_range.mp ha; lia⟩
 rw [posn_offs]
 exact List.pairwise_map.mpr (nd.imp_of_mem fun ha hb hab e=>hab (mod_inj (lt _ ha) (lt _ hb) e))
noncomputable def pick (w S:List Nat):List Nat:=S.map fun i=>w.getD i 0
noncomputable def out (n:Nat) (S:List Nat):List Nat:=(List.range n).filter fun i=>!S.contains i
theorem pick_count {w:List Nat} {l:Nat} {S:List Nat} (h:∀ i ∈ S,i < w.length):cn (pick w S) l=cntW w l S:=by
 unfold cn
 induction S with
 | nil=>rfl
 | cons i S ih =>
  show (w.getD i 0::pick w S).count l=cntW w l S+(decide (w[i]?=some l)).toNat
  rw [List.count_cons,ih fun j hj=>h j (List.mem_cons_of_mem _ hj),get_getD (h i List.mem_cons_self)]
  refine congrArg (cntW w l S+·) ?_
  by_cases q:w.getD i 0=l
  ·rw [if_pos (beq_iff_eq.mpr q),decide_eq_true (congrArg some q)]; rfl
  ·rw [if_neg fun r=>q (beq_iff_eq.mp r),decide_eq_false fun r=>q (Option.some.inj r)]; rfl
theorem cntW_perm {w:List Nat} {l:Nat} {S S':List Nat} (h:S.Perm S'):cntW w l S=cntW w l S':=by
 induction h with
 | nil=>rfl
 | cons x _ ih=>exact congrArg (·+(decide (w[x]?=some l)).toNat) ih
 | swap x y S=>exact Nat.add_right_comm ..
 | trans _ _ i1 i2=>exact i1.trans i2
theorem out_mem {n i:Nat} {S:List Nat}:i ∈ out n S ↔ i < n∧i ∉ S:=by
 unfold out
 rw [List.mem_filter,List.mem_range,Bool.not_eq_true',Bool.eq_false_iff,ne_eq,List.contains_iff_mem]
theorem out_perm {n:Nat} {S:List Nat} (hn:S.Nodup) (h:∀ i ∈ S,i < n):(S++out n S).Perm (List.range n):=by
 refine (List.perm_ext_iff_of_nodup (List.nodup_append.mpr ⟨hn,List.Nodup.sublist List.filter_sublist List.nodup_range,fun a ha b hb e=>(out_mem.mp hb).2 (e ▸ ha)⟩) List.nodup_range).mpr fun i=>?_
 rw [List.mem_append,List.mem_range]
 exact ⟨fun q=>q.elim (h i) fun q=>(out_mem.mp q).1,fun q=>(Classical.em (i ∈ S)).imp id fun r=>out_mem.mpr ⟨q,r⟩⟩
theorem out_count {w S:List Nat} (l:Nat) (hn:S.Nodup) (h:∀ i ∈ S,i < w.length):cn (pick w S) l+cn (pick w (out w.length S)) l=cn w l:=by
 rw [pick_count h,pick_count fun i hi=>(out_mem.mp hi).1,← cntW_app,cntW_perm (out_perm hn h)]
 exact cntW_all l w
noncomputable def Rs (p:Nat) (w w':List Nat) (left:Nat):Prop:=∀ c,cn w' c*p=cn w c*left
section
variable {p:Nat} {w w':List Nat} {left:Nat} (hr:∀ c ∈ w,c ∈ RGB) (hp:0 < p) (R:Rs p w w' left)
include hr hp R
theorem Rs.zero {c:Nat} (h:c ∉ RGB):cn w' c=0:=by
 have z:cn w c=0:=List.count_eq_zero.mpr fun q=>h (hr c q)
 have e:=R c
 rw [z,Nat.zero_mul] at e
 exact (Nat.mul_eq_zero.mp e).resolve_right (Nat.ne_of_gt hp)
theorem Rs.rgb:∀ c ∈ w',c ∈ RGB:=fun c hc=>Classical.byContradiction fun h=>Nat.ne_of_gt (List.count_pos_iff.mpr hc) (R.zero hr hp h)
theorem Rs.len (h:w.length=12):w'.length*p=12*left:=by
 rw [← cn_sum (R.rgb hr hp),← h,← cn_sum hr,Nat.add_mul,Nat.add_mul,Nat.add_mul,Nat.add_mul,R 114,R 103,R 98]
omit hr in
theorem Rs.dv (hd:∀ l,p ∣ cn w l) (c:Nat):left ∣ cn w' c:=by
 obtain ⟨k,hk⟩:=hd c
 have e:=R c
 rw [hk,Nat.mul_assoc,Nat.mul_comm (cn w' c)] at e
 exact ⟨k,(Nat.eq_of_mul_eq_mul_left hp e).trans (Nat.mul_comm k left)⟩
end
noncomputable def sizeB:Bool:=[2,3,4].all fun p=>(List.range 5).all fun l=>(List.range 5).all fun t=>!(Nat.ble 2 l&&(Nat.ble l p&&(Nat.ble 1 t&&Nat.blt t l))) || ces.any fun c=>Nat.beq (c.n*p) (12*l)&&(Nat.beq c.left l&&Nat.beq c.take t)
theorem size_ok:sizeB=true:=by decide +kernel
theorem size_of {p l t:Nat} (hp:Prt p) (h2:2≤l) (hl:l≤p) (h1:1≤t) (ht:t < l):∃ c ∈ ces,c.n*p=12*l∧c.left=l∧c.take=t:=by
 have hp4:=hp.le.2.1
 have m:p ∈ [2,3,4]:=by
  cases hp with
  | _ h=>rw [h]; decide
 have q:=all_nat (all_nat (List.all_eq_true.mp size_ok p m) (show l < 5 by lia)) (show t < 5 by lia)
 rw [Nat.ble_eq.mpr h2,Nat.ble_eq.mpr hl,Nat.ble_eq.mpr h1,Nat.blt_eq.mpr ht] at q
 obtain ⟨c,hc,q⟩:=List.any_eq_true.mp q
 obtain ⟨q1,q⟩:=ba q
 obtain ⟨q2,q3⟩:=ba q
 exact ⟨c,hc,Nat.eq_of_beq_eq_true q1,Nat.eq_of_beq_eq_true q2,Nat.eq_of_beq_eq_true q3⟩
theorem rs_ring {p l t:Nat} {w w':List Nat} (hp:Prt p) (hr:∀ c ∈ w,c ∈ RGB) (hw:w.length=12) (hd:∀ l,p ∣ cn w l) (R:Rs p w w' l) (h2:2≤l) (hl:l≤p) (h1:1≤t) (ht:t < l):∃ c,Ring c w'∧c.left=l∧c.take=t:=by
 have h0:0 < p:=Nat.lt_of_lt_of_le (by decide) hp.le.2.2
 obtain ⟨c,hc,e1,e2,e3⟩:=size_of hp h2 hl h1 ht
 exact ⟨c,⟨hc,R.rgb hr h0,Nat.eq_of_mul_eq_mul_right h0 ((R.len hr h0 hw).trans e1.symm),fun x _=>e2.symm ▸ R.dv h0 hd x⟩,e2,e3⟩
theorem rs_next {p:Nat} {w w':List Nat} {c:Ce} {t:T3} (hr:∀ c ∈ w,c ∈ RGB) (hp:0 < p) (R:Rs p w w' c.left) (G:Ring c w') (h:okT c.n c.share t=true) (hf:FairW w' c.share c.left c.take t):Rs p w (pick w' (posn c.n c.share t)) c.take∧Rs p w (pick w' (out c.n (posn c.n c.share t))) (c.left - c.take):=by
 have F:=ce_f G.hc
 have l0:=(ce_i G.hc).l
 have n0:0 < c.n:=F.n1
 have lt:∀ i ∈ posn c.n c.share t,i < w'.length:=fun i hi=>G.n.symm ▸ posn_lt n0 i hi
 have oc:=fun l=>out_count l (posn_nodup h F.sh) lt
 rw [G.n] at oc
 have h1:Rs p w (pick w' (posn c.n c.share t)) c.take:=fun x=>by
  by_cases q:x ∈ RGB
  ·have e:=hf x q
   have e1:cn (pick w' (posn c.n c.share t)) x=ft w' c.share t x:=by rw [pick_count lt,← G.n]; rfl
   rw [e1]
   have e2:=R x
   refine Nat.eq_of_mul_eq_mul_right l0 ?_
   rw [Nat.mul_right_comm,e,Nat.mul_right_comm,e2,Nat.mul_right_comm]
  ·have z:=R.zero hr hp q
   have z':cn w x=0:=List.count_eq_zero.mpr fun r=>q (hr x r)
   have:=oc x
   rw [z',show cn (pick w' (posn c.n c.share t)) x=0 by lia,Nat.zero_mul,Nat.zero_mul]
 refine ⟨h1,fun x=>?_⟩
 have e:=congrArg (·*p) (oc x)
 have e:(cn (pick w' (posn c.n c.share t)) x+cn (pick w' (out c.n (posn c.n c.share t))) x)*p=cn w' x*p:=e
 rw [Nat.add_mul,h1 x,R x] at e
 rw [Nat.mul_sub,← e,Nat.add_sub_cancel_left]
end
section
open Bw
structure Rows (c:Ce) (w:List Nat) (ts:List T3):Prop where
 ok:∀ t ∈ ts,okT c.n c.share t=true∧FairW w c.share c.left c.take t
 ne:ts ≠ []
 half:2*c.take=c.left→∀ p < c.n,(ts.map T3.p).contains p=true
 two:(∃ x ∈ RGB,cn w x=0)→(ts.map T3.f).contains c.share=true
 len:ts.length≤60000
theorem row_inj {a b:T3} (h:rowD a=rowD b):a=b:=by
 obtain ⟨a1,a2,a3⟩:=a
 obtain ⟨b1,b2,b3⟩:=b
 cases h
 rfl
theorem choose_map {α:Type} {v:α→D} {P:α→Prop} {l:List D} (h:∀ d ∈ l,∃ t,P t∧d=v t):∃ ts:List α,l=ts.map v∧∀ t ∈ ts,P t:=by
 induction l with
 | nil=>exact ⟨[],rfl,nofun⟩
 | cons d l ih =>
  obtain ⟨ts,rfl,h2⟩:=ih fun x hx=>h x (List.mem_cons_of_mem _ hx)
  obtain ⟨t,h3,rfl⟩:=h d List.mem_cons_self
  exact ⟨t::ts,rfl,fun x hx=>(List.mem_cons.mp hx).elim (fun e=>e ▸ h3) (h2 x)⟩
theorem rows_of {c:Ce} {w:List Nat} (R:Ring c w):∃ ts,(allW c w c.n).2=ts.map rowD∧Rows c w ts:=by
 obtain ⟨ts,e,ok⟩:=choose_map (l:=(allW c w c.n).2) (v:=rowD) (P:=fun t=>okT c.n c.share t=true∧FairW w c.share c.left c.take t) fun d hd=>by
  obtain ⟨t,h1,h2,h3⟩:=(row_iff R).mp hd
  exact ⟨t,⟨h1,h2⟩,h3⟩
 have mem:∀ t,okT c.n c.share t=true→FairW w c.share c.left c.take t→t ∈ ts:=fun t h1 h2=>by
  have q:=(row_iff R).mpr ⟨t,h1,h2,rfl⟩
  rw [e] at q
  obtain ⟨u,hu,hv⟩:=List.mem_map.mp q
  exact row_inj hv ▸ hu
 have F:=ce_f R.hc
 obtain ⟨t,h1,h2⟩:=row_any R
 have sh1:1≤c.share:=Nat.le_trans (okT_i h1).1 (okT_i h1).2.1
 refine ⟨ts,e,ok,fun q=>?_,fun hh p hp=>?_,fun hz=>?_,?_⟩
 ·have:=mem t h1 h2
  rw [q] at this
  cases this
 ·obtain ⟨f,g,k1,k2⟩:=row_half R hh p hp
  exact List.contains_iff_mem.mpr (List.mem_map.mpr ⟨_,mem _ k1 k2,rfl⟩)
 ·obtain ⟨p,k1,k2⟩:=row_two R hz
  refine List.contains_iff_mem.mpr (List.mem_map.mpr ⟨_,mem _ ?_ k2,rfl⟩)
  exact and_tt (Nat.ble_eq.mpr sh1) (and_tt (Nat.ble_eq.mpr (Nat.le_refl _)) (and_tt (Nat.blt_eq.mpr k1) (by
   show Nat.blt 0 (cond (Nat.blt c.share c.share) _ 1)=true
   rw [Bool.eq_false_iff.mpr fun q=>Nat.lt_irrefl _ (Nat.blt_eq.mp q)]
   rfl)))
 ·have l:=(allW_len R c.n).2
  rw [e,List.length_map] at l
  exact Nat.le_trans l (Nat.le_trans (Nat.mul_le_mul_right _ F.n12) (by decide))
inductive Told13 (O:Ora) (c:Ce) (w:List Nat):Prop
 | mk (ts:List T3) (l:List D) (h:O.call 13 [.str w,.int c.take,.int c.left,.notes]=some (.lst (ts.map rowD),l)) (ok:AllOk l) (len:l.length≤6000) (r:Rows c w ts)
noncomputable def H13 (O:Ora):Prop:=∀ c w,Ring c w→Told13 O c w
section
variable {O:Ora} {n:Nat} {ρ:Rho} {a b c:X} {d d' d'':D} {q:Bool}
theorem in_nums (x:Nat) (l:List Nat):inI x (l.map fun u:Nat=>.int u)=some (l.contains x):=by
 induction l with
 | nil=>rfl
 | cons y l ih =>
  refine (congrArg (Option.map (decide ((y:Int)=x) || ·)) ih).trans ?_
  rw [List.contains_cons]
  refine congrArg (fun b=>some (b || l.contains x)) (Bool.eq_iff_iff.mpr ⟨fun h=>beq_iff_eq.mpr (int_inj _ _ (of_decide_eq_true h)).symm,fun h=>decide_eq_true (congrArg _ (eq_of_beq h).symm)⟩)
theorem not_in {x:Nat} {l:List Nat}:cmpD .NotIn (.int x) (numsD l)=some (!l.contains x):=congrArg (Option.map (!·)) (in_nums x l)
theorem y_or3 (p:P O n a ρ d) (h:truthD d=some false) (p':P O n b ρ d') (h':truthD d'=some false) (p'':P O n c ρ d'') (h'':truthD d''=some false):P O (n+1) (.or [a,b,c]) ρ (.bool false):=bnd p (bn1 h (bnd (bnd p' (bn1 h' (bnd (bnd p'' (bn1 h'' rfl)) rfl))) rfl))
noncomputable def takeX:X:=.bin .Add (.int 1) (.bin .Mod (.sub (.var 13) (.var 26)) (.bin .Sub (.var 24) (.int 1)))
noncomputable def shrX:X:=.bin .FloorDiv (.bin .Mult (.bi .len [(.var 23)]) (.var 27)) (.var 24)
theorem pred_int {l:Nat} (h:1≤l):binD .Sub (.int l) (.int 1)=some (.int (l - 1:Nat)):=congrArg (fun i=>some (D.int i)) (show (l:Int) - 1=_ by lia)
theorem take_x {ds:List Nat} {j l k:Nat} (h13:ρ 13=some (.val (numsD ds))) (h26:ρ 26=some (.val (.int j))) (h24:ρ 24=some (.val (.int l))) (hd:ds[j]?=some k) (hl:2≤l):P O 14 takeX ρ (.int (1+k % (l - 1):Nat)) :=
 y_bin y_int (y_bin (y_sub (y_var h13) (y_var h26) (sub_cs hd)) (y_bin (y_var h24) y_int (pred_int (Nat.le_of_succ_le hl))) (fmod_nat k (Nat.sub_pos_of_lt hl))) rfl
theorem shr_x {w:List Nat} {t l:Nat} (h23:ρ 23=some (.val (.str w))) (h27:ρ 27=some (.val (.int t))) (h24:ρ 24=some (.val (.int l))) (hw:w.length≤12) (ht:t≤4) (l0:0 < l) (l4:l≤4):P O 14 shrX ρ (.int (w.length*t / l:Nat)) :=
 y_bin (y_bin (y_bi (yl (y_var h23) yl0) (len_str (Nat.le_trans hw (by decide)))) (y_var h27) (mul_ok (okI_le (Nat.le_trans ht (by decide))))) (y_var h24) (fdiv_nat _ l0 (Nat.le_trans l4 (by decide)))
noncomputable def lackC:X:=.and (.cmp .Eq (.bin .Mult (.int 2) (.var 27)) (.var 24)) (.cmp .NotIn (.var 2) (.var 33))
noncomputable def lackX:X:=.lc (.var 2) (.name 2) (.rng1 (.bi .len [(.var 23)])) (some lackC) [24,33,27]
theorem eq_nn (a b:Nat):cmpD .Eq (.int a) (.int b)=some (a == b):=congrArg some (Bool.eq_iff_iff.mpr ⟨fun h=>beq_iff_eq.mpr (int_inj _ _ (eq_of_beq h)),fun h=>beq_iff_eq.mpr (congrArg _ (eq_of_beq h))⟩)
theorem len_rng {w:List Nat} (h23:ρ 23=some (.val (.str w))) (hw:w.length≤12):PI O (n+2) (.rng1 (.bi .len [(.var 23)])) ρ ((List.range w.length).map fun j:Nat=>.int j):=by
 have q:=yi_rng1 (O:=O) (n:=n+2) (r:=ρ) (i:=(w.length:Nat)) (y_bi (f:=.len) (yl (y_var h23) yl0) (len_str (Nat.le_trans hw (by decide)))) ⟨okI_le (Nat.le_trans hw (by decide)),by lia⟩
 exact rng0 w.length ▸ q
theorem lack_x {w ps:List Nat} {t l:Nat} (h23:ρ 23=some (.val (.str w))) (h27:ρ 27=some (.val (.int t))) (h24:ρ 24=some (.val (.int l))) (h33:ρ 33=some (.val (numsD ps))) (hw:w.length≤12) (ht:t≤4) (hh:2*t=l→∀ p < w.length,ps.contains p=true):P O 14 lackX ρ (.lst []):=by
 have m27:∀ j:Nat,setV (mask [24,33,27] ρ) 2 (.int j) 27=some (.val (.int t)):=fun _=>h27
 have m24:∀ j:Nat,setV (mask [24,33,27] ρ) 2 (.int j) 24=some (.val (.int l)):=fun _=>h24
 have m33:∀ j:Nat,setV (mask [24,33,27] ρ) 2 (.int j) 33=some (.val (numsD ps)):=fun _=>h33
 have x:=y_lcF (O:=O) (n:=13) (ρ:=ρ) (t:=.name 2) (e:=.var 2) (fs:=[24,33,27]) (c:=lackC) (g:=fun j:Nat=>.int j) (q:=fun j=>(2*t == l)&&!ps.contains j) (len_rng (n:=11) h23 hw) (fun j _=>⟨_,rfl,Sub.fresh _ rfl Sub.refl,y_and (y_cmp (y_bin y_int (y_var (k:=27) (m27 j)) (mul_ok (a:=2) (okI_le (Nat.le_trans ht (by decide))))) (y_var (k:=24) (m24 j)) (eq_nn _ _)) fun _=>y_cmp (y_var (k:=2) rfl) (y_var (k:=33) (m33 j)) not_in,fun _=>y_var (k:=2) rfl⟩) (by rw [List.length_range]; lia)
 have e:(List.range w.length).filter (fun j=>(2*t == l)&&!ps.contains j)=[]:=List.filter_eq_nil_iff.mpr fun j hj q=>by
  obtain ⟨q1,q2⟩:=ba q
  rw [hh (eq_of_beq q1) j (List.mem_range.mp hj)] at q2
  cases q2
 rw [e] at x
 exact x
noncomputable def fewX:X:=.and (.cmp .Lt (.bi .sum [(.lc (.cmp .In (.var 49) (.var 23)) (.name 49) (.val (.str [114,103,98])) none [23])]) (.int 3)) (.cmp .NotIn (.var 29) (.var 32))
theorem few_x {w fs:List Nat} {s:Nat} (h23:ρ 23=some (.val (.str w))) (h29:ρ 29=some (.val (.int s))) (h32:ρ 32=some (.val (numsD fs))) (hh:(∃ x ∈ RGB,cn w x=0)→fs.contains s=true):P O 13 fewX ρ (.bool false):=by
 have m23:∀ c,setV (mask [23] ρ) 49 (ch c) 23=some (.val (.str w)):=fun _=>h23
 have x:=y_lcM (O:=O) (n:=9) (ρ:=ρ) (k:=49) (as:=RGB) (v:=ch) (fs:=[23]) (i:=.val (.str [114,103,98])) (e:=.cmp .In (.var 49) (.var 23)) (g:=fun c=>.bool (w.contains c)) (yi_val y_str rfl) rfl (by decide) fun c _=>y_cmp (o:=.In) (y_var (k:=49) rfl) (y_var (k:=23) (m23 c)) rfl
 have z:∀ c ∈ RGB,w.contains c=false→fs.contains s=true:=fun c hc h=>hh ⟨c,hc,List.count_eq_zero.mpr fun q=>Bool.false_ne_true (h.symm.trans (List.contains_iff_mem.mpr q))⟩
 have a:=y_cmp (O:=O) (n:=11) (o:=.Lt) (y_bi (f:=.sum) (yl x yl0) rfl) (y_int (i:=3)) rfl
 have r:=y_and (q':=false) a fun q=>y_cmp (y_var h29) (y_var h32) (not_in.trans (congrArg (fun b:Bool=>some (!b)) (by
  have z1:=z 114 (by decide +kernel)
  have z2:=z 103 (by decide +kernel)
  have z3:=z 98 (by decide +kernel)
  cases e1:w.contains 114 with
  | false=>exact z1 e1
  | true=>cases e2:w.contains 103 with
   | false=>exact z2 e2
   | true=>cases e3:w.contains 98 with
    | false=>exact z3 e3
    | true =>
     rw [e1,e2,e3] at q
     cases q)))
 rw [Bool.and_false] at r
 exact r
end
end
section
open Bw
noncomputable def H14 (O:Ora):Prop:=∀ (o:List (Nat × Int)) (a b:T3),(∀ p ∈ o,p.1 < 3)→O.call 14 [.cmp (ordD o),rowD a,rowD b]=some (.int ((cmpO o a b).getD 0),[])
noncomputable def termX:X:=.bin .Mult (.bin .Mult (.var 53) (.bin .Sub (.sub (.var 31) (.var 48)) (.sub (.var 35) (.var 48)))) (.var 54)
noncomputable def chX:X:=.bi .sum [(.lc termX (.tup [(.tup [(.name 48),(.name 53)]),(.name 54)]) (.zip (.var 15) (.lst [(.int 10000),(.int 100),(.int 1)])) none [35,31])]
noncomputable def bestSts:List St:=[.asg 36 chX,.asg 37 (.lst [(.compare (.var 16) (.var 31) (.var 35)),(.compare (.var 16) (.var 35) (.var 31))]),
 .note 12 (.tup [(.bin .Add (.var 37) (.lst [(.bi .isBool [(.sub (.var 37) (.int 0))])])),(.lst [(.bin .Sub (.cmp .Gt (.var 36) (.int 0)) (.cmp .Lt (.var 36) (.int 0))),(.bin .Sub (.cmp .Lt (.var 36) (.int 0)) (.cmp .Gt (.var 36) (.int 0))),(.bool false)])]),
 .asg 35 (.ife (.cmp .Lt (.var 36) (.int 0)) (.var 31) (.var 35))]
theorem mul_il {a b:Int} (h:okI a=true):binD .Mult (.int a) (.int b)=some (.int (a*b)):=if_pos (by rw [h]; rfl)
section
variable {O:Ora} {ρ:Rho} {o:List (Nat × Int)} {a b:T3}
theorem ch_x (K:Key3 o) (h15:ρ 15=some (.val (ordD o))) (h31:ρ 31=some (.val (rowD a))) (h35:ρ 35=some (.val (rowD b))):∃ q0 q1 q2,o=[q0,q1,q2]∧P O 14 chX ρ (.int (gapO q0 q1 q2 a b)):=by
 obtain ⟨⟨q0,q1,q2,rfl⟩,lt,one⟩:=K
 have m31:∀ q:(Nat × Int) × Int,setV (setV (setV (mask [35,31] ρ) 48 (.int q.1.1)) 53 (.int q.1.2)) 54 (.int q.2) 31=some (.val (rowD a)):=fun _=>h31
 have m35:∀ q:(Nat × Int) × Int,setV (setV (setV (mask [35,31] ρ) 48 (.int q.1.1)) 53 (.int q.1.2)) 54 (.int q.2) 35=some (.val (rowD b)):=fun _=>h35
 have x:=y_lcT (O:=O) (n:=12) (ρ:=ρ) (i:=.zip (.var 15) (.lst [(.int 10000),(.int 100),(.int 1)])) (e:=termX) (t:=.tup [(.tup [(.name 48),(.name 53)]),(.name 54)]) (fs:=[35,31]) (as:=[(q0,(10000:Int)),(q1,100),(q2,1)]) (v:=fun q=>.tup [kD q.1,.int q.2]) (g:=fun q=>.int (gpX q.1 a b*q.2)) (yi_zip (n:=12) (y_var h15) (y_lst (yl y_int (yl y_int (yl y_int yl0))) (by decide))) (fun q hq=>by
  have hm:q.1 ∈ [q0,q1,q2]:=List.mem_map_of_mem (f:=Prod.fst) hq
  have hq2:okI q.2=true:=by
   rcases List.mem_cons.mp hq with rfl | hq
   ·exact (by decide +kernel:okI 10000=true)
   ·rcases List.mem_cons.mp hq with rfl | hq
    ·exact (by decide +kernel:okI 100=true)
    ·cases List.mem_singleton.mp hq; exact (by decide +kernel:okI 1=true)
  have h1:okI q.1.2=true:=by rcases one _ hm with e | e <;> rw [e] <;> decide +kernel
  exact ⟨_,rfl,Sub.fresh _ rfl (Sub.fresh _ rfl (Sub.fresh _ rfl Sub.refl)),y_bin (y_bin (y_var (k:=53) rfl) (y_bin (y_sub (y_var (k:=31) (m31 q)) (y_var (k:=48) rfl) (sub_row a _ (lt _ hm))) (y_sub (y_var (k:=35) (m35 q)) (y_var (k:=48) rfl) (sub_row b _ (lt _ hm))) rfl) (mul_il h1)) (y_var (k:=54) rfl) (mul_ii hq2)⟩) (show 3≤65536 by decide)
 exact ⟨q0,q1,q2,rfl,y_bi (yl x yl0) rfl⟩
theorem y_compare (H:H14 O) {n x y:Nat} (ho:∀ p ∈ o,p.1 < 3) (h16:ρ 16=some (.val (.cmp (ordD o)))) (hx:ρ x=some (.val (rowD a))) (hy:ρ y=some (.val (rowD b))):P O (n+2) (.compare (.var 16) (.var x) (.var y)) ρ (.int ((cmpO o a b).getD 0)) :=
 bnd (y_var h16:P O (n+1) _ _ _) (bnd (yl (y_var hx) (yl (y_var hy) yl0):PL' O (n+1) _ _ _) (bnd (H o a b ho) rfl))
theorem ch_tr (H:H14 O) (K:Key3 o) (ha:∀ k,comp a k≤12) (hb:∀ k,comp b k≤12) (h12:ρ 12=some (.val .notes)) (h15:ρ 15=some (.val (ordD o))) (h16:ρ 16=some (.val (.cmp (ordD o)))) (h31:ρ 31=none) (h35:ρ 35=none) (h36:ρ 36=none) (h37:ρ 37=none) :
  ∃ t,(t=a ∨ t=b)∧Tr (exB (ex O 5) bestSts) (Sub (setV (setV ρ 35 (rowD b)) 31 (rowD a))) (Sub (setV ρ 35 (rowD t))) 1:=by
 obtain ⟨q0,q1,q2,e,x⟩:=ch_x (O:=O) (ρ:=setV (setV ρ 35 (rowD b)) 31 (rowD a)) K h15 rfl rfl
 have s1:(cmpO o a b).getD 0=sgn (gapO q0 q1 q2 a b):=by
  have one:=K.one
  subst e
  exact gap_sign (one _ List.mem_cons_self) (one _ (List.mem_cons_of_mem _ List.mem_cons_self)) (one _ (List.mem_cons_of_mem _ (List.mem_cons_of_mem _ List.mem_cons_self))) ha hb
 have s2:(cmpO o b a).getD 0=- sgn (gapO q0 q1 q2 a b):=by
  have one:=K.one
  subst e
  rw [gap_sign (one _ List.mem_cons_self) (one _ (List.mem_cons_of_mem _ List.mem_cons_self)) (one _ (List.mem_cons_of_mem _ (List.mem_cons_of_mem _ List.mem_cons_self))) hb ha,gap_swap,sgn_swap]
 generalize gapO q0 q1 q2 a b=g at *
 have c1:=y_compare (O:=O) (ρ:=setV (setV (setV ρ 35 (rowD b)) 31 (rowD a)) 36 (.int g)) H (n:=11) (x:=31) (y:=35) K.lt h16 rfl rfl
 have c2:=y_compare (O:=O) (ρ:=setV (setV (setV ρ 35 (rowD b)) 31 (rowD a)) 36 (.int g)) H (n:=11) (x:=35) (y:=31) K.lt h16 rfl rfl
 rw [s1] at c1
 rw [s2] at c2
 have e2:binD .Sub (.bool (decide (g < 0))) (.bool (decide (g > 0)))=some (.int (- sgn g)):=congrArg (fun i=>some (D.int i)) (Int.neg_sub _ _).symm
 refine ⟨if decide (g < 0)=true then a else b,?_,show Tr _ _ _ (0+(0+(1+0))) from tr_cons (tr_asg x) (tr_cons (tr_asg (y_lst (yl c1 (yl c2 yl0)) (show 2≤65536 by decide))) (tr_cons (tr_note (y_tup (yl (y_bin (y_var (k:=37) rfl) (y_lst (yl (y_bi (yl (y_sub (y_var (k:=37) rfl) (y_int (i:=0)) rfl) yl0) rfl) yl0) (show 1≤65536 by decide)) rfl) (yl (y_lst (yl (y_bin (y_cmp (y_var (k:=36) rfl) (y_int (i:=0)) rfl) (y_cmp (y_var (k:=36) rfl) (y_int (i:=0)) rfl) rfl) (yl (y_bin (y_cmp (y_var (k:=36) rfl) (y_int (i:=0)) rfl) (y_cmp (y_var (k:=36) rfl) (y_int (i:=0)) rfl) e2) (yl y_bool yl0))) (show 3≤65536 by decide)) yl0)) (show 2≤65536 by decide)) h12 ?_)
  (tr_one ((tr_asg (d:=rowD (if decide (g < 0)=true then a else b)) (y_ife (y_cmp (y_var (k:=36) rfl) (y_int (i:=0)) rfl) rfl ?_)).w (fun _=>id) fun r s=>Sub.trans (Sub.add rfl ?_) s))))⟩
 ·cases decide (g < 0) with
  | true=>exact .inl rfl
  | false=>exact .inr rfl
 ·exact okN_lst (l:=[.int (sgn g),.int (- sgn g),.bool false]) rfl
 ·cases decide (g < 0) with
  | true=>exact y_var (k:=31) rfl
  | false=>exact y_var (k:=35) rfl
 ·exact Sub.fresh _ h35 (Sub.fresh _ h37 (Sub.fresh _ h36 (Sub.fresh _ h31 (Sub.fresh _ h35 Sub.refl))))
theorem choice_tr (H:H14 O) (K:Key3 o) {ts:List T3} (hts:∀ t ∈ ts,∀ k,comp t k≤12) {t0:T3} (h0:t0 ∈ ts) (h12:ρ 12=some (.val .notes)) (h15:ρ 15=some (.val (ordD o))) (h16:ρ 16=some (.val (.cmp (ordD o)))) (h30:ρ 30=some (.val (.lst (ts.map rowD)))) (h31:ρ 31=none) (h35:ρ 35=none) (h36:ρ 36=none) (h37:ρ 37=none) :
  Tr (ex O 6 (.for_ (.name 31) (.val (.slc (.var 30) 12)) bestSts)) (Sub (setV ρ 35 (rowD t0))) (fun r=>∃ t ∈ ts,Sub (setV ρ 35 (rowD t)) r) 12:=by
 have i:PI O EF (.val (.slc (.var 30) 12)) (setV ρ 35 (rowD t0)) ((ts.take 12).map rowD):=yi_val (n:=14) (y_slc (n:=13) (y_var (k:=30) h30) rfl) (congrArg some List.map_take.symm)
 have L:=tr_for (O:=O) (n:=5) (t:=.name 31) (u:=bestSts) (I:=fun _ r=>∃ t ∈ ts,Sub (setV ρ 35 (rowD t)) r) (c:=1) i (fun r s=>⟨t0,h0,s⟩) fun j hj r hr=>by
  obtain ⟨t,ht,s⟩:=hr
  have hu:(ts.take 12)[j] ∈ ts:=List.mem_of_mem_take (List.getElem_mem hj)
  obtain ⟨u,hu',tr⟩:=ch_tr (ρ:=ρ) H K (hts _ hu) (hts t ht) h12 h15 h16 h31 h35 h36 h37
  obtain ⟨r',l,a1,a2,a3,a4⟩:=tr _ (s.set 31 _)
  exact ⟨_,rfl,r',l,a1,⟨u,hu'.elim (fun e=>e ▸ hu) fun e=>e ▸ ht,a2⟩,a3,a4⟩
 intro r s
 obtain ⟨r',l,a1,a2,a3,a4⟩:=L r s
 exact ⟨r',l,a1,a2,a3,Nat.le_trans a4 (by rw [Nat.mul_one]; exact List.length_take_le ..)⟩
end
end
section
open Bw
noncomputable def offX:X:=.bin .Add (.listr (.rng1 (.var 38))) (.listr (.rng2 (.bin .Add (.var 38) (.var 36)) (.bin .Add (.var 29) (.var 36))))
noncomputable def spotX:X:=.lc (.bin .Mod (.bin .Add (.var 2) (.var 48)) (.bi .len [(.var 23)])) (.name 48) (.val offX) none [2,23]
noncomputable def handX:X:=.mth .join (.str []) [(.lc (.sub (.var 23) (.var 55)) (.name 55) (.val (.var 39)) none [23])]
noncomputable def restX:X:=.mth .join (.str []) [(.lc (.var 49) (.tup [(.name 55),(.name 49)]) (.enum (.var 23)) (some (.cmp .NotIn (.var 55) (.var 39))) [39])]
noncomputable def endSts:List St:=[.unp [38,2,36] (.var 35),.asg 39 spotX,.asg 28 handX,.asg 23 restX]
section
variable {O:Ora} {ρ:Rho} {w S:List Nat} {t:T3} {share:Nat}
theorem off_x (h38:ρ 38=some (.val (.int t.f))) (h36:ρ 36=some (.val (.int t.g))) (h29:ρ 29=some (.val (.int share))) (hs:share≤12) (hf:t.f≤share) (hg:t.g≤12):P O 13 offX ρ (.lst ((offs share t).map fun k:Nat=>.int k)):=by
 have a:=yi_rng1 (O:=O) (n:=11) (y_var h38) ⟨okI_le (by lia),by lia⟩
 have b:=yi_rng2 (O:=O) (n:=11) (i:=(t.f+t.g:Nat)) (j:=(share+t.g:Nat)) (y_bin (y_var h38) (y_var h36) (add_nn _ _)) (y_bin (y_var h29) (y_var h36) (add_nn _ _)) ⟨okI_le (by lia),okI_le (by lia),by lia⟩
 rw [show (((share+t.g:Nat):Int) - (t.f+t.g:Nat)).toNat=share - t.f by lia,rangeD_eq,List.range'_eq_map_range] at b
 rw [show ((t.f:Nat):Int).toNat=t.f from rfl,rng0] at a
 have e:(offs share t).map (fun k:Nat=>D.int k)=(List.range t.f).map (fun k:Nat=>D.int k)++(((List.range (share - t.f)).map fun k=>t.f+t.g+k).map fun k:Nat=>D.int k):=List.map_append
 rw [e]
 exact y_bin (y_listr a) (y_listr b) (if_pos (decide_eq_true (by rw [List.length_map,List.length_map,List.length_map,List.length_range,List.length_range]; lia)))
theorem spot_x (h2:ρ 2=some (.val (.int t.p))) (h23:ρ 23=some (.val (.str w))) (hw:w.length≤12) (hw0:0 < w.length) (h38:ρ 38=some (.val (.int t.f))) (h36:ρ 36=some (.val (.int t.g))) (h29:ρ 29=some (.val (.int share))) (hs:share≤12) (hf:t.f≤share) (hg:t.g≤12):P O 14 spotX ρ (numsD (posn w.length share t)):=by
 have m2:∀ k:Nat,setV (mask [2,23] ρ) 48 (.int k) 2=some (.val (.int t.p)):=fun _=>h2
 have m23:∀ k:Nat,setV (mask [2,23] ρ) 48 (.int k) 23=some (.val (.str w)):=fun _=>h23
 have x:=y_lcM (O:=O) (n:=13) (ρ:=ρ) (k:=48) (fs:=[2,23]) (v:=fun k:Nat=>.int k) (g:=fun k:Nat=>.int ((t.p+k) % w.length:Nat)) (e:=.bin .Mod (.bin .Add (.var 2) (.var 48)) (.bi .len [(.var 23)])) (yi_val (n:=13) (off_x h38 h36 h29 hs hf hg) rfl) rfl
  (by unfold offs; rw [List.length_append,List.length_map,List.length_range,List.length_range]; lia) fun k _=>y_bin (y_bin (y_var (k:=2) (m2 k)) (y_var (k:=48) rfl) rfl) (y_bi (yl (y_var (k:=23) (m23 k)) yl0) (len_str (Nat.le_trans hw (by decide)))) (fmod_nat _ hw0)
 rw [posn_offs]
 show P O 14 spotX ρ (.lst (((offs share t).map fun k=>(t.p+k) % w.length).map fun u:Nat=>.int u))
 rw [List.map_map]
 exact x
theorem sub_chr {i:Nat} (h:i < w.length) (hw:w.length≤12):subD (.str w) (.int i)=some (ch (w.getD i 0)):=by
 show dI (.int i) (fun i=>if okI i then (getN w i).map fun c=>D.str [c] else none)=_
 rw [dI_,if_pos (okI_le (by lia))]
 exact congrArg (Option.map fun c=>D.str [c]) (get_getD h)
theorem flat_one (f:Nat→Nat) (S:List Nat):(S.flatMap fun i=>[f i])=S.map f:=by
 induction S with
 | nil=>rfl
 | cons a S ih=>exact congrArg (f a::·) ih
theorem hand_x (h23:ρ 23=some (.val (.str w))) (h39:ρ 39=some (.val (numsD S))) (hS:∀ i ∈ S,i < w.length) (hw:w.length≤12) (hl:S.length≤12):P O 14 handX ρ (.str (pick w S)):=by
 have m23:∀ i:Nat,setV (mask [23] ρ) 55 (.int i) 23=some (.val (.str w)):=fun _=>h23
 have x:=y_lcM (O:=O) (n:=12) (ρ:=ρ) (k:=55) (fs:=[23]) (as:=S) (v:=fun i:Nat=>.int i) (g:=fun i=>.str [w.getD i 0]) (e:=.sub (.var 23) (.var 55)) (yi_val (n:=12) (y_var h39) rfl) rfl (by lia) fun i hi=>y_sub (y_var (k:=23) (m23 i)) (y_var (k:=55) rfl) (sub_chr (hS i hi) hw)
 exact y_mth y_str (yl x yl0) (join_map (flat_one (fun i=>w.getD i 0) S) (by unfold pick; rw [List.length_map]; lia) (by lia))
theorem rest_x (h23:ρ 23=some (.val (.str w))) (h39:ρ 39=some (.val (numsD S))) (hw:w.length≤12):P O 14 restX ρ (.str (pick w (out w.length S))):=by
 have m39:∀ i:Nat,setV (setV (mask [39] ρ) 55 (.int i)) 49 (ch (w.getD i 0)) 39=some (.val (numsD S)):=fun _=>h39
 have it:PI O 12 (.enum (.var 23)) ρ ((List.range w.length).map fun j:Nat=>.tup [.int j,ch (w.getD j 0)]):=by
  have q:=yi_enum (O:=O) (n:=12) (y_var h23) rfl
  have e:enumD 0 (w.map ch)=(List.range w.length).map fun j:Nat=>.tup [.int j,ch (w.getD j 0)]:=(en_map (f:=ch) (a:=0) w 0).trans (List.map_congr_left fun j _=>by rw [Nat.zero_add])
  exact e ▸ q
 have x:=y_lcF (O:=O) (n:=12) (ρ:=ρ) (t:=.tup [(.name 55),(.name 49)]) (fs:=[39]) (e:=.var 49) (c:=.cmp .NotIn (.var 55) (.var 39)) (q:=fun i=>!S.contains i) (g:=fun i=>.str [w.getD i 0]) it (fun i _=>⟨_,rfl,Sub.fresh _ rfl (Sub.fresh _ rfl Sub.refl),y_cmp (y_var (k:=55) rfl) (y_var (k:=39) (m39 i)) not_in,fun _=>y_var (k:=49) rfl⟩) (by rw [List.length_range]; lia)
 have hl:(out w.length S).length≤12:=Nat.le_trans (List.length_filter_le _ _) (by rw [List.length_range]; exact hw)
 exact y_mth y_str (yl x yl0) (join_map (flat_one (fun i=>w.getD i 0) (out w.length S)) (by unfold pick; rw [List.length_map]; exact Nat.le_trans hl (by decide)) (Nat.le_trans hl (by decide)))
theorem end_tr (hw:w.length≤12) (hs:share≤12) (hn:share≤w.length) (h:okT w.length share t=true) (h29:ρ 29=some (.val (.int share))) (h2:ρ 2=none) (h23:ρ 23=none) (h28:ρ 28=none) (h35:ρ 35=none) (h36:ρ 36=none) (h38:ρ 38=none) (h39:ρ 39=none) :
  Tr (exB (ex O 6) endSts) (Sub (setV (setV (setV ρ 23 (.str w)) 28 (.str w)) 35 (rowD t))) (Sub (setV (setV ρ 28 (.str (pick w (posn w.length share t)))) 23 (.str (pick w (out w.length (posn w.length share t)))))) 0:=by
 obtain ⟨k1,k2,k3,k4⟩:=okT_i h
 have k4:=k4 hn
 have hw0:0 < w.length:=Nat.lt_of_le_of_lt (Nat.zero_le _) k3
 have lt:=posn_lt (share:=share) (t:=t) hw0
 refine show Tr _ _ _ (0+(0+(0+0))) from tr_cons (tr_unp (y_var (k:=35) rfl) rfl rfl) (tr_cons (tr_asg (spot_x (w:=w) (t:=t) (share:=share) rfl rfl hw hw0 rfl rfl h29 hs k2 (by lia))) (tr_cons (tr_asg (hand_x (w:=w) rfl rfl lt hw (by rw [posn_len k2]; exact hs)))
  (tr_one ((tr_asg (rest_x (w:=w) rfl rfl hw)).w (fun _=>id) fun r s=>Sub.trans (Sub.add rfl (Sub.add rfl ?_)) s))))
 exact Sub.fresh _ h23 (Sub.fresh _ h28 (Sub.fresh _ h39 (Sub.fresh _ h36 (Sub.fresh _ h2 (Sub.fresh _ h38 (Sub.fresh _ h35 (Sub.fresh _ h28 (Sub.fresh _ h23 Sub.refl))))))))
end
end
section
open Bw
noncomputable def Fx.S (x:Fx) (w':List Nat) (left:Int) (tot:D) (j take:Nat) (hand:List Nat) (ink:Nat):Rho:=setV (setV (setV (setV (x.L w' left tot) 26 (.int j)) 27 (.int take)) 28 (.str hand)) 18 (.int ink)
noncomputable def Fx.B (x:Fx) (left:Nat) (tot:D) (j take ink share:Nat) (rows:D):Rho:=setV (setV (setV (setV (setV (setV (setV x.E 24 (.int left)) 25 tot) 26 (.int j)) 27 (.int take)) 18 (.int ink)) 29 (.int share)) 30 rows
noncomputable def colX (k:Nat):X:=.lc (.sub (.var 31) (.int k)) (.name 31) (.val (.var 30)) none []
noncomputable def shareSts:List St:=[.asg 27 takeX,
    .asg 29 shrX,
    .asg 30 (.call 13 [(.var 23),(.var 27),(.var 24),(.var 12)]),
    .unp [32,33] (.tup [colX 0,colX 1]),
    .asg 34 lackX,
    .ite (.or [(.cmp .Eq (.var 30) (.lst [])),(.var 34),fewX]) [.ret (.bool false)] [],
    .asg 35 (.sub (.var 30) (.int 0)),
    .for_ (.name 31) (.val (.slc (.var 30) 12)) bestSts,
    .unp [38,2,36] (.var 35),.asg 39 spotX,.asg 28 handX,.asg 23 restX]
section
variable {O:Ora}
theorem col_x {ρ:Rho} {ts:List T3} (h30:ρ 30=some (.val (.lst (ts.map rowD)))) (hl:ts.length≤60000) {k:Nat} (hk:k < 3):P O 13 (colX k) ρ (numsD (ts.map fun t=>comp t k)):=by
 have x:=y_lcM (O:=O) (n:=12) (ρ:=ρ) (k:=31) (fs:=[]) (as:=ts) (v:=rowD) (g:=fun t=>.int (comp t k)) (e:=.sub (.var 31) (.int k)) (i:=.val (.var 30)) (yi_val (y_var h30) rfl) rfl (Nat.le_trans hl (by decide)) fun t _=>y_sub (y_var (k:=31) rfl) y_int (sub_row t k hk)
 show P O 13 _ ρ (.lst ((ts.map fun t=>comp t k).map fun u:Nat=>.int u))
 rw [List.map_map]
 exact x
inductive Shd (x:Fx) (left:Nat) (tot:D) (j ink:Nat) (r:Rho):Prop
 | mk (hand rest:List Nat) (take:Nat) (h1:1≤take) (h2:take < left) (R1:Rs x.p x.w hand take) (R2:Rs x.p x.w rest (left - take)) (s:Sub (x.S rest left tot j take hand ink) r)
theorem share_tr (h13:H13 O) (h14:H14 O) {x:Fx} (F:FxOk O x) {w':List Nat} {left j ink:Nat} {tot:D} (R:Rs x.p x.w w' left) (h2:2≤left) (hl:left≤x.p) (hj:j < 6) :
  Tr (exB (ex O 6) shareSts) (Sub (x.S w' left tot j 1 w' ink)) (Shd x left tot j ink) (0+(0+(6000+(0+(0+(0+(0+(12+0)))))))):=by
 have p0:0 < x.p:=Nat.lt_of_lt_of_le (by decide) F.prt.le.2.2
 obtain ⟨k,hk⟩:=F.ds j hj
 have ht:1+k % (left - 1) < left:=by have:=Nat.mod_lt k (show 0 < left - 1 by lia); lia
 have tx:=fun ρ=>take_x (O:=O) (ρ:=ρ) (ds:=x.ds) (j:=j) (l:=left) (k:=k)
 obtain ⟨c,G,e1,e2⟩:=rs_ring F.prt F.rgb F.len F.dv R h2 hl (Nat.le_add_right 1 _) ht
 rw [← e2] at tx ht
 have h1:1≤c.take:=e2 ▸ Nat.le_add_right 1 _
 clear e2
 subst e1
 have CF:=ce_f G.hc
 have hw:w'.length≤12:=G.n ▸ CF.n12
 have ht4:c.take≤4:=Nat.le_trans CF.tl CF.l4
 have hs:c.share≤12:=Nat.le_trans CF.sh CF.n12
 obtain ⟨ts,nl,call,ok,len,W⟩:=h13 c w' G
 obtain ⟨t0,ts',e0⟩:=List.exists_cons_of_ne_nil W.ne
 have m0:t0 ∈ ts:=e0 ▸ List.mem_cons_self
 have sh:w'.length*c.take / c.left=c.share:=congrArg (fun n=>n*c.take / c.left) G.n
 have sx:=fun ρ=>shr_x (O:=O) (ρ:=ρ) (w:=w') (t:=c.take) (l:=c.left)
 rw [sh] at sx
 have hts:∀ t ∈ ts,∀ k,comp t k≤12:=fun t h k=>by
  obtain ⟨k1,k2,k3,k4⟩:=okT_i (W.ok t h).1
  have k4:=k4 CF.sh
  match k with
  | 0=>exact Nat.le_trans k2 hs
  | 1=>exact Nat.le_trans (Nat.le_of_lt k3) CF.n12
  | _+2=>show t.g≤12; have:=CF.n12; lia
 have ne:cmpD .Eq (.lst (ts.map rowD)) (.lst [])=some false:=by rw [e0]; rfl
 have s0:subD (.lst (ts.map rowD)) (.int 0)=some (rowD t0):=by rw [e0]; rfl
 refine tr_cons (tr_asg (tx _ rfl rfl rfl hk h2)) (tr_cons (tr_asg (sx _ rfl rfl rfl hw ht4 (Nat.lt_of_lt_of_le (by decide) h2) CF.l4)) (tr_cons (tr_asgN (y_call (yl (y_var (k:=23) rfl) (yl (y_var (k:=27) rfl) (yl (y_var (k:=24) rfl) (yl (y_var (k:=12) rfl) yl0)))) call) ok len)
  (tr_cons (tr_unp (y_tup (yl (col_x (ts:=ts) rfl W.len (k:=0) (by decide)) (yl (col_x (ts:=ts) rfl W.len (k:=1) (by decide)) yl0)) (show 2≤65536 by decide)) rfl rfl)
  (tr_cons (tr_asg (lack_x (w:=w') (ps:=ts.map T3.p) (t:=c.take) (l:=c.left) rfl rfl rfl rfl hw ht4 fun q p hp=>W.half q p (G.n ▸ hp)))
  (tr_cons (tr_ite (y_or3 (y_cmp (o:=.Eq) (y_var (k:=30) rfl) (y_lst yl0 (Nat.zero_le _)) ne) rfl (y_var (k:=34) rfl) rfl (few_x (w:=w') (fs:=ts.map T3.f) (s:=c.share) rfl rfl rfl W.two) rfl) rfl tr_nil)
  (tr_cons (tr_asg (y_sub (y_var (k:=30) rfl) (y_int (i:=0)) s0))
  (tr_cons ((choice_tr (ρ:=setV (setV (x.B c.left tot j c.take ink c.share (.lst (ts.map rowD))) 23 (.str w')) 28 (.str w')) h14 F.o hts m0 rfl rfl rfl rfl rfl rfl rfl rfl).w (fun r s=>Sub.trans ?_ s) fun _=>id) ?_)))))))
 ·repeat (first | exact sub0 _ | refine Sub.add rfl ?_)
 ·intro r q
  obtain ⟨t,ht',s⟩:=q
  obtain ⟨o1,o2⟩:=W.ok t ht'
  obtain ⟨R1,R2⟩:=rs_next F.rgb p0 R G o1 o2
  rw [← G.n] at R1 R2 o1
  refine ((end_tr (O:=O) (ρ:=x.B c.left tot j c.take ink c.share (.lst (ts.map rowD))) hw hs (G.n ▸ CF.sh) o1 rfl rfl rfl rfl rfl rfl rfl rfl).w (fun _=>id) fun r s=>⟨_,_,c.take,h1,ht,R1,R2,Sub.trans ?_ s⟩) r s
  repeat (first | exact sub0 _ | refine Sub.add rfl ?_)
end
end
section
open Bw
theorem mem_keysTo {c:Nat} {S:List Nat}:∀ {K:List Nat},c ∈ keysTo K S ↔ c ∈ K ∨ c ∈ S:=by
 induction S with
 | nil=>exact ⟨.inl,fun q=>q.elim id fun q=>nomatch q⟩
 | cons a S ih =>
  intro K
  refine (ih (K:=addk K a)).trans ⟨fun q=>q.elim (fun q=>(mem_addk.mp q).imp id fun (e:c=a)=>e ▸ List.mem_cons_self) fun q=>.inr (List.mem_cons_of_mem _ q),fun q=>q.elim (fun q=>.inl (mem_addk.mpr (.inl q))) fun q=>(List.mem_cons.mp q).imp (fun q=>mem_addk.mpr (.inr q)) id⟩
theorem put_go {g:Nat→Nat}:∀ (ks pre:List Nat),(pre++ks).Nodup→(pre++ks).length≤3→puts dput (Dk pre g) (ks.map fun c=>(ch c,.int (g c)))=some (Dk (pre++ks) g):=by
 intro ks
 induction ks with
 | nil=>exact fun pre _ _=>by rw [List.append_nil]; rfl
 | cons c ks ih =>
  intro pre hn hl
  rw [List.append_cons] at hn hl ⊢
  have hc:¬ ((pre.map fun c=>[c]).contains [c] || Nat.ble 65536 (pre.map fun c=>[c]).length)=true:=fun q=>by
   rcases Bool.or_eq_true_iff.mp q with q | q
   ·rw [has_key] at q
    exact (List.nodup_append.mp (List.nodup_append.mp hn).1).2.2 c (List.contains_iff_mem.mp q) c (List.mem_singleton.mpr rfl) rfl
   ·have:=Nat.le_of_ble_eq_true q
    rw [List.length_map] at this
    rw [List.length_append,List.length_append] at hl
    lia
  have e:dput (Dk pre g) (ch c,.int (g c))=some (Dk (pre++[c]) g):=(if_neg hc).trans (by
   show some (D.dctS (pre.map (fun c=>[c])++[c].map fun c=>[c]) (pre.map (fun c:Nat=>D.int (g c))++[c].map fun c:Nat=>D.int (g c)))=_
   rw [← List.map_append,← List.map_append]
   rfl)
  exact bn1 e (ih (pre++[c]) hn hl)
section
variable {O:Ora} {n:Nat} {ρ:Rho}
theorem dc_x {k p m:Nat} {ks fs:List Nat} {f:Nat→Nat} {g:Nat} (hk:ks.Nodup) (hr:∀ c ∈ ks,c ∈ RGB) (hm:okI m=true) (hd:ρ k=some (.val (FrD f g ks))) (hp:ρ p=some (.val (.int m))) (fk:fs.contains k=true) (fp:fs.contains p=true) (h48:ρ 48=none) :
  P O (n+5) (.dc (.var 48) (.bin .Mult (.sub (.sub (.var k) (.int 4)) (.var 48)) (.var p)) (.name 48) (.val (.sub (.var k) (.int 4))) fs) ρ (Dk ks fun c=>f c*m):=by
 have l3:ks.length≤3:=hk.length_le_of_subset (l₂:=RGB) hr
 have mk:mask fs ρ k=some (.val (FrD f g ks)):=by unfold mask; rw [fk]; exact hd
 have mp:mask fs ρ p=some (.val (.int m)):=by unfold mask; rw [fp]; exact hp
 have mn:mask fs ρ 48=none:=by
  unfold mask
  cases fs.contains 48
  ·rfl
  ·exact h48
 have it:PI O (n+4) (.val (.sub (.var k) (.int 4))) ρ (ks.map ch):=yi_val (d:=Dk ks f) (y_sub (d:=FrD f g ks) (d':=.int 4) (y_var hd) y_int rfl) (congrArg some (List.map_map ..))
 have t:=turns_map (α:=D × D) (t:=.name 48) (c:=fun _=>some (true,[])) (e:=fun r=>(ev O (n+4) (.var 48) r).bind fun q=>(ev O (n+4) (.bin .Mult (.sub (.sub (.var k) (.int 4)) (.var 48)) (.var p)) r).bind fun q'=>some ((q.1,q'.1),q.2++q'.2)) (p:=fun _=>true) (v:=ch) (f:=fun c=>(ch c,.int (f c*m:Nat))) (ρ:=mask fs ρ) ks (fun c hc r s=>by
  have s1:Sub (mask fs ρ) (setV r 48 (ch c)):=s.fresh _ mn
  exact ⟨_,rfl,s1,rfl,fun _=>bnd (y_var rfl) (bnd (y_bin (y_sub (d:=Dk ks f) (y_sub (d:=FrD f g ks) (d':=.int 4) (y_var (s1 k _ mk)) (y_int (i:=4)) rfl) (y_var (k:=48) rfl) (sub_k hc)) (y_var (s1 p _ mp)) (mul_ok hm)) rfl)⟩) _ Sub.refl
 rw [List.filter_eq_self.mpr fun _ _=>rfl] at t
 exact bnd it (bnd t (bn1 (put_go ks [] hk l3) rfl))
end
theorem eqK_k {f g:Nat→Nat} {ks':List Nat}:∀ {ks:List Nat},(∀ c ∈ ks,c ∈ ks'∧f c=g c)→eqKf (eqD 4) (ks.map fun c=>[c]) (ks.map fun c=>.int (f c)) (ks'.map fun c=>[c]) (ks'.map fun c=>.int (g c))=some true:=by
 intro ks
 induction ks with
 | nil=>exact fun _=>rfl
 | cons c ks ih =>
  intro h
  obtain ⟨h1,h2⟩:=h c List.mem_cons_self
  exact bn1 (sub_k h1) (bn1 (f:=fun x=>_) (show eqD 4 (.int (f c)) (.int (g c))=some true by rw [h2]; exact eqD_refl rfl) (bn1 (ih fun x hx=>h x (List.mem_cons_of_mem _ hx)) rfl))
theorem clean_k (ks:List Nat) (f:Nat→Nat):clean (Dk ks f)=true:=clean_mem fun d hd=>by
 obtain ⟨c,_,rfl⟩:=List.mem_map.mp hd
 rfl
theorem eqE_k {ks ks':List Nat} {f g:Nat→Nat} (hn:ks.Nodup) (hn':ks'.Nodup) (hm:∀ c,c ∈ ks ↔ c ∈ ks') (e:∀ c ∈ ks,f c=g c):eqE (Dk ks f) (Dk ks' g)=some true:=by
 show (if ((ks.map fun c=>[c]).length == (ks'.map fun c=>[c]).length)=true then _ else _)=_
 rw [List.length_map,List.length_map,((List.perm_ext_iff_of_nodup hn hn').mpr hm).length_eq,if_pos (beq_self_eq_true _)]
 exact eqK_k fun c hc=>⟨(hm c).mp hc,e c hc⟩
theorem okN_k {ks ks':List Nat} {f g:Nat→Nat} (hn:ks.Nodup) (hn':ks'.Nodup) (hm:∀ c,c ∈ ks ↔ c ∈ ks') (e:∀ c ∈ ks,f c=g c):OkN (.tup [Dk ks f,Dk ks' g]) :=
 ⟨_,_,rfl,congrArg (Option.map (!·)) (eqE_k hn hn' hm e),and_tt (clean_k _ _) (and_tt (clean_k _ _) rfl)⟩
theorem clean_fr (f:Nat→Nat) (k:Nat) (ks:List Nat):clean (FrD f k ks)=true:=(show (clean (Dk ks f)&&true)=true from and_tt (clean_k _ _) rfl)
theorem eq_c {f:D→D→Option Bool} {a b:D} {as bs:List D} (h:f a b=some true) (h':eqLf f as bs=some true):eqLf f (a::as) (b::bs)=some true:=bn1 h (bn1 h' rfl)
theorem okN_fr {ks ks':List Nat} {f:Nat→Nat} {k:Nat} (hn:ks.Nodup) (hn':ks'.Nodup) (hm:∀ c,c ∈ ks ↔ c ∈ ks'):OkN (.tup [FrD f k ks,FrD f k ks']):=by
 have r:∀ a:Nat,eqE (.int a) (.int a)=some true:=fun a=>show eqD 7 (.int a) (.int a)=some true from eqD_refl rfl
 refine ⟨_,_,rfl,congrArg (Option.map (!·)) (a₂:=some true) ?_,?_⟩
 ·exact eq_c (r _) (eq_c (r _) (eq_c (r _) (eq_c (r _) (eq_c (eqE_k hn hn' hm fun _ _=>rfl) rfl))))
 ·exact and_tt (clean_fr _ _ _) (and_tt (clean_fr _ _ _) rfl)
end
section
open Bw
noncomputable def frontX (k p:Nat):X:=.lc (.bin .Mult (.var 56) (.var p)) (.name 56) (.val (.slc (.var k) 4)) none [p]
noncomputable def dcX (k p:Nat) (fs:List Nat):X:=.dc (.var 48) (.bin .Mult (.sub (.sub (.var k) (.int 4)) (.var 48)) (.var p)) (.name 48) (.val (.sub (.var k) (.int 4))) fs
noncomputable def entSts:List St:=[.asg 40 (.sub (.call 11 [(.var 28)]) (.bi .len [(.var 28)])),
    .note 12 (.tup [frontX 40 4,frontX 17 27]),
    .note 12 (.tup [dcX 40 4 [40,4],dcX 17 27 [27,17]]),
    .asg 25 (.call 5 [(.var 25),(.var 40)])]
theorem sub_frs' (w:List Nat):subD (.lst (frs w)) (.int w.length)=some (fr w):=by
 have e:(frs w)[w.length]?=some (fr (w.take w.length)):=by
  unfold frs
  rw [List.getElem?_map,List.getElem?_range (Nat.lt_succ_self _)]
  rfl
 rw [List.take_length] at e
 exact e
theorem mem_ks {u:List Nat} {c:Nat}:c ∈ ksOf u ↔ 0 < cn u c:=(mem_keysTo (K:=[])).trans ⟨fun q=>List.count_pos_iff.mpr (q.resolve_left List.not_mem_nil),fun q=>.inr (List.count_pos_iff.mp q)⟩
section
variable {O:Ora} {ρ:Rho}
theorem front_x {k p m g:Nat} {f:Nat→Nat} {ks:List Nat} (hm:okI m=true) (hk:ρ k=some (.val (FrD f g ks))) (hp:ρ p=some (.val (.int m))) (hp56:Nat.beq p 56=false):P O 13 (frontX k p) ρ (.lst ([f 114,f 103,f 98,g].map fun a=>.int (a*m:Nat))):=by
 have mp:mask [p] ρ p=some (.val (.int m)):=by unfold mask; rw [show [p].contains p=true by rw [List.contains_cons,beq_self_eq_true]; rfl]; exact hp
 have mn:[p].contains 56=false:=by
  rw [List.contains_cons,beq_eq_false_iff_ne.mpr fun q=>Nat.ne_of_beq_eq_false hp56 q.symm]
  rfl
 refine y_lcM (n:=12) (k:=56) (as:=[f 114,f 103,f 98,g]) (v:=fun a:Nat=>.int a) (yi_val (y_slc (n:=11) (y_var hk) rfl) rfl) mn (show 4≤65536 by decide) fun a _=>y_bin (y_var (k:=56) rfl) (y_var (k:=p) ?_) (mul_ok hm)
 show cond (Nat.beq p 56) _ (mask [p] ρ p)=_
 rw [hp56]
 exact mp
theorem ent_tr (h11:H11 O) (h5:H5 O) {x:Fx} (F:FxOk O x) {rest hand:List Nat} {left:Int} {f:Nat→Nat} {k j take ink:Nat} {ks:List Nat} (hks:Ks ks f) (R:Rs x.p x.w hand take) (h1:1≤take) (hl:hand.length≤12) (ht:take≤4) :
  Tr (exB (ex O 6) entSts) (Sub (x.S rest left (FrD f k ks) j take hand ink)) (Sub (setV (x.S rest left (FrD (fun c=>f c+cn hand c) (k+hand.length) (keysTo ks (ksOf hand))) j take hand ink) 40 (fr hand))) (0+(1+(1+0))):=by
 have p0:0 < x.p:=Nat.lt_of_lt_of_le (by decide) F.prt.le.2.2
 have hr:=R.rgb F.rgb p0
 have pk:okI (x.p:Int)=true:=okI_le (Nat.le_trans F.prt.le.2.1 (by decide))
 have tk:okI (take:Int)=true:=okI_le (Nat.le_trans ht (by decide))
 have kh:=ks_of hr
 have kw:=ks_of F.rgb
 refine tr_cons (tr_asg (y_sub (y_call (yl (y_var (k:=28) rfl) yl0) (h11 _ hr (Nat.le_trans hl (by decide)))) (y_bi (yl (y_var (k:=28) rfl) yl0) (len_str (Nat.le_trans hl (by decide)))) (sub_frs' hand))) (tr_cons (tr_note (y_tup (yl (front_x (f:=cn hand) (g:=hand.length) (ks:=ksOf hand) pk rfl rfl rfl) (yl (front_x (f:=cn x.w) (g:=x.w.length) (ks:=ksOf x.w) tk rfl rfl rfl) yl0)) (show 2≤65536 by decide)) rfl ?_)
  (tr_cons (tr_note (y_tup (yl (dc_x (n:=8) (f:=cn hand) (g:=hand.length) kh.nd kh.lt pk rfl rfl (by decide) (by decide) rfl) (yl (dc_x (n:=8) (f:=cn x.w) (g:=x.w.length) kw.nd kw.lt tk rfl rfl (by decide) (by decide) rfl) yl0)) (show 2≤65536 by decide)) rfl ?_)
  (tr_one ((tr_asg (y_call (yl (y_var (k:=25) rfl) (yl (y_var (k:=40) rfl) yl0)) (h5 _ _ _ _ _ _ hks kh))).w (fun _=>id) fun r s=>Sub.trans ?_ s))))
 ·have e:[cn hand 114,cn hand 103,cn hand 98,hand.length].map (fun a=>D.int (a*x.p:Nat))=[cn x.w 114,cn x.w 103,cn x.w 98,x.w.length].map fun a=>D.int (a*take:Nat):=by
   show [D.int (cn hand 114*x.p:Nat),D.int (cn hand 103*x.p:Nat),D.int (cn hand 98*x.p:Nat),D.int (hand.length*x.p:Nat)]=[D.int (cn x.w 114*take:Nat),D.int (cn x.w 103*take:Nat),D.int (cn x.w 98*take:Nat),D.int (x.w.length*take:Nat)]
   rw [R 114,R 103,R 98,R.len F.rgb p0 F.len,F.len]
  rw [e]
  exact okN_lst rfl
 ·refine okN_k kh.nd kw.nd (fun c=>mem_ks.trans (Iff.trans ⟨fun q=>?_,fun q=>?_⟩ mem_ks.symm)) fun c _=>R c
  ·exact Nat.pos_of_ne_zero fun z=>by
    have:=R c
    rw [z,Nat.zero_mul] at this
    exact Nat.ne_of_gt (Nat.mul_pos q p0) this
  ·exact Nat.pos_of_ne_zero fun z=>by
    have:=R c
    rw [z,Nat.zero_mul] at this
    exact Nat.ne_of_gt (Nat.mul_pos q h1) this.symm
 ·repeat (first | exact sub0 _ | refine Sub.add rfl ?_)
end
end
section
open Bw
noncomputable def tailSts:List St:=[.ite (.cmp .Gt (.var 24) (.int 0)) (entSts++backSts) [],.aug 24 .Sub (.var 27)]
inductive LpI (x:Fx) (j:Nat) (r:Rho):Prop
 | go (w':List Nat) (f:Nat→Nat) (k left:Nat) (ks:List Nat) (hks:Ks ks f) (hm:∀ c,c ∈ ks ↔ 0 < f c) (h1:1≤left) (hl:left≤x.p) (hj:left+j≤4) (R:Rs x.p x.w w' left) (hf:∀ c,f c*x.p=cn x.w c*(x.p - left)) (hk:k*x.p=12*(x.p - left)) (s:Sub (x.L w' left (FrD f k ks)) r)
 | fin (w' ks:List Nat) (left:Int) (h:left≤0) (hn:ks.Nodup) (hm:∀ c,c ∈ ks ↔ 0 < cn x.w c) (s:Sub (x.L w' left (FrD (cn x.w) 12 ks)) r)
section
variable {b1:Int→Bool} {b3:Int→Option (List Nat)} {n:Nat}
theorem tail_go (h11:H11 (oraN fns b1 b3 (n+2))) (h5:H5 (oraN fns b1 b3 (n+2))) {x:Fx} (F:FxOk (oraN fns b1 b3 (n+2)) x) {rest hand:List Nat} {f:Nat→Nat} {k j take ink left:Nat} {ks:List Nat} (hks:Ks ks f) (R:Rs x.p x.w hand take) (h1:1≤take) (h2:take < x.p) (hi:ink < 2) (hl:1≤left) :
  Tr (exB (ex (oraN fns b1 b3 (n+2)) 7) tailSts) (Sub (x.S rest left (FrD f k ks) j take hand ink)) (Sub (x.L rest (left - take:Int) (FrD (fun c=>f c+cn hand c) (k+hand.length) (keysTo ks (ksOf hand))))) (0+(1+(1+0))+1+0):=by
 have p0:0 < x.p:=Nat.lt_of_le_of_lt (Nat.zero_le _) h2
 have hh:hand.length≤12:=Nat.le_of_mul_le_mul_right ((R.len F.rgb p0 F.len).symm ▸ Nat.mul_le_mul_left 12 (Nat.le_of_lt h2)) p0
 have hF:cn x.w 114+(cn x.w 103+cn x.w 98)=12:=(cn_sum F.rgb).trans F.len
 obtain ⟨d,hd⟩:=F.ds 5 (by decide)
 have bk:=back_of (b1:=b1) (b3:=b3) (n:=n) (p:=x.p) (take:=take) (i:=ink) (m:=d % 3) (F:=cn x.w) (c:=cn hand) (x:=.int hand.length) (y:=Dk (ksOf hand) (cn hand)) F.prt.or h1 h2 hi (Nat.mod_lt _ (by decide)) hF (fun l _=>F.dv l) fun c _=>R c
 have hT:subD (.lst [x.t0,x.t1]) (.int ink)=some (tel (oraN fns b1 b3 (n+2)) (cd (cn x.w)) ink):=by
  rw [F.t0,F.t1]
  rcases ink with _ | _ | i
  ·rfl
  ·rfl
  ·exact absurd hi (Nat.not_lt_of_le (Nat.le_add_left 2 i))
 rw [← F.t0] at bk
 have et:=ent_tr (O:=oraN fns b1 b3 (n+2)) h11 h5 F (rest:=rest) (hand:=hand) (left:=left) (f:=f) (k:=k) (j:=j) (take:=take) (ink:=ink) hks R h1 hh (Nat.le_trans (Nat.le_of_lt h2) F.prt.le.2.1)
 have bt:=back_tr (O:=oraN fns b1 b3 (n+2)) (T:=.lst [x.t0,x.t1]) (ρ:=setV (x.S rest left (FrD (fun c=>f c+cn hand c) (k+hand.length) (keysTo ks (ksOf hand))) j take hand ink) 40 (fr hand)) F.tl bk hT hd rfl rfl rfl rfl rfl rfl rfl rfl rfl rfl rfl rfl rfl rfl rfl rfl rfl
 exact tr_cons (tr_ite (y_cmp (o:=.Gt) (y_var (k:=24) rfl) (y_int (i:=0)) rfl) (congrArg some (decide_eq_true (Int.ofNat_lt.mpr hl))) (tr_cat et bt)) (tr_one ((tr_aug (k:=24) rfl (y_var (k:=27) rfl) rfl).w (fun _=>id) fun r s=>Sub.trans (by repeat (first | exact sub0 _ | refine Sub.add rfl ?_)) s))
theorem frd_next {x:Fx} {f:Nat→Nat} {k left take:Nat} {hand ks:List Nat} (p0:0 < x.p) (hks:Ks ks f) (hm:∀ c,c ∈ ks ↔ 0 < f c) (hr:∀ c ∈ x.w,c ∈ RGB) (hw:x.w.length=12) (R:Rs x.p x.w hand take) (ht:take≤left) (hl:left≤x.p) (hf:∀ c,f c*x.p=cn x.w c*(x.p - left)) (hk:k*x.p=12*(x.p - left)) :
  Ks (keysTo ks (ksOf hand)) (fun c=>f c+cn hand c)∧(∀ c,c ∈ keysTo ks (ksOf hand) ↔ 0 < f c+cn hand c)∧(∀ c,(f c+cn hand c)*x.p=cn x.w c*(x.p - (left - take)))∧(k+hand.length)*x.p=12*(x.p - (left - take)):=by
 have e:x.p - left+take=x.p - (left - take):=by lia
 have m:∀ c,c ∈ keysTo ks (ksOf hand) ↔ 0 < f c+cn hand c:=fun c=>mem_keysTo.trans ((or_congr (hm c) mem_ks).trans ⟨fun q=>q.elim (fun q=>Nat.lt_of_lt_of_le q (Nat.le_add_right _ _)) fun q=>Nat.lt_of_lt_of_le q (Nat.le_add_left _ _),fun q=>(Nat.eq_zero_or_pos (f c)).elim (fun z=>.inr (by rw [z,Nat.zero_add] at q; exact q)) .inl⟩)
 exact ⟨keys_ok hks (ks_of (R.rgb hr p0)).lt _ fun c q=>mem_keysTo.mp ((m c).mpr q),m,fun c=>by rw [Nat.add_mul,hf,R c,← Nat.mul_add,e],by rw [Nat.add_mul,hk,R.len hr p0 hw,← Nat.mul_add,e]⟩
theorem step_first {O:Ora} {x:Fx} (F:FxOk O x) {w':List Nat} {left:Int} {tot:D} {j:Nat}:∃ ink < 2,Tr (ex O 7 (.unp [27,28,18] (.tup [(.int 1),(.var 23),(.bin .Mod (.bin .Add (.sub (.var 13) (.int 2)) (.var 26)) (.int 2))]))) (Sub (setV (x.L w' left tot) 26 (.int j))) (Sub (x.S w' left tot j 1 w' ink)) 0:=by
 obtain ⟨d,hd⟩:=F.ds 2 (by decide)
 exact ⟨(d+j) % 2,Nat.mod_lt _ (by decide),tr_unp (y_tup (yl y_int (yl (y_var (k:=23) rfl) (yl (y_bin (y_bin (y_sub (y_var (k:=13) rfl) (y_int (i:=2)) (sub_cs (k:=2) hd)) (y_var (k:=26) rfl) (add_nn _ _)) y_int (fmod2 _)) yl0))) (show 3≤65536 by decide)) rfl rfl⟩
theorem step_tr (h13:H13 (oraN fns b1 b3 (n+2))) (h14:H14 (oraN fns b1 b3 (n+2))) (h11:H11 (oraN fns b1 b3 (n+2))) (h5:H5 (oraN fns b1 b3 (n+2))) {x:Fx} (F:FxOk (oraN fns b1 b3 (n+2)) x) {j:Nat} (hj:j < 4) :
  Tr (exB (ex (oraN fns b1 b3 (n+2)) 7) law_step) (fun r=>∃ r0,LpI x j r0∧r=setV r0 26 (.int j)) (LpI x (j+1)) (0+(6012+3)):=by
 intro r hr
 obtain ⟨r0,hi,rfl⟩:=hr
 have p0:0 < x.p:=Nat.lt_of_lt_of_le (by decide) F.prt.le.2.2
 cases hi with
 | fin w' ks left h hn hm s =>
  obtain ⟨ink,hi,t0⟩:=step_first F (w':=w') (left:=left) (tot:=FrD (cn x.w) 12 ks) (j:=j)
  have g:∀ i:Int,0≤i→decide (left > i)=false:=fun i hi=>decide_eq_false (by lia)
  obtain ⟨r',l,a1,a2,a3,a4⟩:=(show Tr (exB (ex (oraN fns b1 b3 (n+2)) 7) law_step) _ _ (0+(0+(0+0))) from tr_cons t0 (tr_cons (tr_ite (y_cmp (o:=.Gt) (y_var (k:=24) rfl) (y_int (i:=1)) rfl) (congrArg some (g 1 (by decide))) tr_nil) (tr_cons (tr_ite (y_cmp (o:=.Gt) (y_var (k:=24) rfl) (y_int (i:=0)) rfl) (congrArg some (g 0 (by decide))) tr_nil) (tr_one (tr_aug (z:=.int (left - (1:Nat))) (k:=24) rfl (y_var (k:=27) rfl) rfl))))) _ (s.set 26 _)
  exact ⟨r',l,a1,.fin w' ks (left - (1:Nat)) (by lia) hn hm (Sub.trans (by repeat (first | exact sub0 _ | refine Sub.add rfl ?_)) a2),a3,Nat.le_trans a4 (by decide)⟩
 | go w' f k left ks hks hm h1 hl hj' R hf hk s =>
  obtain ⟨ink,hi,t0⟩:=step_first F (w':=w') (left:=left) (tot:=FrD f k ks) (j:=j)
  by_cases h2:2≤left
  ·obtain ⟨r1,l1,a1,a2,a3,a4⟩:=(tr_cons (ss:=(law_step.drop 1).take 1) t0 (tr_one (tr_ite (y_cmp (o:=.Gt) (y_var (k:=24) rfl) (y_int (i:=1)) rfl) (congrArg some (decide_eq_true (Int.ofNat_lt.mpr h2))) (share_tr h13 h14 F R h2 hl (Nat.lt_of_lt_of_le hj (by decide)))))) _ (s.set 26 _)
   obtain ⟨hand,rest,take,k1,k2,R1,R2,s'⟩:=a2
   obtain ⟨r2,l2,c1,c2,c3,c4⟩:=tail_go h11 h5 F hks R1 k1 (Nat.lt_of_lt_of_le k2 hl) hi h1 _ s'
   obtain ⟨e1,e2,e3,e4⟩:=frd_next p0 hks hm F.rgb F.len R1 (Nat.le_of_lt k2) hl hf hk
   refine ⟨r2,l1++l2,exB_app (r:=setV r0 26 (.int j)) c1 a1,.go rest _ _ (left - take) _ e1 e2 (Nat.sub_pos_of_lt k2) (Nat.le_trans (Nat.sub_le _ _) hl) (by lia) R2 e3 e4 ?_,a3.app c3,by rw [List.length_append]; exact Nat.le_trans (Nat.add_le_add a4 c4) (by decide)⟩
   rw [Int.ofNat_sub (Nat.le_of_lt k2)]
   exact c2
  ·have e:left=1:=Nat.le_antisymm (Nat.le_of_lt_succ (Nat.not_le.mp h2)) h1
   subst e
   obtain ⟨r2,l2,c1,c2,c3,c4⟩:=(tr_cons (ss:=law_step.drop 1) t0 (tr_cons (tr_ite (y_cmp (o:=.Gt) (y_var (k:=24) rfl) (y_int (i:=1)) rfl) rfl tr_nil) (tail_go h11 h5 F (ks:=ks) (f:=f) (k:=k) (rest:=w') (hand:=w') (j:=j) (ink:=ink) (take:=1) (left:=1) hks R (Nat.le_refl 1) (Nat.lt_of_lt_of_le (by decide) F.prt.le.2.2) hi h1))) _ (s.set 26 _)
   obtain ⟨e1,e2,e3,e4⟩:=frd_next p0 hks hm F.rgb F.len R (Nat.le_refl 1) hl hf hk
   have ef:(fun c=>f c+cn w' c)=cn x.w:=funext fun c=>Nat.eq_of_mul_eq_mul_right p0 (e3 c)
   have ek:k+w'.length=12:=Nat.eq_of_mul_eq_mul_right p0 e4
   rw [ef,ek] at c2
   exact ⟨r2,l2,c1,.fin w' _ _ (by decide) e1.nd (fun c=>(e2 c).trans (congrFun ef c ▸ Iff.rfl)) c2,c3,Nat.le_trans c4 (by decide)⟩
end
end
section
open Bw
noncomputable abbrev OT (n:Nat):Ora:=oraN fns b1T b3T n
section
variable {b1:Int→Bool} {b3:Int→Option (List Nat)} (n:Nat)
theorem callT {k:Nat} {f:Fn} {args:List D} {z:R1} (h:fns k=some f) (e:runFn (oraN fns b1 b3 n) f args=z):(oraN fns b1 b3 (n+1)).call k args=z:=(show (fns k).bind (fun f=>runFn (oraN fns b1 b3 n) f args)=z from bn1 h e)
theorem T6:H6 (oraN fns b1 b3 (n+1)):=fun _ _ _ _ h1 h2=>callT n (k:=6) rfl (run_addc h1 h2)
theorem T5:H5 (oraN fns b1 b3 (n+2)):=fun _ _ _ _ _ _ h1 h2=>callT _ (k:=5) rfl (run_adds (T6 n) h1 h2)
theorem T11:H11 (oraN fns b1 b3 (n+3)):=fun u h hn=>callT _ (k:=11) rfl (run_sum (T5 n) h hn)
theorem T7:H7 (oraN fns b1 b3 (n+1)):=fun _ _ h=>callT n (k:=7) rfl (run_count h)
theorem T14:H14 (oraN fns b1 b3 (n+1)):=fun _ _ _ h=>callT n (k:=14) rfl (run_cmp h)
theorem T13:H13 (oraN fns b1 b3 (n+4)):=fun c w R=>by
 obtain ⟨l,e,ok,len⟩:=run_fair (b1:=b1) (b3:=b3) (m:=n+1) R (T7 _) (T11 n)
 obtain ⟨ts,et,W⟩:=rows_of R
 have F:=ce_f R.hc
 refine ⟨ts,l,et ▸ callT _ (k:=13) rfl e,ok,Nat.le_trans len ?_,W⟩
 have:c.n*(c.share*39)≤12*(12*39):=Nat.mul_le_mul F.n12 (Nat.mul_le_mul_right _ (Nat.le_trans F.sh F.n12))
 lia
end
theorem TA (n:Nat):Ha (OT (n+1)):=⟨fun c=>callT n (k:=8) rfl (run_b1 (oraN_b n).1 c),fun c=>callT n (k:=9) rfl (run_b3 (oraN_b n).2 c),fun x sN hx hn=>callT n (k:=10) rfl (run_typed hx hn sN)⟩
theorem law_b_tr (n:Nat) {p:Nat} {w C:List Nat} {f:Nat→Nat} (L:La p w C):Tr (exB (ex (OT (n+4)) 8) law_b) (Sub (setV (laE f p w C) 12 .notes)) (fun r=>r 12=some (.val .notes)) 30000:=by
 obtain ⟨x,F,rfl,rfl,t1⟩:=law_b1_tr (b1:=b1T) (b3:=b3T) (n:=n+2) (f:=f) L (T11 (n+1))
 have it:PI (OT (n+4)) EF (.rng1 (.int 4)) (x.L x.w x.p totD) ((List.range 4).map fun j:Nat=>.int j):=by
  have i:=yi_rng1 (O:=OT (n+4)) (n:=EF) (r:=x.L x.w x.p totD) (i:=(4:Nat)) (y_int (n:=13)) ⟨okI_le (by decide),by decide⟩
  exact rng0 4 ▸ i
 have t2:=tr_for (O:=OT (n+4)) (n:=7) (t:=.name 26) (u:=law_step) (I:=LpI x) (c:=0+(6012+3)) it (fun r s=>.go x.w (fun _=>0) 0 x.p [] ks0 (fun c=>⟨fun q=>(nomatch q),fun q=>absurd q (Nat.lt_irrefl 0)⟩) (Nat.le_trans (by decide) F.prt.le.2.2) (Nat.le_refl _) F.prt.le.2.1 (fun _=>rfl) (fun c=>by rw [Nat.sub_self,Nat.zero_mul]; rfl) (by rw [Nat.sub_self,Nat.zero_mul]) s) fun j hj r hr=>by
  rw [List.getElem_range]
  obtain ⟨r2,l,a1,a2,a3,a4⟩:=step_tr (b1:=b1T) (b3:=b3T) (n:=n+2) (T13 n) (T14 (n+3)) (T11 (n+1)) (T5 (n+2)) F (j:=j) hj _ ⟨r,hr,rfl⟩
  exact ⟨_,rfl,r2,l,a1,a2,a3,a4⟩
 have t3:Tr (ex (OT (n+4)) 8 (.note 12 (.tup [(.var 25),(.var 17)]))) (LpI x 4) (fun r=>r 12=some (.val .notes)) 1:=fun r hr=>by
  cases hr with
  | go w' f k left ks hks hm h1 hl hj R hf hk s=>exact absurd hj (Nat.not_le.mpr (by lia))
  | fin w' ks left h hn hm s =>
   have ok:OkN (.tup [FrD (cn x.w) 12 ks,fr x.w]):=by
    unfold fr
    rw [F.len]
    exact okN_fr hn (ks_of F.rgb).nd fun c=>(hm c).trans mem_ks.symm
   obtain ⟨r',l,a1,a2,a3,a4⟩:=tr_note (O:=OT (n+4)) (n:=7) (k:=12) (ρ:=x.L w' left (FrD (cn x.w) 12 ks)) (y_tup (yl (y_var (k:=25) rfl) (yl (y_var (k:=17) rfl) yl0)) (show 2≤65536 by decide)) rfl ok r s
   exact ⟨r',l,a1,a2 12 _ rfl,a3,a4⟩
 intro r s
 obtain ⟨r',l,a1,a2,a3,a4⟩:=tr_cat (ss:=law_b.take 7) (ss':=law_b.drop 7) t1 (tr_cons t2 (tr_one t3)) r s
 exact ⟨r',l,a1,a2,a3,Nat.le_trans a4 (by decide)⟩
theorem law_r_x {O:Ora} {l:List D} (h:AllOk l) (hl:l.length≤65536) {r:Rho} (h12:r 12=some (.val (.lst l))):P O EF law_r r (.bool true):=by
 have x:=y_lcF (O:=O) (n:=12) (ρ:=r) (i:=.val (.var 12)) (t:=.name 58) (e:=.var 58) (c:=.cmp .NotEq (.sub (.var 58) (.int 0)) (.sub (.var 58) (.int 1))) (fs:=[]) (v:=fun d:D=>d) (as:=l) (q:=fun _=>false) (g:=fun d=>d) ((List.map_id' l).symm ▸ yi_val (y_var h12) rfl) (fun d hd=>by
  obtain ⟨a,b,rfl,e,_⟩:=h d hd
  exact ⟨_,rfl,sub_m _ _,y_cmp (y_sub (y_var (k:=58) rfl) (y_int (i:=0)) rfl) (y_sub (y_var (k:=58) rfl) (y_int (i:=1)) rfl) e,nofun⟩) hl
 rw [List.filter_eq_nil_iff.mpr fun _ _=>Bool.false_ne_true] at x
 exact y_cmp (n:=13) x (y_lst yl0 (Nat.zero_le _)) rfl
inductive LawRun (n:Nat) (ns:List Int):Prop
 | mk (ra rb ρ:Rho) (ln lb:List D) (a1:exB (ex (OT (n+4)) 8) law_a (entry [intsD ns])=some (.next,ra,[])) (s:Sub ρ ra) (f:ρ 12=some .free) (a2:ev (OT (n+4)) EF law_n ρ=some (.lst ln,[]))
  (a3:exB (ex (OT (n+4)) 8) law_b (setV ρ 12 .notes)=some (.next,rb,lb)) (a4:rb 12=some (.val .notes)) (ok:cleanL (ln++lb)=true) (len:ln.length+lb.length≤60000) (a5:∀ r:Rho,r 12=some (.val (.lst (ln++lb)))→ev (OT (n+4)) EF law_r r=some (.bool true,[]))
theorem law_run (n:Nat) (ns:List Int):LawRun n ns:=by
 obtain ⟨f,p,w,C,L,t⟩:=law_a_tr (TA (n+3)) ns
 obtain ⟨ra,l,a1,s,_,hl⟩:=t (entry [intsD ns]) (by repeat (first | exact sub0 _ | refine Sub.add rfl ?_))
 cases List.eq_nil_of_length_eq_zero (Nat.le_zero.mp (Nat.le_trans hl (Nat.le_of_eq (by simp))))
 obtain ⟨ln,b1,b2,b3⟩:=law_n_x (O:=OT (n+4)) L (ρ:=laE f p w C) rfl rfl rfl
 obtain ⟨rb,lb,c1,c2,c3,c4⟩:=law_b_tr n (f:=f) L _ Sub.refl
 have len:ln.length+lb.length≤60000:=by lia
 exact ⟨ra,rb,laE f p w C,ln,lb,a1,s,rfl,b1,c1,c2,clean_all (b2.app c3),len,fun r h=>law_r_x (b2.app c3) (by rw [List.length_append]; lia) h⟩
end
section
section
variable {α β:Type} {w:World} {n₀:Nat} {ann:Option Value} {c:Code} {q:Pos} {s s' s'':Shared} {p p' p'':Pos}
theorem go_go {tb:String→Option Builtin} {b n N:Nat} {s':Shared} {t':Thread} {r:Shared × Thread} (k:segGo tb pw w n₀ ann b N s' t'=some r):∀ {s:Shared} {t:Thread},segGo tb pw w n₀ ann b n s t=some (s',t')→segGo tb pw w n₀ ann b (n+N) s t=some r:=by
 induction n with
 | zero =>
  intro s t h
  cases (show some (s,t)=some (s',t') from h)
  rw [Nat.zero_add]
  exact k
 | succ n ih =>
  intro s t h
  rw [Nat.succ_add]
  unfold segGo at h ⊢
  cases he:endAt b t with
  | some f=>rw [he] at h; cases h
  | none =>
   rw [he] at h
   cases hk:stepOk n₀ ann t with
   | false=>rw [hk] at h; cases h
   | true =>
    rw [hk] at h
    cases hs:step (denote tb) pw w s t with
    | halt o s₂=>rw [hs] at h; cases h
    | go s₂ t₂=>rw [hs] at h; exact ih h
variable (w n₀ ann c q) in
def Go (m:Sem α) (s:Shared) (p:Pos) (a:α) (s':Shared) (p':Pos):Prop :=
 ∀ (K:α→Sem Fin) (H:Value→Sem Fin) (gd:Bool→Bool) (lv:List Value→List Value),∃ n,segGo treeTable pw w n₀ ann 1 n s ⟨m.wrap K H gd lv,c,p,[topFrame q]⟩=some (s',⟨K a,c,p',[topFrame q]⟩)
theorem Go.pure (a:α):Go w n₀ ann c q (.pure a) s p a s p:=fun K H gd lv=>⟨0,rfl⟩
theorem Go.wrap {m:Sem α} {k:α→Sem β} {H:Value→Sem β} {gd:Bool→Bool} {lv:List Value→List Value} {a:α} {b:β} (h1:Go w n₀ ann c q m s p a s' p') (h2:Go w n₀ ann c q (k a) s' p' b s'' p''):Go w n₀ ann c q (m.wrap k H gd lv) s p b s'' p'':=fun K H' gd' lv'=>by
 rw [Sem.wrap_wrap]
 obtain ⟨n,hn⟩:=h1 (fun a=>(k a).wrap K H' gd' lv') (fun e=>(H e).wrap K H' gd' lv') (fun g=>gd' (gd g)) (fun l=>lv' (lv l))
 obtain ⟨m,hm⟩:=h2 K H' gd' lv'
 exact ⟨n+m,go_go hm hn⟩
theorem Go.bind {m:Sem α} {k:α→Sem β} {a:α} {b:β} (h1:Go w n₀ ann c q m s p a s' p') (h2:Go w n₀ ann c q (k a) s' p' b s'' p''):Go w n₀ ann c q (m >>= k) s p b s'' p'':=by
 rw [Sem.bind_eq_wrap']
 exact h1.wrap h2
theorem Go.keep {m:Sem α} {vs:List Value} {a:α} (h:Go w n₀ ann c q m s p a s' p'):Go w n₀ ann c q (m.keep vs) s p a s' p':=by
 rw [Sem.keep_eq_wrap]
 exact h.wrap (.pure a)
theorem Go.holding {m:Sem α} {vs:List Value} {a:α} (h:Go w n₀ ann c q m s p a s' p'):Go w n₀ ann c q (holding vs m) s p a s' p':=by
 unfold PySem.holding
 split
 ·exact h
 ·exact h.keep
theorem Go.onRaise {m:Sem α} {k:Value→Sem Unit} {a:α} (h:Go w n₀ ann c q m s p a s' p'):Go w n₀ ann c q (m.onRaise k) s p a s' p':=by
 rw [Sem.onRaise_eq_wrap]
 exact h.wrap (.pure a)
theorem step1 {t:Thread} {s':Shared} {t':Thread} {s:Shared} (he:endAt 1 t=none) (hk:stepOk n₀ ann t=true) (hs:step (denote treeTable) pw w s t=.go s' t'):segGo treeTable pw w n₀ ann 1 1 s t=some (s',t'):=by
 unfold segGo
 rw [he,hk,hs]
 rfl
theorem Go.rule' {tag:String} {k:Unit→Sem α} {a:α} (h:Go w n₀ ann c q (k ()) s p a s' p'):Go w n₀ ann c q (.rule tag k) s p a s' p':=fun K H gd lv=>by
 obtain ⟨n,hn⟩:=h K H gd lv
 exact ⟨1+n,go_go hn (step1 rfl rfl rfl)⟩
theorem Go.at' {p₁:Pos} {k:Unit→Sem α} {a:α} (h:Go w n₀ ann c q (k ()) s p₁ a s' p'):Go w n₀ ann c q (.at p₁ k) s p a s' p':=fun K H gd lv=>by
 obtain ⟨n,hn⟩:=h K H gd lv
 exact ⟨1+n,go_go hn (step1 rfl rfl rfl)⟩
theorem Go.fresh' {k:Tok→Sem α} {a:α} (h:Go w n₀ ann c q (k s.toks) { s with toks:=s.toks+1 } p a s' p'):Go w n₀ ann c q (.fresh k) s p a s' p':=fun K H gd lv=>by
 obtain ⟨n,hn⟩:=h K H gd lv
 exact ⟨1+n,go_go hn (step1 rfl rfl rfl)⟩
theorem Go.alloc' {o:Obj} {k:Addr→Sem α} {a:α} (h:Go w n₀ ann c q (k s.heap.objs.size) { s with heap:=s.heap.push o } p a s' p'):Go w n₀ ann c q (.alloc o k) s p a s' p':=fun K H gd lv=>by
 obtain ⟨n,hn⟩:=h K H gd lv
 exact ⟨1+n,go_go hn (step1 rfl rfl rfl)⟩
theorem Go.load' {b:Addr} {part:Option Value} {k:Obj→Sem α} {o:Obj} {a:α} (ho:s.heap.get? b=some o) (h:Go w n₀ ann c q (k o) s p a s' p'):Go w n₀ ann c q (.load b part k) s p a s' p':=fun K H gd lv=>by
 obtain ⟨n,hn⟩:=h K H gd lv
 refine ⟨1+n,go_go hn (step1 rfl rfl ?_)⟩
 show step (denote treeTable) pw w s ⟨.load b part fun x=>(k x).wrap K H gd lv,c,p,[topFrame q]⟩=_
 simp only [step,ho]
theorem Go.update' {b:Addr} {part:Option Value} {f:Obj→Obj} {k:Unit→Sem α} {o:Obj} {a:α} (ho:s.heap.get? b=some o) (hb:n₀≤b) (h:Go w n₀ ann c q (k ()) { s with heap:=s.heap.update b f } p a s' p'):Go w n₀ ann c q (.update b part f k) s p a s' p':=fun K H gd lv=>by
 obtain ⟨n,hn⟩:=h K H gd lv
 refine ⟨1+n,go_go hn (step1 rfl ?_ ?_)⟩
 ·show ((true&&(Nat.ble n₀ b || b == mainNs || b == cStatics || ann == some (.ref b))):Bool)=true
  rw [Nat.ble_eq_true_of_le hb]
  rfl
 ·show step (denote treeTable) pw w s ⟨.update b part f fun x=>(k x).wrap K H gd lv,c,p,[topFrame q]⟩=_
  simp only [step,ho,Option.isSome_some,if_true]
theorem Go.ask:Go w n₀ ann c q PySem.ask s p ⟨pw,w.params⟩ s p:=fun K H gd lv=>⟨1,step1 rfl rfl rfl⟩
theorem Go.tryCatch {m:Sem α} {k:Value→Sem α} {a:α} (h:Go w n₀ ann c q m s p a s' p'):Go w n₀ ann c q (tryCatch m k) s p a s' p':=by
 show Go w n₀ ann c q (m.tryCatch k) s p a s' p'
 rw [Sem.tryCatch_eq_wrap]
 exact h.wrap (.pure a)
theorem Go.rule {tag:String}:Go w n₀ ann c q (rule tag) s p () s p:=.rule' (.pure ())
theorem Go.at {p₁:Pos}:Go w n₀ ann c q (standAt p₁) s p () s p₁:=.at' (.pure ())
theorem Go.mkInt {i:Int}:Go w n₀ ann c q (mkInt i) s p (.int i s.toks) { s with toks:=s.toks+1 } p:=.fresh' (.pure _)
theorem Go.mkText {x:Str}:Go w n₀ ann c q (mkText x) s p (.str x s.toks) { s with toks:=s.toks+1 } p:=.fresh' (.pure _)
theorem Go.loadPart {b:Addr} {part:Option Value} {o:Obj} (ho:s.heap.get? b=some o):Go w n₀ ann c q (loadPart b part) s p o s p:=.load' ho (.pure _)
theorem Go.alloc {o:Obj}:Go w n₀ ann c q (alloc o) s p s.heap.objs.size { s with heap:=s.heap.push o } p:=.alloc' (.pure _)
end
end
section
theorem hash_split:splitId "int.__hash__"=some ("int","__hash__"):=by decide +kernel
theorem hash_kind:(Manifest.find? "int").bind (·.attrs.lookup "__hash__")=some .slot:=by decide +kernel
theorem hash_sub:isSubtype (.type "int") (.type "int")=pure true:=by rw [isSubtype_type]; kernel_rfl
theorem hash_quiet:("int.__hash__":String).startsWith "lifetime."=false:=by decide +kernel
theorem hash_check (k:Int) (t:Tok):checkBuiltinCall "int.__hash__" ⟨[.int k t],[]⟩=pure ():=by
 have hk:builtinKind "int.__hash__"=some .slot:=by
  simp only [builtinKind,hash_split]
  exact hash_kind
 simp only [checkBuiltinCall,hk,hash_split]
 have hi:isInstance (.int k t) (.type "int")=pure true:=hash_sub
 rw [hi]
 have ha:=args_int_hash (.int k t)
 have e:∀ f:Bool→Sem Unit,(pure true >>= f:Sem Unit)=f true:=fun _=>rfl
 simp only [e,Bool.not_true,Bool.false_eq_true,if_false]
 cases hsig:Manifest.signature? "int.__hash__" with
 | none=>rfl
 | some sig =>
  simp only [argsOk,hsig] at ha
  exact ha
section
variable {α:Type} {w:World} {n₀:Nat} {ann:Option Value} {c:Code} {q:Pos} {s:Shared} {p:Pos}
theorem hash_call {k:Int} {t:Tok} {l:List Value} {kk:Result→Sem α} {a:α} {s':Shared} {p':Pos} (h:Go w n₀ ann c q (kk (.ok (.ret (.int (rawHash k) s.toks)))) { s with toks:=s.toks+1 } p a s' p') :
  Go w n₀ ann c q (.call (.call (.builtin "int.__hash__") ⟨[.int k t],[]⟩) none false l kk) s p a s' p':=fun K H gd lv=>by
 obtain ⟨n,hn⟩:=h K H gd lv
 have e1:denote treeTable (.call (.builtin "int.__hash__") ⟨[.int k t],[]⟩)=.pure (.again (.builtin "int.__hash__" ⟨[.int k t],[]⟩)):=by
  show (do checkBuiltinCall "int.__hash__" ⟨[.int k t],[]⟩; again (.builtin "int.__hash__" ⟨[.int k t],[]⟩):Sem PySem.Fin)=_
  rw [hash_check]
  rfl
 have e2:denote treeTable (.builtin "int.__hash__" ⟨[.int k t],[]⟩)=.fresh fun u=>.pure (.done (.ret (.int (rawHash k) u))):=by
  show (match entryFor treeTable "int.__hash__" with | some b=>b ⟨[.int k t],[]⟩ | none=>unsupported ((withoutEnding? "int.__hash__" "#data").getD "int.__hash__"))=_
  rw [← table_eq_tree,entry_int_hash]
  rfl
 have hst:∃ kp₀,step (denote treeTable) pw w s ⟨(Sem.call (.call (.builtin "int.__hash__") ⟨[.int k t],[]⟩) none false l kk).wrap K H gd lv,c,p,[topFrame q]⟩ =
   .go s ⟨denote treeTable (.call (.builtin "int.__hash__") ⟨[.int k t],[]⟩),.call (.builtin "int.__hash__") ⟨[.int k t],[]⟩,p,[.ret (fun x=>(kk x).wrap K H gd lv) none (gd false) (lv l) c p kp₀,topFrame q]⟩:=by
  exact ⟨_,rfl⟩
 obtain ⟨kp₀,hst⟩:=hst
 have s1:=step1 (n₀:=n₀) (ann:=ann) (s:=s) rfl rfl hst
 rw [e1] at s1
 have s2:segGo treeTable pw w n₀ ann 1 1 s ⟨.pure (.again (.builtin "int.__hash__" ⟨[.int k t],[]⟩)),.call (.builtin "int.__hash__") ⟨[.int k t],[]⟩,p,[.ret (fun x=>(kk x).wrap K H gd lv) none (gd false) (lv l) c p kp₀,topFrame q]⟩ =
   some (s,⟨denote treeTable (.builtin "int.__hash__" ⟨[.int k t],[]⟩),.builtin "int.__hash__" ⟨[.int k t],[]⟩,p,[.ret (fun x=>(kk x).wrap K H gd lv) none (gd false) (lv l) c p (keptBy (.call (.builtin "int.__hash__") ⟨[.int k t],[]⟩) (.builtin "int.__hash__" ⟨[.int k t],[]⟩) (lv l) kp₀),topFrame q]⟩):=by
  refine step1 rfl ?_ (by obtain ⟨heap,gens,drawn,toks,os⟩:=s; exact step_again)
  have hq:(Thread.mk (.pure (.again (.builtin "int.__hash__" ⟨[.int k t],[]⟩))) (.call (.builtin "int.__hash__") ⟨[.int k t],[]⟩) p [.ret (fun x=>(kk x).wrap K H gd lv) none (gd false) (lv l) c p kp₀,topFrame q]).calm=true:=by
   simp only [Thread.calm,Thread.atCollectorCode,hash_quiet,Thread.yieldsInsideHandler]
   rfl
  unfold stepOk
  rw [hq]
  rfl
 rw [e2] at s2
 generalize keptBy (.call (.builtin "int.__hash__") ⟨[.int k t],[]⟩) (.builtin "int.__hash__" ⟨[.int k t],[]⟩) (lv l) kp₀=kp at s2
 have s3:segGo treeTable pw w n₀ ann 1 1 s ⟨.fresh fun u=>.pure (.done (.ret (.int (rawHash k) u))),.builtin "int.__hash__" ⟨[.int k t],[]⟩,p,[.ret (fun x=>(kk x).wrap K H gd lv) none (gd false) (lv l) c p kp,topFrame q]⟩ =
   some ({ s with toks:=s.toks+1 },⟨.pure (.done (.ret (.int (rawHash k) s.toks))),.builtin "int.__hash__" ⟨[.int k t],[]⟩,p,[.ret (fun x=>(kk x).wrap K H gd lv) none (gd false) (lv l) c p kp,topFrame q]⟩):=step1 rfl rfl rfl
 have s4:segGo treeTable pw w n₀ ann 1 1 { s with toks:=s.toks+1 } ⟨.pure (.done (.ret (.int (rawHash k) s.toks))),.builtin "int.__hash__" ⟨[.int k t],[]⟩,p,[.ret (fun x=>(kk x).wrap K H gd lv) none (gd false) (lv l) c p kp,topFrame q]⟩ =
   some ({ s with toks:=s.toks+1 },⟨(kk (.ok (.ret (.int (rawHash k) s.toks)))).wrap K H gd lv,c,p,[topFrame q]⟩):=step1 rfl rfl rfl
 exact ⟨_,go_go (go_go (go_go (go_go hn s4) s3) s2) s1⟩
theorem hash_go (k:Int) (t:Tok):Go w n₀ ann c q (pyHash (.int k t)) s p (hashInt k) { s with toks:=s.toks+1 } p:=by
 have hs:specialOf (.int k t) "__hash__"=pure (some (.builtin "int.__hash__")):=slot_int_hash.lookup
 have hr:=rawHash_range k
 show Go w n₀ ann c q (pyHashByItsType (.int k t)) s p _ _ _
 unfold pyHashByItsType
 refine Go.bind (a:=()) (s':=s) (p':=p) ?_ ?_
 ·rw [cRoomFor,if_neg (by exact Bool.false_ne_true)]
  exact .pure _
 rw [hs]
 refine Go.bind (a:=some (.builtin "int.__hash__")) (s':=s) (p':=p) (.pure _) ?_
 rw [if_neg (by rw [beq_builtin_none]; exact Bool.false_ne_true)]
 refine Go.bind (a:=some (.builtin "int.__hash__")) (s':=s) (p':=p) (.pure _) ?_
 rw [if_neg (by exact Bool.false_ne_true)]
 have fin:Go w n₀ ann c q (pyHashByItsType.reduced (rawHash k)) { s with toks:=s.toks+1 } p (hashInt k) { s with toks:=s.toks+1 } p:=by
  unfold pyHashByItsType.reduced
  rw [if_pos (by rw [decide_eq_true hr.1,decide_eq_true hr.2]; rfl)]
  exact .pure _
 have hb:∀ self,bindSpecial (.builtin "int.__hash__") self=pure (.builtin "int.__hash__",[self]):=slot_int_hash.bind
 have hB:Go w n₀ ann c q (bindSpecialIfBound? (.int k t) "__hash__") s p (some (.builtin "int.__hash__",[.int k t])) s p:=by
  unfold bindSpecialIfBound?
  rw [hs]
  refine Go.bind (a:=some (.builtin "int.__hash__")) (s':=s) (p':=p) (.pure _) ?_
  refine Go.bind .ask ?_
  show Go w n₀ ann c q (if w.params.followText "special-get-raises"=true then _ else _) s p _ s p
  split
  ·rw [hb]
   exact .pure _
  ·rw [hb]
   exact .tryCatch (.pure _)
 refine Go.bind (a:=some (.int (rawHash k) s.toks)) (s':={ s with toks:=s.toks+1 }) (p':=p) ?_ ?_
 case refine_2=>exact fin
 unfold callSpecialIfBoundUnlessNone?
 refine Go.holding (Go.bind hB ?_)
 show Go w n₀ ann c q (if (Value.builtin "int.__hash__" == Value.none)=true then _ else _) s p _ _ p
 rw [if_neg (by rw [builtin_beq_none]; exact Bool.false_ne_true)]
 refine Go.bind (a:=.int (rawHash k) s.toks) (s':={ s with toks:=s.toks+1 }) (p':=p) ?_ (.pure _)
 unfold call runValue run
 refine Go.bind (a:=.ret (.int (rawHash k) s.toks)) (s':={ s with toks:=s.toks+1 }) (p':=p) (hash_call (.pure _)) (.pure _)
end
end
section
def hx (h:Heap) (L:List Obj):Heap:=⟨h.objs++L.toArray,h.life⟩
def dO (es:List DictEntry) (n:Nat):Obj:={ cls:=.type "dict",data:=.dict es.toArray n }
theorem hx_size (h:Heap) (L:List Obj):(hx h L).objs.size=h.objs.size+L.length:=by
 simp only [hx,Array.size_append,List.size_toArray]
theorem hx_nil (h:Heap):hx h []=h:=by
 show Heap.mk (h.objs++#[]) h.life=h
 rw [Array.append_empty]
theorem hx_push (h:Heap) (L:List Obj) (o:Obj):(hx h L).push o=hx h (L++[o]):=by
 show Heap.mk ((h.objs++L.toArray).push o) h.life=Heap.mk (h.objs++(L++[o]).toArray) h.life
 rw [← Array.append_push,List.push_toArray]
theorem hx_get (h:Heap) (L:List Obj) (es:List DictEntry) (n:Nat) (M:List Obj):(hx h (L++dO es n::M)).get? (h.objs.size+L.length)=some (dO es n):=by
 unfold Heap.get?
 have:(hx h (L++dO es n::M)).objs[h.objs.size+L.length]?=some (dO es n):=by
  show (h.objs++(L++dO es n::M).toArray)[h.objs.size+L.length]?=_
  rw [Array.getElem?_append_right (Nat.le_add_right ..),Nat.add_sub_cancel_left,List.getElem?_toArray,List.getElem?_append_right (Nat.le_refl _),Nat.sub_self]
  rfl
 rw [this]
 rfl
theorem modify_at (A:List Obj) (o:Obj) (M:List Obj) (f:Obj→Obj):(A++o::M).modify A.length f=A++f o::M:=by
 induction A with
 | nil=>rfl
 | cons a A ih=>exact congrArg (a::·) ih
theorem hx_upd (h:Heap) (L:List Obj) (o:Obj) (M:List Obj) (f:Obj→Obj):(hx h (L++o::M)).update (h.objs.size+L.length) f=hx h (L++f o::M):=by
 refine congrArg (fun x=>Heap.mk x h.life) (Array.toList_inj.mp ?_)
 have e:=modify_at (h.objs.toList++L) o M f
 rw [List.length_append,Array.length_toList,List.append_assoc,List.append_assoc] at e
 rw [Array.toList_modify,Array.toList_append,Array.toList_append]
 exact e
theorem no_places (es:List DictEntry) (k:Int) (h:∀ e ∈ es,e.hash ≠ k):placesWithHash es.toArray.size (fun i=>es.toArray[i]?.map (·.hash)) k=[]:=by
 unfold placesWithHash
 rw [List.filter_eq_nil_iff]
 intro i hi
 rw [List.mem_range,List.size_toArray] at hi
 show ¬ ((es.toArray[i]?.map (·.hash)) == some k)=true
 rw [List.getElem?_toArray,List.getElem?_eq_getElem hi,Option.map_some,beq_iff_eq]
 intro q
 exact h _ (List.getElem_mem hi) (Option.some.inj q)
section
variable {w:World} {n₀:Nat} {ann:Option Value} {c:Code} {q:Pos} {s:Shared} {p:Pos} {h:Heap} {L M:List Obj} {es:List DictEntry} {n T:Nat}
def sx (s:Shared) (L:List Obj) (T:Nat):Shared:={ s with heap:=hx s.heap L,toks:=T }
theorem Go.entries {part:Option Value}:Go w n₀ ann c q (dictEntries (s.heap.objs.size+L.length) part) (sx s (L++dO es n::M) T) p es.toArray (sx s (L++dO es n::M) T) p:=by
 unfold dictEntries
 exact Go.bind (Go.loadPart (hx_get ..)) (.pure _)
theorem Go.epoch {part:Option Value}:Go w n₀ ann c q (dictEpoch (s.heap.objs.size+L.length) part) (sx s (L++dO es n::M) T) p n (sx s (L++dO es n::M) T) p:=by
 unfold dictEpoch
 exact Go.bind (Go.loadPart (hx_get ..)) (.pure _)
theorem Go.find {k:Int} {t:Tok} (hf:∀ e ∈ es,e.hash ≠ hashInt k):Go w n₀ ann c q (dictFind (s.heap.objs.size+L.length) (.int k t) (hashInt k)) (sx s (L++dO es n::M) T) p none (sx s (L++dO es n::M) T) p:=by
 unfold dictFind
 refine Go.holding (Go.bind Go.entries ?_)
 have e:=no_places es (hashInt k) hf
 generalize placesWithHash es.toArray.size (fun i=>es.toArray[i]?.map (·.hash)) (hashInt k)=ps at e ⊢
 subst e
 exact .pure _
theorem Go.pushKey {part:Option Value} {e:DictEntry} (hb:n₀≤s.heap.objs.size) (hz:es.length < 65536):Go w n₀ ann c q (updateDictKeys (s.heap.objs.size+L.length) (·.push e) part) (sx s (L++dO es n::M) T) p () (sx s (L++dO (es++[e]) (n+1)::M) T) p:=by
 unfold updateDictKeys
 refine Go.bind (Go.loadPart (hx_get ..)) ?_
 have e1:(dO es n).mapDictKeys (·.push e)=dO (es++[e]) (n+1):=by
  show Obj.mk _ _ (.dict (es.toArray.push e) (n+1)) _=Obj.mk _ _ (.dict (es++[e]).toArray (n+1)) _
  rw [List.push_toArray]
 refine Go.bind (a:=()) (s':=sx s (L++dO (es++[e]) (n+1)::M) T) (p':=p) ?_ ?_
 ·refine Go.update' (o:=dO es n) (hx_get ..) (Nat.le_trans hb (Nat.le_add_right ..)) ?_
  show Go w n₀ ann c q _ { sx s (L++dO es n::M) T with heap:=(hx s.heap (L++dO es n::M)).update (s.heap.objs.size+L.length) (Obj.mapDictKeys (·.push e)) } p _ _ _
  rw [hx_upd,e1]
  exact .pure _
 ·unfold lookBehind
  refine Go.bind (Go.loadPart (hx_get ..)) ?_
  have:(dO (es++[e]) (n+1)).data.pastItsLine=none:=pastItsLine_dict (by rw [List.size_toArray,List.length_append,sizeLine_eq]; simp; omega)
  rw [this]
  exact .pure _
theorem Go.put {k:Int} {t:Tok} {v:Value} (hb:n₀≤s.heap.objs.size) (hz:es.length < 65536) (hf:∀ e ∈ es,e.hash ≠ hashInt k) :
  Go w n₀ ann c q (dictPut (s.heap.objs.size+L.length) (hashInt k) (.int k t) v) (sx s (L++dO es n::M) T) p () (sx s (L++dO (es++[⟨hashInt k,.int k t,v⟩]) (n+1)::M) T) p:=by
 unfold dictPut
 exact Go.bind (Go.find hf) (Go.pushKey hb hz)
theorem Go.set {k:Int} {t:Tok} {v:Value} (hb:n₀≤s.heap.objs.size) (hz:es.length < 65536) (hf:∀ e ∈ es,e.hash ≠ hashInt k) :
  Go w n₀ ann c q (dictSet (s.heap.objs.size+L.length) (.int k t) v) (sx s (L++dO es n::M) T) p () (sx s (L++dO (es++[⟨hashInt k,.int k t,v⟩]) (n+1)::M) (T+1)) p:=by
 unfold dictSet
 refine Go.holding (Go.bind (hash_go k t) ?_)
 unfold dictSetHashed
 refine Go.holding (Go.bind (s':=sx s (L++dO es n::M) (T+1)) (Go.find (T:=T+1) hf) ?_)
 exact Go.bind Go.rule (Go.pushKey hb hz)
end
end
section
def itm (pos:Pos) (x:Int × Str):Sem Value × Sem Value:=(mkInt x.1,do let v ← mkText x.2; standAt pos; pure v)
def ent (x:Int × Str) (t u:Tok):DictEntry:=⟨hashInt x.1,.int x.1 t,.str x.2 u⟩
def entL (T:Nat):List (Int × Str)→List DictEntry
 | []=>[]
 | x::l=>ent x T (T+1)::entL (T+3) l
def entS (T:Nat):List (Int × Str)→List DictEntry
 | []=>[]
 | x::l=>ent x T (T+1)::entS (T+2) l
def vls (T:Nat):List (Int × Str)→List (Value × Value)
 | []=>[]
 | x::l=>(.int x.1 T,.str x.2 (T+1))::vls (T+2) l
def subE (T:Nat) (l:List (Int × Str)):List DictEntry:=if l.length≤15 then entS T l else entL T l
theorem entL_len (l:List (Int × Str)):∀ T:Nat,(entL T l).length=l.length:=by
 induction l with
 | nil=>exact fun _=>rfl
 | cons x l ih=>exact fun T=>congrArg Nat.succ (ih _)
theorem entS_len (l:List (Int × Str)):∀ T:Nat,(entS T l).length=l.length:=by
 induction l with
 | nil=>exact fun _=>rfl
 | cons x l ih=>exact fun T=>congrArg Nat.succ (ih _)
theorem subE_len (l:List (Int × Str)) (T:Nat):(subE T l).length=l.length:=by
 unfold subE
 split
 ·exact entS_len l T
 ·exact entL_len l T
theorem entL_hash (l:List (Int × Str)):∀ T:Nat,(entL T l).map (·.hash)=l.map fun x=>hashInt x.1:=by
 induction l with
 | nil=>exact fun _=>rfl
 | cons x l ih=>exact fun T=>congrArg (_::·) (ih _)
theorem entS_hash (l:List (Int × Str)):∀ T:Nat,(entS T l).map (·.hash)=l.map fun x=>hashInt x.1:=by
 induction l with
 | nil=>exact fun _=>rfl
 | cons x l ih=>exact fun T=>congrArg (_::·) (ih _)
theorem subE_hash (l:List (Int × Str)) (T:Nat):(subE T l).map (·.hash)=l.map fun x=>hashInt x.1:=by
 unfold subE
 split
 ·exact entS_hash l T
 ·exact entL_hash l T
section
variable {w:World} {n₀:Nat} {ann:Option Value} {c:Code} {q:Pos} {s:Shared} {pos:Pos} {L M:List Obj}
theorem key_new {es:List DictEntry} {x:Int × Str} {l:List (Int × Str)} (hn:(es.map (·.hash)++(x::l).map fun x=>hashInt x.1).Nodup):∀ e ∈ es,e.hash ≠ hashInt x.1:=fun e he q=>(List.nodup_append.mp hn).2.2 _ (List.mem_map.mpr ⟨e,he,rfl⟩) _ List.mem_cons_self q
theorem len_room {a b:Nat} (h:a+(b+1)≤65536):a < 65536:=Nat.lt_of_lt_of_le (Nat.lt_add_of_pos_right (Nat.succ_pos _)) h
theorem len_next {es:List DictEntry} {e:DictEntry} {b:Nat} (h:es.length+(b+1)≤65536):(es++[e]).length+b≤65536:=by rw [List.length_append,Nat.add_assoc,Nat.add_comm [e].length]; exact h
theorem nd_next {es:List DictEntry} {x:Int × Str} {l:List (Int × Str)} {t u:Tok} (hn:(es.map (·.hash)++(x::l).map fun x=>hashInt x.1).Nodup):((es++[ent x t u]).map (·.hash)++l.map fun x=>hashInt x.1).Nodup:=by
 rw [List.map_append,List.append_assoc]
 exact hn
theorem mul_next (T k n:Nat):T+k+k*n=T+k*(n+1):=by rw [Nat.mul_succ,Nat.add_assoc,Nat.add_comm k]
theorem long_loop {f:(Sem Value × Sem Value)→PUnit→Sem (ForInStep PUnit)}
  (hf:∀ (x:Int × Str) es n T,es.length < 65536→(∀ e ∈ es,e.hash ≠ hashInt x.1)→Go w n₀ ann c q (f (itm pos x) ⟨⟩) (sx s (L++dO es n::M) T) pos (.yield ⟨⟩) (sx s (L++dO (es++[ent x T (T+1)]) (n+1)::M) (T+3)) pos) (l:List (Int × Str)) :
  ∀ (es:List DictEntry) (n T:Nat),es.length+l.length≤65536→(es.map (·.hash)++l.map fun x=>hashInt x.1).Nodup →
   Go w n₀ ann c q (forIn (l.map (itm pos)) PUnit.unit f) (sx s (L++dO es n::M) T) pos ⟨⟩ (sx s (L++dO (es++entL T l) (n+l.length)::M) (T+3*l.length)) pos:=by
 induction l with
 | nil =>
  intro es n T hl hn
  rw [entL,List.append_nil]
  exact .pure _
 | cons x l ih =>
  intro es n T hl hn
  rw [List.map_cons,List.forIn_cons]
  refine Go.bind (hf x es n T (len_room hl) (key_new hn)) ?_
  have:=ih (es++[ent x T (T+1)]) (n+1) (T+3) (len_next hl) (nd_next hn)
  rw [List.append_assoc,Nat.add_assoc,Nat.add_comm 1,mul_next] at this
  exact this
theorem pairs_go (l:List (Int × Str)):∀ T:Nat,Go w n₀ ann c q (evalPairs (l.map (itm pos))) (sx s L T) pos (vls T l) (sx s L (T+2*l.length)) pos:=by
 induction l with
 | nil=>exact fun T=>.pure _
 | cons x l ih =>
  intro T
  have ih:=ih (T+2)
  rw [List.map_cons]
  unfold evalPairs
  refine Go.bind (a:=.int x.1 T) (s':=sx s L (T+1)) Go.mkInt ?_
  refine Go.bind (a:=.str x.2 (T+1)) (s':=sx s L (T+2)) (p':=pos) (Go.holding (Go.bind (a:=.str x.2 (T+1)) (s':=sx s L (T+2)) Go.mkText (Go.bind Go.at (.pure _)))) ?_
  rw [mul_next] at ih
  exact Go.bind (Go.holding ih) (.pure _)
theorem short_loop {f:(Value × Value)→PUnit→Sem (ForInStep PUnit)}
  (hf:∀ (x:Int × Str) t u es n T,es.length < 65536→(∀ e ∈ es,e.hash ≠ hashInt x.1)→Go w n₀ ann c q (f (.int x.1 t,.str x.2 u) ⟨⟩) (sx s (L++dO es n::M) T) pos (.yield ⟨⟩) (sx s (L++dO (es++[ent x t u]) (n+1)::M) (T+1)) pos) (l:List (Int × Str)) :
  ∀ (es:List DictEntry) (n T T₀:Nat),es.length+l.length≤65536→(es.map (·.hash)++l.map fun x=>hashInt x.1).Nodup →
   Go w n₀ ann c q (forIn (vls T₀ l) PUnit.unit f) (sx s (L++dO es n::M) T) pos ⟨⟩ (sx s (L++dO (es++entS T₀ l) (n+l.length)::M) (T+l.length)) pos:=by
 induction l with
 | nil =>
  intro es n T T₀ hl hn
  rw [entS,List.append_nil]
  exact .pure _
 | cons x l ih =>
  intro es n T T₀ hl hn
  rw [vls,List.forIn_cons]
  refine Go.bind (hf x T₀ (T₀+1) es n T (len_room hl) (key_new hn)) ?_
  have:=ih (es++[ent x T₀ (T₀+1)]) (n+1) (T+1) (T₀+2) (len_next hl) (nd_next hn)
  rw [List.append_assoc,Nat.add_assoc,Nat.add_assoc,Nat.add_comm 1] at this
  exact this
theorem sub_go {T:Nat} {l:List (Int × Str)} (hb:n₀≤s.heap.objs.size) (hl:l.length≤65536) (hn:(l.map fun x=>hashInt x.1).Nodup) :
  Go w n₀ ann c q (subDict (l.map (itm pos))) (sx s L T) pos (s.heap.objs.size+L.length) (sx s (L++[dO (subE T l) l.length]) (T+3*l.length)) pos:=by
 unfold subDict
 refine Go.bind (a:=s.heap.objs.size+L.length) (s':=sx s (L++[dO [] 0]) T) (p':=pos) ?_ ?_
 ·refine Go.alloc' ?_
  show Go w n₀ ann c q (.pure (hx s.heap L).objs.size) { sx s L T with heap:=(hx s.heap L).push (dO [] 0) } pos _ _ pos
  rw [hx_size,hx_push]
  exact .pure _
 unfold subE
 rw [List.length_map]
 refine Go.bind (a:=()) (s':=sx s (L++[dO (if l.length≤15 then entS T l else entL T l) l.length]) (T+3*l.length)) (p':=pos) (Go.holding ?_) (.pure _)
 split
 ·refine Go.bind (pairs_go (L:=L++[dO [] 0]) l T) (Go.holding ?_)
  have:=short_loop (w:=w) (n₀:=n₀) (ann:=ann) (c:=c) (q:=q) (s:=s) (pos:=pos) (L:=L) (M:=[]) (f:=fun x r=>do dictSet (s.heap.objs.size+L.length) x.1 x.2; pure (.yield ⟨⟩)) (fun x t u es n T hz hf=>Go.bind (Go.set (T:=T) hb hz hf) (.pure _)) l [] 0 (T+2*l.length) T (by simpa using hl) (by simpa using hn)
  rw [Nat.zero_add,Nat.add_assoc,← Nat.succ_mul] at this
  exact Go.bind this (.pure _)
 ·refine Go.bind Go.rule ?_
  have:=long_loop (w:=w) (n₀:=n₀) (ann:=ann) (c:=c) (q:=q) (s:=s) (pos:=pos) (L:=L) (M:=[]) (f:=fun x r=>do let kv ← x.1; let vv ← holding [kv] x.2; holding [kv,vv] (dictSet (s.heap.objs.size+L.length) kv vv); pure (.yield ⟨⟩)) (fun x es n T hz hf=>?_) l [] 0 T (by simpa using hl) (by simpa using hn)
  ·rw [Nat.zero_add] at this
   exact Go.bind this (.pure _)
  ·refine Go.bind (a:=.int x.1 T) (s':=sx s (L++[dO es n]) (T+1)) Go.mkInt ?_
   refine Go.bind (a:=.str x.2 (T+1)) (s':=sx s (L++[dO es n]) (T+2)) (p':=pos) (Go.holding (Go.bind (a:=.str x.2 (T+1)) (s':=sx s (L++[dO es n]) (T+2)) Go.mkText (Go.bind Go.at (.pure _)))) ?_
   exact Go.bind (Go.holding (Go.set (T:=T+2) hb hz hf)) (.pure _)
end
end
section
def Plain (fs:List DictEntry):Prop:=∀ e ∈ fs,∃ k t v,e=⟨hashInt k,.int k t,v⟩
theorem entL_plain:∀ (l:List (Int × Str)) (T:Nat),Plain (entL T l)
 | [],_,e,h=>by cases h
 | x::l,T,e,h=>by
  rcases List.mem_cons.mp h with rfl | h
  ·exact ⟨_,_,_,rfl⟩
  ·exact entL_plain l _ e h
theorem entS_plain:∀ (l:List (Int × Str)) (T:Nat),Plain (entS T l)
 | [],_,e,h=>by cases h
 | x::l,T,e,h=>by
  rcases List.mem_cons.mp h with rfl | h
  ·exact ⟨_,_,_,rfl⟩
  ·exact entS_plain l _ e h
theorem subE_plain (l:List (Int × Str)) (T:Nat):Plain (subE T l):=by
 unfold subE
 split
 ·exact entS_plain l T
 ·exact entL_plain l T
section
variable {w:World} {n₀:Nat} {ann:Option Value} {c:Code} {q:Pos} {s:Shared} {p:Pos} {L M:List Obj}
theorem forg {f:Nat→PUnit→Sem (ForInStep PUnit)} (σ:Nat→Shared):∀ n a,(∀ i,a≤i→i < a+n→Go w n₀ ann c q (f i ⟨⟩) (σ i) p (.yield ⟨⟩) (σ (i+1)) p)→Go w n₀ ann c q (forIn (List.range' a n) PUnit.unit f) (σ a) p ⟨⟩ (σ (a+n)) p
 | 0,a,_=>.pure _
 | n+1,a,h=>by
  rw [List.range'_succ,List.forIn_cons]
  refine Go.bind (h a (Nat.le_refl _) (by omega)) ?_
  have:=forg σ n (a+1) fun i h1 h2=>h i (by omega) (by omega)
  rw [show a+1+n=a+(n+1) by omega] at this
  exact this
theorem forg' {f:Nat→PUnit→Sem (ForInStep PUnit)} (σ:Nat→Shared) {n:Nat} {s₀ s₁:Shared} (e0:s₀=σ 0) (e1:s₁=σ n) (h:∀ i,i < n→Go w n₀ ann c q (f i ⟨⟩) (σ i) p (.yield ⟨⟩) (σ (i+1)) p):Go w n₀ ann c q (forIn (List.range n) PUnit.unit f) s₀ p ⟨⟩ s₁ p:=by
 subst e0 e1
 have:=forg σ n 0 fun i _ h2=>h i (by omega)
 rwa [Nat.zero_add,← List.range_eq_range'] at this
theorem merge_go {es fs:List DictEntry} {n k T:Nat} {subs:List Obj} (hb:n₀≤s.heap.objs.size) (hm:sysModules < s.heap.objs.size) (he:es ≠ []) (hp:Plain fs) (hz:es.length+fs.length≤65536) (hn:(es.map (·.hash)++fs.map (·.hash)).Nodup) :
  Go w n₀ ann c q (mergeMapping s.heap.objs.size (.ref (s.heap.objs.size+(dO es n::subs).length)) false) (sx s (dO es n::(subs++[dO fs k])) T) p () (sx s (dO (es++fs) (n+fs.length)::(subs++[dO fs k])) T) p:=by
 have hg:∀ (es:List DictEntry) (n:Nat),(sx s (dO es n::(subs++[dO fs k])) T).heap.get? (s.heap.objs.size+(dO es n::subs).length)=some (dO fs k):=fun es n=>hx_get s.heap (dO es n::subs) fs k []
 have hE:∀ (es:List DictEntry) (n:Nat) part,Go w n₀ ann c q (dictEntries (s.heap.objs.size+(subs.length+1)) part) (sx s (dO es n::(subs++[dO fs k])) T) p fs.toArray (sx s (dO es n::(subs++[dO fs k])) T) p:=fun es n part=>Go.entries (L:=dO es n::subs) (M:=[])
 have hP:∀ (es:List DictEntry) (n:Nat) part,Go w n₀ ann c q (dictEpoch (s.heap.objs.size+(subs.length+1)) part) (sx s (dO es n::(subs++[dO fs k])) T) p k (sx s (dO es n::(subs++[dO fs k])) T) p:=fun es n part=>Go.epoch (L:=dO es n::subs) (M:=[])
 have hT:∀ (es:List DictEntry) (n:Nat),Go w n₀ ann c q (typeOf (.ref (s.heap.objs.size+(subs.length+1)))) (sx s (dO es n::(subs++[dO fs k])) T) p (.type "dict") (sx s (dO es n::(subs++[dO fs k])) T) p:=fun es n=>by
  unfold typeOf
  exact Go.bind (Go.loadPart (hg es n)) (.pure _)
 unfold mergeMapping
 refine Go.bind (a:=true) (s':=sx s (dO es n::(subs++[dO fs k])) T) (p':=p) ?_ ?_
 ·unfold isInstance
  refine Go.bind (hT es n) ?_
  rw [isSubtype_dict_dict]
  exact .pure _
 rw [if_pos rfl]
 refine Go.bind (a:=some (.builtin "dict.__iter__")) (s':=sx s (dO es n::(subs++[dO fs k])) T) (p':=p) ?_ ?_
 ·unfold specialOf
  refine Go.bind (hT es n) ?_
  rw [F.slot_dict_iter.lookup]
  exact .pure _
 rw [beq_self_eq_true]
 refine Go.bind (a:=true) (.pure _) ?_
 dsimp only
 rw [if_neg (by rw [beq_iff_eq]; exact fun z=>absurd hm (by rw [← z]; exact Nat.not_lt.mpr (Nat.le_add_right ..)))]
 refine Go.bind (Go.entries (L:=[]) (M:=subs++[dO fs k])) ?_
 have hne:es.toArray.isEmpty=false:=by
  cases es with
  | nil=>exact absurd rfl he
  | cons a l=>rfl
 rw [if_neg (by rw [hne]; exact Bool.false_ne_true)]
 refine Go.bind (hE es n _) ?_
 refine Go.bind (hP es n _) ?_
 refine Go.bind (a:=⟨⟩) (s':=sx s (dO (es++fs) (n+fs.length)::(subs++[dO fs k])) T) (p':=p) ?_ (.pure _)
 rw [List.size_toArray]
 refine forg' (fun i=>sx s (dO (es++fs.take i) (n+i)::(subs++[dO fs k])) T) (by rw [List.take_zero,List.append_nil]; rfl) (by rw [List.take_length]) fun i hi=>?_
 refine Go.bind (hE _ _ _) ?_
 obtain ⟨k',t,v,e⟩:=hp _ (List.getElem_mem hi)
 have e':fs.toArray[i]?=some ⟨hashInt k',.int k' t,v⟩:=by rw [List.getElem?_toArray,List.getElem?_eq_getElem hi,e]
 rw [e']
 dsimp only
 have hsplit:fs=fs.take i++⟨hashInt k',.int k' t,v⟩::fs.drop (i+1):=by
  rw [← e,List.getElem_cons_drop,List.take_append_drop]
 have hf:∀ e ∈ es++fs.take i,e.hash ≠ hashInt k':=fun e he q=>by
  rw [hsplit,List.map_append,← List.append_assoc,← List.map_append,List.map_cons,List.nodup_append] at hn
  exact hn.2.2 _ (List.mem_map.mpr ⟨e,he,rfl⟩) _ (List.mem_cons_self ..) q
 have ht:fs.take (i+1)=fs.take i++[⟨hashInt k',.int k' t,v⟩]:=by rw [← e,List.take_append_getElem]
 refine Go.bind (a:=()) (s':=sx s (dO (es++fs.take (i+1)) (n+(i+1))::(subs++[dO fs k])) T) (p':=p) (Go.holding ?_) ?_
 ·rw [if_neg Bool.false_ne_true,ht,← List.append_assoc]
  exact Go.put (L:=[]) (M:=subs++[dO fs k]) hb (by rw [List.length_append,List.length_take]; omega) hf
 ·refine Go.bind (hP _ _ _) ?_
  rw [if_neg (by simp)]
  exact .pure _
end
end
section
abbrev Ds:=Option (List DictEntry × List Obj)
def Ds.objs:Ds→List Obj
 | none=>[]
 | some (es,subs)=>dO es es.length::subs
def Ds.adr (h:Heap):Ds→Option Addr
 | none=>none
 | some _=>some h.objs.size
def Ds.ents:Ds→List DictEntry
 | none=>[]
 | some (es,_)=>es
def flushP (r:List (Int × Str)) (m:Ds) (T:Nat):Ds × Nat :=
 if r=[] then (m,T) else match m with
  | none=>(some (subE T r,[]),T+3*r.length)
  | some (es,subs)=>(some (es++subE T r,subs++[dO (subE T r) r.length]),T+3*r.length)
def loopP:List (Int × Str)→List (Int × Str)→Ds→Nat→List (Int × Str) × Ds × Nat
 | [],r,m,T=>(r,m,T)
 | x::l,r,m,T=>if ((r++[x]).length == 17)=true then loopP l [] (flushP (r++[x]) m T).1 (flushP (r++[x]) m T).2 else loopP l (r++[x]) m T
def dispP (l:List (Int × Str)) (T:Nat):Ds × Nat:=flushP (loopP l [] none T).1 (loopP l [] none T).2.1 (loopP l [] none T).2.2
structure DsOk (r:List (Int × Str)) (m:Ds):Prop where
 ne:∀ es subs,m=some (es,subs)→es ≠ []
 len:m.ents.length+r.length≤65536
 nd:(m.ents.map (·.hash)++r.map fun x=>hashInt x.1).Nodup
theorem flush_ok {r l:List (Int × Str)} {m:Ds} {T:Nat} (h:DsOk (r++l) m):DsOk l (flushP r m T).1:=by
 unfold flushP
 split
 ·next e=>subst e; exact h
 ·next e =>
  obtain ⟨h1,h2,h3⟩:=h
  cases m with
  | none =>
   refine ⟨fun es subs q=>?_,?_,?_⟩
   ·cases q
    intro z
    have:=congrArg List.length z
    rw [subE_len] at this
    exact e (List.length_eq_zero_iff.mp this)
   ·show (subE T r).length+_≤_
    rw [subE_len]
    have:([]:List DictEntry).length+(r++l).length≤65536:=h2
    rw [List.length_append] at this
    simp at this
    omega
   ·show ((subE T r).map (·.hash)++_).Nodup
    rw [subE_hash,← List.map_append]
    exact h3
  | some x =>
   obtain ⟨es,subs⟩:=x
   refine ⟨fun es' subs' q=>?_,?_,?_⟩
   ·cases q
    intro z
    exact h1 es subs rfl (List.append_eq_nil_iff.mp z).1
   ·show (es++subE T r).length+_≤_
    rw [List.length_append,subE_len]
    have:es.length+(r++l).length≤65536:=h2
    rw [List.length_append] at this
    omega
   ·show ((es++subE T r).map (·.hash)++_).Nodup
    rw [List.map_append,subE_hash,List.append_assoc,← List.map_append]
    exact h3
theorem ok_left {r l:List (Int × Str)} {m:Ds} (ok:DsOk (r++l) m):DsOk r m:=by
 obtain ⟨a,b,d⟩:=ok
 refine ⟨a,?_,?_⟩
 ·rw [List.length_append] at b; omega
 ·rw [List.map_append,← List.append_assoc] at d
  exact (List.nodup_append.mp d).1
theorem loop_ok:∀ (l r:List (Int × Str)) (m:Ds) (T:Nat),DsOk (r++l) m→DsOk (loopP l r m T).1 (loopP l r m T).2.1
 | [],r,m,T,ok=>by rw [List.append_nil] at ok; exact ok
 | x::l,r,m,T,ok=>by
  have ok':DsOk ((r++[x])++l) m:=by rw [List.append_assoc]; exact ok
  unfold loopP
  split
  ·exact loop_ok l [] _ _ (flush_ok ok')
  ·exact loop_ok l (r++[x]) m T ok'
section
variable {w:World} {n₀:Nat} {ann:Option Value} {c:Code} {q:Pos} {s:Shared} {pos:Pos}
theorem loop_go {f:Option (Sem Value) × Sem Value→Option Addr × List (Sem Value × Sem Value)→Sem (ForInStep (Option Addr × List (Sem Value × Sem Value)))}
  (h1:∀ x r m T,((r++[x]).length == 17)=false→Go w n₀ ann c q (f (some (itm pos x).1,(itm pos x).2) (Ds.adr s.heap m,r.map (itm pos))) (sx s m.objs T) pos (.yield (Ds.adr s.heap m,(r++[x]).map (itm pos))) (sx s m.objs T) pos)
  (h2:∀ x r m T,DsOk (r++[x]) m→((r++[x]).length == 17)=true→Go w n₀ ann c q (f (some (itm pos x).1,(itm pos x).2) (Ds.adr s.heap m,r.map (itm pos))) (sx s m.objs T) pos (.yield (Ds.adr s.heap (flushP (r++[x]) m T).1,[])) (sx s (flushP (r++[x]) m T).1.objs (flushP (r++[x]) m T).2) pos) :
  ∀ (l r:List (Int × Str)) (m:Ds) (T:Nat),DsOk (r++l) m→Go w n₀ ann c q (forIn (l.map fun x=>(some (itm pos x).1,(itm pos x).2)) (Ds.adr s.heap m,r.map (itm pos)) f) (sx s m.objs T) pos (Ds.adr s.heap (loopP l r m T).2.1,(loopP l r m T).1.map (itm pos)) (sx s (loopP l r m T).2.1.objs (loopP l r m T).2.2) pos
 | [],r,m,T,ok=>.pure _
 | x::l,r,m,T,ok=>by
  have ok':DsOk ((r++[x])++l) m:=by rw [List.append_assoc]; exact ok
  unfold loopP
  rw [List.map_cons,List.forIn_cons]
  split
  ·next e=>exact Go.bind (h2 x r m T (ok_left ok') e) (loop_go h1 h2 l [] _ _ (flush_ok ok'))
  ·next e=>exact Go.bind (h1 x r m T (by simpa using e)) (loop_go h1 h2 l (r++[x]) m T ok')
theorem disp_go {l:List (Int × Str)} {es:List DictEntry} {subs:List Obj} {T':Nat} (hb:n₀≤s.heap.objs.size) (hm:sysModules < s.heap.objs.size) (hl:l.length≤65536) (hn:(l.map fun x=>hashInt x.1).Nodup) (hd:dispP l s.toks=(some (es,subs),T')) :
  Go w n₀ ann c q (dictDisplay (l.map fun x=>(some (itm pos x).1,(itm pos x).2))) s pos (.ref s.heap.objs.size) (sx s (dO es es.length::subs) T') pos:=by
 unfold dictDisplay
 lift_lets
 extract_lets flush m0 r0
 have hfl:∀ (r:List (Int × Str)) (m:Ds) (T:Nat),DsOk r m→Go w n₀ ann c q (flush (r.map (itm pos)) (Ds.adr s.heap m)) (sx s m.objs T) pos (Ds.adr s.heap (flushP r m T).1) (sx s (flushP r m T).1.objs (flushP r m T).2) pos:=fun r m T ok=>by
  show Go w n₀ ann c q (if (r.map (itm pos)).isEmpty=true then pure (Ds.adr s.heap m) else _) _ _ _ _ _
  unfold flushP
  by_cases e:r=[]
  ·subst e
   rw [if_pos (show (List.map (itm pos) ([]:List (Int × Str))).isEmpty=true from rfl),if_pos rfl]
   exact .pure _
  ·have e':(r.map (itm pos)).isEmpty=false:=by
    cases r with
    | nil=>exact absurd rfl e
    | cons a l=>rfl
   rw [if_neg (by rw [e']; exact Bool.false_ne_true),if_neg e]
   obtain ⟨o1,o2,o3⟩:=ok
   cases m with
   | none =>
    refine Go.bind (a:=s.heap.objs.size) (s':=sx s [dO (subE T r) r.length] (T+3*r.length)) (p':=pos) ?_ ?_
    ·exact sub_go (s:=s) (L:=[]) hb (by simpa [Ds.ents] using o2) (by simpa [Ds.ents] using o3)
    ·show Go w n₀ ann c q (.pure (some s.heap.objs.size)) _ _ _ (sx s [dO (subE T r) (subE T r).length] _) _
     rw [subE_len]
     exact .pure _
   | some x =>
    obtain ⟨es,subs⟩:=x
    have o2':es.length+r.length≤65536:=o2
    have o3':(es.map (·.hash)++r.map fun x=>hashInt x.1).Nodup:=o3
    refine Go.bind (a:=s.heap.objs.size+(dO es es.length::subs).length) (s':=sx s ((dO es es.length::subs)++[dO (subE T r) r.length]) (T+3*r.length)) (p':=pos) ?_ ?_
    ·exact Go.holding (sub_go (s:=s) (L:=dO es es.length::subs) hb (by omega) (List.nodup_append.mp o3').2.1)
    ·refine Go.bind (a:=()) (Go.onRaise (Go.holding ?_)) (.pure _)
     have:=merge_go (w:=w) (n₀:=n₀) (ann:=ann) (c:=c) (q:=q) (p:=pos) (s:=s) (es:=es) (fs:=subE T r) (n:=es.length) (k:=r.length) (T:=T+3*r.length) (subs:=subs) hb hm (o1 es subs rfl) (subE_plain r T) (by rw [subE_len]; exact o2') (by rw [subE_hash]; exact o3')
     show Go w n₀ ann c q _ (sx s (dO es es.length::(subs++[dO (subE T r) r.length])) _) _ _ (sx s (dO (es++subE T r) (es++subE T r).length::(subs++[dO (subE T r) r.length])) _) _
     rw [List.length_append]
     exact this
 have h0:sx s (Ds.objs none) s.toks=s:=by
  show { s with heap:=hx s.heap [],toks:=s.toks }=s
  rw [hx_nil]
 have ok0:DsOk ([]++l) none:=⟨fun es subs z=>(by cases z),by simpa [Ds.ents] using hl,by simpa [Ds.ents] using hn⟩
 have key:=fun f h1 h2=>loop_go (w:=w) (n₀:=n₀) (ann:=ann) (c:=c) (q:=q) (s:=s) (pos:=pos) (f:=f) h1 h2 l [] none s.toks ok0
 rw [h0] at key
 refine Go.bind (key _ (fun x r m T hr=>?_) (fun x r m T ok hr=>?_)) ?_
 ·show Go w n₀ ann c q (if ((r.map (itm pos)++[itm pos x]).length == 17)=true then _ else _) _ _ _ _ _
  have e:(r.map (itm pos)++[itm pos x]).length=(r++[x]).length:=by simp
  rw [e,if_neg (by rw [hr]; exact Bool.false_ne_true),List.map_append]
  exact .pure _
 ·show Go w n₀ ann c q (if ((r.map (itm pos)++[itm pos x]).length == 17)=true then _ else _) _ _ _ _ _
  have e:(r.map (itm pos)++[itm pos x]).length=(r++[x]).length:=by simp
  rw [e,if_pos hr]
  have:=hfl (r++[x]) m T ok
  rw [List.map_append] at this
  exact Go.bind this (.pure _)
 ·have:=hfl _ _ (loopP l [] none s.toks).2.2 (loop_ok l [] none s.toks ok0)
  refine Go.bind this ?_
  unfold dispP at hd
  rw [hd]
  exact .pure _
end
end
section
inductive CoI {α:Type} (e:Expr) (k:Const→Option α) (z:α):Prop
 | mk (c:Const) (n:Nat) (p:Pos) (e:e=.Constant c n p) (h:k c=some z)
theorem oConst_i {α:Type} {e:Expr} {k:Const→Option α} {z:α} (h:oConst e k=some z):CoI e k z:=Expr.Constant.elim (motive_1:=fun e=>oConst e k=some z→CoI e k z) e (elim_i h) (fun c n p h=>⟨c,n,p,rfl,h⟩) h
theorem ci_i {c:Const} {i:Int} (h:(if h:c.ctorIdx=2 then Const.int.elim c h some else none)=some i):c=.int i:=Const.int.elim (motive:=fun c=>(if h:c.ctorIdx=2 then Const.int.elim c h some else none)=some i→c=.int i) c (elim_i h) (fun j h=>congrArg Const.int (Option.some.inj h)) h
theorem cs_i {c:Const} {i:Str} (h:(if h:c.ctorIdx=5 then Const.str.elim c h some else none)=some i):c=.str i:=Const.str.elim (motive:=fun c=>(if h:c.ctorIdx=5 then Const.str.elim c h some else none)=some i→c=.str i) c (elim_i h) (fun j h=>congrArg Const.str (Option.some.inj h)) h
theorem tab_items (env:Env) (pos:Pos) {ks:List (Option Expr)}:∀ {vs:List Expr} {l:List (Int × Str)},tabOf ks vs=some l →
  (evalEachOpt ks env).zip ((evalEach vs env).map fun v=>do let x ← v; standAt pos; pure x)=l.map fun x=>(some (itm pos x).1,(itm pos x).2):=by
 induction ks with
 | nil =>
  intro vs l h
  cases vs with
  | nil=>cases h; rfl
  | cons _ _=>cases h
 | cons k ks ih =>
  intro vs l h
  cases vs with
  | nil=>cases h
  | cons v vs =>
   obtain ⟨i,e1,h1⟩:=b1o (show (k.bind cInt).bind (fun i=>(cStr v).bind fun x=>(tabOf ks vs).map ((i,x)::·))=some l from h)
   obtain ⟨x,e2,h⟩:=b1o h1
   obtain ⟨k,rfl,e1⟩:=b1o e1
   obtain ⟨_,_,_,rfl,e1⟩:=oConst_i e1
   obtain ⟨_,_,_,rfl,e2⟩:=oConst_i e2
   cases ci_i e1
   cases cs_i e2
   obtain ⟨l',h',rfl⟩:=Option.map_eq_some_iff.mp h
   rw [List.map_cons,← ih h']
   rfl
def stoK (x:Str) (np:Pos) (env:Env) (v:Value):Sem Flow:=do
 assign (.Name x np) env v
 pure .next
section
variable {α β:Type} {w:World} {n₀:Nat} {ann:Option Value} {c:Code} {q:Pos} {s s':Shared} {p p':Pos}
theorem Go.pre {m:Sem α} {k:α→Sem β} {a:α} {K:β→Sem PySem.Fin} {H:Value→Sem PySem.Fin} {gd:Bool→Bool} {lv:List Value→List Value} (h:Go w n₀ ann c q m s p a s' p'):∃ n,segGo treeTable pw w n₀ ann 1 n s ⟨(m >>= k).wrap K H gd lv,c,p,[topFrame q]⟩=some (s',⟨(k a).wrap K H gd lv,c,p',[topFrame q]⟩):=by
 rw [Sem.bind_eq_wrap',Sem.wrap_wrap]
 exact h ..
theorem dict_go {x:Str} {np pos ap:Pos} {ks:List (Option Expr)} {vs:List Expr} {l:List (Int × Str)} {env:Env} {es:List DictEntry} {subs:List Obj} {T':Nat} (ht:tabOf ks vs=some l) (hb:n₀≤s.heap.objs.size) (hm:sysModules < s.heap.objs.size) (hl:l.length≤65536) (hn:(l.map fun x=>hashInt x.1).Nodup) (hd:dispP l s.toks=(some (es,subs),T')) :
  ∃ n,segGo treeTable pw w n₀ ann 1 n s (pieceOf (.Assign [.Name x np] (.Dict ks vs pos) ap) env c p [topFrame q])=some (sx s (dO es es.length::subs) T',⟨(stoK x np env (.ref s.heap.objs.size)).wrap doneF deadEnd id id,c,pos,[topFrame q]⟩):=by
 obtain ⟨n1,h1⟩:=Go.pre (w:=w) (n₀:=n₀) (ann:=ann) (c:=c) (q:=q) (s:=s) (p:=p) (m:=standAt ap) (k:=fun _=>do
  let v ← eval (.Dict ks vs pos) env
  stoK x np env v) (K:=doneF) (H:=deadEnd) (gd:=id) (lv:=id) Go.at
 have hdisp:Go w n₀ ann c q (eval (.Dict ks vs pos) env) s ap (.ref s.heap.objs.size) (sx s (dO es es.length::subs) T') pos:=by
  have e:eval (.Dict ks vs pos) env=(do standAt pos; dictDisplay ((evalEachOpt ks env).zip ((evalEach vs env).map fun v=>do let x ← v; standAt pos; pure x))):=arm_eval_Dict ..
  rw [e,tab_items env pos ht]
  exact Go.bind Go.at (disp_go hb hm hl hn hd)
 obtain ⟨n2,h2⟩:=hdisp.pre (k:=fun v=>stoK x np env v) (K:=doneF) (H:=deadEnd) (gd:=id) (lv:=id)
 have e:exec (.Assign [.Name x np] (.Dict ks vs pos) ap) env=(standAt ap >>= fun _=>do
  let v ← eval (.Dict ks vs pos) env
  stoK x np env v):=by
  have e:exec (.Assign [.Name x np] (.Dict ks vs pos) ap) env=(do
   standAt ap
   if ← swapsWith (.Dict ks vs pos) (some (.Name x np)) ap.line env then
    evalThenUse (.Dict ks vs pos) env (assign (.Name x np) env)
    return .next
   let v ← eval (.Dict ks vs pos) env
   assign (.Name x np) env v
   pure .next):=rfl
  rw [e,show swapsWith (.Dict ks vs pos) (some (.Name x np)) ap.line env=pure false from rfl]
  rfl
 unfold pieceOf
 rw [e]
 exact ⟨_,go_go h2 h1⟩
end
end
section
noncomputable section
def topB:List Stmt:=pw.main.body
def env0:Env:={ scope:=pw.main.scope,locals:=mainNs,globals:=mainNs,cells:=[],code:=.ref 13,frame:=some 14 }
def c0:Code:=.body topB env0
def pos0:Pos:=⟨0,0,0,0⟩
abbrev B0:List Frame:=[topFrame pos0]
def s0 (w:World) (os:OsState):Shared:=⟨boot_heap w.params,#[],boot_drawn,boot_toks,os⟩
def pushO (s:SharedT):List Obj→SharedT
 | []=>s
 | o::l=>pushO { s with tree:=s.tree.ins s.n o,n:=s.n+1 } l
def insOk (s:SharedT):List Obj→Bool
 | []=>true
 | o::l=>((s.tree.ins s.n o).get s.n).isSome&&insOk { s with tree:=s.tree.ins s.n o,n:=s.n+1 } l
def toT0 (s:Shared):SharedT:=⟨.nil,0,s.heap.life,s.gens,s.drawn,s.toks,s.os⟩
def toT (s:Shared):SharedT:=pushO (toT0 s) s.heap.objs.toList
def tabO (g:Nat→List DictEntry) (k:Nat→Nat):List Obj:=(List.range 39).map fun i=>dO (g i) (k i)
def withToks (s:SharedT) (t:Nat):SharedT:={ s with toks:=t }
def oName {α:Type} (e:Expr) (d:α) (k:Str→Pos→α):α:=if h:e.ctorIdx=23 then Expr.Name.elim e h k else d
def asgOn {α:Type} (d:α) (k:List Expr→Expr→Pos→α):α:=tabS.elim d fun s=>oAssign s d k
def nameOn {α:Type} (d:α) (k:Str→Pos→α):α:=asgOn d fun ts _ _=>ts.head?.elim d fun e=>oName e d k
def tabX:Str:=nameOn "" fun x _=>x
def tabNp:Pos:=nameOn default fun _ p=>p
def tabP:Pos:=tabOn default fun _ _ p=>p
def tabAp:Pos:=asgOn default fun _ _ p=>p
def viewQ:Program:=view pw [1,2,3,4,5,6,7,8,10,11,12,13,16,18,20,21,22,23,24]
def looseQ:List Str:=["ONE_THIRD","ONE_SIXTH","TWO_THIRD","b1_set","b3_exceptions"]
def fnNames:List Str:=["rgb_to_hls","hls_to_rgb","_v","rgb_to_hsv","hsv_to_rgb","add_func_stats","add_callers","count_calls","in_table_b1","map_table_b3","_law_typed","_law_sum","_law_tell","_law_fair","law"]
def isFnObj (h:Heap) (v:Option Value):Bool:=match v with
 | some (.ref a)=>match h.get? a with
  | some o=>o.cls == .type "function"
  | none=>false
 | _=>false
variable {β:Type} (tb:String→Option Builtin) (go:(String→Option Builtin)→Program→World→Nat→Option Value→Nat→Shared→Thread→Option (Shared × Thread))
 (seg:(String→Option Builtin)→Program→World→Nat→Option Value→Nat→Nat→SharedT→Thread→Option (Flow × SharedT × Code × Pos))
 (run:(String→Option Builtin)→Program→World→Nat→Option Value→Nat→Shared→Thread→Option Shared) (exs:List Stmt→Env→Sem Flow) (asg:Expr→Env→Value→Sem Unit)
def stoF (v:Value):Sem Flow:=do
 asg (.Name tabX tabNp) env0 v
 pure .next
def ph0 (w:World) (os:OsState):Option (Shared × Thread):=go tb pw w 11 (some (.ref 6)) 12 (s0 w os) (topStub pw)
def ph1 (w:World) (s:Shared):Option (Flow × SharedT × Code × Pos):=seg tb pw w 11 (some (.ref 6)) 1 3000 (toT s) ⟨(exs (topB.take 17) env0).wrap doneF deadEnd id id,c0,pos0,B0⟩
def ph2 (w:World) (g:Nat→List DictEntry) (k:Nat→Nat) (s:SharedT):Option (Flow × SharedT × Code × Pos):=seg tb pw w 11 (some (.ref 6)) 1 200 (withToks (pushO s (tabO g k)) 2373) ⟨(stoF asg (.ref 117)).wrap doneF deadEnd id id,c0,tabP,B0⟩
def ph3 (w:World) (s:SharedT) (p:Pos):Option (Flow × SharedT × Code × Pos):=seg tb pw w 11 (some (.ref 6)) 1 1000 s ⟨(exs (topB.drop 18) env0).wrap doneF deadEnd id id,c0,p,B0⟩
def ph4 (w:World) (s:SharedT) (p:Pos):Option Shared:=run tb pw w 11 (some (.ref 6)) 5 s.abs ⟨doneF .next,c0,p,B0⟩
variable (lk:Heap→Heap→Shared→β)
def FO (w:World) (os:OsState) (g:Nat→List DictEntry) (k:Nat→Nat):Option (Thread × (Flow × Code × Nat × Nat × Pos) × (Flow × Code × Pos) × (Flow × Code × Pos) × Bool × β) :=
 (ph0 tb go w os).bind fun r0=>(ph1 tb seg exs w r0.1).bind fun r1=>(ph2 tb seg asg w g k r1.2.1).bind fun r2=>(ph3 tb seg exs w r2.2.1 r2.2.2.2).bind fun r3=>(ph4 tb run w r3.2.1 r3.2.2.2).map fun s =>
  (r0.2,(r1.1,r1.2.2.1,r1.2.1.n,r1.2.1.toks,r1.2.2.2),(r2.1,r2.2.2),(r3.1,r3.2.2),insOk (toT0 r0.1) r0.1.heap.objs.toList&&insOk r1.2.1 (tabO g k),lk r0.1.heap (s0 w os).heap s)
end
end
section
noncomputable section
abbrev kTab:=Fast.tw14364793385576792824
abbrev kSeg:=Fast.tw10110043849684766642
abbrev kGo:=Fast.tw15667345088766844465
abbrev kRun:=Fast.tw14082659384304107361
abbrev kExs:=Fast.tw12563942051412417395
abbrev kAsg:=Fast.tw17772580674575903948
abbrev kDen:=Fast.tw11892475500146522536
abbrev kSeen:=Fast.tw4187177175401517315
abbrev kMods:=Fast.tw5923862056798008813
def b1All:List Int:=b1L++(List.range 16).map fun j:Nat=>65024+(j:Int)
def entOk (e:Int × Value):Bool:=b1All.any fun i=>Value.isInt i e.2&&e.1 == hashInt i
def esOk (es:Array (Int × Value)) (t:SetTable):Bool:=es.toList.all entOk&&((b1All.all fun i=>es.toList.any fun e=>Value.isInt i e.2)&&(Nat.blt es.size 100&&t.fits es.size))
def dSet (d:Data) (k:Array (Int × Value)→Nat→SetTable→Bool):Bool:=if h:d.ctorIdx=4 then Data.set.elim d h k else false
def setOk (o:Option Obj):Bool:=o.elim false fun o=>o.cls == .type "set"&&(o.dict.isNone&&(o.slots.isEmpty&&dSet o.data fun es _ t=>esOk es t))
def lookOk (s:Shared):Bool:=(looseQ.map fun x=>s.heap.nsMap mainGlobals x) == [some (.float 4599676419421066581 191),some (.float 4595172819793696085 195),some (.float 4604180019048437077 199),some (.ref 106),some (.ref 117)] &&
 (fnNames.all fun x=>isFnObj s.heap (s.heap.nsMap mainGlobals x))&&setOk (s.heap.get? 106)&&Nat.ble 200 s.toks&&s.heap.isNs cStatics&&(s.heap.nsMap cStatics sharingNotToldKey).isNone
def lkT (h0 hs:Heap) (s:Shared):=(staticsOk (kMods pw.main.body) hs s.heap&&namesBound pw s.heap&&gensDone s&&laidKept hs s.heap,kSeen viewQ looseQ (kMods pw.main.body) (fun _=>true) true s,lookOk s,s.heap.get? 117)
theorem top_false (w:World) (os:OsState) (g:Nat→List DictEntry) (k:Nat→Nat):FO kTab kGo kSeg kRun kExs kAsg lkT (w.withFollow "special-get-raises" false) os g k =
  some (⟨kDen kTab (.body topB env0),c0,pos0,B0⟩,(.next,c0,117,423,⟨125,0,126,30⟩),(.next,c0,⟨127,0,127,13⟩),(.next,c0,⟨183,0,235,63⟩),true,(true,openGood viewQ looseQ,true,some (dO (g 0) (k 0)))):=by kernel_rfl
theorem top_true (w:World) (os:OsState) (g:Nat→List DictEntry) (k:Nat→Nat):FO kTab kGo kSeg kRun kExs kAsg lkT (w.withFollow "special-get-raises" true) os g k =
  some (⟨kDen kTab (.body topB env0),c0,pos0,B0⟩,(.next,c0,117,423,⟨125,0,126,30⟩),(.next,c0,⟨127,0,127,13⟩),(.next,c0,⟨183,0,235,63⟩),true,(true,openGood viewQ looseQ,true,some (dO (g 0) (k 0)))):=by kernel_rfl
end
end
section
noncomputable section
theorem pushO_abs {L:List Obj}:∀ {s:SharedT},insOk s L=true→(pushO s L).abs={ s.abs with heap:=hx s.abs.heap L }:=by
 induction L with
 | nil=>intro s _; rw [hx_nil]; rfl
 | cons o L ih =>
  intro s h
  obtain ⟨h1,h2⟩:=ba h
  have e:({ s with tree:=s.tree.ins s.n o,n:=s.n+1 }:SharedT).abs={ s.abs with heap:=s.abs.heap.push o }:=by
   show Shared.mk (absHeap (s.tree.ins s.n o) (s.n+1) s.life) _ _ _ _=Shared.mk ((absHeap s.tree s.n s.life).push o) _ _ _ _
   rw [absHeap_ins h1]
   rfl
  refine (ih h2).trans ?_
  rw [e]
  refine congrArg (fun x:Heap=>({ s.abs with heap:=x }:Shared)) (congrArg (fun x=>Heap.mk x _) (Array.toList_inj.mp ?_))
  show ((s.abs.heap.objs.push o)++L.toArray).toList=(s.abs.heap.objs++(o::L).toArray).toList
  rw [Array.toList_append,Array.toList_append,Array.toList_push,List.append_assoc]
  rfl
theorem toT_abs {s:Shared} (h:insOk (toT0 s) s.heap.objs.toList=true):(toT s).abs=s:=by
 unfold toT
 rw [pushO_abs h]
 obtain ⟨⟨objs,life⟩,gens,drawn,toks,os⟩:=s
 show Shared.mk (Heap.mk (((List.range 0).map fun i=>(BT.nil.get i).getD default).toArray++objs.toList.toArray) life) _ _ _ _=_
 congr 2
 simp
theorem tabL_some:(tabOf tabKs tabVs).isSome=true:=by kernel_rfl
theorem tabL_eq:tabOf tabKs tabVs=some tabL:=by
 obtain ⟨l,h⟩:=Option.isSome_iff_exists.mp tabL_some
 unfold tabL
 rw [h]
 rfl
def ascB:List Int→Bool
 | a::b::l=>decide (a < b)&&ascB (b::l)
 | _=>true
theorem asc_lt {l:List Int}:∀ {a:Int},ascB (a::l)=true→∀ b ∈ l,a < b:=by
 induction l with
 | nil=>exact fun _ _ h=>nomatch h
 | cons c l ih =>
  intro a h b hb
  obtain ⟨h1,h2⟩:=ba (show (decide (a < c)&&ascB (c::l))=true from h)
  have h1:=of_decide_eq_true h1
  exact (List.mem_cons.mp hb).elim (fun e=>e ▸ h1) fun hb=>Int.lt_trans h1 (ih h2 b hb)
theorem asc_tail {a:Int} {l:List Int} (h:ascB (a::l)=true):ascB l=true:=by
 cases l with
 | nil=>rfl
 | cons b l=>exact (ba (show (decide (a < b)&&ascB (b::l))=true from h)).2
theorem asc_nodup {l:List Int} (h:ascB l=true):l.Nodup:=by
 induction l with
 | nil=>exact List.nodup_nil
 | cons a l ih=>exact List.nodup_cons.mpr ⟨fun q=>Int.lt_irrefl a (asc_lt h a q),ih (asc_tail h)⟩
theorem tabL_len:tabL.length=650:=by kernel_rfl
theorem tabL_asc:ascB (tabL.map fun x=>hashInt x.1)=true:=by kernel_rfl
def tabD:Ds × Nat:=dispP tabL 423
theorem tabD_size:(tabD.1.objs.length,tabD.2)=(39,2373):=by kernel_rfl
theorem flush_dicts {r:List (Int × Str)} {m:Ds} {T:Nat} (h:∀ o ∈ m.objs,∃ es n,o=dO es n):∀ o ∈ (flushP r m T).1.objs,∃ es n,o=dO es n:=by
 unfold flushP
 split
 ·exact h
 ·cases m with
  | none =>
   intro o ho
   rcases List.mem_cons.mp ho with rfl | ho
   ·exact ⟨_,_,rfl⟩
   ·cases ho
  | some x =>
   obtain ⟨es,subs⟩:=x
   intro o ho
   rcases List.mem_cons.mp ho with rfl | ho
   ·exact ⟨_,_,rfl⟩
   ·rcases List.mem_append.mp ho with ho | ho
    ·exact h o (List.mem_cons_of_mem _ ho)
    ·rcases List.mem_cons.mp ho with rfl | ho
     ·exact ⟨_,_,rfl⟩
     ·cases ho
theorem dicts_only:∀ (l r:List (Int × Str)) (m:Ds) (T:Nat),(∀ o ∈ m.objs,∃ es n,o=dO es n)→∀ o ∈ (loopP l r m T).2.1.objs,∃ es n,o=dO es n
 | [],r,m,T,h=>h
 | x::l,r,m,T,h=>by
  unfold loopP
  split
  ·exact dicts_only l [] _ _ (flush_dicts h)
  ·exact dicts_only l _ m T h
theorem as_tabO {L:List Obj} (h:∀ o ∈ L,∃ es n,o=dO es n) (hl:L.length=39):∃ g k,L=tabO g k:=by
 have c:∀ i,∃ p:List DictEntry × Nat,i < 39→L[i]?=some (dO p.1 p.2):=fun i=>by
  by_cases hi:i < 39
  ·obtain ⟨es,n,e⟩:=h _ (List.getElem_mem (hl.symm ▸ hi:i < L.length))
   exact ⟨(es,n),fun _=>(List.getElem?_eq_getElem (hl.symm ▸ hi)).trans (congrArg some e)⟩
  ·exact ⟨([],0),fun q=>absurd q hi⟩
 obtain ⟨F,hF⟩:=Classical.axiomOfChoice c
 refine ⟨fun i=>(F i).1,fun i=>(F i).2,List.ext_getElem? fun i=>?_⟩
 unfold tabO
 rw [List.getElem?_map]
 by_cases hi:i < 39
 ·rw [List.getElem?_range hi,hF i hi]
  rfl
 ·rw [List.getElem?_eq_none (hl ▸ Nat.not_lt.mp hi),List.getElem?_eq_none (by rw [List.length_range]; exact Nat.not_lt.mp hi)]
  rfl
theorem tab_parts:∃ es subs g k,tabD=(some (es,subs),2373)∧dO es es.length::subs=tabO g k∧dO (g 0) (k 0)=dO es es.length:=by
 obtain ⟨h1,h2⟩:=Prod.mk.inj tabD_size
 have hd:∀ o ∈ tabD.1.objs,∃ es n,o=dO es n:=flush_dicts (dicts_only tabL [] none 423 fun o ho=>by cases ho)
 obtain ⟨g,k,e⟩:=as_tabO hd h1
 cases hm:tabD.1 with
 | none=>rw [hm] at h1; cases h1
 | some x =>
  obtain ⟨es,subs⟩:=x
  rw [hm] at e
  refine ⟨es,subs,g,k,Prod.ext hm h2,e,?_⟩
  exact (List.cons.inj (e:dO es es.length::subs=dO (g 0) (k 0)::_)).1.symm
end
end
section
noncomputable section
def lkO (h0 hs:Heap) (s:Shared):=(staticsOk (importedModules pw.main.body) hs s.heap&&namesBound pw s.heap&&gensDone s&&laidKept hs s.heap,openSeen viewQ looseQ (importedModules pw.main.body) (fun _=>true) true s,lookOk s,s.heap.get? 117)
theorem lk_eq:lkT=lkO:=by
 funext h0 hs s
 show (staticsOk (Fast.tw5923862056798008813 pw.main.body) hs s.heap&&namesBound pw s.heap&&gensDone s&&laidKept hs s.heap,Fast.tw4187177175401517315 viewQ looseQ (Fast.tw5923862056798008813 pw.main.body) (fun _=>true) true s,lookOk s,s.heap.get? 117)=_
 rw [← Fast.te5923862056798008813,← Fast.te4187177175401517315]
 rfl
theorem FO_eq (w:World) (os:OsState) (g:Nat→List DictEntry) (k:Nat→Nat):FO kTab kGo kSeg kRun kExs kAsg lkT w os g k=FO treeTable topGo segRunT topRun execs assign lkO w os g k:=by
 show FO Fast.tw14364793385576792824 Fast.tw15667345088766844465 Fast.tw10110043849684766642 Fast.tw14082659384304107361 Fast.tw12563942051412417395 Fast.tw17772580674575903948 lkT w os g k=_
 rw [lk_eq,← Fast.te14364793385576792824,← Fast.te15667345088766844465,← Fast.te10110043849684766642,← Fast.te14082659384304107361,← Fast.te12563942051412417395,← Fast.te17772580674575903948]
theorem den_eq:kDen kTab=denote treeTable:=by
 show Fast.tw11892475500146522536 Fast.tw14364793385576792824=_
 rw [← Fast.te14364793385576792824,← Fast.te11892475500146522536]
theorem blk_eq:blockStart topB env0=pure ():=by
 have:Fast.tw1066825118222455980 topB env0=pure ():=by kernel_rfl
 rw [Fast.te1066825118222455980]
 exact this
theorem top_all (w:World) (os:OsState) (g:Nat→List DictEntry) (k:Nat→Nat):FO treeTable topGo segRunT topRun execs assign lkO w os g k =
  some (⟨denote treeTable (.body topB env0),c0,pos0,B0⟩,(.next,c0,117,423,⟨125,0,126,30⟩),(.next,c0,⟨127,0,127,13⟩),(.next,c0,⟨183,0,235,63⟩),true,(true,openGood viewQ looseQ,true,some (dO (g 0) (k 0)))):=by
 have e:=World.withFollow_self w "special-get-raises"
 rw [← FO_eq,← den_eq]
 cases hb:w.params.followText "special-get-raises" <;> rw [hb] at e
 ·have:=top_false w os g k
  rw [e] at this
  exact this
 ·have:=top_true w os g k
  rw [e] at this
  exact this
theorem topB_split:topB=topB.take 17++(.Assign [.Name tabX tabNp] (.Dict tabKs tabVs tabP) tabAp)::topB.drop 18:=by kernel_rfl
theorem topB_beh:behindTheImports pw=topB:=by kernel_rfl
end
end
section
noncomputable section
theorem stub_pos:topB=topB.take 17++(.Assign [.Name tabX tabNp] (.Dict tabKs tabVs tabP) tabAp)::(topB.drop 18++[]):=by rw [List.append_nil]; exact topB_split
theorem push_sx {s:SharedT} {L:List Obj} (T:Nat) (h:insOk s L=true):(withToks (pushO s L) T).abs=sx s.abs L T:=congrArg (fun x:Shared=>{ x with toks:=T }) (pushO_abs h)
structure LkI (hs:Heap) (s:Shared) (o:Option Obj):Prop where
 st:(staticsOk (importedModules pw.main.body) hs s.heap&&namesBound pw s.heap&&gensDone s&&laidKept hs s.heap)=true
 seen:openSeen viewQ looseQ (importedModules pw.main.body) (fun _=>true) true s=openGood viewQ looseQ
 look:lookOk s=true
 tab:s.heap.get? 117=o
inductive BO5 {α β γ δ ε ζ:Type} (x:Option α) (f1:α→Option β) (f2:β→Option γ) (f3:γ→Option δ) (f4:δ→Option ε) (F:α→β→γ→δ→ε→ζ) (z:ζ):Prop
 | mk (a:α) (b:β) (c:γ) (d:δ) (e:ε) (h0:x=some a) (h1:f1 a=some b) (h2:f2 b=some c) (h3:f3 c=some d) (h4:f4 d=some e) (hz:F a b c d e=z)
theorem bo5 {α β γ δ ε ζ:Type} {x:Option α} {f1:α→Option β} {f2:β→Option γ} {f3:γ→Option δ} {f4:δ→Option ε} {F:α→β→γ→δ→ε→ζ} {z:ζ} (h:(x.bind fun a=>(f1 a).bind fun b=>(f2 b).bind fun c=>(f3 c).bind fun d=>(f4 d).map fun e=>F a b c d e)=some z):BO5 x f1 f2 f3 f4 F z:=by
 obtain ⟨a,h0,h⟩:=b1o h
 obtain ⟨b,h1,h⟩:=b1o h
 obtain ⟨c,h2,h⟩:=b1o h
 obtain ⟨d,h3,h⟩:=b1o h
 obtain ⟨e,h4,h⟩:=Option.map_eq_some_iff.mp h
 exact ⟨a,b,c,d,e,h0,h1,h2,h3,h4,h⟩
theorem trip {α β γ δ:Type} {x:Option (α × β × γ × δ)} {b:α × β × γ × δ} {f:α} {c:γ} {p:δ} (h:x=some b) (e1:b.1=f) (e2:b.2.2.1=c) (e3:b.2.2.2=p):x=some (f,b.2.1,c,p):=by
 subst e1 e2 e3
 exact h
inductive TopI (w:World) (os:OsState):Prop
 | mk (M:Nat) (s:Shared) (es:List DictEntry) (subs:List Obj) (h:topRun treeTable pw w 11 (some (.ref 6)) M (s0 w os) (topStub pw)=some s) (hD:tabD=(some (es,subs),2373)) (l:LkI (boot_heap w.params) s (some (dO es es.length)))
theorem top_run (w:World) (os:OsState):TopI w os:=by
 obtain ⟨es,subs,g,k,hD,hO,hd0⟩:=tab_parts
 have h:=top_all w os g k
 unfold FO at h
 obtain ⟨a,b,c,d,s,h0,h1,h2,h3,h4,hz⟩:=bo5 h
 clear h
 unfold ph0 at h0
 unfold ph1 at h1
 unfold ph2 at h2
 unfold ph3 at h3
 unfold ph4 at h4
 obtain ⟨y0,hz⟩:=Prod.mk.inj hz
 obtain ⟨y1,hz⟩:=Prod.mk.inj hz
 obtain ⟨y2,hz⟩:=Prod.mk.inj hz
 obtain ⟨y3,hz⟩:=Prod.mk.inj hz
 obtain ⟨y4,hz⟩:=Prod.mk.inj hz
 obtain ⟨k1,k2⟩:=ba y4
 obtain ⟨b1,y1⟩:=Prod.mk.inj y1
 obtain ⟨b2,y1⟩:=Prod.mk.inj y1
 obtain ⟨hn,y1⟩:=Prod.mk.inj y1
 obtain ⟨ht,b3⟩:=Prod.mk.inj y1
 obtain ⟨c1,y2⟩:=Prod.mk.inj y2
 obtain ⟨d1,y3⟩:=Prod.mk.inj y3
 have e1:=segRun_of (trip h1 b1 b2 b3)
 have e2:=segRun_of (trip h2 c1 (congrArg Prod.fst y2:c.2.2.1=c0) rfl)
 have e3:=segRun_of (trip h3 d1 (congrArg Prod.fst y3:d.2.2.1=c0) rfl)
 rw [toT_abs k1] at e1
 have hD':dispP tabL b.2.1.abs.toks=(some (es,subs),2373):=(congrArg (dispP tabL) ht).trans hD
 have hsz:b.2.1.abs.heap.objs.size=117:=(absHeap_size ..).trans hn
 obtain ⟨n1,hg⟩:=dict_go (w:=w) (n₀:=11) (ann:=some (.ref 6)) (c:=c0) (q:=pos0) (p:=⟨125,0,126,30⟩) (x:=tabX) (np:=tabNp) (pos:=tabP) (ap:=tabAp) (env:=env0) tabL_eq (hsz ▸ by decide) (hsz ▸ by decide) (tabL_len ▸ by decide) (asc_nodup tabL_asc) hD'
 rw [hO,← push_sx 2373 k2,hsz] at hg
 have r2:=piece_cons (seg_go hg e2) (piece_app (rest:=[]) e3 h4)
 have r1:=piece_app e1 r2
 rw [← stub_pos] at r1
 have hb:segRun treeTable pw w 11 (some (.ref 6)) 1 1 a.1 (blockOf topB env0 c0 pos0 [topFrame pos0])=some (.next,a.1,c0,pos0):=by
  unfold blockOf
  rw [blk_eq]
  rfl
 have h0:topGo treeTable pw w 11 (some (.ref 6)) 12 (s0 w os) (topStub pw)=some (a.1,⟨denote treeTable (.body topB env0),c0,pos0,B0⟩):=h0.trans (congrArg some (Prod.ext rfl y0))
 obtain ⟨l1,hz⟩:=Prod.mk.inj hz
 obtain ⟨l2,hz⟩:=Prod.mk.inj hz
 obtain ⟨l3,l4⟩:=Prod.mk.inj hz
 exact ⟨_,s,es,subs,go_top h0 (piece_block hb r1),hD,l1,l2,l3,l4.trans (congrArg some hd0)⟩
end
end
section
noncomputable section
theorem open_eq:opening pw=plainProg pw.main.scope.names:=by kernel_rfl
theorem fence_eq (s:Shared):fenceModules? pw s=some s:=by
 have:Fast.tw14289696077712309145 pw s=some s:=by kernel_rfl
 rw [Fast.te14289696077712309145]
 exact this
theorem boot_facts (w:World):((boot_heap w.params).isNs mainGlobals,(boot_heap w.params).objs.size,(boot_heap w.params).nsMap mainGlobals "__annotations__")=(true,11,some (.ref 6)):=by kernel_rfl
theorem chains_eq:chainsOk viewQ=true:=by kernel_rfl
theorem head_behind (w:World):(∃ s,AfterRun (opening pw) w s)∧∀ s,AfterRun (opening pw) w s→∃ s₀,fenceModules? pw s=some s₀∧s₀.gens=#[]∧∃ s₁,TopRan pw w s₀ s₁∧s₁.asleep∧s₁.gens=#[]∧s₁.heap.isNs mainGlobals=true ∧
  Ground viewQ looseQ [] (fun _ _=>True) w s₁ (s₁.heap.nsMap mainGlobals) (s₁.heap.nsMap builtinsNs) s₁.heap∧lookOk s₁=true∧∃ es subs,tabD=(some (es,subs),2373)∧s₁.heap.get? 117=some (dO es es.length):=by
 have ho:=boot_open (p:=pw) (N:=600) open_eq rfl fence_eq w
 obtain ⟨⟨bh,bg,bd,bt,os⟩,h2,e⟩:=Option.map_eq_some_iff.mp ho
 simp only [Prod.mk.injEq] at e
 obtain ⟨rfl,rfl,rfl,rfl⟩:=e
 unfold fencedOpening at h2
 rw [← table_eq_tree] at h2
 obtain ⟨s,h4,h5⟩:=Option.bind_eq_some_iff.mp h2
 have A:=AfterImport.of_importEnds h4
 refine ⟨⟨s,A⟩,fun s' hs'=>?_⟩
 obtain rfl:s'=s:=AfterImport.unique hs' A
 refine ⟨_,h5,rfl,?_⟩
 have z:Shared.asleep ⟨boot_heap w.params,#[],boot_drawn,boot_toks,os⟩:=Shared.asleep_of_life (fence_lifeW h5) A.life
 obtain ⟨M,s₁,es,subs,hr,hD,hc,hs,hl,h117⟩:=top_run w os
 rw [← table_eq_tree] at hr
 obtain ⟨hs1,hlk⟩:=Bool.and_eq_true_iff.mp hc
 obtain ⟨hs1,hgd⟩:=Bool.and_eq_true_iff.mp hs1
 obtain ⟨hs1,hnb⟩:=Bool.and_eq_true_iff.mp hs1
 obtain ⟨b1,b2⟩:=Prod.mk.inj (boot_facts w)
 obtain ⟨b2,b3⟩:=Prod.mk.inj b2
 obtain ⟨a,l,os',fr⟩:=topRun_spec _ _ _ _ z hr
 obtain ⟨G,g0,g1,g2,g3,g4,g5⟩:=ground_of_open (w:=w) (XP:=fun _ _=>True) (fun _ _=>trivial) chains_eq hs
 refine ⟨s₁,⟨a,l,Shared.rest_eq os',fun b o hb hn=>fr b o (by rw [← b2]; exact Heap.lt_size hb) (fun q=>hn (.inl q)) (fun q=>hn (.inr (.inl q))) (fun q=>hn (.inr (.inr ((Pin.globalOf_eq b1 _).trans (b3.trans q))))) hb,
  g2,statics_of_ok hs1,g3,g4,g5,gens_of_done hgd,names_of_bound hnb,laid_of_kept hlk⟩,Shared.asleep_of_life l z,Array.eq_empty_of_size_eq_zero (beq_iff_eq.mp g0),g1,G,hl,es,subs,hD,h117⟩
end
end
section
noncomputable section
def lawArgs:Arguments:=lawDef.elim default fun p=>p.2.1
def fnN (k:Nat):Str:=fnNames.getD k ""
def allArgs (k:Nat):Arguments:=cond (Nat.beq k 14) lawArgs (argsOf k)
def allBody (k:Nat):List Stmt:=cond (Nat.beq k 14) lawBody (bodyOf k)
def allScope (k:Nat):Scope:=cond (Nat.beq k 14) lawScope (scopeOf k)
theorem recs_at:(Fast.tw3399658132070893891 viewQ).map (fun d=>(d.name,d.params,d.body,d.scope))=(List.range 15).map fun k=>(fnN k,allArgs k,allBody k,allScope k):=by kernel_rfl
def plainS (s:Scope):Bool:=!s.isCoroutine&&(!s.isGenerator&&s.kind == .function)
theorem scopes_ok:((List.range 15).all fun k=>plainS (allScope k))=true:=by kernel_rfl
theorem scope_c:plainS (scopeOf 14)=true:=by kernel_rfl
def initD:Option (Str × Arguments × List Stmt × Scope):=(pw.main.body.findSome? cBody).bind (fnIn "__init__")
def initA:Arguments:=initD.elim default fun p=>p.2.1
def initB:List Stmt:=initD.elim [] fun p=>p.2.2.1
def initSc:Scope:=initD.elim default fun p=>p.2.2.2
def tcN:Str:="TupleComp"
def quietN:List Str:=["__setattr__","__getattribute__","__getattr__","comp_select_list","__eq__","__ne__"]
def inN:Str:="__init__"
def cmN:Str:="compare"
theorem cls_at:(Fast.tw210736558901404530 viewQ (Fast.tw821141287760084731 viewQ looseQ)).map (fun c=>(c.name,c.withCmp.quiet,c.withCmp.name,c.withCmp.meths.map fun m=>(m.name,m.params,m.body,m.scope))) =
  [(tcN,quietN,tcN,[(inN,initA,initB,initSc),(cmN,argsOf 14,bodyOf 14,scopeOf 14)])]:=by kernel_rfl
theorem scope_i:plainS initSc=true:=by kernel_rfl
theorem init_b:initBody initB=true:=by kernel_rfl
theorem init_1:initSc.names.lookup ("self":Str)=some .local:=by kernel_rfl
theorem init_2:initSc.names.lookup ("comp_select_list":Str)=some .local:=by kernel_rfl
theorem init_3:(initSc.names.all fun x=>x.2 != .cell)=true:=by kernel_rfl
def BindOk (a:Arguments) (ps:List Str):Prop:=∀ n q b sc pm cd doc (vs:List Value),vs.length=ps.length→bindArgs (methDef n q a b sc pm cd doc) ⟨vs,[]⟩=pure (ps.zip vs)
def Bind1 (a:Arguments) (ps:List Str):Prop:=∀ n q b sc pm cd doc v,Fast.tw9782568553167038054 (methDef n q a b sc pm cd doc) ⟨[v],[]⟩=pure (ps.zip [v])
def Bind2 (a:Arguments) (ps:List Str):Prop:=∀ n q b sc pm cd doc v u,Fast.tw9782568553167038054 (methDef n q a b sc pm cd doc) ⟨[v,u],[]⟩=pure (ps.zip [v,u])
def Bind3 (a:Arguments) (ps:List Str):Prop:=∀ n q b sc pm cd doc v u x,Fast.tw9782568553167038054 (methDef n q a b sc pm cd doc) ⟨[v,u,x],[]⟩=pure (ps.zip [v,u,x])
def Bind4 (a:Arguments) (ps:List Str):Prop:=∀ n q b sc pm cd doc v u x y,Fast.tw9782568553167038054 (methDef n q a b sc pm cd doc) ⟨[v,u,x,y],[]⟩=pure (ps.zip [v,u,x,y])
section
variable {a:Arguments} {ps:List Str}
theorem bd {n q b sc pm cd doc} {vs:List Value} (h:Fast.tw9782568553167038054 (methDef n q a b sc pm cd doc) ⟨vs,[]⟩=pure (ps.zip vs)):bindArgs (methDef n q a b sc pm cd doc) ⟨vs,[]⟩=pure (ps.zip vs):=Fast.te9782568553167038054 ▸ h
theorem cons_of {vs:List Value} {n:Nat} (h:vs.length=n+1):∃ v t,t.length=n∧vs=v::t:=by
 obtain ⟨v,t,rfl⟩:=List.exists_cons_of_length_eq_add_one h
 exact ⟨v,t,Nat.succ.inj h,rfl⟩
theorem Bind1.ok (h:Bind1 a ps) (l:ps.length=1):BindOk a ps:=fun n q b sc pm cd doc vs e=>by
 obtain ⟨v,t,e1,rfl⟩:=cons_of (e.trans l)
 cases List.eq_nil_of_length_eq_zero e1
 exact bd (h ..)
theorem Bind2.ok (h:Bind2 a ps) (l:ps.length=2):BindOk a ps:=fun n q b sc pm cd doc vs e=>by
 obtain ⟨v,t,e1,rfl⟩:=cons_of (e.trans l)
 obtain ⟨u,t,e2,rfl⟩:=cons_of e1
 cases List.eq_nil_of_length_eq_zero e2
 exact bd (h ..)
theorem Bind3.ok (h:Bind3 a ps) (l:ps.length=3):BindOk a ps:=fun n q b sc pm cd doc vs e=>by
 obtain ⟨v,t,e1,rfl⟩:=cons_of (e.trans l)
 obtain ⟨u,t,e2,rfl⟩:=cons_of e1
 obtain ⟨x,t,e3,rfl⟩:=cons_of e2
 cases List.eq_nil_of_length_eq_zero e3
 exact bd (h ..)
theorem Bind4.ok (h:Bind4 a ps) (l:ps.length=4):BindOk a ps:=fun n q b sc pm cd doc vs e=>by
 obtain ⟨v,t,e1,rfl⟩:=cons_of (e.trans l)
 obtain ⟨u,t,e2,rfl⟩:=cons_of e1
 obtain ⟨x,t,e3,rfl⟩:=cons_of e2
 obtain ⟨y,t,e4,rfl⟩:=cons_of e3
 cases List.eq_nil_of_length_eq_zero e4
 exact bd (h ..)
end
theorem bind_l:BindOk lawArgs ["script"]:=Bind1.ok (fun n q b sc pm cd doc v=>by kernel_rfl) rfl
theorem bind_i:BindOk initA ["self","comp_select_list"]:=Bind2.ok (fun n q b sc pm cd doc v u=>by kernel_rfl) rfl
theorem below {P:Nat→Prop} {n:Nat} (h:∀ k < n,P k) (hn:P n):∀ k < n+1,P k:=fun k hk=>(Nat.lt_succ_iff_lt_or_eq.mp hk).elim (h k) fun e=>e ▸ hn
def BK (k:Nat):Prop:=BindOk (argsOf k) (pars k)
theorem bk0:BK 0:=Bind3.ok (fun n q b sc pm cd doc v u x=>by kernel_rfl) (by kernel_rfl)
theorem bk1:BK 1:=Bind3.ok (fun n q b sc pm cd doc v u x=>by kernel_rfl) (by kernel_rfl)
theorem bk2:BK 2:=Bind3.ok (fun n q b sc pm cd doc v u x=>by kernel_rfl) (by kernel_rfl)
theorem bk3:BK 3:=Bind3.ok (fun n q b sc pm cd doc v u x=>by kernel_rfl) (by kernel_rfl)
theorem bk4:BK 4:=Bind3.ok (fun n q b sc pm cd doc v u x=>by kernel_rfl) (by kernel_rfl)
theorem bk5:BK 5:=Bind2.ok (fun n q b sc pm cd doc v u=>by kernel_rfl) (by kernel_rfl)
theorem bk6:BK 6:=Bind2.ok (fun n q b sc pm cd doc v u=>by kernel_rfl) (by kernel_rfl)
theorem bk7:BK 7:=Bind1.ok (fun n q b sc pm cd doc v=>by kernel_rfl) (by kernel_rfl)
theorem bk8:BK 8:=Bind1.ok (fun n q b sc pm cd doc v=>by kernel_rfl) (by kernel_rfl)
theorem bk9:BK 9:=Bind1.ok (fun n q b sc pm cd doc v=>by kernel_rfl) (by kernel_rfl)
theorem bk10:BK 10:=Bind2.ok (fun n q b sc pm cd doc v u=>by kernel_rfl) (by kernel_rfl)
theorem bk11:BK 11:=Bind1.ok (fun n q b sc pm cd doc v=>by kernel_rfl) (by kernel_rfl)
theorem bk12:BK 12:=Bind3.ok (fun n q b sc pm cd doc v u x=>by kernel_rfl) (by kernel_rfl)
theorem bk13:BK 13:=Bind4.ok (fun n q b sc pm cd doc v u x y=>by kernel_rfl) (by kernel_rfl)
theorem bk14:BK 14:=Bind3.ok (fun n q b sc pm cd doc v u x=>by kernel_rfl) (by kernel_rfl)
theorem bk_all:∀ k < 15,BK k:=below (below (below (below (below (below (below (below (below (below (below (below (below (below (below nofun bk0) bk1) bk2) bk3) bk4) bk5) bk6) bk7) bk8) bk9) bk10) bk11) bk12) bk13) bk14
def biAll:List (Str × Value):=[("len",.builtin "len"),("max",.builtin "max"),("min",.builtin "min"),("abs",.builtin "abs"),("int",.type "int"),("str",.type "str"),("ord",.builtin "ord"),("chr",.builtin "chr"),("isinstance",.builtin "isinstance"),("tuple",.type "tuple"),("sum",.builtin "sum"),("bool",.type "bool"),("range",.type "range"),("list",.type "list"),("enumerate",.type "enumerate"),("zip",.type "zip")]
def freeB (x:Str):Bool:=!startupNames.contains x&&(!looseQ.contains x&&(!fnNames.contains x&&(!(x == tcN)&&!(x == ("__name__":Str)))))
theorem bi_free:(biAll.all fun p=>freeB p.1)=true:=by kernel_rfl
theorem bi_boot:biAll.map (fun p=>bootBuiltins p.1)=biAll.map fun p=>some p.2:=by kernel_rfl
theorem loose_eq:Fast.tw821141287760084731 viewQ looseQ=looseQ:=by kernel_rfl
theorem lits_eq:Fast.tw7409074990110511671 viewQ=[]:=by kernel_rfl
theorem clss_eq:(Fast.tw13664370479719496447 viewQ looseQ).map (·.name)=[tcN]:=by kernel_rfl
end
end
def frag (h:Heap):Frag:=(List.range h.objs.size).filterMap fun a=>(h.get? a).map fun o=>(a,o)
theorem frag_aux (h:Heap) (a:Nat):∀ l:List Nat,(l.filterMap fun a=>(h.get? a).map fun o=>(a,o)).lookup a=if a ∈ l then h.get? a else none
 | []=>rfl
 | b::l=>by
  have ih:=frag_aux h a l
  rw [List.filterMap_cons]
  by_cases e:a=b
  ·subst e
   rw [if_pos (List.mem_cons_self ..)]
   cases hg:h.get? a with
   | none =>
    simp only [Option.map_none]
    rw [ih]
    split <;> simp [hg]
   | some o=>simp only [Option.map_some,List.lookup_cons,beq_self_eq_true]
  ·have hm:(a ∈ b::l) ↔ a ∈ l:=⟨fun q=>(List.mem_cons.mp q).resolve_left e,List.mem_cons_of_mem _⟩
   simp only [hm]
   cases hg:h.get? b with
   | none=>simp only [Option.map_none]; exact ih
   | some o=>simp only [Option.map_some,List.lookup_cons,beq_eq_false_iff_ne.mpr e]; exact ih
theorem frag_lookup (h:Heap) (a:Addr):(frag h).lookup a=h.get? a:=by
 unfold frag
 rw [frag_aux]
 split
 ·rfl
 ·next q =>
  cases e:h.get? a with
  | none=>rfl
  | some o=>exact absurd (List.mem_range.mpr (Heap.lt_size e)) q
theorem frag_in {h h':Heap} (X:(frag h).In h'):∀ b o,h.get? b=some o→h'.get? b=some o:=fun b o e=>X b o (by rw [frag_lookup]; exact e)
theorem in_frag {h h':Heap} (X:∀ b o,h.get? b=some o→h'.get? b=some o):(frag h).In h':=fun b o e=>X b o (by rw [← frag_lookup]; exact e)
inductive Em:List DictEntry→List (Int × Str)→Prop
 | nil:Em [] []
 | cons {es:List DictEntry} {l:List (Int × Str)} (x:Int × Str) (t u:Tok) (h:Em es l):Em (ent x t u::es) (x::l)
theorem Em.app {es fs:List DictEntry} {l m:List (Int × Str)} (h:Em es l) (k:Em fs m):Em (es++fs) (l++m):=by
 induction h with
 | nil=>exact k
 | cons x t u h ih=>exact .cons x t u ih
theorem em_L:∀ (l:List (Int × Str)) (T:Nat),Em (entL T l) l
 | [],_=>.nil
 | x::l,T=>.cons x _ _ (em_L l _)
theorem em_S:∀ (l:List (Int × Str)) (T:Nat),Em (entS T l) l
 | [],_=>.nil
 | x::l,T=>.cons x _ _ (em_S l _)
theorem em_sub (l:List (Int × Str)) (T:Nat):Em (subE T l) l:=by
 unfold subE
 split
 ·exact em_S l T
 ·exact em_L l T
theorem em_flush {r l:List (Int × Str)} {m:Ds} {T:Nat} (h:Em m.ents l):Em (flushP r m T).1.ents (l++r):=by
 unfold flushP
 split
 ·next e=>subst e; rw [List.append_nil]; exact h
 ·cases m with
  | none=>exact h.app (em_sub r T)
  | some x=>exact h.app (em_sub r T)
theorem em_loop:∀ (l r:List (Int × Str)) (m:Ds) (T:Nat) (k:List (Int × Str)),Em m.ents k→∃ k',k++(r++l)=k'++(loopP l r m T).1∧Em (loopP l r m T).2.1.ents k'
 | [],r,m,T,k,h=>⟨k,by rw [List.append_nil]; rfl,h⟩
 | x::l,r,m,T,k,h=>by
  unfold loopP
  split
  ·obtain ⟨k',e1,e2⟩:=em_loop l [] (flushP (r++[x]) m T).1 (flushP (r++[x]) m T).2 (k++(r++[x])) (em_flush h)
   exact ⟨k',by rw [← e1]; simp,e2⟩
  ·obtain ⟨k',e1,e2⟩:=em_loop l (r++[x]) m T k h
   exact ⟨k',by rw [← e1]; simp,e2⟩
theorem em_disp (l:List (Int × Str)) (T:Nat):Em (dispP l T).1.ents l:=by
 obtain ⟨k,e1,e2⟩:=em_loop l [] none T [] .nil
 have:=em_flush (r:=(loopP l [] none T).1) (T:=(loopP l [] none T).2.2) e2
 rw [← e1,List.nil_append,List.nil_append] at this
 exact this
theorem em_key {es:List DictEntry} {l:List (Int × Str)} (h:Em es l):∀ e ∈ es,∃ k t,e.key=.int k t∧e.hash=hashInt k:=by
 induction h with
 | nil=>intro e he; cases he
 | cons x t u h ih =>
  intro e he
  rcases List.mem_cons.mp he with rfl | he
  ·exact ⟨x.1,t,rfl,rfl⟩
  ·exact ih e he
theorem em_keys {w:World} {es:List DictEntry} {l:List (Int × Str)} (h:Em es l):PySem.KeysOf (intKind pw w) es.toArray:=fun e he=>by
 obtain ⟨k,t,e1,e2⟩:=em_key h e (by simpa using he)
 exact ⟨k,by rw [e1]; simp [intKind,Value.isInt],e2⟩
theorem em_vals {w:World} {es:List DictEntry} {l:List (Int × Str)} (h:Em es l):∃ kvs:List (Int × Value),Pairs (intKind pw w) es kvs∧kvs.map (·.1)=l.map (·.1)∧∀ i,match l.lookup i with
  | some x=>∃ tk,valueAt kvs i=some (.str x tk)
  | none=>valueAt kvs i=none:=by
 induction h with
 | nil=>exact ⟨[],.nil,rfl,fun i=>rfl⟩
 | @cons es l x t u h ih =>
  obtain ⟨kvs,p1,p2,p3⟩:=ih
  refine ⟨(x.1,.str x.2 u)::kvs,.cons (by simp [ent,intKind,Value.isInt]) rfl p1,by rw [List.map_cons,List.map_cons,p2],fun i=>?_⟩
  have:=p3 i
  rw [List.lookup_cons]
  by_cases e:i=x.1
  ·subst e
   rw [beq_self_eq_true]
   exact ⟨u,by simp [valueAt]⟩
  ·rw [beq_eq_false_iff_ne.mpr e]
   have hv:valueAt ((x.1,Value.str x.2 u)::kvs) i=valueAt kvs i:=by
    unfold valueAt
    rw [List.find?_cons_of_neg (by simpa using Ne.symm e)]
   rw [hv]
   exact this
section
theorem loose_id:looseW viewQ looseQ=looseQ:=by rw [Fast.te821141287760084731]; exact loose_eq
theorem lits_no:litsOf viewQ=[]:=by rw [Fast.te7409074990110511671]; exact lits_eq
theorem clss_tc:(clssOf viewQ looseQ).map (·.name)=[tcN]:=by rw [Fast.te13664370479719496447]; exact clss_eq
structure RecIs (d:DefRec) (k:Nat):Prop where
 n:d.name=fnN k
 a:d.params=allArgs k
 b:d.body=allBody k
 s:d.scope=allScope k
theorem recs_all:(recsOf viewQ).map (fun d=>(d.name,d.params,d.body,d.scope))=(List.range 15).map fun k=>(fnN k,allArgs k,allBody k,allScope k):=Fast.te3399658132070893891 ▸ recs_at
theorem recs_of {k:Nat} (hk:k < 15):∃ d ∈ recsOf viewQ,RecIs d k:=by
 have h2:(fnN k,allArgs k,allBody k,allScope k) ∈ (List.range 15).map fun k=>(fnN k,allArgs k,allBody k,allScope k):=List.mem_map.mpr ⟨k,List.mem_range.mpr hk,rfl⟩
 rw [← recs_all] at h2
 obtain ⟨d,hd,e⟩:=List.mem_map.mp h2
 exact ⟨d,hd,congrArg (·.1) e,congrArg (·.2.1) e,congrArg (·.2.2.1) e,congrArg (·.2.2.2) e⟩
theorem fnNames_eq:(List.range 15).map fnN=fnNames:=by kernel_rfl
theorem recs_names:(recsOf viewQ).map (·.name)=fnNames:=by
 have h:=congrArg (List.map Prod.fst) recs_all
 rw [List.map_map,List.map_map] at h
 exact h.trans fnNames_eq
theorem bnot {q:Bool} (h:(!q)=true):q=false:=Bool.not_inj h
theorem not_mem {x:Str} {l:List Str} (h:(!l.contains x)=true):x ∉ l:=fun q=>Bool.false_ne_true ((bnot h).symm.trans (List.contains_iff_mem.mpr q))
section
variable {w:World} {s:Shared}
abbrev Gr (w:World) (s:Shared):Prop:=Ground viewQ looseQ [] (fun _ _=>True) w s (s.heap.nsMap mainGlobals) (s.heap.nsMap builtinsNs) s.heap
theorem glob_main (G:Gr w s) {x:Str} {v:Value} (h:s.heap.nsMap mainGlobals x=some v):GlobIs (frag s.heap) x v:=fun h' X=>⟨_,_,G.T.g.keeps (frag_in X),G.T.b.keeps (frag_in X),.inl h⟩
theorem glob_bi (G:Gr w s) {x:Str} {v:Value} (h:(x,v) ∈ biAll):GlobIs (frag s.heap) x v:=fun h' X=>by
 obtain ⟨f1,f⟩:=ba (List.all_eq_true.mp bi_free _ h)
 obtain ⟨f2,f⟩:=ba f
 obtain ⟨f3,f⟩:=ba f
 obtain ⟨f4,f5⟩:=ba f
 refine ⟨_,_,G.T.g.keeps (frag_in X),G.T.b.keeps (frag_in X),.inr ⟨G.T.free x (not_mem f1) (loose_id ▸ not_mem f2) (recs_names ▸ not_mem f3) (lits_no ▸ List.not_mem_nil) ?_,?_⟩⟩
 ·rw [loose_id,clss_tc]
  exact fun q=>(beq_eq_false_iff_ne.mp (bnot f4)) (List.mem_singleton.mp q)
 ·rw [G.T.builtins x (beq_eq_false_iff_ne.mp (bnot f5))]
  obtain ⟨i,hi⟩:=List.getElem?_of_mem h
  have q:=congrArg (fun l=>l[i]?) bi_boot
  rw [List.getElem?_map,List.getElem?_map,hi] at q
  exact Option.some.inj q
structure Looks (s:Shared):Prop where
 third:s.heap.nsMap mainGlobals "ONE_THIRD"=some (.float 4599676419421066581 191)
 sixth:s.heap.nsMap mainGlobals "ONE_SIXTH"=some (.float 4595172819793696085 195)
 two:s.heap.nsMap mainGlobals "TWO_THIRD"=some (.float 4604180019048437077 199)
 b1:s.heap.nsMap mainGlobals "b1_set"=some (.ref 106)
 b3:s.heap.nsMap mainGlobals "b3_exceptions"=some (.ref 117)
 fns:∀ x ∈ fnNames,isFnObj s.heap (s.heap.nsMap mainGlobals x)=true
 set:setOk (s.heap.get? 106)=true
 toks:200≤s.toks
 st:s.heap.Ns cStatics (s.heap.nsMap cStatics)
 share:s.heap.nsMap cStatics sharingNotToldKey=none
theorem looks_of (h:lookOk s=true):Looks s:=by
 obtain ⟨h,h7⟩:=ba h
 obtain ⟨h,h6⟩:=ba h
 obtain ⟨h,h5⟩:=ba h
 obtain ⟨h,h4⟩:=ba h
 obtain ⟨h1,h3⟩:=ba h
 have h1:=eq_of_beq h1
 have e:∀ (i:Nat) (x:Str) (v:Option Value),looseQ[i]?=some x→[some (Value.float 4599676419421066581 191),some (.float 4595172819793696085 195),some (.float 4604180019048437077 199),some (.ref 106),some (.ref 117)][i]?=some v→s.heap.nsMap mainGlobals x=v:=fun i x v a b=>by
  have q:=congrArg (fun l=>l[i]?) h1
  rw [List.getElem?_map,a] at q
  exact Option.some.inj (q.trans b)
 exact ⟨e 0 _ _ rfl rfl,e 1 _ _ rfl rfl,e 2 _ _ rfl rfl,e 3 _ _ rfl rfl,e 4 _ _ rfl rfl,List.all_eq_true.mp h3,h4,Nat.le_of_ble_eq_true h5,.of_isNs h6,Option.isNone_iff_eq_none.mp h7⟩
structure PlainI (sc:Scope):Prop where
 co:sc.isCoroutine=false
 gen:sc.isGenerator=false
 kind:sc.kind=.function
theorem plain_i {sc:Scope} (h:plainS sc=true):PlainI sc:=by
 obtain ⟨h1,h⟩:=ba h
 obtain ⟨h2,h3⟩:=ba h
 exact ⟨bnot h1,bnot h2,eq_of_beq h3⟩
inductive FnI (h:Heap) (v:Option Value):Prop
 | mk (a:Addr) (o:Obj) (e:v=some (.ref a)) (e':h.get? a=some o) (c:o.cls=.type "function")
inductive FnMod (s:Shared) (k:Nat):Prop
 | mk (a:Addr) (pm cd doc:Value) (e:s.heap.nsMap mainGlobals (fnN k)=some (.ref a)) (h:FnIs (frag s.heap) a (methDef (fnN k) (fnN k) (allArgs k) (allBody k) (allScope k) pm cd doc) (allBody k))
theorem fn_is (G:Gr w s) (L:Looks s) {k:Nat} (hk:k < 15):FnMod s k:=by
 obtain ⟨d,hd,e1,e2,e3,e4⟩:=recs_of hk
 obtain ⟨a,o,pm,cd,doc,g1,g2,g3,g4⟩:=G.T.fn d hd
 rw [e1] at g1 g3 g4
 rw [e2,e3,e4] at g3
 have hc:=L.fns (fnN k) (fnNames_eq ▸ List.mem_map.mpr ⟨k,List.mem_range.mpr hk,rfl⟩)
 rw [g1] at hc
 have hc:(match s.heap.get? a with
  | some o=>o.cls == .type "function"
  | none=>false)=true:=hc
 rw [g2] at hc
 have p:=plain_i (all_nat scopes_ok hk)
 exact ⟨a,pm,cd,doc,g1,⟨⟨o,(frag_lookup _ _).trans g2,eq_of_beq hc,g3⟩,fun h' X=>g4.keeps (frag_in X),rfl,rfl,rfl,rfl,p.co,p.gen,p.kind⟩⟩
end
end
section
inductive ClsMod (s:Shared):Prop
 | mk (tc N fI fC:Addr) (mN:Str→Option Value) (pmI cdI docI pmC cdC docC:Value) (e:s.heap.nsMap mainGlobals tcN=some (.ref tc)) (H:ClsIs (frag s.heap) tc N mN fI fC)
  (hI:FnIs (frag s.heap) fI (methDef inN (tcN++"."++inN) initA initB initSc pmI cdI docI) initB) (hC:FnIs (frag s.heap) fC (methDef cmN (tcN++"."++cmN) (argsOf 14) (bodyOf 14) (scopeOf 14) pmC cdC docC) (bodyOf 14))
section
variable {w:World} {s:Shared}
theorem cls_is (G:Gr w s):ClsMod s:=by
 have h:(plainsOf viewQ (looseW viewQ looseQ)).map (fun c=>(c.name,c.withCmp.quiet,c.withCmp.name,c.withCmp.meths.map fun m=>(m.name,m.params,m.body,m.scope)))=[(tcN,quietN,tcN,[(inN,initA,initB,initSc),(cmN,argsOf 14,bodyOf 14,scopeOf 14)])]:=by
  rw [Fast.te210736558901404530,Fast.te821141287760084731]
  exact cls_at
 have q:(tcN,quietN,tcN,[(inN,initA,initB,initSc),(cmN,argsOf 14,bodyOf 14,scopeOf 14)]) ∈ (plainsOf viewQ (looseW viewQ looseQ)).map (fun c=>(c.name,c.withCmp.quiet,c.withCmp.name,c.withCmp.meths.map fun m=>(m.name,m.params,m.body,m.scope))):=by
  rw [h]
  exact List.mem_cons_self
 obtain ⟨c,hc,e⟩:=List.mem_map.mp q
 have hn:c.name=tcN:=congrArg (·.1) e
 have hq:c.withCmp.quiet=quietN:=congrArg (·.2.1) e
 have hn':c.withCmp.name=tcN:=congrArg (·.2.2.1) e
 have hm:c.withCmp.meths.map (fun m=>(m.name,m.params,m.body,m.scope))=[(inN,initA,initB,initSc),(cmN,argsOf 14,bodyOf 14,scopeOf 14)]:=congrArg (·.2.2.2) e
 clear e q h
 obtain ⟨C,N,mN,g1,P⟩:=G.TE c hc
 rw [hn] at g1
 have meth:∀ x a b sc,(x,a,b,sc) ∈ [(inN,initA,initB,initSc),(cmN,argsOf 14,bodyOf 14,scopeOf 14)]→plainS sc=true→∃ f pm cd doc,mN x=some (.ref f)∧FnIs (frag s.heap) f (methDef x (tcN++"."++x) a b sc pm cd doc) b:=fun x a b sc hx hp=>by
  rw [← hm] at hx
  obtain ⟨m,hm,e⟩:=List.mem_map.mp hx
  obtain ⟨f,o,pm,cd,doc,i1,i2,i3,i4,i5⟩:=P.meths m hm
  cases e
  rw [hn'] at i4 i5
  have p:=plain_i hp
  exact ⟨f,pm,cd,doc,i1,⟨o,(frag_lookup _ _).trans i2,i3,i4⟩,fun h' X=>i5.keeps (frag_in X),rfl,rfl,rfl,rfl,p.co,p.gen,p.kind⟩
 obtain ⟨fI,pmI,cdI,docI,i1,i2⟩:=meth _ _ _ _ List.mem_cons_self scope_i
 obtain ⟨fC,pmC,cdC,docC,j1,j2⟩:=meth _ _ _ _ (List.mem_cons_of_mem _ List.mem_cons_self) scope_c
 have hqn:∀ n ∈ quietN,mN n=none:=fun n hn=>P.quiet n (hq ▸ hn)
 exact ⟨C,N,fI,fC,mN,pmI,cdI,docI,pmC,cdC,docC,g1,⟨fun h' X=>P.cls.keeps (frag_in X),i1,j1,hqn _ (by decide),hqn _ (by decide),hqn _ (by decide),hqn _ (by decide)⟩,i2,j2⟩
theorem b1_mem {k:Int} (h:b1T k=true):k ∈ b1All:=by
 rcases Bool.or_eq_true_iff.mp h with h | h
 ·exact List.mem_append_left _ (List.contains_iff_mem.mp h)
 ·obtain ⟨h1,h2⟩:=ba h
  have h1:=of_decide_eq_true h1
  have h2:=of_decide_eq_true h2
  exact List.mem_append_right _ (List.mem_map.mpr ⟨(k - 65024).toNat,List.mem_range.mpr (by lia),by lia⟩)
theorem b1_all:b1All.all b1T=true:=by decide +kernel
theorem scan_int {i:Int} {v:Value} (h:Value.isInt i v=true):v.scannable=true:=by
 obtain ⟨t,rfl⟩:=Value.isInt_shape h
 rfl
inductive DSetI (d:Data) (k:Array (Int × Value)→Nat→SetTable→Bool):Prop
 | mk (es:Array (Int × Value)) (ep:Nat) (t:SetTable) (e:d=.set es ep t) (h:k es ep t=true)
theorem dSet_i {d:Data} {k:Array (Int × Value)→Nat→SetTable→Bool} (h:dSet d k=true):DSetI d k:=Data.set.elim (motive:=fun d=>dSet d k=true→DSetI d k) d (elim_b h) (fun a b c h=>⟨a,b,c,rfl,h⟩) h
theorem set_is (h:setOk (s.heap.get? 106)=true):∃ n,s.heap.SetOf (PySem.intKind pw w) 106 b1T n:=by
 cases e:s.heap.get? 106 with
 | none=>rw [e] at h; cases h
 | some o =>
  rw [e] at h
  obtain ⟨h1,h⟩:=ba (show (o.cls == .type "set"&&(o.dict.isNone&&(o.slots.isEmpty&&dSet o.data fun es _ t=>esOk es t)))=true from h)
  obtain ⟨h2,h⟩:=ba h
  obtain ⟨h3,h⟩:=ba h
  obtain ⟨es,ep,t,ed,h⟩:=dSet_i h
  obtain ⟨h4,h⟩:=ba h
  obtain ⟨h5,h⟩:=ba h
  obtain ⟨h6,h7⟩:=ba h
  have ent:∀ x ∈ es.toList,∃ i ∈ b1All,Value.isInt i x.2=true∧x.1=hashInt i:=fun x hx=>by
   obtain ⟨i,hi,q⟩:=List.any_eq_true.mp (List.all_eq_true.mp h4 x hx)
   obtain ⟨q1,q2⟩:=ba q
   exact ⟨i,hi,q1,eq_of_beq q2⟩
  refine ⟨es.size,o,es,ep,t,e,⟨eq_of_beq h1,Option.isNone_iff_eq_none.mp h2,Array.isEmpty_iff.mp h3⟩,ed,fun x hx=>?_,fun k=>⟨fun hk=>?_,fun q=>?_⟩,Nat.lt_of_lt_of_le (Nat.blt_eq.mp h6) (by decide),h7,rfl⟩
  ·obtain ⟨i,_,q1,q2⟩:=ent x hx
   exact ⟨⟨i,q1,q2⟩,scan_int q1⟩
  ·exact List.any_eq_true.mp (List.all_eq_true.mp h5 k (b1_mem hk))
  ·obtain ⟨x,hx,hi⟩:=q
   obtain ⟨i,hi',q1,_⟩:=ent x hx
   exact Value.isInt_inj x.2 i k q1 hi ▸ List.all_eq_true.mp b1_all i hi'
theorem tab_is {es:List DictEntry} {subs:List Obj} (hD:tabD=(some (es,subs),2373)) (h:s.heap.get? 117=some (dO es es.length)):∃ kvs,s.heap.DictOf (PySem.intKind pw w) 117 kvs∧∀ i,match b3T i with
   | some t=>∃ tk,valueAt kvs i=some (.str (S t) tk)
   | none=>valueAt kvs i=none:=by
 have em:Em es tabL:=by
  have:=em_disp tabL 423
  rw [show dispP tabL 423=tabD from rfl,hD] at this
  exact this
 obtain ⟨kvs,p1,p2,p3⟩:=em_vals (w:=w) em
 have hnd:(tabL.map (·.1)).Nodup:=by
  have q:=asc_nodup tabL_asc
  exact List.pairwise_map.mpr ((List.pairwise_map.mp q).imp fun h q=>h (congrArg hashInt q))
 refine ⟨kvs,⟨_,es.toArray,es.length,h,⟨rfl,rfl,rfl⟩,rfl,em_keys em,p1,p2 ▸ hnd⟩,fun i=>?_⟩
 have q:=p3 i
 unfold b3T
 cases hl:tabL.lookup i with
 | none=>rw [hl] at q; exact q
 | some x =>
  rw [hl] at q
  exact q
end
end
section
noncomputable def gfQ:List (Tok × UInt64):=[(191,4599676419421066581),(195,4595172819793696085),(199,4604180019048437077)]
noncomputable abbrev CxQ (w:World) (s:Shared) (tc:Addr):Cx:=⟨w,frag s.heap,gfQ,tc,⟨fun _ _=>none,b1T,b3T⟩⟩
theorem fnName_eq (k:Nat):fnName k=(fnNames.take 14)[k]?:=rfl
theorem fnName_i {k:Nat} {x:Str} (h:fnName k=some x):k < 14∧x=fnN k:=by
 rw [fnName_eq] at h
 have hk:k < 14:=(List.getElem?_eq_some_iff.mp h).1
 rw [List.getElem?_take_of_lt hk] at h
 exact ⟨hk,by unfold fnN; rw [List.getD_eq_getElem?_getD,h]; rfl⟩
theorem bi_in (f:Bi):(biName f,biVal f) ∈ biAll:=by
 cases f <;> decide +kernel
theorem ty_in:(["tuple","bool","range","list","enumerate","zip"]:List String).all (fun x=>biAll.contains (Str.ofString x,.type x))=true:=by decide +kernel
structure FnQ (s:Shared) (fC:Addr) (k:Nat) (p:Addr × FuncData):Prop where
 fn:FnIs (frag s.heap) p.1 p.2 (bodyOf k)
 sc:p.2.scope=scopeOf k
 bind:∀ vs:List Value,vs.length=(pars k).length→bindArgs p.2 ⟨vs,[]⟩=pure ((pars k).zip vs)
 gl:k < 14→s.heap.nsMap mainGlobals (fnN k)=some (.ref p.1)
 cmp:k=14→p.1=fC
inductive MdOf (w:World) (s:Shared):Prop
 | mk (tc:Addr) (fa:Nat→Addr) (fd:Nat→FuncData) (M:Md (CxQ w s tc) fa fd)
section
variable {w:World} {s:Shared}
theorem gf_in {nm:Str} {x:UInt64} (L:Looks s) (h:gfl.lookup nm=some x):∃ t,s.heap.nsMap mainGlobals nm=some (.float x t)∧(t,x) ∈ gfQ:=by
 have h:=lookup_in h
 rcases List.mem_cons.mp h with h | h
 ·cases h; exact ⟨191,L.third,List.mem_cons_self⟩
 ·rcases List.mem_cons.mp h with h | h
  ·cases h; exact ⟨195,L.sixth,List.mem_cons_of_mem _ List.mem_cons_self⟩
  ·cases List.mem_singleton.mp h
   exact ⟨199,L.two,List.mem_cons_of_mem _ (List.mem_cons_of_mem _ List.mem_cons_self)⟩
theorem md_of (G:Gr w s) (L:Looks s) {es:List DictEntry} {subs:List Obj} (hD:tabD=(some (es,subs),2373)) (h117:s.heap.get? 117=some (dO es es.length)):MdOf w s:=by
 obtain ⟨tc,N,fI,fC,mN,pmI,cdI,docI,pmC,cdC,docC,gt,H,hI,hC⟩:=cls_is G
 obtain ⟨n,hset⟩:=set_is (w:=w) L.set
 obtain ⟨kvs,hdict,hvals⟩:=tab_is (w:=w) hD h117
 have hq:∀ k,∃ p:Addr × FuncData,k < 15→FnQ s fC k p:=fun k=>by
  by_cases h14:k=14
  ·subst h14
   exact ⟨(fC,_),fun _=>⟨hC,rfl,bk_all 14 (by decide) _ _ _ _ _ _ _,fun q=>absurd q (Nat.lt_irrefl _),fun _=>rfl⟩⟩
  ·by_cases hk:k < 15
   ·obtain ⟨a,pm,cd,doc,e,h⟩:=fn_is G L hk
    have hb:Nat.beq k 14=false:=Bool.eq_false_iff.mpr fun q=>h14 (Nat.eq_of_beq_eq_true q)
    unfold allArgs allBody allScope at h
    rw [hb] at h
    exact ⟨(a,_),fun _=>⟨h,rfl,bk_all k hk _ _ _ _ _ _ _,fun _=>e,fun q=>absurd q h14⟩⟩
   ·exact ⟨default,fun q=>absurd q hk⟩
 obtain ⟨F,hF⟩:=Classical.axiomOfChoice hq
 refine ⟨tc,fun k=>(F k).1,fun k=>(F k).2,⟨⟨fun h' X=>G.T.nolimit.keeps (frag_in X),fun h' X=>⟨_,L.st.keeps (frag_in X),L.share⟩⟩,⟨⟨106,glob_main G L.b1,fun h' X=>⟨n,?_⟩⟩,⟨117,glob_main G L.b3,rfl,fun h' X=>⟨kvs,?_,hvals⟩⟩⟩,fun f=>glob_bi G (bi_in f),fun x hx=>glob_bi G (List.contains_iff_mem.mp (List.all_eq_true.mp ty_in x hx)),
  fun nm x hx=>(gf_in L hx).imp fun t q=>⟨glob_main G q.1,q.2⟩,fun k x hx=>?_,fun k hk=>⟨(hF k hk).fn,(hF k hk).sc,(hF k hk).bind⟩,?_,glob_main G gt⟩⟩
 ·obtain ⟨o,es,ep,t,e,r⟩:=hset
  exact ⟨o,es,ep,t,frag_in X _ _ e,r⟩
 ·obtain ⟨o,es,ep,e,r⟩:=hdict
  exact ⟨o,es,ep,frag_in X _ _ e,r⟩
 ·obtain ⟨h1,rfl⟩:=fnName_i hx
  exact glob_main G ((hF k (Nat.lt_succ_of_lt h1)).gl h1)
 ·exact ⟨N,mN,fI,_,initB,⟨⟨fun h' X=>G.T.nolimit.keeps (frag_in X),fun h' X=>⟨_,L.st.keeps (frag_in X),L.share⟩⟩,(hF 14 (by decide)).cmp rfl ▸ H,hI,init_b,fun x v=>bind_i _ _ _ _ _ _ _ _ rfl,init_1,init_2,init_3⟩⟩
inductive LawAt (s:Shared):Prop
 | mk (fl:Addr) (pm cd doc:Value) (e:s.heap.nsMap mainGlobals "law"=some (.ref fl)) (h:FnIs (frag s.heap) fl (methDef "law" "law" lawArgs lawBody lawScope pm cd doc) lawBody)
theorem law_at (G:Gr w s) (L:Looks s):LawAt s:=by
 obtain ⟨a,pm,cd,doc,e,h⟩:=fn_is G L (k:=14) (by decide)
 exact ⟨a,pm,cd,doc,e,h⟩
end
end
section
noncomputable def G.on (g:G) (a:Addr) (l:List D):G:={ g with na:=some a,log:=l }
noncomputable def G.off (g:G) (a:Addr):G:={ g with X:=fun b=>g.X b∧b ≠ a,na:=none,log:=[] }
section
variable {w:World} {g:G} {h:Heap} {a:Addr}
section
theorem Rep.on (hn:g.na=Option.none) (l:List D) {v:Value} {d:D} (r:Rep w g h v d):Rep w (g.on a l) h v d :=
 Rep.rec (w:=w) (g:=g) (h:=h) (motive_1:=fun v d _=>Rep w (g.on a l) h v d) (motive_2:=fun vs ds _=>RepL w (g.on a l) h vs ds) .none .bool .int (fun x t ht hf=>.flt (g:=g.on a l) x t ht hf) .str (fun hx ho hs _ hr=>.tup hx ho hs hr) (fun hx ho hs _ hr=>.lst hx ho hs hr)
  (fun hx hm ho hs _ hk _ hr=>.dctS (g:=g.on a l) hx hm ho hs hk hr) (fun hx hm ho hs _ hk _ hr=>.dctI (g:=g.on a l) hx hm ho hs hk hr) (fun hx ho hy _ hr=>.cmp hx ho hy hr) (fun {b} q=>False.elim (Option.some_ne_none b ((show g.na=some b from q).symm.trans hn))) .nil (fun _ _ a b=>.cons a b) r
theorem RepL.on (hn:g.na=none) (l:List D) {vs:List Value} {ds:List D} (r:RepL w g h vs ds):RepL w (g.on a l) h vs ds:=RepL.ind .nil (fun _ _ _ _ a _ b=>.cons (a.on hn l) b) r
theorem OwnRep.on (hn:g.na=none) (l:List D) {b:Addr} {d:D} (x:OwnRep w g h b d):OwnRep w (g.on a l) h b d:=by
 cases d with
 | lst=>exact x.imp fun vs x=>⟨x.1,x.2.1,x.2.2.on hn l⟩
 | dctS=>exact ⟨x.1,x.2.imp fun vs x=>⟨x.1,x.2.1,x.2.2.1,x.2.2.2.on hn l⟩⟩
 | dctI=>exact ⟨x.1,x.2.imp fun vs x=>⟨x.1,x.2.1,x.2.2.1,x.2.2.2.on hn l⟩⟩
 | _=>exact x
end
theorem Rep.off {v:Value} {d:D} (r:Rep w g h v d):clean d=true→Rep w (g.off a) h v d :=
 Rep.rec (w:=w) (g:=g) (h:=h) (motive_1:=fun v d _=>clean d=true→Rep w (g.off a) h v d) (motive_2:=fun vs ds _=>cleanL ds=true→RepL w (g.off a) h vs ds) (fun _=>.none) (fun b _=>.bool b) (fun i t _=>.int i t) (fun x t ht hf _=>.flt x t ht hf) (fun s t _=>.str s t) (fun hx ho hs _ hr c=>.tup (fun q=>hx q.1) ho hs (hr c)) (fun hx ho hs _ hr c=>.lst (fun q=>hx q.1) ho hs (hr c))
  (fun hx hm ho hs _ hk _ hr c=>.dctS (g:=g.off a) (fun q=>hx q.1) hm ho hs hk (hr c)) (fun hx hm ho hs _ hk _ hr c=>.dctI (g:=g.off a) (fun q=>hx q.1) hm ho hs hk (hr c)) (fun hx ho hy _ hr c=>.cmp (fun q=>hx q.1) ho (fun o dx e ed q=>hy o dx e ed q.1) (hr c)) (fun _ c=>nomatch c) (fun _=>.nil) (fun _ _ a b c=>.cons (a (ba c).1) (b (ba c).2)) r
theorem RepL.off {vs:List Value} {ds:List D} (r:RepL w g h vs ds):cleanL ds=true→RepL w (g.off a) h vs ds:=RepL.ind (P:=fun vs ds=>cleanL ds=true→RepL w (g.off a) h vs ds) (fun _=>.nil) (fun _ _ _ _ a _ b c=>.cons (a.off (ba c).1) (b (ba c).2)) r
end
section
variable {w:World} {K:Frag} {g:G} {s:Shared} {F:Frm} {r:Rho} {a:Addr} {l:List D}
theorem inv_on (I:Inv w K g s) (hn:g.na=none) (hx:g.X a) (ho:OwnRep w g s.heap a (.lst l)):Inv w K (g.on a l) s :=
 { I with na:=fun b e=>(ho.elim fun vs h=>Option.some.inj e ▸ ⟨hx,vs,h.1,h.2.2.on hn l⟩:(g.on a l).X b∧_),na0:=nofun }
theorem inv_off (I:Inv w K g s) (a:Addr):Inv w K (g.off a) s:={ I with xb:=fun b h=>I.xb b h.1,kx:=fun b o e q=>I.kx b o e q.1,na:=nofun,na0:=fun _=>rfl }
theorem notes_off (I:Inv w K g s) (hn:g.na=some a) (hc:cleanL g.log=true) (hl:g.log.length≤65536):Rep w (g.off a) s.heap (.ref a) (.lst g.log):=by
 obtain ⟨hx,vs,h1,h2⟩:=I.na a hn
 exact .lst (fun q=>q.2 rfl) h1 (Array.length_toList ▸ h2.length ▸ hl) (h2.off hc)
theorem EnvOk.sub {r':Rho} {h:Heap} (e:EnvOk w g h F r) (s:Sub r' r):EnvOk w g h F r':={ e with bnd:=fun n b q=>e.bnd n b (s n b q) }
theorem EnvOk.noted {h:Heap} (ev:EnvOk w g h (F.addOwn 12 a) (setO r 12 (.lst l))) (hn:g.na=none):EnvOk w (g.on a l) h F (setV r 12 .notes):=by
 have hnd:=List.nodup_cons.mp (priv_perm.nodup_iff.mp ev.nodup)
 refine ⟨ev.kind,ev.glob,ev.loc,ev.cel,hnd.2,fun b hb=>⟨(ev.px b (priv_perm.mem_iff.mpr (List.mem_cons_of_mem _ hb))).1,fun q=>hnd.1 (Option.some.inj q ▸ hb)⟩,ev.inj,fun n b q=>?_⟩
 rcases setB_at r 12 (.val .notes) n with ⟨rfl,e⟩ | ⟨hne,e⟩
 ·cases e.symm.trans q
  obtain ⟨hV,x,b,h1,h2,h3,_⟩:=ev.own 12 (.lst l) rfl
  have hb:a=b:=Option.some.inj ((lookup_consN.trans (if_pos rfl)).symm.trans h2)
  exact ⟨hV,x,.ref b,h1,h3,.notes (congrArg some hb)⟩
 ·replace q:=e.symm.trans q
  have lk:(F.addOwn 12 a).own.lookup n=F.own.lookup n:=lookup_consN.trans (if_neg hne)
  have x:=ev.bnd n b (by
   rcases setB_at r 12 (.own (.lst l)) n with ⟨h,_⟩ | ⟨_,e'⟩
   ·exact absurd h hne
   ·exact e'.trans q)
  cases b with
  | val d=>exact ⟨x.1,x.2.imp fun y z=>z.imp fun v z=>⟨z.1,z.2.1,z.2.2.on hn l⟩⟩
  | own d=>exact ⟨x.1,x.2.imp fun y z=>z.imp fun v z=>⟨z.1,lk ▸ z.2.1,z.2.2.1,z.2.2.2.on hn l⟩⟩
  | free=>exact lk.symm.trans x
theorem env_one (I:Inv w K g s) (ev:EnvOk w g s.heap F r) (hn:g.na=some a) (h12:r 12=some (.val .notes)) (hc:cleanL g.log=true) (hl:g.log.length≤65536):EnvOk w (g.off a) s.heap F (setV e0 12 (.lst g.log)):=by
 refine ⟨ev.kind,ev.glob,ev.loc,ev.cel,ev.nodup,fun b hb=>⟨⟨(ev.px b hb).1,fun q=>(ev.px b hb).2 (q ▸ hn)⟩,nofun⟩,ev.inj,fun n b q=>?_⟩
 rcases setB_at e0 12 (.val (.lst g.log)) n with ⟨rfl,e⟩ | ⟨_,e⟩
 ·cases e.symm.trans q
  obtain ⟨hV,x,v,h1,h2,h3⟩:=ev.var 12 .notes h12
  obtain ⟨b,rfl,hb⟩:=h3.notes_inv
  cases hn.symm.trans hb
  exact ⟨hV,x,_,h1,h2,notes_off I hn hc hl⟩
 ·exact nomatch e.symm.trans q
end
section
variable {C:Cx} {A:Around} {c:Sc} {env:Env} {rest:List Stmt} {E:Value→Shared→Prop} {Q:Flow→Shared→Prop}
theorem block_then {f:St→Rho→R2} {m:St→Stmt→Bool} (hf:∀ s st r fl r' l,m s st=true→f s r=some (fl,r',l)→ExOk C A c env r (exec st env) fl r' l) {ss:List St} :
  ∀ {sts:List Stmt} {r r':Rho} {l:List D} {F:Frm} {g:G} {s:Shared},mtB m ss sts=true→exB f ss r=some (.next,r',l)→F.env=env→F.top=true→ScOk c F→At C F r g s l →
   (∀ F' g' s',FrmLe s F F'→SteP C.w C.K F.wr g s g' s' l→EnvOk C.w g' s'.heap F' r'→wpAny (model pw C.w) A (execs rest env) Q E s')→wpAny (model pw C.w) A (execs (sts++rest) env) Q E s:=by
 induction ss with
 | nil =>
  intro sts r r' l F g s hm h he ht hc H k
  cases sts with
  | cons _ _=>cases hm
  | nil =>
   obtain ⟨_,rfl,rfl⟩:=sp3 h
   exact k F g s FrmLe.refl (SteP.refl H.inv) H.ev
 | cons x ss ih =>
  intro sts r r' l F g s hm h he ht hc H k
  cases sts with
  | nil=>cases hm
  | cons st sts =>
   obtain ⟨m1,m2⟩:=ba hm
   obtain ⟨fl1,r1,l1,h1,h2⟩:=bo3 (show (f x r).bind _=some _ from h)
   cases fl1 with
   | ret d=>cases (sp3 h2).1
   | next =>
    obtain ⟨fl2,r2,l2,h3,h4⟩:=bo3 (show (exB f ss r1).bind _=some _ from h2)
    obtain ⟨rfl,rfl,rfl⟩:=sp3 h4
    refine wpAny_execs_cons (hf x st r .next r1 l1 m1 h1 F g s E _ he ht hc H.a fun F₁ g₁ s₁ f₁ L₁ S₁ e₁ hq=>?_)
    have hq:f₁=.next:=hq
    subst hq
    exact ih m2 h3 (L₁.env.trans he) (L₁.top.trans ht) (hc.of L₁) (H.nx S₁ e₁) fun F₂ g₂ s₂ L₂ S₂ e₂=>k F₂ g₂ s₂ (L₁.trans L₂ S₁.size) (SteP.trans' S₁ S₂ fun b hb=>L₁.wr ht hb) e₂
end
end
inductive LawI:Prop
 | mk (x:Str) (px:Pos) (v u:Expr) (p p':Pos) (e:lawBody=lawBody.take 9++(.Assign [.Name x px] v p::((lawBody.drop 10).take 9++[.Return (some u) p']))) (hm:mtFn lawScope T_law ["script"]=true)
  (ha:mtB (mtS lawSc 8) law_a (lawBody.take 9)=true) (hb:mtB (mtS lawSc 8) law_b ((lawBody.drop 10).take 9)=true) (hs:lawSc.store 12 x=true) (hn:isNewX law_n=true) (hv:(mt EF).1 lawSc law_n v=true) (hc:noComp v=true) (hr:(mt EF).1 lawSc law_r u=true)
theorem law_i:LawI:=by
 obtain ⟨h,h4⟩:=ba law_ok
 obtain ⟨h1,h2,h3⟩:=and3 h
 obtain ⟨a,b,e,h4⟩:=lCons_i h4
 obtain ⟨x,px,v,p,rfl,h4⟩:=sName_i h4
 obtain ⟨q1,q2,q3,q4⟩:=and4 h4
 obtain ⟨s,e2,h5⟩:=b1_i ret_ok
 obtain ⟨o,p',rfl,h5⟩:=sReturn_i h5
 obtain ⟨u,rfl,h5⟩:=oS_i h5
 have eb:lawBody.drop 10=b:=(List.drop_drop (i:=1) (j:=9) (l:=lawBody)).symm.trans (congrArg (List.drop 1) e)
 have ec:(lawBody.drop 10).drop 9=[.Return (some u) p']:=(List.drop_drop (i:=9) (j:=10) (l:=lawBody)).trans e2
 have e3:lawBody=lawBody.take 9++(.Assign [.Name x px] v p::((lawBody.drop 10).take 9++[.Return (some u) p'])):=by
  rw [← ec,List.take_append_drop,eb,← e,List.take_append_drop]
 exact ⟨x,px,v,u,p,p',e3,h1,h2,h3,q1,q2,q3,q4,h5⟩
theorem look_in {κ α:Type} [BEq κ] [LawfulBEq κ] {l:List (κ × α)} {x:κ} {a:α} (h:l.lookup x=some a):(x,a) ∈ l:=by
 obtain ⟨l1,l2,rfl,_⟩:=List.lookup_eq_some_iff.mp h
 exact List.mem_append_right _ List.mem_cons_self
noncomputable def ghost (tc:Addr):G:=⟨fun _=>False,none,fun t=>gfQ.lookup t,tc,gfQ,[]⟩
theorem gf_toks:gfQ.all (fun p=>Nat.blt p.1 200&&(gfQ.lookup p.1 == some p.2&&Nat.blt 0 p.1))=true:=by decide +kernel
theorem ghost_inv {w:World} {s₀ s:Shared} {tc:Addr} (hk:∀ b o,s₀.heap.get? b=some o→s.heap.get? b=some o) (hg:s.gens=#[]) (ht:200≤s.toks) (hb:∃ o,s₀.heap.get? 117=some o):Inv w (frag s₀.heap) (ghost tc) s where
 gens:=hg
 xb:=nofun
 kin:=in_frag hk
 kx:=fun _ _ _ h=>h
 na:=nofun
 na0:=fun _=>rfl
 tk:=fun t h=>by
  show gfQ.lookup t=none
  cases e:gfQ.lookup t with
  | none=>rfl
  | some x =>
   have q:t < 200:=Nat.blt_eq.mp (ba (List.all_eq_true.mp gf_toks (t,x) (look_in e))).1
   exact absurd q (Nat.not_lt.mpr (Nat.le_trans ht h))
 tk0:=Nat.lt_of_lt_of_le (by decide) ht
 gf:=fun p hp=>by
  obtain ⟨h1,h2⟩:=ba (ba (List.all_eq_true.mp gf_toks p hp)).2
  exact ⟨eq_of_beq h1,Nat.ne_of_gt (Nat.blt_eq.mp h2)⟩
 big:=by
  obtain ⟨o,e⟩:=hb
  exact Nat.le_trans (by decide) (Nat.le_of_lt (Heap.lt_size (hk _ _ e)))
structure Kp (s s':Shared):Prop where
 keep:∀ b o,s.heap.get? b=some o→s'.heap.get? b=some o
 os:s'.os=s.os
 gens:s'.gens=s.gens
theorem Kp.ste {w:World} {K:Frag} {P:Addr→Prop} {g g':G} {s s' s'':Shared} {l:List D} (k:Kp s s') (S:SteP w K P g s' g' s'' l) (hP:∀ b,P b→s.heap.objs.size≤b) (hn:∀ b,g.na=some b→s.heap.objs.size≤b):Kp s s'':=by
 have lt:∀ {b o},s.heap.get? b=some o→¬ s.heap.objs.size≤b:=fun e q=>Nat.lt_irrefl _ (Nat.lt_of_lt_of_le (Heap.lt_size e) q)
 obtain ⟨h,tk,e⟩:=S.same
 exact ⟨fun b o q=>S.keep b o (fun p=>lt q (hP b p)) (fun n=>lt q (hn b n)) (k.keep b o q),e ▸ k.os,e ▸ k.gens⟩
section
section
variable {w:World} {s₀:Shared} {tc:Addr} {A:Around} {env:Env} {E:Value→Shared→Prop} {Q:Flow→Shared→Prop}
theorem wp_env {α:Type} {m:Env→Sem α} {env':Env} {Q:α→Shared→Prop} {s:Shared} (e:env'=env) (h:wpAny (model pw w) A (m env') Q E s):wpAny (model pw w) A (m env) Q E s:=e ▸ h
theorem law_body {ns:List Int} {F:Frm} {g:G} {s₁ s:Shared} (K:Kn ((CxQ w s₀ tc).at 4) A) (he:F.env=env) (ht:F.top=true) (hc:ScOk lawSc F) (H:At ((CxQ w s₀ tc).at 4) F (entry [intsD ns]) g s []) (hn:g.na=none) (k:Kp s₁ s) (hs:s₁.heap.objs.size≤s.heap.objs.size) (hF:∀ b,F.wr b→s₁.heap.objs.size≤b)
  (h:∀ s',Kp s₁ s'→Q (.ret (.bool true)) s'):wpAny (model pw w) A (execs lawBody env) Q E s:=by
 obtain ⟨x,px,v,u,p,p',eb,hm,ha,hb,hst,hnew,hv,hco,hr⟩:=law_i
 obtain ⟨ra,rb,ρ,ln,lb,a1,sub,fr,a2,a3,a4,okc,len,a5⟩:=law_run 0 ns
 have exs:=fun s st r fl r' l hm he=>ex_sound (C:=(CxQ w s₀ tc).at 4) (A:=A) (c:=lawSc) (env:=env) K 8 s st r fl r' l hm he
 have hlog:g.log=[]:=H.inv.na0 hn
 rw [eb]
 refine block_then exs ha a1 he ht hc H fun F2 g2 s2 L2 S2 e2=>?_
 have hc2:=hc.of L2
 have ht2:=L2.top.trans ht
 have he2:=L2.env.trans he
 have hn2:g2.na=none:=S2.na.trans hn
 have wr2:∀ b,F2.wr b→s₁.heap.objs.size≤b:=fun b q=>(L2.wr ht q).elim (hF b) (Nat.le_trans hs)
 have k2:=k.ste S2 hF fun b q=>nomatch hn.symm.trans q
 have hs2:s₁.heap.objs.size≤s2.heap.objs.size:=Nat.le_trans hs S2.size
 have H2:At ((CxQ w s₀ tc).at 4) F2 ρ g2 s2 []:=⟨H.good.ste S2,e2.sub sub,S2.log.trans (List.append_nil _) ▸ H.lg⟩
 have hlog2:g2.log=[]:=H2.inv.na0 hn2
 refine wpAny_execs_cons (wpAny_Assign_Name ?_ (swaps_none hco _ _ _))
 refine wp_env (m:=fun env=>eval v env) he2 ((((main_sound K EF).1 lawSc F2 ρ law_n v _ _ hc2 hv a2).2.1 hnew) g2 s2 _ _ H2 fun g3 s3 b S3 b1 b2 b3 b4=>?_)
 refine wp_env (m:=fun env=>storeName env x (.ref b)) he2 (store_own hc2 ht2 hst (H2.done S3) (Ste.of S3) (wr_new ht2 b1) (fun q=>Nat.lt_irrefl _ (Nat.lt_of_lt_of_le (H2.ev.live H2.inv q) b1)) ⟨b2,b3,b4⟩ (by unfold isFree; rw [fr]) fun s4 S4 H4=>?_)
 have hn4:g3.na=none:=S4.na.trans hn2
 have k4:=k2.ste S4 wr2 fun b q=>nomatch hn2.symm.trans q
 have hs4:s₁.heap.objs.size≤s4.heap.objs.size:=Nat.le_trans hs2 S4.size
 have ow:OwnRep w g3 s4.heap b (.lst ln)∧g3.X b:=by
  obtain ⟨_,x,b',_,h2,_,h4⟩:=H4.ev.own 12 (.lst ln) rfl
  cases (lookup_consN.trans (if_pos rfl)).symm.trans h2
  exact ⟨h4,(H4.ev.px b (priv_perm.mem_iff.mpr List.mem_cons_self)).1⟩
 have I4:=inv_on H4.inv hn4 ow.2 ow.1
 have H5:At ((CxQ w s₀ tc).at 4) F2 (setV ρ 12 .notes) (g3.on b ln) s4 lb:=⟨⟨I4,H4.good.gf,H4.good.tc⟩,H4.ev.noted hn4,Nat.le_trans len (by decide)⟩
 refine block_then exs hb a3 he2 ht2 hc2 H5 fun F6 g6 s6 L6 S6 e6=>?_
 have hn6:g6.na=some b:=S6.na
 have hlog6:g6.log=ln++lb:=S6.log
 have hl6:g6.log.length≤65536:=by rw [hlog6,List.length_append]; exact Nat.le_trans len (by decide)
 have k6:=k4.ste S6 wr2 fun c q=>Option.some.inj (show some b=some c from q) ▸ Nat.le_trans hs2 b1
 have H7:At ((CxQ w s₀ tc).at 4) F6 (setV e0 12 (.lst (ln++lb))) (g6.off b) s6 []:=⟨⟨inv_off S6.inv b,S6.gf.trans H5.good.gf,S6.tc.trans H5.good.tc⟩,hlog6 ▸ env_one S6.inv e6 hn6 a4 (hlog6 ▸ okc) hl6,Nat.zero_le _⟩
 refine wpAny_execs_cons (wpAny_Return_some ?_)
 refine wp_env (m:=fun env=>eval u env) (L6.env.trans he2) (((main_sound K EF).1 lawSc F6 _ law_r u _ _ (hc2.of L6) hr (a5 _ rfl)).1 (g6.off b) s6 _ _ H7 fun g8 s8 v8 S8 rv=>?_)
 cases rv.bool_inv
 exact h s8 (k6.ste S8 (fun _ q=>q.elim) nofun)
end
theorem law_go {w:World} {s₀ s:Shared} {tc fl a:Addr} {fa:Nat→Addr} {fd:Nat→FuncData} {pm cd doc:Value} {vs:Array Value} {ns:List Int} {E Q:Value→Shared→Prop} (M:Md (CxQ w s₀ tc) fa fd) (hf:FnIs (frag s₀.heap) fl (methDef "law" "law" lawArgs lawBody lawScope pm cd doc) lawBody)
  (hk:∀ b o,s₀.heap.get? b=some o→s.heap.get? b=some o) (hg:s.gens=#[]) (ht:200≤s.toks) (h117:∃ o,s₀.heap.get? 117=some o) (hL:PL s.heap a vs) (hz:vs.size≤65536) (hR:RepL w (ghost tc) s.heap vs.toList (ns.map .int))
  (h:∀ s',Kp s s'→Q (.bool true) s'):wpAny (model pw w) callerA (call (.ref fl) [.ref a]) Q E s:=by
 have I:=ghost_inv (w:=w) (tc:=tc) hk hg ht h117
 obtain ⟨o,ho,hoc,hod⟩:=hf.at_
 obtain ⟨_,_,_,_,_,_,_,hm,_⟩:=law_i
 have M':=mtFn_iff hm
 have hv:RepL w (ghost tc) s.heap [.ref a] [intsD ns]:=.cons (.lst (fun q=>q) hL hz hR) .nil
 refine wpAny_call (codeAny_call_function (by decide +kernel) (I.kin _ _ ho) hod hf.co hf.gen hf.body (hf.code _ I.kin) ?_)
 rw [bind_l _ _ _ _ _ _ _ [.ref a] rfl]
 refine wpAny_pure (wpAny_grows (wpAny_newFunctionEnv_cells hf.kind (fun x hx=>(M'.par x.1 (List.of_mem_zip (a:=x.1) (b:=x.2) hx).1).imp id fun hk=>⟨hk,cell_some _ hk⟩) fun env he s₁ x hs ht1=>?_))
 subst he
 refine ⟨(M.kit.nolimit _ I.kin).keeps x.toInCall.keep,codeAny_func ?_⟩
 obtain ⟨g₁,S₁,ev,hpz⟩:=call_env (C:=CxQ w s₀ tc) (T:=T_law) (ps:=[("script":Str)]) I hf M' hv rfl x hs ht1
 have R4:Room 4 (callerA.deeper (callFrm (methDef "law" "law" lawArgs lawBody lawScope pm cd doc) T_law s.heap.objs.size fl).env):=⟨rfl,by show 4+3+3*4+100 < cLine; decide +kernel,by show 1+claimMargin+1+4+3 < recursionLimit; decide +kernel⟩
 have k:Kp s s₁:=Kp.ste (s':=s) ⟨fun _ _ e=>e,rfl,rfl⟩ S₁ (fun _ q=>q.elim) nofun
 have sc:ScOk lawSc (callFrm (methDef "law" "law" lawArgs lawBody lawScope pm cd doc) T_law s.heap.objs.size fl):=call_scOk (fd:=methDef "law" "law" lawArgs lawBody lawScope pm cd doc) (T:=T_law) s.heap.objs.size fl
 exact law_body (M.kn R4 (M.funs 4 _ R4)) rfl rfl sc ⟨⟨S₁.inv,S₁.gf,S₁.tc⟩,ev,by rw [S₁.log]; exact Nat.zero_le _⟩ S₁.na k hs (fun b hb=>hpz b (Frm.wr_priv _ hb)) fun s' k'=>h s' k'
end
section
abbrev rQ:OpenLaw:=PySem.Challenge.rw_xh0046_01
theorem said_ok:rQ.wellSaid=true:=by
 have:Fast.tw9446332074065402090 rQ=true:=by kernel_rfl
 rw [Fast.te9446332074065402090]
 exact this
theorem law_def:(PySem.W.defOf viewQ "law").map (fun x=>(x.1.params,x.1.body,x.1.scope,x.2))=some (lawArgs,lawBody,lawScope,[]):=by
 unfold PySem.W.defOf
 rw [Fast.te3399658132070893891]
 kernel_rfl
theorem the_def:pw.theDef "law"=some (lawArgs,lawBody,lawScope):=by
 have:Fast.tw10235530238920679567 pw "law"=some (lawArgs,lawBody,lawScope):=by kernel_rfl
 rw [Fast.te10235530238920679567]
 exact this
theorem kw_none:kwWritten? lawArgs.kwonlyargs lawArgs.kw_defaults=some []:=by kernel_rfl
theorem opens_ok:opensWell pw=true:=by kernel_rfl
def intsV (t:Nat):List Int→List Value
 | []=>[]
 | n::ns=>.int n t::intsV (t+1) ns
section
variable {R:WRecords} {cl:Str→Option Addr} {P:Params} {ord:List DictEntry→List DictEntry}
theorem lay_ints:∀ (ns:List Int) (s:Shared),layAllW R cl P ord (ns.map .int) s=some (intsV s.toks ns,{ s with toks:=s.toks+ns.length })
 | [],s=>rfl
 | n::ns,s=>by
  rw [List.map_cons]
  unfold layAllW
  rw [show layW R cl P ord (.int n) s=some (.int n s.toks,{ s with toks:=s.toks+1 }) from rfl]
  dsimp only
  rw [lay_ints ns]
  dsimp only
  rw [List.length_cons,show s.toks+1+ns.length=s.toks+(ns.length+1) by omega]
  rfl
theorem intsV_len:∀ (ns:List Int) (t:Nat),(intsV t ns).length=ns.length
 | [],_=>rfl
 | n::ns,t=>by rw [intsV,List.length_cons,List.length_cons,intsV_len ns]
theorem ints_rep {w:World} {g:G} {h:Heap}:∀ (ns:List Int) (t:Nat),RepL w g h (intsV t ns) (ns.map .int)
 | [],_=>.nil
 | n::ns,t=>.cons (.int n t) (ints_rep ns _)
theorem ints_read {h:Heap}:∀ (ns:List Int) (t:Nat),ReadsAllW R cl h (intsV t ns) (ns.map .int) []
 | [],_=>.nil
 | n::ns,t=>.cons (.int n t) (ints_read ns _)
end
theorem pre_ints {args:List WData} (h:rQ.row.toRowW.claim.pre args=true):∃ ns:List Int,args=[.list (ns.map .int)]∧ns.length≤63:=by
 obtain ⟨h1,h2⟩:=pre_splitW h
 obtain ⟨d,r,rfl,x1,x2⟩:=hasAllW_cons (show WShape.hasAll _ args [.list .int]=true from h1)
 have hr:=hasAllW_nil x2
 subst hr
 obtain ⟨xs,rfl,x3⟩:=hasW_list x1
 obtain ⟨ns,rfl⟩:=items_int x3
 have h2':WTm.holds [] (.and (.not (.lt (.lit (.int 63)) (.len (.arg 0)))) (.lit (.bool true))) { args:=[.list (ns.map .int)] }=true:=h2
 refine ⟨ns,rfl,?_⟩
 by_cases q:(63:Int) < (ns.length:Int)
 ·exfalso
  simp [WTm.holds,WTm.value,less?,Num.less?,q] at h2'
 ·omega
theorem post_ok {args ds:List WData}:rQ.row.toRowW.claim.post args (.bool true) ds=true:=by
 show (WShape.has [] (.bool true) .bool&&WTm.holds [] (.eq .res (.lit (.bool true))) { args:=args,res:=some (.bool true),after:=ds })=true
 kernel_rfl
end
end Mine
open Mine in
set_option maxRecDepth 100000 in
theorem PySem.Challenge.cw_xh0046_01_holds : PySem.Challenge.rw_xh0046_01.Holds := by
  have wit : rQ.row.toRowW.claim.pre [.list []] = true ∧ (WData.layableAll [.list []] && rQ.row.toRowW.returnsAt [.list []]) = true := ⟨by decide +kernel, by decide +kernel⟩
  refine ⟨said_ok, row_said said_ok, ⟨_, wit⟩, ⟨⟨rfl, rfl, rfl, rfl, rfl, by decide +kernel⟩, opens_ok, rfl⟩, ⟨_, wit.1, (Bool.and_eq_true_iff.mp wit.2).1⟩, fun w => ⟨(head_behind w).1, fun s' hs' => ?_⟩⟩
  obtain ⟨s₀, hf, hg0, s, hT, hz, hgens, hg, G, hl, es, subs, hD, h117⟩ := (head_behind w).2 s' hs'
  refine ⟨s₀, hf, hg0, s, hT, fun n hn => ?_, fun x hx => (nomatch hx), fun x hx => (nomatch hx), ?_⟩
  · have hn : n = ("law" : Str) := List.mem_singleton.mp hn
    subst hn
    cases hd : PySem.W.defOf viewQ "law" with
    | none =>
      have := law_def
      rw [hd] at this
      cases this
    | some x =>
      obtain ⟨d, kwd⟩ := x
      have := law_def
      rw [hd] at this
      simp only [Option.map_some, Option.some.injEq, Prod.mk.injEq] at this
      obtain ⟨e1, e2, e3, rfl⟩ := this
      exact pinned_of_view hg G hd (by rw [e1, e2, e3]; exact the_def) (by rw [e1]; exact kw_none)
  · have L := looks_of hl
    obtain ⟨tc, fa, fd, M⟩ := md_of G L hD h117
    obtain ⟨fl, pm, cd, doc, gl, hF⟩ := law_at G L
    refine ClaimW.callFrom_of_specG (c := rQ.row.toRowW.claim) (tree := fun vs => do match ← nsGet mainNs rQ.row.name with
      | some f => do ret (← PySem.call f vs)
      | none => unsupported "claim.caller:no-such-global") hz hgens fun args hpre hlay ord hord => ?_
    obtain ⟨ns, rfl, hn⟩ := pre_ints hpre
    have hlaid : layAllW rQ.row.toRowW.claim.records (classAt s.heap) w.params ord [.list (ns.map .int)] s = some ([.ref s.heap.objs.size], { s with toks := s.toks + ns.length, heap := s.heap.push { cls := .type "list", data := .seq (intsV s.toks ns).toArray } }) := by
      unfold layAllW layW
      rw [lay_ints]
      rfl
    refine ⟨_, _, hlaid, ?_⟩
    have hkeep : ∀ b o, s.heap.get? b = some o → (s.heap.push { cls := .type "list", data := .seq (intsV s.toks ns).toArray }).get? b = some o := fun b o e => Heap.get?_push_of_some _ e
    have hlen : (intsV s.toks ns).toArray.size ≤ 65536 := by rw [List.size_toArray, intsV_len]; omega
    obtain ⟨hsame, hu, ha, hap, hm⟩ := frees_parts (show frees rQ.row.toRowW = true from by decide +kernel)
    have hid := ident_freeW hu ha hap
    refine wpAny_bind (wpAny_nsGet (G.T.g.keeps hkeep) ?_)
    rw [show (s.heap.nsMap mainGlobals) rQ.row.name = some (.ref fl) from gl]
    refine wpAny_bind (law_go (s₀ := s) (ns := ns) (vs := (intsV s.toks ns).toArray) M hF hkeep hgens (Nat.le_trans L.toks (Nat.le_add_right ..)) ⟨_, h117⟩ ⟨0, Heap.get?_push_size _ rfl⟩ hlen (ints_rep ns _) fun s' kp => ?_)
    refine wpAny_pure ⟨_, rfl, .inl ⟨.bool true, rfl, fun _ => rfl, ⟨.bool true, [.list (ns.map .int)], [], [s.heap.objs.size], .bool true, ?_, post_ok, fun _ => ⟨List.nodup_nil, fun _ h => (nomatch h), fun _ h => (nomatch h)⟩, fun _ _ => hid _ _⟩, fun i hi => (nomatch hi), fun b o e _ _ => .inl (kp.keep b o e), fun i hi => (nomatch hi)⟩, ?_, ?_, fun q => (nomatch q)⟩
    · exact .cons (.list (kp.keep _ _ (Heap.get?_push_size _ rfl)) rfl rfl (ints_read ns _)) .nil
    · rw [kp.os]
    · rw [kp.gens]
      exact .of_eq hgens
