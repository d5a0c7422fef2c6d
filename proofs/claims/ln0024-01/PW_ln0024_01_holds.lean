import PyProof.Rows.All
import Wide.All
import OpenK.AllK
import Wide.FinOn
import PySem.Challenge.RW_ln0024_01
set_option Elab.async false
set_option compiler.extract_closed false
set_option genInjectivity false
set_option linter.all false
set_option maxRecDepth 100000
set_option maxHeartbeats 8000000
section
namespace Mine
theorem hide {G:Prop}(h:∀ Z:Prop,(G→Z)→Z):G:=h G id
theorem nsf {α:Type _}{a:α}{C:Prop}(h:none=some a):C:=nomatch h
theorem fn0 {α:Type _}{p:α→Prop}:∀ x,x∈([]:List α)→p x:=fun _ h=>nomatch h
theorem fnm {α:Type _}{x:α}:x ∉ ([]:List α):=fun h=>nomatch h
theorem fq {α:Type _}{p:α→Prop}{a:α}{l:List α}(h:p a) (t:∀ x,x∈l→p x):∀ x,x∈a :: l→p x:=List.forall_mem_cons.mpr ⟨h,t⟩
theorem tnm (b:Int) (c:Nat):(max b c).toNat=max b.toNat c:=by
 rcases Int.le_total b c with h | h
 ·rw [Int.max_eq_right h,Nat.max_eq_right (Int.toNat_le.mpr h)];rfl
 ·rw [Int.max_eq_left h,Nat.max_eq_left ((Int.le_toNat (Int.le_trans (Int.natCast_nonneg c) h)).mpr h)]
theorem za {a n m:Nat}(h:a≤n) (e:Nat.ble n m=true):a≤m:=Nat.le_trans h (Nat.le_of_ble_eq_true e)
theorem zb {a n m:Nat}(h:a≤n) (e:Nat.ble (n+1) m=true):a < m:=Nat.lt_of_le_of_lt h (Nat.le_of_ble_eq_true e)
theorem zc {a k j:Nat}(h:k≤a) (e:Nat.ble k j=false):a≠j:=fun x=>Bool.false_ne_true (e.symm.trans (Nat.ble_eq_true_of_le (x▸h)))
theorem zd {a k j:Nat}(h:a≤k) (e:Nat.ble j k=false):a≠j:=fun x=>Bool.false_ne_true (e.symm.trans (Nat.ble_eq_true_of_le (x▸h)))
theorem ze {k n a:Nat}(e:Nat.ble k n=true):k≤n+a:=Nat.le_trans (Nat.le_of_ble_eq_true e) (Nat.le_add_right n a)
theorem zf {m n j a:Nat}(e:Nat.ble m j=false) (f:Nat.ble n j=false):¬(j=m+a∨j=n+a):=fun h=>h.elim (fun x=>zc (Nat.le_add_right m a) e x.symm) fun x=>zc (Nat.le_add_right n a) f x.symm
theorem zg {a b c k n:Nat}(h:a+(c+k) < b) (e:Nat.ble n k=true):a+n < b:=Nat.lt_of_le_of_lt (Nat.add_le_add_left (Nat.le_trans (Nat.le_of_ble_eq_true e) (Nat.le_add_left k c)) a) h
theorem zl {a k b:Nat}(h:a=k+b):k≤a:=h▸Nat.le_add_right k b
theorem zk {a n k:Nat}(h:a=n) (e:Nat.ble k n=true):k≤a:=h▸Nat.le_of_ble_eq_true e
theorem zn {a n k:Nat}(h:a=n) (e:Nat.beq n k=false):a≠k:=fun x=>Nat.ne_of_beq_eq_false e (h.symm.trans x)
theorem zo {a n:Nat}(h:a=n) (e:(Nat.beq n 0 || (Nat.ble 5 n && Nat.ble (n+1) 100))=false):¬(a=0∨5≤a∧a < 100):=by
 subst h;rintro (rfl | ⟨x,y⟩)
 exact Bool.noConfusion e
 rw [Nat.ble_eq_true_of_le x,Nat.ble_eq_true_of_le y,Bool.and_true,Bool.or_true] at e;exact Bool.noConfusion e
theorem zs {a k:Nat}(h:k≤a):a=k∨k+1≤a:=(Nat.eq_or_lt_of_le h).imp Eq.symm id
theorem zu {a b:Nat}(l:5≤a∧a < 100) (e:100≤b) (h:b=a):False:=absurd l.2 (Nat.not_lt.2 (h▸e))
theorem zw {b:Nat}(h:b=0∨b=1):b≤1:=h.elim (fun e=>e▸Nat.zero_le 1) fun e=>Nat.le_of_eq e
theorem zx {a b:Nat}(h:b < a):a - b=a - (b+1)+1:=(Nat.succ_pred_eq_of_pos (Nat.sub_pos_of_lt h)).symm
theorem zy {a:Nat}(l:100≤a):a≠0∧¬(5≤a∧a < 100):=⟨zc l rfl,fun h=>zu h l rfl⟩
theorem ta {a:Nat}(h:a=98∨a=2∨a=100∨150≤a∨a=103∨a=3∨a=101∨a=102):(a=2∨a=3∨98≤a)∧(a≤103∨150≤a):=by
 rcases h with rfl | rfl | rfl | h | rfl | rfl | rfl | rfl
 all_goals first
  | exact ⟨Or.inl rfl,Or.inl (Nat.le_of_ble_eq_true rfl)⟩
  | exact ⟨Or.inr (Or.inl rfl),Or.inl (Nat.le_of_ble_eq_true rfl)⟩
  | exact ⟨Or.inr (Or.inr (Nat.le_of_ble_eq_true rfl)),Or.inl (Nat.le_of_ble_eq_true rfl)⟩
  | exact ⟨Or.inr (Or.inr (Nat.le_trans (Nat.le_of_ble_eq_true rfl) h)),Or.inr h⟩
theorem tb {a:Nat}(h:a=2∨a=100∨150≤a∨a=103∨a=3∨a=101∨a=102):a=2∨a=3∨100≤a:=by
 rcases h with h | h | h | h | h | h | h
 all_goals first
  | exact Or.inl h
  | exact Or.inr (Or.inl h)
  | exact Or.inr (Or.inr (Nat.le_trans (Nat.le_of_ble_eq_true rfl) h))
  | exact Or.inr (Or.inr (zk h rfl))
theorem tc {a k n:Nat}(h:a=2∨a=3∨n≤a) (e:(Nat.beq k 2 || (Nat.beq k 3 || Nat.ble n k))=false):a≠k:=by
 rintro rfl
 rcases h with rfl | rfl | h
 exact Bool.noConfusion e
 exact Bool.noConfusion e
 rw [Nat.ble_eq_true_of_le h,Bool.or_true,Bool.or_true] at e
 exact Bool.noConfusion e
theorem td {a m n:Nat}(h:a=2∨a=3∨n≤a) (l:5≤m) (u:m < n) (e:a=m):False :=
 h.elim (fun x=>zc l rfl (e.symm.trans x)) fun h=>h.elim (fun x=>zc l rfl (e.symm.trans x)) fun h=>absurd u (Nat.not_lt.2 (e▸h))
theorem te {a:Nat}(h:a=2∨a=100∨150≤a∨a=103):(Nat.beq a 2 || (Nat.beq a 100 || (Nat.ble 150 a || Nat.beq a 103)))=true:=by
 rcases h with rfl | rfl | h | rfl
 all_goals first
  | rfl
  | rw [Nat.ble_eq_true_of_le h,Bool.true_or,Bool.or_true,Bool.or_true]
theorem tf {a k:Nat}(h:a=2∨a=100∨150≤a∨a=103) (e:a=k) (f:(Nat.beq k 2 || (Nat.beq k 100 || (Nat.ble 150 k || Nat.beq k 103)))=false):False:=by
 subst e;exact Bool.false_ne_true (f.symm.trans (te h))
theorem zq2 {a b c:Nat}(h0:a+(c+1) < b):a < b:=Nat.lt_of_add_right_lt h0
theorem zq5:1≠0:=Nat.one_ne_zero
theorem zq7 {a b:Nat}(h0:b≤40) (h1:a < b):a < 45:=za (Nat.lt_of_lt_of_le h1 h0) rfl
theorem zq8 {a:Nat}:¬(0=5+a∨0=50+a):=zf rfl rfl
theorem zq9:0=1→False:=Nat.zero_ne_one
theorem zq10 {a:Nat}(h0:a < 40):a≤40:=Nat.le_of_succ_le h0
theorem zq11 {a b:Nat}(h0:b=a):a≤b:=Nat.le_of_eq (id (Eq.symm h0))
theorem zq14 {a:Nat}:a+1≠a+1+1:=Nat.ne_add_one (a+1)
theorem zq15 {a b:Nat}(h0:a=b):a < b+1:=Nat.lt_succ_of_le (Nat.le_of_eq h0)
theorem zq16 {a:Nat}:a≤a+1:=Nat.le_add_right a 1
theorem zq17 {a b c:Nat}(h0:a+(c+3) < b):a < b:=Nat.lt_of_add_right_lt h0
theorem zq18:0≤1:=Nat.zero_le 1
theorem zq23 {a b:Nat}(h0:a=b) (h1:b+1≤a):False:=Nat.ne_of_gt h1 h0
theorem zq24 {a b:Nat}(h0:a < b):a+1≤b:=Nat.succ_le_of_lt h0
theorem zq25:0≠1:=Nat.zero_ne_one
theorem zq27 {a b:Nat}(h0:1 < b) (h1:a=b):a≠1:=fun e=>Nat.ne_of_gt h0 (h1.symm.trans e)
theorem zq28 {a b:Nat}(h0:a+1≤b):a≤b:=Nat.le_of_succ_le h0
theorem zq29 {a:Nat}:¬(4=5+a∨4=50+a):=zf rfl rfl
theorem zq30 {a b c:Nat}(h0:a+(c+149) < b):a+64 < b:=zg h0 rfl
theorem zq32 {a b c:Nat}(h0:a+(b+1) < c):a+1+b < c:=Nat.lt_of_le_of_lt (Nat.le_of_eq (Nat.add_right_comm a 1 b)) h0
theorem zq33 {a b:Nat}(h0:b < a):a - (b+1) < a - b:=Nat.sub_succ_lt_self a b h0
theorem zq34 {a:Nat}:a≤a+1+1:=Nat.le_add_right a 2
theorem zq35 {a:Nat}:a+1+1≠a+1:=Ne.symm (Nat.ne_add_one (a+1))
theorem zq37 {a:Nat}:a+1+1≠a:=Nat.ne_of_gt (Nat.le_add_right (a+1) 1)
theorem zq38 {a b:Nat}(h0:a=b) (h1:5≤b∧b < 100):a≠0:=fun e=>zc h1.1 rfl (h0.symm.trans e)
theorem zq41 {a b:Nat}(h0:a < b):a≠b:=Nat.ne_of_lt h0
theorem zq44 {a:Nat}(h0:a < 5):a=0∨a=1∨a=2∨a=3∨a=4:=(zs (Nat.zero_le a)).imp_right fun h=>(zs h).imp_right fun h=>(zs h).imp_right fun h=>(zs h).imp_right fun h=>Nat.le_antisymm (Nat.le_of_lt_succ h0) h
theorem zq45 {a b:Nat}(h0:a≤b):min a b=a:=Nat.min_eq_left h0
theorem zq46 {a b c:Nat}(h0:a+(c+52) < b):a < b:=Nat.lt_of_add_right_lt h0
theorem zq47 {a b:Nat}(h0:a < b):a < b+1:=Nat.lt_add_right 1 h0
theorem zq50 {a:Nat}(h0:2≤a):¬a=0:=Nat.ne_zero_of_lt h0
theorem zq51 {a:Nat}(h0:2≤a):¬a=1:=zq27 h0 rfl
theorem zq54:0≤4:=Nat.zero_le 4
theorem zq55 {a b:Nat}(h0:a≤4) (h1:b≤2):a+b≤6:=Nat.add_le_add h0 h1
theorem zq57:-2 ^ 62≤0:=Int.neg_ofNat_le_ofNat (2 ^ 62) 0
theorem zq61 {a b:Nat}(h0:b < a):a - 1 - b < a:=Nat.sub_one_sub_lt_of_lt h0
theorem zq62 {a:Nat}(h0:a≤4):a < 1000:=Nat.lt_of_le_of_lt h0 (by decide)
theorem zq63 {a b c:Nat}(h0:b=c) (h1:a < c):a < b:=Nat.lt_of_lt_of_eq h1 (id (Eq.symm h0))
theorem zq65 {a b:Nat}(h0:b=a):a≤b+1:=Nat.le.intro (congrFun (congrArg HAdd.hAdd (id (Eq.symm h0))) 1)
theorem zq66 {a b:Nat}(h0:b=a):a≤b+1+1:=by subst h0;grind
theorem zq67 {a:Nat}:a+1+1+1≠a:=Nat.ne_of_gt (Nat.le_add_right (a+1) 2)
theorem zq68 {a:Nat}:a≤a+1+1+1:=Nat.le_add_right a 3
theorem zq69 {a:Nat}:a+1≠a:=Ne.symm (Nat.ne_add_one a)
theorem zq70 {a:Nat}:a+1≠a+1+1+1:=Nat.ne_of_lt (Nat.le_add_right (a+2) 1)
theorem zq71 {a:Nat}:a+1+1≠a+1+1+1:=Nat.ne_add_one (a+1+1)
theorem zq72 {a:Int}(h0:0≤a):0≤a:=h0
theorem zq73 {a:Nat}(h0:a≤1):a=0∨a=1:=Nat.le_one_iff_eq_zero_or_eq_one.mp h0
theorem zq74 {a b:Nat}(h0:a≤b) (h1:a ≥ b):a=b:=Nat.le_antisymm h0 h1
theorem zq75 {a b:Nat}(h0:a=100+b) (h1:a=0∨5≤a∧a < 100):False:=h1.elim (zc (zl h0) rfl) fun h=>zu h (zl h0) rfl
theorem zq76 {a:Nat}(h0:a=101):a≠0:=zn h0 rfl
theorem zq77 {a:Nat}(h0:a=3) (h1:a=101):False:=zn h0 rfl h1
theorem zq78 {a:Nat}(h0:a=3):¬(a=0∨5≤a∧a < 100):=zo h0 rfl
theorem zq79 {a:Nat}(h0:a=3):a≠0:=zn h0 rfl
theorem zq80 {a:Nat}(h0:a=100):a≠0:=zn h0 rfl
theorem zq81 {a:Nat}(h0:a=103):¬(a=0∨5≤a∧a < 100):=zo h0 rfl
theorem zq82 {a b:Nat}(h0:a=b) (h1:5≤b∧b < 100) (h2:a=0):False:=zc h1.1 rfl (h0.symm.trans h2)
theorem zq83 {a b:Nat}:a≤a+b:=Nat.le_add_right a b
theorem zq84 {a b:Nat}(h0:5≤b∧b < 100) (h1:a=b):a≠0∧a≠1:=⟨fun e=>zc h0.1 rfl (h1.symm.trans e),fun e=>zc h0.1 rfl (h1.symm.trans e)⟩
theorem zq85 {a:Nat}(h0:a < a):False:=Nat.lt_irrefl a h0
theorem zq86 {a:Nat}:a=0∨a=1∨2≤a:=(zs (Nat.zero_le a)).imp_right zs
theorem zq87 {a:Nat}:a≤a+2:=Nat.le_add_right a 2
theorem zq88 {a:Nat}(h0:a < 45):5≤50+a∧50+a < 100:=⟨ze rfl,za (Nat.add_lt_add_left h0 50) rfl⟩
theorem zq89:5=0∨5=3∨5=5:=by first | rfl | decide | grind
theorem zq90 {a b:Nat}(h0:b≤40) (h1:a < b):a < 40:=Nat.lt_of_lt_of_le h1 h0
theorem zq91 {a b:Nat}(h0:b < a):a≠b:=Ne.symm (Nat.ne_of_lt h0)
theorem zq93 {a:Nat}:a+1≤a+1:=Nat.le_refl (a+1)
theorem zq94 {a b:Nat}(h0:a - b=0):a≤b:=Nat.le_of_sub_eq_zero h0
theorem zq95 {a b c:Nat}(h0:b - a=c+1):a < b:=Nat.lt_of_sub_eq_succ h0
theorem zq96 {a b c:Nat}(h0:a - b=c+1):a - (b+1)=c:=by rw [← Nat.sub_sub,h0];rfl
theorem zq97 {a b c d:Nat}(h0:b≤d) (h1:a+d < c):a+b < c:=Nat.lt_of_le_of_lt (Nat.add_le_add_left h0 a) h1
theorem zq98 {a b c:Nat}(h0:a+(b+3) < c):a+3+b < c:=Nat.lt_of_le_of_lt (Nat.le_of_eq (Nat.add_right_comm a 3 b)) h0
theorem zq104 {a b:Nat}{c:Prop}(h0:a+1+1 < b∧a+1 < b∧249 < b∧c):a≤b:=Nat.le_of_lt (Nat.lt_of_succ_lt h0.2.1)
theorem zq107 {a b c:Nat}{d:Prop}(h0:a+1+1 < c∧a+1 < c∧263 < c∧d) (h1:c < b):a≤b:=Nat.le_of_lt (Nat.lt_trans (Nat.lt_of_succ_lt h0.2.1) h1)
theorem zq108 {a b:Nat}{c:Prop}(h0:a+1+1 < b∧a+1 < b∧263 < b∧c):a≤b:=Nat.le_of_lt (Nat.lt_of_succ_lt h0.2.1)
theorem zq110:0 < 150:=Nat.zero_lt_succ 149
theorem zq111 {a:Nat}:0 < a+1:=zq95 rfl
theorem zq112 {a b c:Nat}(h0:a+(c+6) < b):a < b:=Nat.lt_of_add_right_lt h0
theorem zq113 {a b:Nat}(h0:b < 1000) (h1:b=a):a < 1000000:=by subst h1;exact Nat.lt_of_lt_of_le h0 (by decide)
theorem zq120 {a:Nat}:a≠a+1:=Nat.ne_add_one a
theorem zq121 {a:Nat}:a≠a+1+1:=by first | rfl | decide | grind
theorem zq122:5 < 1000000:=Nat.lt_of_sub_eq_succ rfl
theorem zq123 {a:Nat}:a≠a+1+1+1:=Ne.symm zq67
theorem zq124:1≤1:=Nat.le_of_ble_eq_true rfl
theorem zq125:2≠0:=zq37
theorem zq126:3≠0:=Ne.symm (Nat.zero_ne_add_one 2)
theorem zq127:1 < 150:=zq95 rfl
theorem zq128 {a:Nat}(h0:a=2+0):a < 150:=zb (Nat.le_of_eq h0) rfl
theorem zq129 {a:Nat}(h0:a=2+0):1 < a:=zk h0 rfl
theorem zq130 {a:Nat}(h0:a=150):150≤a:=Nat.le_of_eq (id (Eq.symm h0))
theorem zq131 {a:Nat}(h0:a=2+1):¬a=102:=zn h0 rfl
theorem zq132 {a:Nat}(h0:a≠0∧¬(5≤a∧a < 100)) (h1:a=0∨5≤a∧a < 100):False:=h1.elim h0.1 h0.2
theorem zq133 {a:Nat}(h0:a=1) (h1:a=0∨5≤a∧a < 100):False:=by subst h0;exact absurd h1 (by decide)
theorem zq134 {a b:Nat}(h0:a=100+b):a≠0:=zc (zl h0) rfl
theorem zq135 {a b c:Nat}(h0:b≤c) (h1:c≤4) (h2:a=b):a < 1000:=zb (Nat.le_trans (Nat.le_of_eq h2) (Nat.le_trans h0 h1)) rfl
theorem zq136 {a b:Nat}(h0:5≤b∧b < 100) (h1:a=b):a≠1:=fun e=>zc h0.1 rfl (h1.symm.trans e)
theorem zq137 {a b c:Nat}(h0:a=b) (h1:5≤b∧b < 100) (h2:a≠0∧¬(5≤a∧a < 100)∧a≠100+c∧a≠1):False:=h2.2.1 (h0.symm▸h1)
theorem zq138 {a:Nat}:0=2+a→False:=by first | rfl | decide | grind
theorem zq139 {a b:Nat}(h0:b=0∨b=1):a=2+b→a≠0∧¬(5≤a∧a < 100):=fun e=>⟨zc (zl e) rfl,fun h=>absurd h.1 (Nat.not_le.2 (zb (Nat.le_trans (Nat.le_of_eq e) (Nat.add_le_add_left (zw h0) 2)) rfl))⟩
theorem zq140 {a:Nat}(h0:a=101):¬(a=0∨5≤a∧a < 100):=zo h0 rfl
theorem zq141 {a:Nat}(h0:a=103) (h1:a=100):False:=zn h0 rfl h1
theorem zq142 {a:Nat}(h0:a=103):a≠0:=zn h0 rfl
theorem zq143 {a:Nat}(h0:a=100):¬(a=0∨5≤a∧a < 100):=zo h0 rfl
theorem zq144 {a b:Nat}(h0:a=b) (h1:5≤b∧b < 100) (h2:a=1):False:=zc h1.1 rfl (h0.symm.trans h2)
theorem zq145 {a:Nat}(h0:5≤a∧a < 100):a=1→False:=zc h0.1 rfl
theorem zq146 {a b:Nat}(h0:5≤a∧a < 100) (h1:b=a) (h2:b=0):False:=zq82 h1 h0 h2
theorem zq147 {a b:Nat}(h0:5≤a∧a < 100) (h1:b=1) (h2:b=a):False:=zc h0.1 rfl (h2.symm.trans h1)
theorem zq148 {a:Nat}(h0:a=1) (h1:a=0):False:=zn h0 rfl h1
theorem zq149 {a b c:Nat}(h0:a=b) (h1:0=c):a=b+c:=by subst h1;exact h0
theorem zq150 {a b:Nat}(h0:5≤a∧a < 100) (h1:b=a) (h2:b=1):False:=zc h0.1 rfl (h1.symm.trans h2)
theorem zq151 {a b:Nat}(h0:a < b∧1 < a) (h1:a=b):False:=Nat.ne_of_lt h0.1 h1
theorem zq152 {a:Nat}(h0:1 < a):a≠0:=Nat.ne_zero_of_lt h0
theorem zq153 {a b:Nat}(h0:1 < b) (h1:a=b):a < b+1∧a≠1:=⟨Nat.lt_succ_of_le (Nat.le_of_eq h1),fun e=>Nat.ne_of_gt h0 (h1.symm.trans e)⟩
theorem zq154 {a b c d:Nat}(h0:a+(c+14+2 * (d+1)) < b):a < b:=zq2 h0
theorem zq155 {a:Nat}(h0:1 < a):1 < a+1:=Nat.lt_add_right 1 h0
theorem zq156 {a b:Nat}(h0:a < b∧1 < a):a < b+1:=Nat.lt_succ_of_lt h0.1
theorem zq157 {a b:Nat}(h0:a+1≤b) (h1:b=a):False:=Nat.ne_of_gt h0 h1
theorem zq158 {a b:Nat}(h0:a=b) (h1:a < b∧1 < a):False:=Nat.ne_of_lt h1.1 h0
theorem zq159 {a b:Nat}(h0:a=b) (h1:a < b):False:=zq23 (id (Eq.symm h0)) h1
theorem zq160:5≤99∧99 < 100:=by first | rfl | decide | grind
theorem zq161 {a:Nat}(h0:a=99) (h1:a=0):False:=zn h0 rfl h1
theorem zq162:0=0∨0=3∨0=5:=Or.symm (Or.inr rfl)
theorem zq163 {a b:Nat}(h0:b=5) (h1:a < 5):a < b:=Nat.lt_of_lt_of_eq h1 (id (Eq.symm h0))
theorem zq164 {a:Nat}(h0:2≤a):¬a≤1:=Nat.not_le_of_lt h0
theorem zq165 {a:Nat}(h0:¬(a=0∨a=3∨a=5)):¬a=0:=fun h=>h0 (.inl h)
theorem zq166 {a:Nat}(h0:¬(a=0∨a=3∨a=5)):¬a=3:=fun h=>h0 (.inr (.inl h))
theorem zq171 {a b:Nat}(h0:b < 40) (h1:a=b):a < 40:=lt_of_eq_of_lt h1 h0
theorem zq173 {a:Nat}(h0:a=2∨a=100∨150≤a∨a=103∨a=3∨a=101∨a=102):a≠0∧a≠1∧a≠4:=⟨tc (tb h0) rfl,tc (tb h0) rfl,tc (tb h0) rfl⟩
theorem zq174 {a b:Nat}(h0:a=b) (h1:b≤4):a < 1000:=zb (Nat.le_trans (Nat.le_of_eq h0) h1) rfl
theorem zq175 {a:Int}(h0:1≤a):0≤a:=Int.le_of_lt h0
theorem zq176 {a:Nat}(h0:¬a=1):1≠a:=Ne.intro fun a_1=>h0 (id (Eq.symm a_1))
theorem zq177 {a:Nat}(h0:a < 45) (h1:5+a=2∨5+a=100∨150≤5+a∨5+a=103∨5+a=3∨5+a=101∨5+a=102):False:=td (tb h1) (Nat.le_add_right 5 a) (za (Nat.add_lt_add_left h0 5) rfl) rfl
theorem zq178 {a b:Nat}(h0:a=5+b):a≠0:=zc (zl h0) rfl
theorem zq181 {a:Nat}(h0:a < 40):a+1≤40:=Nat.succ_le_of_lt h0
theorem zq182 {a b c:Nat}(h0:b=c) (h1:a=c):a=b:=by subst h0;exact h1
theorem zq183 {a:Nat}(h0:a < 45):¬(104=5+a∨104=50+a):=fun h=>h.elim (Nat.ne_of_gt (za (Nat.add_lt_add_left h0 5) rfl)) (Nat.ne_of_gt (za (Nat.add_lt_add_left h0 50) rfl))
theorem zq185 {a b c:Nat}(h0:a=max c (min b b)) (h1:a≤b):a=b:=Nat.le_antisymm h1 (Nat.le_trans (Nat.le_of_eq (Nat.min_self b).symm) (Nat.le_trans (Nat.le_max_right c _) (Nat.le_of_eq h0.symm)))
theorem zq186 {a b:Nat}(h0:b - a=0) (h1:a≤b):a=b:=Nat.le_antisymm h1 (Nat.le_of_sub_eq_zero h0)
theorem zq187 {a b:Nat}(h0:b≤1000) (h1:a≤b):a≤16777216:=za (Nat.le_trans h1 h0) rfl
theorem zq192 {a:Nat}{b:Int}(h0:¬↑a=b) (h1:↑a≤b):↑(a+1)≤b:=Int.add_one_le_of_lt (Int.lt_iff_le_and_ne.2 ⟨h1,h0⟩)
theorem zq193 {a:Int}{b:Nat}(h0:¬↑b=a) (h1:↑b≤a):(a - ↑b).toNat=(a - ↑(b+1)).toNat+1:=by
 obtain ⟨n,rfl⟩:=Int.eq_ofNat_of_zero_le (Int.le_trans (Int.natCast_nonneg b) h1)
 exact (Int.toNat_sub n b).trans ((zx (Int.ofNat_lt.1 (Int.lt_iff_le_and_ne.2 ⟨h1,h0⟩))).trans (congrArg (·+1) (Int.toNat_sub n (b+1)).symm))
theorem zq203 {a b:Nat}:a - (b+1)=a - 1 - b:=Nat.sub_right_comm a b 1
theorem zq204 {a b c:Nat}(h0:150+(a - (b+1))=c) (h1:150+(a - b)=c+1):a - b=a - 1 - b+1:=(Nat.add_left_cancel (n:=150) (m:=a - b) (k:=a - (b+1)+1) (h1.trans (congrArg Nat.succ h0.symm))).trans (congrArg Nat.succ zq203)
theorem zq211 {a b c d:Nat}(h0:c=d) (h1:↑a < ↑d) (h2:c=b):↑a < ↑b:=(h0.symm.trans h2)▸h1
theorem zq216 {a:Nat}:a≤a:=Nat.le_refl a
theorem zq217 {a:Nat}:a+1+1+1≠a+1:=Ne.symm zq121
theorem zq220 {a:Nat}:¬a+1=0:=Nat.add_one_ne_zero a
theorem zq228:4≠0:=zq220
theorem zq232 {a b:Nat}(h0:a=0∨a=1) (h1:b=2+a) (h2:b=0∨5≤b∧b < 100):False:=h2.elim (zq139 h0 h1).1 (zq139 h0 h1).2
theorem zq233 {a:Nat}(h0:102≤a) (h1:a=0∨5≤a∧a < 100):False:=h1.elim (zc h0 rfl) fun h=>zu h (Nat.le_trans (Nat.le_of_ble_eq_true rfl) h0) rfl
theorem zq237 {a:Nat}:a+28+12≤a+40:=zq93
theorem zq240 {a:Nat}:a+14+2 * 11≤a+40:=by first | rfl | decide | grind
theorem zq241 {a:Nat}:a+50+6 * 11≤a+119:=by first | rfl | decide | grind
theorem zq245 {a b:Nat}(h0:b=0∨b=1) (h1:a=2+b):a≠0∧¬(5≤a∧a < 100):=zq139 h0 h1
theorem zq247 {a:Nat}(h0:150≤a∨a=2):a≠0∧¬(5≤a∧a < 100):=h0.elim (fun h=>zy (Nat.le_trans (Nat.le_of_ble_eq_true rfl) h)) (zq139 (Or.inl rfl))
theorem zq248 {a:Nat}(h0:a=102):a≠0∧¬(5≤a∧a < 100):=by subst h0;decide
theorem zq250 {a:Nat}(h0:150≤a∨a=2):a≠0∧¬(5≤a∧a < 100)∧a≠100+0∧a≠1:=⟨(zq247 h0).1,(zq247 h0).2,h0.elim (fun h=>zc h rfl) fun e=>zd (Nat.le_of_eq e) rfl,h0.elim (fun h=>zc h rfl) fun e=>zc (Nat.le_of_eq e.symm) rfl⟩
theorem zq253 (h0:103=100+0):False:=zq141 (id (Eq.symm h0)) rfl
theorem zq264 {a b:Nat}(h0:b=0∨b=1) (h1:5≤a∧a < 100):a=2+b→False:=fun e=>(zq139 h0 e).2 h1
theorem zq270:103 < 150∧103≠1:=by first | rfl | decide | grind
theorem zq272 {a:Nat}(h0:a=100):a≠1:=by subst h0;decide
theorem zq280 {a:Nat}:a+50≤a+51:=zq16
theorem zq281 {a:Nat}:a+140≤a+141:=zq65 rfl
theorem zq298 {a b c:Nat}(h0:a+(c+12) < b):a < b:=zq2 h0
theorem zq303 {a b:Nat}:a+40+3+3+1≤a+50+6 * (b+1):=by first | rfl | decide | grind
theorem zq304 {a:Nat}:a+12≤a+12+1:=zq16
theorem zq307 {a b:Nat}:a+14+2 * b+1+1≤a+14+2 * (b+1):=zq11 rfl
theorem zq312 {a:Nat}:a+1+50≤a+51:=zq216
theorem zq315 {a:Nat}:a+11+130≤a+141:=zq11 rfl
theorem zq322 {a:Nat}:(a=2∨a=100∨150≤a∨a=103)∨a=3∨a=101∨a=102 ↔ a=2∨a=100∨150≤a∨a=103∨a=3∨a=101∨a=102:=⟨fun h=>h.elim (Or.imp id (Or.imp id (Or.imp id Or.inl))) fun h=>Or.inr (Or.inr (Or.inr (Or.inr h))),fun h=>h.elim (fun h=>Or.inl (Or.inl h)) fun h=>h.elim (fun h=>Or.inl (Or.inr (Or.inl h))) fun h=>h.elim (fun h=>Or.inl (Or.inr (Or.inr (Or.inl h)))) (Or.imp (fun h=>Or.inr (Or.inr (Or.inr h))) id)⟩
theorem zq374 {a:Nat}(h0:a=3∨a=101∨a=102) (h1:a=2∨a=100∨150≤a∨a=103):False:=h0.elim (fun e=>tf h1 e rfl) fun h=>h.elim (fun e=>tf h1 e rfl) fun e=>tf h1 e rfl
theorem zq324 {a b:Nat}(h0:5≤b∧b < 100) (h1:a=b):¬(a=3∨a=101∨a=102)∧a≠1:=⟨fun h=>td (tb (Or.inr (Or.inr (Or.inr (Or.inr h))))) h0.1 h0.2 h1,zq136 h0 h1⟩
theorem zq325 {a:Nat}(h0:a=2∨a=100∨150≤a∨a=103):¬(a=3∨a=101∨a=102)∧a≠1:=⟨fun h=>zq374 h h0,tc (tb (zq322.1 (Or.inl h0))) rfl⟩
theorem zq326 {a b:Nat}(h0:5≤b∧b < 100) (h1:a=b):¬(a=2∨a=100∨150≤a∨a=103)∧a≠1:=⟨fun h=>td (tb (zq322.1 (Or.inl h))) h0.1 h0.2 h1,zq136 h0 h1⟩
theorem zq327 {a:Nat}(h0:a=3∨a=101∨a=102):¬(a=2∨a=100∨150≤a∨a=103)∧a≠1:=⟨zq374 h0,tc (tb (Or.inr (Or.inr (Or.inr (Or.inr h0))))) rfl⟩
theorem zq328 {a b:Nat}(h0:5≤b∧b < 100) (h1:a=b):¬(a=2∨a=100∨150≤a∨a=103∨a=3∨a=101∨a=102)∧a≠1:=⟨fun h=>td (tb h) h0.1 h0.2 h1,zq136 h0 h1⟩
theorem zq330 {a b:Nat}:a+(b+1)=a+1+b:=Eq.symm (Nat.succ_add_eq_add_succ a b)
theorem zq349 {a:Int}{b:Nat}:max a ↑(b+1)=max (max a ↑b) (↑b+1):=by
 rw [Int.max_assoc,Int.max_eq_right (Int.le_of_lt (Int.lt_succ (b:Int)))];rfl
theorem zq358 {a:Nat}(h0:¬(a=0∨a=3∨a=5)):¬a=5:=fun h=>h0 (.inr (.inr h))
theorem zq373 {a:Nat}(h0:a=3∨a=101∨a=102) (h1:a=99):False:=h0.elim (fun e=>zc (Nat.le_of_eq h1.symm) rfl e) fun h=>h.elim (zd (Nat.le_of_eq h1) rfl) (zd (Nat.le_of_eq h1) rfl)
theorem zq377 {a:Nat}(h0:a=2∨a=100∨150≤a∨a=103) (h1:a=3∨a=101∨a=102):False:=zq374 h1 h0
theorem zq381 {a:Nat}{b:Int}:max (min a b.toNat) (min 1 a)=min a (max b 1).toNat:=by
 rw [show max b 1=max b ((1:Nat):Int) from rfl,tnm,Nat.min_max_distrib_left,Nat.min_comm 1 a]
theorem zq384 {a b:Nat}(h0:b≤1000) (h1:a=b):a≤1000:=by subst h1;exact h0
theorem zq393 {a:Nat}:5+a≠50+a:=by first | rfl | decide | grind
theorem zq396 {a:Nat}(h0:a=5):¬a < 5:=by subst h0;decide
theorem zq405 {a:Nat}{b:Int}{c:Nat}:max (min a b.toNat) (min (c+1) a)=min a (max b (↑c+1)).toNat:=by
 rw [show max b (↑c+1)=max b ((c+1:Nat):Int) from rfl,tnm,Nat.min_max_distrib_left,Nat.min_comm (c+1) a]
theorem zq410 {a:Nat}{b:Int}{c:Nat}(h0:↑c≤b):max (min a b.toNat) (min c a)=min a b.toNat:=by
 rw [Nat.min_comm c a,← Nat.min_max_distrib_left,Nat.max_eq_left ((Int.le_toNat (Int.le_trans (Int.natCast_nonneg c) h0)).mpr h0)]
theorem zq414 {a:Nat}(h0:a=5):a < 6:=by subst h0;exact Nat.lt_succ_self _
theorem zq421 {a b c:Nat}(h0:c≤b) (h1:c=a):a≤b:=by subst h1;exact h0
theorem zq424 {a b c:Nat}(h0:a≤c) (h1:b=min 1 (c - a)):a+b≤c:=by
 subst h1;exact Nat.le_trans (Nat.add_le_add_left (Nat.min_le_right _ _) _) (Nat.le_of_eq (Nat.add_sub_cancel' h0))
theorem zq433 {a b:Nat}(h0:a=b):a≤b+1:=zq65 (id (Eq.symm h0))
theorem zq443 {a:Nat}(h0:a=104):a≠0∧a≠1∧a≠4:=by subst h0;decide
theorem zq446 (h0:104=2∨104=100∨150≤104∨104=103∨104=3∨104=101∨104=102):False:=(ta (Or.inr h0)).2.elim (fun h=>zd h rfl rfl) fun h=>zc h rfl rfl
theorem zq447:¬(104=2∨104=100∨150≤104∨104=103∨104=3∨104=101∨104=102):=zq446
theorem zq451 {a b:Nat}(h0:a+1≤b):a < b:=zq211 rfl h0 rfl
theorem zq458 {a b:Nat}(h0:a=98∨a=2∨a=100∨150≤a∨a=103∨a=3∨a=101∨a=102) (h1:b < 5):a≠110+b:=fun e=>(ta h0).2.elim (fun h=>absurd (Nat.le_trans (Nat.le_trans (Nat.le_add_right 110 b) (Nat.le_of_eq e.symm)) h) (Nat.not_le.2 (Nat.le_of_ble_eq_true rfl))) fun h=>absurd (za (Nat.add_lt_add_left h1 110) rfl) (Nat.not_lt.2 (e▸h))
theorem zq461 {a b:Nat}(h0:a=110+b):a≠4:=zc (zl h0) rfl
theorem zq462 {a b c:Nat}(h0:a=110+c) (h1:b≠c):a≠110+b:=fun e=>h1 (Nat.add_left_cancel (e.symm.trans h0))
theorem zq464:5≤98∧98 < 100:=by first | rfl | decide | grind
theorem zq465 {a:Nat}(h0:a < 5) (h1:110+a=98∨110+a=2∨110+a=100∨150≤110+a∨110+a=103∨110+a=3∨110+a=101∨110+a=102):False:=zq458 h1 h0 rfl
theorem zq466 {a:Nat}:110+a=1→False:=by first | rfl | decide | grind
theorem zq469 {a:Nat}:110+a≠4:=zq461 rfl
theorem zq493 {a:Nat}:a+2≠a+3:=Ne.symm zq69
theorem zm0 {α:Type _}{a:α}{z:List α}:a∈a :: z:=.head _
theorem zm1 {α:Type _}{a b:α}{z:List α}:a∈b :: a :: z:=.tail _ (.head _)
theorem zm2 {α:Type _}{a b c:α}{z:List α}:a∈b :: c :: a :: z:=.tail _ (.tail _ (.head _))
theorem zm3 {α:Type _}{a b c d:α}{z:List α}:a∈b :: c :: d :: a :: z:=.tail _ (.tail _ (.tail _ (.head _)))
theorem zm4 {α:Type _}{a b c d e:α}{z:List α}:a∈b :: c :: d :: e :: a :: z:=.tail _ (.tail _ (.tail _ (.tail _ (.head _))))
theorem zm5 {α:Type _}{a b c d e f:α}{z:List α}:a∈b :: c :: d :: e :: f :: a :: z:=.tail _ (.tail _ (.tail _ (.tail _ (.tail _ (.head _)))))
theorem zm6 {α:Type _}{a b c d e f g:α}{z:List α}:a∈b :: c :: d :: e :: f :: g :: a :: z:=.tail _ (.tail _ (.tail _ (.tail _ (.tail _ (.tail _ (.head _))))))
theorem zm7 {α:Type _}{a b c d e f g h:α}{z:List α}:a∈b :: c :: d :: e :: f :: g :: h :: a :: z:=.tail _ (.tail _ (.tail _ (.tail _ (.tail _ (.tail _ (.tail _ (.head _)))))))
theorem zm8 {α:Type _}{a b c d e f g h i:α}{z:List α}:a∈b :: c :: d :: e :: f :: g :: h :: i :: a :: z:=.tail _ (.tail _ (.tail _ (.tail _ (.tail _ (.tail _ (.tail _ (.tail _ (.head _))))))))
theorem zm9 {α:Type _}{a b c d e f g h i j:α}{z:List α}:a∈b :: c :: d :: e :: f :: g :: h :: i :: j :: a :: z:=.tail _ (.tail _ (.tail _ (.tail _ (.tail _ (.tail _ (.tail _ (.tail _ (.tail _ (.head _)))))))))
theorem zm10 {α:Type _}{a b c d e f g h i j k:α}{z:List α}:a∈b :: c :: d :: e :: f :: g :: h :: i :: j :: k :: a :: z:=.tail _ (.tail _ (.tail _ (.tail _ (.tail _ (.tail _ (.tail _ (.tail _ (.tail _ (.tail _ (.head _))))))))))
theorem zm11 {α:Type _}{a b c d e f g h i j k l:α}{z:List α}:a∈b :: c :: d :: e :: f :: g :: h :: i :: j :: k :: l :: a :: z:=.tail _ (.tail _ (.tail _ (.tail _ (.tail _ (.tail _ (.tail _ (.tail _ (.tail _ (.tail _ (.tail _ (.head _)))))))))))
theorem zm12 {α:Type _}{a b c d e f g h i j k l m:α}{z:List α}:a∈b :: c :: d :: e :: f :: g :: h :: i :: j :: k :: l :: m :: a :: z:=.tail _ (.tail _ (.tail _ (.tail _ (.tail _ (.tail _ (.tail _ (.tail _ (.tail _ (.tail _ (.tail _ (.tail _ (.head _))))))))))))
theorem zm13 {α:Type _}{a b c d e f g h i j k l m n:α}{z:List α}:a∈b :: c :: d :: e :: f :: g :: h :: i :: j :: k :: l :: m :: n :: a :: z:=.tail _ (.tail _ (.tail _ (.tail _ (.tail _ (.tail _ (.tail _ (.tail _ (.tail _ (.tail _ (.tail _ (.tail _ (.tail _ (.head _)))))))))))))
theorem zp0 {α:Type _}{β:Type _}{a:α}{y:β}{z:List (α × β)}:a∈((a,y) :: z).map (·.1):=.head _
theorem zp1 {α:Type _}{β:Type _}{a:α}{y:β}{b:α × β}{z:List (α × β)}:a∈(b :: (a,y) :: z).map (·.1):=.tail _ (.head _)
theorem zp2 {α:Type _}{β:Type _}{a:α}{y:β}{b c:α × β}{z:List (α × β)}:a∈(b :: c :: (a,y) :: z).map (·.1):=.tail _ (.tail _ (.head _))
theorem zp3 {α:Type _}{β:Type _}{a:α}{y:β}{b c d:α × β}{z:List (α × β)}:a∈(b :: c :: d :: (a,y) :: z).map (·.1):=.tail _ (.tail _ (.tail _ (.head _)))
theorem xe0_8 {A0 A1 A2 A3 A4 A5 A6 A7:Prop}{C:Prop}(h:A0∧A1∧A2∧A3∧A4∧A5∧A6∧A7) (f:A0→A1→A2→A3→A4→A5→A6→A7→C):C:=f h.1 h.2.1 h.2.2.1 h.2.2.2.1 h.2.2.2.2.1 h.2.2.2.2.2.1 h.2.2.2.2.2.2.1 h.2.2.2.2.2.2.2
theorem xe3_1 {α0 α1 α2:Type _}{A0:α0→α1→α2→Prop}{C:Prop}(h:∃ x0 x1 x2,A0 x0 x1 x2) (f:∀ x0 x1 x2,A0 x0 x1 x2→C):C:=h.elim fun x0 h=>h.elim fun x1 h=>h.elim fun x2 h=>f x0 x1 x2 h
theorem xe5_1 {α0 α1 α2 α3 α4:Type _}{A0:α0→α1→α2→α3→α4→Prop}{C:Prop}(h:∃ x0 x1 x2 x3 x4,A0 x0 x1 x2 x3 x4) (f:∀ x0 x1 x2 x3 x4,A0 x0 x1 x2 x3 x4→C):C:=h.elim fun x0 h=>h.elim fun x1 h=>h.elim fun x2 h=>h.elim fun x3 h=>h.elim fun x4 h=>f x0 x1 x2 x3 x4 h
theorem xe0_7 {A0 A1 A2 A3 A4 A5 A6:Prop}{C:Prop}(h:A0∧A1∧A2∧A3∧A4∧A5∧A6) (f:A0→A1→A2→A3→A4→A5→A6→C):C:=f h.1 h.2.1 h.2.2.1 h.2.2.2.1 h.2.2.2.2.1 h.2.2.2.2.2.1 h.2.2.2.2.2.2
theorem xe6_1 {α0 α1 α2 α3 α4 α5:Type _}{A0:α0→α1→α2→α3→α4→α5→Prop}{C:Prop}(h:∃ x0 x1 x2 x3 x4 x5,A0 x0 x1 x2 x3 x4 x5) (f:∀ x0 x1 x2 x3 x4 x5,A0 x0 x1 x2 x3 x4 x5→C):C:=h.elim fun x0 h=>h.elim fun x1 h=>h.elim fun x2 h=>h.elim fun x3 h=>h.elim fun x4 h=>h.elim fun x5 h=>f x0 x1 x2 x3 x4 x5 h
theorem xe0_3 {A0 A1 A2:Prop}{C:Prop}(h:A0∧A1∧A2) (f:A0→A1→A2→C):C:=f h.1 h.2.1 h.2.2
theorem xe0_4 {A0 A1 A2 A3:Prop}{C:Prop}(h:A0∧A1∧A2∧A3) (f:A0→A1→A2→A3→C):C:=f h.1 h.2.1 h.2.2.1 h.2.2.2
theorem xe0_5 {A0 A1 A2 A3 A4:Prop}{C:Prop}(h:A0∧A1∧A2∧A3∧A4) (f:A0→A1→A2→A3→A4→C):C:=f h.1 h.2.1 h.2.2.1 h.2.2.2.1 h.2.2.2.2
theorem xe0_6 {A0 A1 A2 A3 A4 A5:Prop}{C:Prop}(h:A0∧A1∧A2∧A3∧A4∧A5) (f:A0→A1→A2→A3→A4→A5→C):C:=f h.1 h.2.1 h.2.2.1 h.2.2.2.1 h.2.2.2.2.1 h.2.2.2.2.2
theorem xe0_9 {A0 A1 A2 A3 A4 A5 A6 A7 A8:Prop}{C:Prop}(h:A0∧A1∧A2∧A3∧A4∧A5∧A6∧A7∧A8) (f:A0→A1→A2→A3→A4→A5→A6→A7→A8→C):C:=f h.1 h.2.1 h.2.2.1 h.2.2.2.1 h.2.2.2.2.1 h.2.2.2.2.2.1 h.2.2.2.2.2.2.1 h.2.2.2.2.2.2.2.1 h.2.2.2.2.2.2.2.2
theorem xe0_11 {A0 A1 A2 A3 A4 A5 A6 A7 A8 A9 A10:Prop}{C:Prop}(h:A0∧A1∧A2∧A3∧A4∧A5∧A6∧A7∧A8∧A9∧A10) (f:A0→A1→A2→A3→A4→A5→A6→A7→A8→A9→A10→C):C:=f h.1 h.2.1 h.2.2.1 h.2.2.2.1 h.2.2.2.2.1 h.2.2.2.2.2.1 h.2.2.2.2.2.2.1 h.2.2.2.2.2.2.2.1 h.2.2.2.2.2.2.2.2.1 h.2.2.2.2.2.2.2.2.2.1 h.2.2.2.2.2.2.2.2.2.2
theorem xe0_12 {A0 A1 A2 A3 A4 A5 A6 A7 A8 A9 A10 A11:Prop}{C:Prop}(h:A0∧A1∧A2∧A3∧A4∧A5∧A6∧A7∧A8∧A9∧A10∧A11) (f:A0→A1→A2→A3→A4→A5→A6→A7→A8→A9→A10→A11→C):C:=f h.1 h.2.1 h.2.2.1 h.2.2.2.1 h.2.2.2.2.1 h.2.2.2.2.2.1 h.2.2.2.2.2.2.1 h.2.2.2.2.2.2.2.1 h.2.2.2.2.2.2.2.2.1 h.2.2.2.2.2.2.2.2.2.1 h.2.2.2.2.2.2.2.2.2.2.1 h.2.2.2.2.2.2.2.2.2.2.2
theorem xe2_1 {α0 α1:Type _}{A0:α0→α1→Prop}{C:Prop}(h:∃ x0 x1,A0 x0 x1) (f:∀ x0 x1,A0 x0 x1→C):C:=h.elim fun x0 h=>h.elim fun x1 h=>f x0 x1 h
theorem xe4_1 {α0 α1 α2 α3:Type _}{A0:α0→α1→α2→α3→Prop}{C:Prop}(h:∃ x0 x1 x2 x3,A0 x0 x1 x2 x3) (f:∀ x0 x1 x2 x3,A0 x0 x1 x2 x3→C):C:=h.elim fun x0 h=>h.elim fun x1 h=>h.elim fun x2 h=>h.elim fun x3 h=>f x0 x1 x2 x3 h
theorem xe7_1 {α0 α1 α2 α3 α4 α5 α6:Type _}{A0:α0→α1→α2→α3→α4→α5→α6→Prop}{C:Prop}(h:∃ x0 x1 x2 x3 x4 x5 x6,A0 x0 x1 x2 x3 x4 x5 x6) (f:∀ x0 x1 x2 x3 x4 x5 x6,A0 x0 x1 x2 x3 x4 x5 x6→C):C:=h.elim fun x0 h=>h.elim fun x1 h=>h.elim fun x2 h=>h.elim fun x3 h=>h.elim fun x4 h=>h.elim fun x5 h=>h.elim fun x6 h=>f x0 x1 x2 x3 x4 x5 x6 h
theorem xe1_2 {α0:Type _}{A0 A1:α0→Prop}{C:Prop}(h:∃ x0,A0 x0∧A1 x0) (f:∀ x0,A0 x0→A1 x0→C):C:=h.elim fun x0 h=>f x0 h.1 h.2
theorem xe1_3 {α0:Type _}{A0 A1 A2:α0→Prop}{C:Prop}(h:∃ x0,A0 x0∧A1 x0∧A2 x0) (f:∀ x0,A0 x0→A1 x0→A2 x0→C):C:=h.elim fun x0 h=>xe0_3 h (f x0)
theorem xe1_5 {α0:Type _}{A0 A1 A2 A3 A4:α0→Prop}{C:Prop}(h:∃ x0,A0 x0∧A1 x0∧A2 x0∧A3 x0∧A4 x0) (f:∀ x0,A0 x0→A1 x0→A2 x0→A3 x0→A4 x0→C):C:=h.elim fun x0 h=>xe0_5 h (f x0)
theorem xe1_8 {α0:Type _}{A0 A1 A2 A3 A4 A5 A6 A7:α0→Prop}{C:Prop}(h:∃ x0,A0 x0∧A1 x0∧A2 x0∧A3 x0∧A4 x0∧A5 x0∧A6 x0∧A7 x0) (f:∀ x0,A0 x0→A1 x0→A2 x0→A3 x0→A4 x0→A5 x0→A6 x0→A7 x0→C):C:=h.elim fun x0 h=>xe0_8 h (f x0)
theorem xe2_2 {α0 α1:Type _}{A0 A1:α0→α1→Prop}{C:Prop}(h:∃ x0 x1,A0 x0 x1∧A1 x0 x1) (f:∀ x0 x1,A0 x0 x1→A1 x0 x1→C):C:=xe2_1 h fun x0 x1 h=>f x0 x1 h.1 h.2
theorem xe2_3 {α0 α1:Type _}{A0 A1 A2:α0→α1→Prop}{C:Prop}(h:∃ x0 x1,A0 x0 x1∧A1 x0 x1∧A2 x0 x1) (f:∀ x0 x1,A0 x0 x1→A1 x0 x1→A2 x0 x1→C):C:=xe2_1 h fun x0 x1 h=>xe0_3 h (f x0 x1)
theorem xe2_6 {α0 α1:Type _}{A0 A1 A2 A3 A4 A5:α0→α1→Prop}{C:Prop}(h:∃ x0 x1,A0 x0 x1∧A1 x0 x1∧A2 x0 x1∧A3 x0 x1∧A4 x0 x1∧A5 x0 x1) (f:∀ x0 x1,A0 x0 x1→A1 x0 x1→A2 x0 x1→A3 x0 x1→A4 x0 x1→A5 x0 x1→C):C:=xe2_1 h fun x0 x1 h=>xe0_6 h (f x0 x1)
theorem xe3_2 {α0 α1 α2:Type _}{A0 A1:α0→α1→α2→Prop}{C:Prop}(h:∃ x0 x1 x2,A0 x0 x1 x2∧A1 x0 x1 x2) (f:∀ x0 x1 x2,A0 x0 x1 x2→A1 x0 x1 x2→C):C:=xe3_1 h fun x0 x1 x2 h=>f x0 x1 x2 h.1 h.2
theorem xe3_3 {α0 α1 α2:Type _}{A0 A1 A2:α0→α1→α2→Prop}{C:Prop}(h:∃ x0 x1 x2,A0 x0 x1 x2∧A1 x0 x1 x2∧A2 x0 x1 x2) (f:∀ x0 x1 x2,A0 x0 x1 x2→A1 x0 x1 x2→A2 x0 x1 x2→C):C:=xe3_1 h fun x0 x1 x2 h=>xe0_3 h (f x0 x1 x2)
theorem xe3_4 {α0 α1 α2:Type _}{A0 A1 A2 A3:α0→α1→α2→Prop}{C:Prop}(h:∃ x0 x1 x2,A0 x0 x1 x2∧A1 x0 x1 x2∧A2 x0 x1 x2∧A3 x0 x1 x2) (f:∀ x0 x1 x2,A0 x0 x1 x2→A1 x0 x1 x2→A2 x0 x1 x2→A3 x0 x1 x2→C):C:=xe3_1 h fun x0 x1 x2 h=>xe0_4 h (f x0 x1 x2)
theorem xe3_5 {α0 α1 α2:Type _}{A0 A1 A2 A3 A4:α0→α1→α2→Prop}{C:Prop}(h:∃ x0 x1 x2,A0 x0 x1 x2∧A1 x0 x1 x2∧A2 x0 x1 x2∧A3 x0 x1 x2∧A4 x0 x1 x2) (f:∀ x0 x1 x2,A0 x0 x1 x2→A1 x0 x1 x2→A2 x0 x1 x2→A3 x0 x1 x2→A4 x0 x1 x2→C):C:=xe3_1 h fun x0 x1 x2 h=>xe0_5 h (f x0 x1 x2)
theorem xe4_2 {α0 α1 α2 α3:Type _}{A0 A1:α0→α1→α2→α3→Prop}{C:Prop}(h:∃ x0 x1 x2 x3,A0 x0 x1 x2 x3∧A1 x0 x1 x2 x3) (f:∀ x0 x1 x2 x3,A0 x0 x1 x2 x3→A1 x0 x1 x2 x3→C):C:=xe4_1 h fun x0 x1 x2 x3 h=>f x0 x1 x2 x3 h.1 h.2
theorem xe4_3 {α0 α1 α2 α3:Type _}{A0 A1 A2:α0→α1→α2→α3→Prop}{C:Prop}(h:∃ x0 x1 x2 x3,A0 x0 x1 x2 x3∧A1 x0 x1 x2 x3∧A2 x0 x1 x2 x3) (f:∀ x0 x1 x2 x3,A0 x0 x1 x2 x3→A1 x0 x1 x2 x3→A2 x0 x1 x2 x3→C):C:=xe4_1 h fun x0 x1 x2 x3 h=>xe0_3 h (f x0 x1 x2 x3)
theorem xe4_4 {α0 α1 α2 α3:Type _}{A0 A1 A2 A3:α0→α1→α2→α3→Prop}{C:Prop}(h:∃ x0 x1 x2 x3,A0 x0 x1 x2 x3∧A1 x0 x1 x2 x3∧A2 x0 x1 x2 x3∧A3 x0 x1 x2 x3) (f:∀ x0 x1 x2 x3,A0 x0 x1 x2 x3→A1 x0 x1 x2 x3→A2 x0 x1 x2 x3→A3 x0 x1 x2 x3→C):C:=xe4_1 h fun x0 x1 x2 x3 h=>xe0_4 h (f x0 x1 x2 x3)
theorem xe4_5 {α0 α1 α2 α3:Type _}{A0 A1 A2 A3 A4:α0→α1→α2→α3→Prop}{C:Prop}(h:∃ x0 x1 x2 x3,A0 x0 x1 x2 x3∧A1 x0 x1 x2 x3∧A2 x0 x1 x2 x3∧A3 x0 x1 x2 x3∧A4 x0 x1 x2 x3) (f:∀ x0 x1 x2 x3,A0 x0 x1 x2 x3→A1 x0 x1 x2 x3→A2 x0 x1 x2 x3→A3 x0 x1 x2 x3→A4 x0 x1 x2 x3→C):C:=xe4_1 h fun x0 x1 x2 x3 h=>xe0_5 h (f x0 x1 x2 x3)
theorem xe4_6 {α0 α1 α2 α3:Type _}{A0 A1 A2 A3 A4 A5:α0→α1→α2→α3→Prop}{C:Prop}(h:∃ x0 x1 x2 x3,A0 x0 x1 x2 x3∧A1 x0 x1 x2 x3∧A2 x0 x1 x2 x3∧A3 x0 x1 x2 x3∧A4 x0 x1 x2 x3∧A5 x0 x1 x2 x3) (f:∀ x0 x1 x2 x3,A0 x0 x1 x2 x3→A1 x0 x1 x2 x3→A2 x0 x1 x2 x3→A3 x0 x1 x2 x3→A4 x0 x1 x2 x3→A5 x0 x1 x2 x3→C):C:=xe4_1 h fun x0 x1 x2 x3 h=>xe0_6 h (f x0 x1 x2 x3)
theorem xe5_2 {α0 α1 α2 α3 α4:Type _}{A0 A1:α0→α1→α2→α3→α4→Prop}{C:Prop}(h:∃ x0 x1 x2 x3 x4,A0 x0 x1 x2 x3 x4∧A1 x0 x1 x2 x3 x4) (f:∀ x0 x1 x2 x3 x4,A0 x0 x1 x2 x3 x4→A1 x0 x1 x2 x3 x4→C):C:=xe5_1 h fun x0 x1 x2 x3 x4 h=>f x0 x1 x2 x3 x4 h.1 h.2
theorem xe5_3 {α0 α1 α2 α3 α4:Type _}{A0 A1 A2:α0→α1→α2→α3→α4→Prop}{C:Prop}(h:∃ x0 x1 x2 x3 x4,A0 x0 x1 x2 x3 x4∧A1 x0 x1 x2 x3 x4∧A2 x0 x1 x2 x3 x4) (f:∀ x0 x1 x2 x3 x4,A0 x0 x1 x2 x3 x4→A1 x0 x1 x2 x3 x4→A2 x0 x1 x2 x3 x4→C):C:=xe5_1 h fun x0 x1 x2 x3 x4 h=>xe0_3 h (f x0 x1 x2 x3 x4)
theorem xe5_5 {α0 α1 α2 α3 α4:Type _}{A0 A1 A2 A3 A4:α0→α1→α2→α3→α4→Prop}{C:Prop}(h:∃ x0 x1 x2 x3 x4,A0 x0 x1 x2 x3 x4∧A1 x0 x1 x2 x3 x4∧A2 x0 x1 x2 x3 x4∧A3 x0 x1 x2 x3 x4∧A4 x0 x1 x2 x3 x4) (f:∀ x0 x1 x2 x3 x4,A0 x0 x1 x2 x3 x4→A1 x0 x1 x2 x3 x4→A2 x0 x1 x2 x3 x4→A3 x0 x1 x2 x3 x4→A4 x0 x1 x2 x3 x4→C):C:=xe5_1 h fun x0 x1 x2 x3 x4 h=>xe0_5 h (f x0 x1 x2 x3 x4)
theorem xe5_7 {α0 α1 α2 α3 α4:Type _}{A0 A1 A2 A3 A4 A5 A6:α0→α1→α2→α3→α4→Prop}{C:Prop}(h:∃ x0 x1 x2 x3 x4,A0 x0 x1 x2 x3 x4∧A1 x0 x1 x2 x3 x4∧A2 x0 x1 x2 x3 x4∧A3 x0 x1 x2 x3 x4∧A4 x0 x1 x2 x3 x4∧A5 x0 x1 x2 x3 x4∧A6 x0 x1 x2 x3 x4) (f:∀ x0 x1 x2 x3 x4,A0 x0 x1 x2 x3 x4→A1 x0 x1 x2 x3 x4→A2 x0 x1 x2 x3 x4→A3 x0 x1 x2 x3 x4→A4 x0 x1 x2 x3 x4→A5 x0 x1 x2 x3 x4→A6 x0 x1 x2 x3 x4→C):C:=xe5_1 h fun x0 x1 x2 x3 x4 h=>xe0_7 h (f x0 x1 x2 x3 x4)
theorem xe5_9 {α0 α1 α2 α3 α4:Type _}{A0 A1 A2 A3 A4 A5 A6 A7 A8:α0→α1→α2→α3→α4→Prop}{C:Prop}(h:∃ x0 x1 x2 x3 x4,A0 x0 x1 x2 x3 x4∧A1 x0 x1 x2 x3 x4∧A2 x0 x1 x2 x3 x4∧A3 x0 x1 x2 x3 x4∧A4 x0 x1 x2 x3 x4∧A5 x0 x1 x2 x3 x4∧A6 x0 x1 x2 x3 x4∧A7 x0 x1 x2 x3 x4∧A8 x0 x1 x2 x3 x4) (f:∀ x0 x1 x2 x3 x4,A0 x0 x1 x2 x3 x4→A1 x0 x1 x2 x3 x4→A2 x0 x1 x2 x3 x4→A3 x0 x1 x2 x3 x4→A4 x0 x1 x2 x3 x4→A5 x0 x1 x2 x3 x4→A6 x0 x1 x2 x3 x4→A7 x0 x1 x2 x3 x4→A8 x0 x1 x2 x3 x4→C):C:=xe5_1 h fun x0 x1 x2 x3 x4 h=>xe0_9 h (f x0 x1 x2 x3 x4)
theorem xe6_3 {α0 α1 α2 α3 α4 α5:Type _}{A0 A1 A2:α0→α1→α2→α3→α4→α5→Prop}{C:Prop}(h:∃ x0 x1 x2 x3 x4 x5,A0 x0 x1 x2 x3 x4 x5∧A1 x0 x1 x2 x3 x4 x5∧A2 x0 x1 x2 x3 x4 x5) (f:∀ x0 x1 x2 x3 x4 x5,A0 x0 x1 x2 x3 x4 x5→A1 x0 x1 x2 x3 x4 x5→A2 x0 x1 x2 x3 x4 x5→C):C:=xe6_1 h fun x0 x1 x2 x3 x4 x5 h=>xe0_3 h (f x0 x1 x2 x3 x4 x5)
theorem zi {a n:Nat}(h:a < n) (e:Nat.ble n 1000=true):(a:Int) < 2 ^ 63:=Int.ofNat_lt.mpr (Nat.lt_of_lt_of_le h (Nat.le_trans (Nat.le_of_ble_eq_true e) (by decide)))
theorem xi2 {t0:Type _}{t1:Type _}{p:t0→t1→Prop}(a0:t0) (a1:t1) (h:p a0 a1):∃ a0 a1,p a0 a1:=⟨a0,a1,h⟩
theorem xi3 {t0:Type _}{t1:Type _}{t2:Type _}{p:t0→t1→t2→Prop}(a0:t0) (a1:t1) (a2:t2) (h:p a0 a1 a2):∃ a0 a1 a2,p a0 a1 a2:=⟨a0,a1,a2,h⟩
theorem xi4 {t0:Type _}{t1:Type _}{t2:Type _}{t3:Type _}{p:t0→t1→t2→t3→Prop}(a0:t0) (a1:t1) (a2:t2) (a3:t3) (h:p a0 a1 a2 a3):∃ a0 a1 a2 a3,p a0 a1 a2 a3:=xi2 a0 a1 (xi2 a2 a3 h)
theorem xi5 {t0:Type _}{t1:Type _}{t2:Type _}{t3:Type _}{t4:Type _}{p:t0→t1→t2→t3→t4→Prop}(a0:t0) (a1:t1) (a2:t2) (a3:t3) (a4:t4) (h:p a0 a1 a2 a3 a4):∃ a0 a1 a2 a3 a4,p a0 a1 a2 a3 a4:=xi2 a0 a1 (xi3 a2 a3 a4 h)
theorem xi6 {t0:Type _}{t1:Type _}{t2:Type _}{t3:Type _}{t4:Type _}{t5:Type _}{p:t0→t1→t2→t3→t4→t5→Prop}(a0:t0) (a1:t1) (a2:t2) (a3:t3) (a4:t4) (a5:t5) (h:p a0 a1 a2 a3 a4 a5):∃ a0 a1 a2 a3 a4 a5,p a0 a1 a2 a3 a4 a5:=xi3 a0 a1 a2 (xi3 a3 a4 a5 h)
theorem xi7 {t0:Type _}{t1:Type _}{t2:Type _}{t3:Type _}{t4:Type _}{t5:Type _}{t6:Type _}{p:t0→t1→t2→t3→t4→t5→t6→Prop}(a0:t0) (a1:t1) (a2:t2) (a3:t3) (a4:t4) (a5:t5) (a6:t6) (h:p a0 a1 a2 a3 a4 a5 a6):∃ a0 a1 a2 a3 a4 a5 a6,p a0 a1 a2 a3 a4 a5 a6:=xi3 a0 a1 a2 (xi4 a3 a4 a5 a6 h)
theorem xi13 {t0:Type _}{t1:Type _}{t2:Type _}{t3:Type _}{t4:Type _}{t5:Type _}{t6:Type _}{t7:Type _}{t8:Type _}{t9:Type _}{t10:Type _}{t11:Type _}{t12:Type _}{p:t0→t1→t2→t3→t4→t5→t6→t7→t8→t9→t10→t11→t12→Prop}(a0:t0) (a1:t1) (a2:t2) (a3:t3) (a4:t4) (a5:t5) (a6:t6) (a7:t7) (a8:t8) (a9:t9) (a10:t10) (a11:t11) (a12:t12) (h:p a0 a1 a2 a3 a4 a5 a6 a7 a8 a9 a10 a11 a12):∃ a0 a1 a2 a3 a4 a5 a6 a7 a8 a9 a10 a11 a12,p a0 a1 a2 a3 a4 a5 a6 a7 a8 a9 a10 a11 a12:=xi6 a0 a1 a2 a3 a4 a5 (xi7 a6 a7 a8 a9 a10 a11 a12 h)
theorem yi3 {p0 p1 p2:Prop}(h0:p0) (h1:p1) (h2:p2):p0∧p1∧p2:=⟨h0,h1,h2⟩
theorem yi4 {p0 p1 p2 p3:Prop}(h0:p0) (h1:p1) (h2:p2) (h3:p3):p0∧p1∧p2∧p3:=⟨h0,h1,h2,h3⟩
theorem yi5 {p0 p1 p2 p3 p4:Prop}(h0:p0) (h1:p1) (h2:p2) (h3:p3) (h4:p4):p0∧p1∧p2∧p3∧p4:=⟨h0,h1,h2,h3,h4⟩
theorem yi6 {p0 p1 p2 p3 p4 p5:Prop}(h0:p0) (h1:p1) (h2:p2) (h3:p3) (h4:p4) (h5:p5):p0∧p1∧p2∧p3∧p4∧p5:=⟨h0,h1,h2,h3,h4,h5⟩
theorem yi7 {p0 p1 p2 p3 p4 p5 p6:Prop}(h0:p0) (h1:p1) (h2:p2) (h3:p3) (h4:p4) (h5:p5) (h6:p6):p0∧p1∧p2∧p3∧p4∧p5∧p6:=⟨h0,h1,h2,h3,h4,h5,h6⟩
theorem yi8 {p0 p1 p2 p3 p4 p5 p6 p7:Prop}(h0:p0) (h1:p1) (h2:p2) (h3:p3) (h4:p4) (h5:p5) (h6:p6) (h7:p7):p0∧p1∧p2∧p3∧p4∧p5∧p6∧p7:=⟨h0,h1,h2,h3,h4,h5,h6,h7⟩
theorem yi9 {p0 p1 p2 p3 p4 p5 p6 p7 p8:Prop}(h0:p0) (h1:p1) (h2:p2) (h3:p3) (h4:p4) (h5:p5) (h6:p6) (h7:p7) (h8:p8):p0∧p1∧p2∧p3∧p4∧p5∧p6∧p7∧p8:=⟨h0,h1,h2,h3,h4,h5,h6,h7,h8⟩
theorem yi11 {p0 p1 p2 p3 p4 p5 p6 p7 p8 p9 p10:Prop}(h0:p0) (h1:p1) (h2:p2) (h3:p3) (h4:p4) (h5:p5) (h6:p6) (h7:p7) (h8:p8) (h9:p9) (h10:p10):p0∧p1∧p2∧p3∧p4∧p5∧p6∧p7∧p8∧p9∧p10:=⟨h0,h1,h2,h3,h4,h5,h6,h7,h8,h9,h10⟩
theorem yi12 {p0 p1 p2 p3 p4 p5 p6 p7 p8 p9 p10 p11:Prop}(h0:p0) (h1:p1) (h2:p2) (h3:p3) (h4:p4) (h5:p5) (h6:p6) (h7:p7) (h8:p8) (h9:p9) (h10:p10) (h11:p11):p0∧p1∧p2∧p3∧p4∧p5∧p6∧p7∧p8∧p9∧p10∧p11:=⟨h0,h1,h2,h3,h4,h5,h6,h7,h8,h9,h10,h11⟩
theorem wi1_2 {t0:Type _}{p0 p1:t0→Prop}(a0:t0) (h0:p0 a0) (h1:p1 a0):∃ a0,p0 a0∧p1 a0:=⟨a0,⟨h0,h1⟩⟩
theorem wi1_3 {t0:Type _}{p0 p1 p2:t0→Prop}(a0:t0) (h0:p0 a0) (h1:p1 a0) (h2:p2 a0):∃ a0,p0 a0∧p1 a0∧p2 a0:=⟨a0,(yi3 h0 h1 h2)⟩
theorem wi1_5 {t0:Type _}{p0 p1 p2 p3 p4:t0→Prop}(a0:t0) (h0:p0 a0) (h1:p1 a0) (h2:p2 a0) (h3:p3 a0) (h4:p4 a0):∃ a0,p0 a0∧p1 a0∧p2 a0∧p3 a0∧p4 a0:=⟨a0,(yi5 h0 h1 h2 h3 h4)⟩
theorem wi1_6 {t0:Type _}{p0 p1 p2 p3 p4 p5:t0→Prop}(a0:t0) (h0:p0 a0) (h1:p1 a0) (h2:p2 a0) (h3:p3 a0) (h4:p4 a0) (h5:p5 a0):∃ a0,p0 a0∧p1 a0∧p2 a0∧p3 a0∧p4 a0∧p5 a0:=⟨a0,(yi6 h0 h1 h2 h3 h4 h5)⟩
theorem wi1_9 {t0:Type _}{p0 p1 p2 p3 p4 p5 p6 p7 p8:t0→Prop}(a0:t0) (h0:p0 a0) (h1:p1 a0) (h2:p2 a0) (h3:p3 a0) (h4:p4 a0) (h5:p5 a0) (h6:p6 a0) (h7:p7 a0) (h8:p8 a0):∃ a0,p0 a0∧p1 a0∧p2 a0∧p3 a0∧p4 a0∧p5 a0∧p6 a0∧p7 a0∧p8 a0:=⟨a0,(yi9 h0 h1 h2 h3 h4 h5 h6 h7 h8)⟩
theorem wi2_2 {t0:Type _}{t1:Type _}{p0 p1:t0→t1→Prop}(a0:t0) (a1:t1) (h0:p0 a0 a1) (h1:p1 a0 a1):∃ a0 a1,p0 a0 a1∧p1 a0 a1:=xi2 a0 a1 ⟨h0,h1⟩
theorem wi2_3 {t0:Type _}{t1:Type _}{p0 p1 p2:t0→t1→Prop}(a0:t0) (a1:t1) (h0:p0 a0 a1) (h1:p1 a0 a1) (h2:p2 a0 a1):∃ a0 a1,p0 a0 a1∧p1 a0 a1∧p2 a0 a1:=xi2 a0 a1 (yi3 h0 h1 h2)
theorem wi2_4 {t0:Type _}{t1:Type _}{p0 p1 p2 p3:t0→t1→Prop}(a0:t0) (a1:t1) (h0:p0 a0 a1) (h1:p1 a0 a1) (h2:p2 a0 a1) (h3:p3 a0 a1):∃ a0 a1,p0 a0 a1∧p1 a0 a1∧p2 a0 a1∧p3 a0 a1:=xi2 a0 a1 (yi4 h0 h1 h2 h3)
theorem wi2_5 {t0:Type _}{t1:Type _}{p0 p1 p2 p3 p4:t0→t1→Prop}(a0:t0) (a1:t1) (h0:p0 a0 a1) (h1:p1 a0 a1) (h2:p2 a0 a1) (h3:p3 a0 a1) (h4:p4 a0 a1):∃ a0 a1,p0 a0 a1∧p1 a0 a1∧p2 a0 a1∧p3 a0 a1∧p4 a0 a1:=xi2 a0 a1 (yi5 h0 h1 h2 h3 h4)
theorem wi3_2 {t0:Type _}{t1:Type _}{t2:Type _}{p0 p1:t0→t1→t2→Prop}(a0:t0) (a1:t1) (a2:t2) (h0:p0 a0 a1 a2) (h1:p1 a0 a1 a2):∃ a0 a1 a2,p0 a0 a1 a2∧p1 a0 a1 a2:=xi3 a0 a1 a2 ⟨h0,h1⟩
theorem wi3_4 {t0:Type _}{t1:Type _}{t2:Type _}{p0 p1 p2 p3:t0→t1→t2→Prop}(a0:t0) (a1:t1) (a2:t2) (h0:p0 a0 a1 a2) (h1:p1 a0 a1 a2) (h2:p2 a0 a1 a2) (h3:p3 a0 a1 a2):∃ a0 a1 a2,p0 a0 a1 a2∧p1 a0 a1 a2∧p2 a0 a1 a2∧p3 a0 a1 a2:=xi3 a0 a1 a2 (yi4 h0 h1 h2 h3)
theorem wi3_5 {t0:Type _}{t1:Type _}{t2:Type _}{p0 p1 p2 p3 p4:t0→t1→t2→Prop}(a0:t0) (a1:t1) (a2:t2) (h0:p0 a0 a1 a2) (h1:p1 a0 a1 a2) (h2:p2 a0 a1 a2) (h3:p3 a0 a1 a2) (h4:p4 a0 a1 a2):∃ a0 a1 a2,p0 a0 a1 a2∧p1 a0 a1 a2∧p2 a0 a1 a2∧p3 a0 a1 a2∧p4 a0 a1 a2:=xi3 a0 a1 a2 (yi5 h0 h1 h2 h3 h4)
theorem wi3_7 {t0:Type _}{t1:Type _}{t2:Type _}{p0 p1 p2 p3 p4 p5 p6:t0→t1→t2→Prop}(a0:t0) (a1:t1) (a2:t2) (h0:p0 a0 a1 a2) (h1:p1 a0 a1 a2) (h2:p2 a0 a1 a2) (h3:p3 a0 a1 a2) (h4:p4 a0 a1 a2) (h5:p5 a0 a1 a2) (h6:p6 a0 a1 a2):∃ a0 a1 a2,p0 a0 a1 a2∧p1 a0 a1 a2∧p2 a0 a1 a2∧p3 a0 a1 a2∧p4 a0 a1 a2∧p5 a0 a1 a2∧p6 a0 a1 a2:=xi3 a0 a1 a2 (yi7 h0 h1 h2 h3 h4 h5 h6)
theorem z1 {a k n:Nat}(h:a < n) (e:a=k) (b:Nat.ble n 1000=true):k < 2 ^ 62:=e▸Nat.lt_of_lt_of_le h (Nat.le_trans (Nat.le_of_ble_eq_true b) (by decide))
theorem z2 {a k n:Nat}(h:a≤n) (e:a=k) (b:Nat.ble n 1000=true):k < 2 ^ 62:=e▸Nat.lt_of_le_of_lt h (Nat.lt_of_le_of_lt (Nat.le_of_ble_eq_true b) (by decide))
theorem z3 {i k a n:Nat}(l:i < k) (e:a=k) (h:a < n) (b:Nat.ble n 1000=true):(i:Int) < 2 ^ 63:=zi (Nat.lt_trans l (e▸h)) b
theorem z4 {a b c:Nat}(e:a=b) (f:a=c):(b:Int)=c:=congrArg Int.ofNat (e.symm.trans f)
theorem z8 {n:Int}{i:Nat}:n - i - 1=n - ((i+1:Nat):Int):=Int.sub_sub n i 1
theorem z9 {i:Nat}:(i:Int)+1=((i+1:Nat):Int):=rfl
theorem z10 {i n:Nat}(h:i < n):0 < (n:Int) - i:=Int.sub_pos_of_lt (Int.ofNat_lt.2 h)
theorem z11 {n:Nat}:-2 ^ 62≤(n:Int):=Int.le_trans (by decide) (Int.natCast_nonneg n)
noncomputable def Stp (p:Prop):Prop:=p
noncomputable def OnT (_:String):Type:=Unit
theorem on {n:String}:Nonempty (OnT n):=⟨()⟩
theorem stp (n:String) [Nonempty (OnT n)] {α:Type}{M:PySem.Model}{A:PySem.Around}{c:PySem.Sem α}{Q:α→PySem.Shared→Prop}{E:PySem.Value→PySem.Shared→Prop}{s:PySem.Shared}(h:Stp (PySem.wpAny M A c Q E s)):PySem.wpAny M A c Q E s:=h
theorem stp_sub [Nonempty (OnT "sub")] {M:PySem.Model}{A:PySem.Around}{x:PySem.Str}{p:PySem.Pos}{f:PySem.Expr}{a:Nat}{k:Int}{u:PySem.Tok}{Q:PySem.Value→PySem.Shared→Prop}{E:PySem.Value→PySem.Shared→Prop}{s:PySem.Shared}(h:Stp (PySem.wpAny M A (PyProof.Rows.subscriptTail (.Name x p) f (.ref a) (.int k u)) Q E s)):PySem.wpAny M A (PyProof.Rows.subscriptTail (.Name x p) f (.ref a) (.int k u)) Q E s:=h
end Mine
end
local macro_rules | `(tactic| omega) => `(tactic| with_reducible first | assumption | (apply Ne.symm; assumption) | apply Nat.zero_le | apply Int.natCast_nonneg | decide | (apply Mine.zi; assumption; rfl) | omega (splitDisjunctions := true))
local macro_rules | `(tactic| k_all) => `(tactic| assumption)
local macro_rules | `(tactic| k_mem) => `(tactic| assumption)
local macro_rules | `(tactic| walk_at $s:str) => `(tactic| refine Mine.stp $s ?_)
local macro_rules | `(tactic| walk_at "subscriptTail") => `(tactic| refine Mine.stp_sub ?_)
section
open PySem PySem.W PyProof.Rows
namespace Mine
noncomputable def runT (ok:Thread→Bool) (stp:SharedT→Thread→Option (SharedT × Thread)):Nat→SharedT→Thread→Option SharedT
 | 0,_,_=>none
 | n+1,s,t=>match through t with
  | true=>some s
  | false=>match ok t with
   | false=>none
   | true=>match stp s t with
    | some (s',t')=>runT ok stp n s' t'
    | none=>none
theorem runT_of {tb:String→Option Builtin}{p:Program}{w:World}{n₀:Nat}{ann:Option Value}{n:Nat}:∀ {s s':SharedT}{t:Thread},runT (stepOk n₀ ann) (stepT (denote tb) p w) n s t=some s'→topRun tb p w n₀ ann n s.abs t=some s'.abs:=by
 induction n with
 | zero=>exact fun h=>nomatch h
 | succ n ih =>
  intro s s' t h
  rw [runT] at h
  rw [topRun]
  cases ht:through t with
  | true=>rw [ht] at h;cases h;rfl
  | false =>
   rw [ht] at h
   cases hk:stepOk n₀ ann t with
   | false=>rw [hk] at h;cases h
   | true =>
    rw [hk] at h
    cases hs:stepT (denote tb) p w s t with
    | none=>rw [hs] at h;cases h
    | some r=>obtain ⟨s₂,t₂⟩:=r;rw [hs] at h;rw [stepT_spec hs];exact ih h
noncomputable def bootT (P:Params):BT:=.node (boot_o_0 P)
 (.node (boot_o_1 P) (.node (boot_o_3 P) (.node (boot_o_7 P) .nil .nil) .nil) (.node (boot_o_5 P) (.node (boot_o_9 P) .nil .nil) .nil))
 (.node (boot_o_2 P) (.node (boot_o_4 P) (.node (boot_o_8 P) .nil .nil) .nil) (.node (boot_o_6 P) (.node (boot_o_10 P) .nil .nil) .nil))
theorem bootT_abs (P:Params):absHeap (bootT P) 11 {}=boot_heap P:=by kernel_rfl
theorem boot_size (P:Params):((boot_heap P).isNs mainGlobals,(boot_heap P).objs.size,(boot_heap P).nsMap mainGlobals "__annotations__")=(true,11,some (Value.ref 6)):=by kernel_rfl
noncomputable def LeftAt (p q:Program) (loose:List Str) (Xt:Shared→Bool) {α:Type}(Yf:Shared→α) (Ya:World→α) (N:Nat) (g0:Bool) (w:World):Prop :=
 ∀ os,(runT (stepOk 11 (some (Value.ref 6))) (stepT (denote treeTable) p w) N ⟨bootT w.params,11,{},#[],boot_drawn,boot_toks,os⟩ (topStub p)).map
  (fun s=>((staticsOk (importedModules p.main.body) (boot_heap w.params) s.abs.heap && namesBound p s.abs.heap && gensDone s.abs && laidKept (boot_heap w.params) s.abs.heap),openSeen q loose (importedModules p.main.body) Xt g0 s.abs,Yf s.abs))=some (true,openGood q loose,Ya w)
theorem left_of {p q:Program}{loose:List Str}{Xt:Shared→Bool}{α:Type}{Yf:Shared→α}{Ya:World→α}{N:Nat}{g0:Bool}(row:String)
  (o1:opening p=plainProg p.main.scope.names) (o2:Nat.ble 600 N=true) (o3:∀ s,fenceModules? p s=some s)
  (h0:∀ w:World,LeftAt p q loose Xt Yf Ya N g0 (w.withFollow row false)) (h1:∀ w:World,LeftAt p q loose Xt Yf Ya N g0 (w.withFollow row true)):LeftO p q loose Xt Yf Ya N g0:=fun w=>by
 obtain ⟨⟨h,gs,d,k,os⟩,e,e'⟩:=Option.map_eq_some_iff.mp (boot_open o1 o2 o3 w)
 obtain ⟨rfl,rfl,rfl,rfl⟩:h=boot_heap w.params∧gs=⟨[]⟩∧d=boot_drawn∧k=boot_toks:=by simpa using e'
 obtain ⟨s,es,e2⟩:=Option.map_eq_some_iff.mp (byRow2 row (P:=LeftAt p q loose Xt Yf Ya N g0) h0 h1 w os)
 obtain ⟨l1,l2⟩:=Prod.mk.inj e2
 have r:=runT_of es
 obtain ⟨z1,z2⟩:=Prod.mk.inj (boot_size w.params)
 obtain ⟨z2,z3⟩:=Prod.mk.inj z2
 unfold SharedT.abs at r
 dsimp only at r
 rw [bootT_abs] at r
 unfold openEnds
 rw [e]
 show (topFrom treeTable p w N _).map _=_
 have t:topFrom treeTable p w N ⟨boot_heap w.params,⟨[]⟩,boot_drawn,boot_toks,os⟩=some s.abs:=by
  unfold topFrom
  dsimp only
  rw [z1,z2,z3]
  show (topRun treeTable p w 11 (some (Value.ref 6)) N _ _).bind _=_
  rw [r]
  show (match staticsOk (importedModules p.main.body) (boot_heap w.params) s.abs.heap && namesBound p s.abs.heap && gensDone s.abs && laidKept (boot_heap w.params) s.abs.heap with | true=>_ | false=>_)=_
  rw [l1]
  rfl
 rw [t]
 exact congrArg some l2
noncomputable def vw:Program:=view PySem.Challenge.pw_ln0024_01 [1,2,3,4,5,6,7,9,10,11,12,13,14,15,16,17,18]
theorem open1 (h:PySem.Challenge.rw_ln0024_01.row.wellSaid=true→PySem.Challenge.rw_ln0024_01.row.Holds):PySem.Challenge.rw_ln0024_01.Holds:=holds_law (by decide +kernel) h
local macro_rules | `(tactic| o_law)=>`(tactic| (apply Mine.open1;intro))
theorem open3 (H:Hook) {r:OpenRow}{d:DefRec}{kwd:List (Str × Expr)}
  (k:defOf vw r.name=some (d,kwd)) (k2:r.prog.theDef r.name=some (d.params,d.body,d.scope)) (k3:kwWritten? d.params.kwonlyargs d.params.kw_defaults=some kwd) (hwr:(!r.writes || r.records.isEmpty)=true)
  (said:r.wellSaid=true) (ok:(chainsOk vw && opensWell r.prog && (frees r.toRowW && r.within.isEmpty))=true) (hb:r.prog.bare) (hw:r.toRowW.promised)
  (h:LeftO r.prog vw [Str.ofString "_law_late"] (fun s=>xlAt vw [] s && recOk (RowW.records r.toRowW) s) (Hook.obs H) (Hook.val H) 3716 ∧
   WalkO vw [Str.ofString "_law_late"] (XL vw []) (Hook.says H) r.toRowW d kwd (fun f vs=>PySem.call f vs)):r.Holds :=
 holds_open (N:=3716) h.1 (Hook.of H) (Hook.keeps H) (fun s e=>xl_of s (Bool.and_eq_true_iff.mp e).1) XL.keeps k k2 k3 (fun s e=>recFacts_of (Bool.and_eq_true_iff.mp e).2) hwr said ok hb hw h.2
theorem open4 (H:Hook) {d:DefRec}{kwd:List (Str × Expr)}(k:defOf vw PySem.Challenge.rw_ln0024_01.row.name=some (d,kwd)) (said:PySem.Challenge.rw_ln0024_01.row.wellSaid=true) (hw:PySem.Challenge.rw_ln0024_01.row.toRowW.promised)
  (hc:LeftO PySem.Challenge.rw_ln0024_01.row.prog vw [Str.ofString "_law_late"] (fun s=>xlAt vw [] s && recOk (RowW.records PySem.Challenge.rw_ln0024_01.row.toRowW) s) (Hook.obs H) (Hook.val H) 3716 ∧
   WalkO vw [Str.ofString "_law_late"] (XL vw []) (Hook.says H) PySem.Challenge.rw_ln0024_01.row.toRowW d kwd (fun f vs=>PySem.call f vs)):PySem.Challenge.rw_ln0024_01.row.Holds:=by
 have q:∀ x,defOf vw PySem.Challenge.rw_ln0024_01.row.name=some x→PySem.Challenge.rw_ln0024_01.row.prog.theDef PySem.Challenge.rw_ln0024_01.row.name=some (x.1.params,x.1.body,x.1.scope)∧kwWritten? x.1.params.kwonlyargs x.1.params.kw_defaults=some x.2:=by
  intro x h
  have e:=Option.some.inj (h.symm.trans (rfl:defOf vw PySem.Challenge.rw_ln0024_01.row.name=some _))
  subst e
  exact ⟨rfl,rfl⟩
 exact open3 H k (q _ k).1 (q _ k).2 rfl said (by decide +kernel) ⟨rfl,rfl,rfl,rfl,rfl,by decide +kernel⟩ hw hc
local macro_rules | `(tactic| o_head $H)=>`(tactic| apply Mine.open4 $H rfl ‹_›)
open_top hd for PySem.Challenge.rw_ln0024_01
theorem as_ok (P:Params):[2,3,15,17,18,20,21,29,31,32,34,35,36,38,39,41,42,43,45,46,48,49,50,51,52,53,54,57,59,60,62,63,71,72,74,75,77,78,79,81,82,84,85,86,88,89,91,92,93,95,96,98,99,100,102,103,105,106,107,109,110,112,113,114,116,117,119,120,121,122,123,124,125,135,137,138,140,141,142,144,145,147,148,149,151,152,154,155,156,158,159,161,162,163,164,165,166,167,177,179,180,182,183,184,186,187,189,190,191,193,194,196,197,198,200,201,203,204,205,206,207,208,209,212,214,215,217,218,219,220,221,222,223,224,225,226,227,229,230,232,233,234,236,237,239,240,241,243,244,246,247,248,250,251,253,254,255,257,258,260,261,262,264,265,267,268,269,271,272,274,275,276,278,279,281,282,283,286,287]=(hd.heap_1 P).map (·.1):=by kernel_rfl
noncomputable abbrev HK:Hook:=kmHook hd.heap_1 [2,3,15,17,18,20,21,29,31,32,34,35,36,38,39,41,42,43,45,46,48,49,50,51,52,53,54,57,59,60,62,63,71,72,74,75,77,78,79,81,82,84,85,86,88,89,91,92,93,95,96,98,99,100,102,103,105,106,107,109,110,112,113,114,116,117,119,120,121,122,123,124,125,135,137,138,140,141,142,144,145,147,148,149,151,152,154,155,156,158,159,161,162,163,164,165,166,167,177,179,180,182,183,184,186,187,189,190,191,193,194,196,197,198,200,201,203,204,205,206,207,208,209,212,214,215,217,218,219,220,221,222,223,224,225,226,227,229,230,232,233,234,236,237,239,240,241,243,244,246,247,248,250,251,253,254,255,257,258,260,261,262,264,265,267,268,269,271,272,274,275,276,278,279,281,282,283,286,287] as_ok [249,263]
noncomputable abbrev XK (s:Shared):Bool:=xlAt vw [] s && recOk (RowW.records (OpenRow.toRowW PySem.Challenge.rw_ln0024_01.row)) s
theorem left0 (w:World):LeftAt PySem.Challenge.pw_ln0024_01 vw [Str.ofString "_law_late"] XK HK.obs HK.val 3716 true (w.withFollow "special-get-raises" false):=by
 intro os
 rw [PySem.W.Fast.te10156331382660048174,PySem.W.Fast.te11892475500146522536,PySem.W.Fast.te14364793385576792824,PySem.W.Fast.te4187177175401517315]
 kernel_rfl
theorem left1 (w:World):LeftAt PySem.Challenge.pw_ln0024_01 vw [Str.ofString "_law_late"] XK HK.obs HK.val 3716 true (w.withFollow "special-get-raises" true):=by
 intro os
 rw [PySem.W.Fast.te10156331382660048174,PySem.W.Fast.te11892475500146522536,PySem.W.Fast.te14364793385576792824,PySem.W.Fast.te4187177175401517315]
 kernel_rfl
theorem left_:LeftO (OpenRow.toRowW PySem.Challenge.rw_ln0024_01.row).prog vw [Str.ofString "_law_late"] XK HK.obs HK.val 3716:=left_of "special-get-raises" (by kernel_rfl) (by rfl) (by intro s;kernel_rfl) left0 left1
end Mine
end
section
open PySem PySem.W PyProof.Rows PySem.Calls PySem.Spec
namespace Mine
theorem fill0:(PySem.Challenge.rw_ln0024_01=PySem.Challenge.rw_ln0024_01)∧(hd.heap_1=hd.heap_1):=by k_fill;exact ⟨rfl,rfl⟩
noncomputable abbrev PR:=PySem.Challenge.pw_ln0024_01
theorem ent {prog:Program}{w:World}{A:Around}{s:Shared}{fp:List Addr}{K:Frag}
  {R:Result→Shared→Prop}{name qual:Str}{params:Arguments}{body:List Stmt}{scope:Scope}{dV kV doc pm cdv ct oc:Value}{an od:Option Addr}{osl:Array (Option Value)}{f:Addr}{args:Args}{binds:List (Str × Value)}
  (X:K.In (hideAll s.heap fp)) (hlim:s.heap.NoLimit)
  (ho:K.lookup f=some ⟨oc,od,.func (fnOf name qual params body scope dV kV doc pm an cdv ct),osl⟩) (hcd:codeIn K cdv qual=true) (hroom:A.depth < recursionLimit)
  (hbind:BindsTo s (fnOf name qual params body scope dV kV doc pm an cdv ct) args binds) (hloc:∀ y∈binds,scope.names.lookup y.1=some .local)
  (h:∀ h₁,Fr (hideAll s.heap fp) s.heap.objs.size h₁ (fun y=>binds.reverse.lookup y)→(∀ b o,s.heap.get? b=some o→h₁.get? b=some o) →
   wpAny (model prog w) (A.deeper (envOf qual scope s.heap.objs.size f cdv)) (execs body (envOf qual scope s.heap.objs.size f cdv))
    (fun fl s'=>R (.ok (.ret (match fl with | .ret v=>v | _=>.none))) s')
    (fun e s'=>wpAny (model prog w) (A.deeper (envOf qual scope s.heap.objs.size f cdv)) (leaving (envOf qual scope s.heap.objs.size f cdv) e) (fun _ s''=>R (.error e) s'') (fun e' s''=>R (.error e') s'') s')
    { s with heap:=h₁,toks:=s.toks+binds.length })
  (hco:scope.isCoroutine=false:=by rfl) (hgen:scope.isGenerator=false:=by rfl) (hk:scope.kind=.function:=by rfl)
  (hcell:∀ x∈scope.names,x.2≠.cell:=by decide):codeAny (model prog w) A (.call (.ref f) args) R s:=by
 have X':K.In s.heap:=fun a o e=>of_hideAll _ (X a o e)
 refine codeAny_call_def (fd:=fnOf name qual params body scope dV kV doc pm an cdv ct) (body:=body) (binds:=binds) hroom (X' _ _ ho) rfl hlim (codeRec_of X' hcd) rfl hbind hcell hloc (fun h₁ hns hk₁=>?_) hco hgen hk
 exact h h₁ ⟨hns,fun b o e=>hk₁ b o (of_hideAll _ e),Nat.le_of_eq (hideAll_size _ _)⟩ hk₁
end Mine
end
section
open PySem PySem.W PySem.W.X PyProof.Rows PySem.Calls PySem.Spec
namespace Mine
section
variable {prog:Program}{w:World}{A:Around}{c:Code}{fs:List Frame}{s:Shared}{P:End→Shared→Prop}
theorem sx_wrap {α:Type}{m:Sem α}{K:α→Sem Fin}{H:Value→Sem Fin}{gd lv}
  (h:wpAny (model prog w) (A.over c fs) m (fun a s'=>SegX (model prog w) A c (K a) fs s' P) (fun x s'=>SegX (model prog w) A c (H x) fs s' P) s) :
  SegX (model prog w) A c (m.wrap K H gd lv) fs s P:=by
 rintro Γ p rfl hΓ
 refine xe2_2 (runs_wrap_of_wp (Φ:=fun e s'=>e.quiet=true∧P e s') K H gd lv m (h (Γ.over fs) p (hΓ.over fs)) (fun a p' s' h'=>h' Γ p' rfl hΓ) (fun x p' s' h'=>h' Γ p' rfl hΓ)) fun e s' hr hq=>?_
 exact (wi2_2 e s' hr hq)
theorem sx_bind {α β:Type}{m:Sem α}{f:α→Sem β}{K:β→Sem Fin}{H:Value→Sem Fin}{gd lv}
  (h:wpAny (model prog w) (A.over c fs) m (fun a s'=>SegX (model prog w) A c ((f a).wrap K H gd lv) fs s' P) (fun x s'=>SegX (model prog w) A c (H x) fs s' P) s) :
  SegX (model prog w) A c ((m >>= f).wrap K H gd lv) fs s P:=by
 rw [Sem.bind_eq_wrap',Sem.wrap_wrap]
 exact sx_wrap h
noncomputable def genK (f:Flow):Sem Fin:=.pure (.done (.ret (match f with | .ret v=>v | _=>.none)))
noncomputable def genH (env:Env) (e:Value):Sem Fin:=(leaving env e).wrap (fun _=>.raise e) .raise id id
noncomputable def backH (env:Env) (x:Value):Sem Unit:=do
 if (← field x 1) == Value.none then unsupported "frame.own-activation:exception-without-traceback"
 setFlight x env.frame
noncomputable def forK (env:Env) (rest:List Stmt) (r:Result):Sem Fin :=
 ((match r with | .ok f=>(.pure f:Sem Flow) | .error e=>.raise e).onRaise (backH env)).wrap (fun (f:Flow)=>match f with | .next=>(execs rest env).wrap genK (genH env) id id | f=>genK f) (genH env) id id
theorem runOwn_wrap {c':Code}{env:Env}{K:Flow→Sem Fin}{H:Value→Sem Fin}:(runOwn c' env).wrap K H id id=.call c' none false [] (fun r=>((match r with | .ok f=>(.pure f:Sem Flow) | .error e=>.raise e).onRaise (backH env)).wrap K H id id):=by
 unfold runOwn run
 simp only [Sem.onRaise,Sem.wrap,id]
 congr 1
theorem sx_func {body:List Stmt}{env:Env}
  (h:SegX (model prog w) A (.func body env) ((execs body env).wrap genK (genH env) id id) fs s P) :
  SegX (model prog w) A (.func body env) (denote table (.func body env)) fs s P:=by
 show SegX _ A _ (.point [] fun _=>((execs body env).onRaise (leaving env)) >>= _) fs s P
 have e:((execs body env).onRaise (leaving env) >>= fun (f:Flow)=>(match f with | Flow.ret v=>ret v | _=>ret .none))=(execs body env).wrap genK (genH env) id id:=by
  rw [Sem.onRaise_eq_wrap,Sem.bind_eq_wrap',Sem.wrap_wrap]
  exact Sem.wrap_congr _ _ _ (fun f=>by cases f <;> rfl) (fun e=>by unfold genH;rw [Sem.bind_eq_wrap,Sem.wrap_wrap];rfl)
 refine s_skim prog w A _ fs P s _ 1 ?_
 show SegX _ A _ (((execs body env).onRaise (leaving env)) >>= _) fs s P
 exact e▸h
theorem sx_for {env:Env}{target iter:Expr}{body orelse rest:List Stmt}{pos:Pos}(hs:∀ x,foldedSetIterable iter env x=pure x)
  (h:wpAny (model prog w) (A.over c fs) (eval iter env) (fun xv s₁=>wpAny (model prog w) (A.over c fs) (pyIter xv) (fun it s₂=>∀ p,SegX (model prog w) A (.forLoop target it body orelse env) (denote table (.forLoop target it body orelse env)) (.ret (forK env rest) none false [] c p [] :: fs) s₂ P) (fun _ _=>False) s₁) (fun _ _=>False) s) :
  SegX (model prog w) A c ((execs (.For target iter body orelse pos :: rest) env).wrap genK (genH env) id id) fs s P:=by
 rw [execs_cons_wrap,exec_For]
 refine sx_bind (wpAny_standAt (sx_bind (wpAny_mono h (fun xv s₁ h₁=>?_) fun _ _ z=>z.elim)))
 refine sx_bind (wpAny_of_eq (hs xv) (sx_bind (wpAny_standAt (sx_bind (wpAny_holding (wpAny_mono h₁ (fun it s₂ h₂=>?_) fun _ _ z=>z.elim))))))
 rw [runOwn_wrap]
 exact s_call prog w A c fs P s₂ (.forLoop target it body orelse env) none false [] (forK env rest) h₂
noncomputable def turnK (target:Expr) (it:Value) (body:List Stmt) (env:Env) (f:Flow):Sem Fin:=match f with
 | .next | .cont=>.pure (.again (.forLoop target it body [] env))
 | .brk=>.pure (.done .next)
 | .ret v=>.pure (.done (.ret v))
noncomputable def turnH (env:Env) (e:Value):Sem Fin:=(do noteFrame e env;theTreesLotGoes e:Sem Unit).wrap (fun _=>.raise e) .raise id id
theorem sx_turn {env:Env}{target:Expr}{it:Value}{body:List Stmt}(ht:∀ v,letOwnedTupleGo target it v=pure ())
  (h:wpAny (model prog w) (A.over (.forLoop target it body [] env) fs) (pyNext it) (fun r s₁=>match r with
   | none=>SegX (model prog w) A (.block [] env) (denote table (.block [] env)) fs s₁ P
   | some v=>wpAny (model prog w) (A.over (.forLoop target it body [] env) fs) (assign target env v) (fun _ s₂=>SegX (model prog w) A (.forLoop target it body [] env) ((execs body env).wrap (turnK target it body env) (turnH env) id id) fs s₂ P) (fun _ _=>False) s₁) (fun _ _=>False) s) :
  SegX (model prog w) A (.forLoop target it body [] env) (denote table (.forLoop target it body [] env)) fs s P:=by
 show SegX _ A _ ((forTurn target it body [] env).onRaise (fun x=>do noteFrame x env;theTreesLotGoes x)) fs s P
 have e:(forTurn target it body [] env).onRaise (fun x=>do noteFrame x env;theTreesLotGoes x)=(forTurn target it body [] env).wrap .pure (turnH env) id id:=by
  rw [Sem.onRaise_eq_wrap]
  exact Sem.wrap_congr _ _ _ (fun _=>rfl) (fun e=>by unfold turnH;rw [Sem.bind_eq_wrap])
 rw [e]
 unfold forTurn
 refine sx_bind (wpAny_standAt (sx_bind (wpAny_onRaise (wpAny_mono h (fun r s₁ h₁=>?_) fun _ _ z=>z.elim))))
 cases r with
 | none=>exact s_again prog w A _ fs P s₁ (.block [] env) rfl h₁
 | some v =>
  refine sx_bind (wpAny_of_eq (ht v) (sx_bind (wpAny_mono h₁ (fun _ s₂ h₂=>?_) fun _ _ z=>z.elim)))
  rw [Sem.bind_eq_wrap',Sem.wrap_wrap]
  have e2:=Sem.wrap_congr (execs body env) id id (K:=fun (a:Flow)=>Sem.wrap Sem.pure (turnH env) id id (match a with
     | Flow.next=>again (Code.forLoop target it body [] env)
     | Flow.cont=>again (Code.forLoop target it body [] env)
     | Flow.brk=>pure (Fin.done Flow.next)
     | Flow.ret v=>pure (Fin.done (Flow.ret v)))) (K':=turnK target it body env) (H:=fun e=>Sem.wrap Sem.pure (turnH env) id id (Sem.raise e)) (H':=turnH env) (fun f=>by cases f <;> rfl) (fun _=>rfl)
  exact cast (congrArg (fun t=>SegX (model prog w) A _ t fs s₂ P) e2.symm) h₂
theorem sx_block {env:Env}{k:Result→Sem Fin}{hd:Option Value}{g:Bool}{l:List Value}{c₁:Code}{p₁:Pos}{kp:List Value}(h:SegX (model prog w) A c₁ (k (.ok .next)) fs s P) :
  SegX (model prog w) A (.block [] env) (denote table (.block [] env)) (.ret k hd g l c₁ p₁ kp :: fs) s P :=
 s_pop prog w A _ fs P s (.ok .next) _ rfl k hd g l c₁ p₁ kp h
theorem sx_yield {env:Env}{e:Expr}{ypos pos:Pos}{K:Flow→Sem Fin}{H:Value→Sem Fin}(hfs:splitAtGen fs=none) (hfg:fs.any Frame.guarded=false)
  (h:wpAny (model prog w) (A.over c fs) (eval e env) (fun v s'=>∀ k l p,(∀ A' s'' P',SegX (model prog w) A' c (K .next) fs s'' P'→SegX (model prog w) A' c (k (.send .none)) fs s'' P')→P (.susp v false l k c p fs) s') (fun _ _=>False) s)
  (hco:env.scope.isCoroutine=false:=by rfl) (hi:interactive env=false:=by rfl) :
  SegX (model prog w) A c ((execs [.Expr (.Yield (some e) ypos) pos] env).wrap K H id id) fs s P:=by
 rw [execs_cons_wrap,exec_Expr env _ pos hi rfl]
 have hy:∀ v,yieldOut env v=yieldValue v:=fun v=>by simp only [yieldOut,hco,Bool.false_eq_true,if_false]
 refine sx_bind (wpAny_standAt ?_)
 show SegX _ A c (((eval e env >>= fun v=>(standAt ypos >>= fun _=>yieldOut env v)) >>= fun x=>dropValue (.Yield (some e) ypos) pos x).wrap _ H id id) fs s P
 simp only [hy]
 rw [Sem.bind_eq_wrap',Sem.bind_eq_wrap',Sem.wrap_wrap,Sem.wrap_wrap]
 refine sx_wrap (wpAny_mono h (fun v s' h'=>?_) fun _ _ z=>z.elim)
 refine s_skim prog w A c fs P s' _ 1 ?_
 refine s_yield prog w A c fs P s' v _ _ hfs hfg fun p=>h' _ _ p fun A' s'' P' x=>?_
 exact x
end
section
variable {prog:Program}{w:World}{A:Around}{E:Value→Shared→Prop}{s:Shared}
noncomputable def NextIs (prog:Program) (w:World) (A:Around) (it:Value) (Q:Value→Shared→Prop) (E:Value→Shared→Prop) (s:Shared):Prop :=
 wpAny (model prog w) A (callSpecial? it (Str.ofString "__next__")) (fun r s'=>∃ v,r=some v∧Q v s') E s
noncomputable def Stops (e:Value) (s:Shared):Prop:=s.TypeIs e "StopIteration"
theorem NextIs.mono {it:Value}{Q Q' E E':Value→Shared→Prop}(h:NextIs prog w A it Q E s) (hQ:∀ v s',Q v s'→Q' v s') (hE:∀ v s',E v s'→E' v s'):NextIs prog w A it Q' E' s :=
 wpAny_mono h (fun _ _ ⟨v,e,q⟩=>⟨v,e,hQ _ _ q⟩) hE
theorem pyNext_of {it:Value}{Q:Option Value→Shared→Prop}(h:NextIs prog w A it (fun v s'=>Q (some v) s') (fun e s'=>Stops e s'∧Q none s') s) :
  wpAny (model prog w) A (pyNext it) Q E s:=by
 unfold pyNext
 refine wpAny_bind (wpAny_attempt (wpAny_mono h (fun r s' hr=>?_) fun e s' he=>?_))
 ·(refine xe1_2 hr ?_;rintro v rfl q);exact wpAny_pure q
 ·exact wpAny_bind (wpAny_isInstance (T:="StopIteration") (b:=true) he.1 isSubtype_stop (wpAny_pure he.2))
theorem bnext_of {it:Value}{Q:Value→Shared→Prop}(hs:∀ {A':Around}{Q':Option Value→Shared→Prop}{E':Value→Shared→Prop},(∀ v,Q' (some v) s)→wpAny (model prog w) A' (specialOf it (Str.ofString "__next__")) Q' E' s)
  (h:NextIs prog w A.in1 it Q E s):wpAny (model prog w) A (call (.builtin "next") [it]) Q E s:=by
 refine call_function_entry (b:=Builtin.«next») (by decide +kernel) (by decide +kernel) (entryFor_of_fast (by kernel_rfl)) (by unfold argsOk;kernel_rfl) ?_
 unfold Builtin.«next»
 refine wpAny_bind (m:=someArgs "next" 1 2 ⟨[it],[]⟩) (wpAny_of_eq (a:=[it]) (by rfl) ?_)
 refine wpAny_bind (hs fun v=>?_)
 show wpAny _ _ (callSpecial? it (Str.ofString "__next__") >>= _) _ _ _
 refine wpAny_bind (wpAny_mono h (fun r s' hr=>?_) fun _ _ z=>z)
 (refine xe1_2 hr ?_;rintro v rfl q)
 exact wpAny_pure (wi1_2 v rfl q)
theorem new_stop {Q:Value→Shared→Prop}(h:∀ h' e,Heap.NewExc s.heap h' e "StopIteration"→s.heap.objs.size≤h'.objs.size→Q (.ref e) { s with heap:=h' }) :
  wpAny (model prog w) A (newExc (.type "StopIteration") []) Q E s:=by
 simp only [newExc,newTuple]
 refine wpAny_bind (wpAny_newObj_type ?_ (by size_fits))
 refine wpAny_bind (m:=firstArgMember _ _) (wpAny_of_eq (a:=Value.none) (by first | rfl | (simp only [firstArgMember];rfl)) ?_)
 refine wpAny_newObj_type ?_ (by size_fits)
 refine h _ _ ⟨fun b o hb=>Heap.get?_push_of_some _ (Heap.get?_push_of_some _ hb),Heap.get?_none_of_le (by rw [Heap.size_push];exact zq16),?_⟩ (by rw [Heap.size_push,Heap.size_push];exact zq34)
 exact (wi2_3 _ _ (Heap.get?_push_size _ rfl) rfl rfl)
theorem stop_raise {α:Type}{Q:α→Shared→Prop}(hh:A.handled=none) (h:∀ h' e,Heap.NewExc s.heap h' e "StopIteration"→s.heap.objs.size≤h'.objs.size→E (.ref e) { s with heap:=h' }) :
  wpAny (model prog w) A (do raiseNew (← newExc (.type "StopIteration") []):Sem α) Q E s :=
 wpAny_bind (new_stop fun h' e hx hz=>wpAny_raiseNew_none hh (h h' e hx hz))
theorem stop_raise2 {α β:Type}{f:α→Sem β}{Q:β→Shared→Prop}(hh:A.handled=none) (h:∀ h' e,Heap.NewExc s.heap h' e "StopIteration"→s.heap.objs.size≤h'.objs.size→E (.ref e) { s with heap:=h' }) :
  wpAny (model prog w) A (newExc (.type "StopIteration") [] >>= fun e=>(raiseNew e:Sem α) >>= f) Q E s :=
 wpAny_bind (new_stop fun h' e hx hz=>wpAny_bind (wpAny_raiseNew_none hh (h h' e hx hz)))
noncomputable abbrev itObj (T:String) (l:Value) (i:Nat):Obj:={ cls:=.type T,data:=.fields #[l,.int i 0] }
noncomputable def SeqT (T:String):Prop:=T="list_iterator"∨T="tuple_iterator"
theorem seq_call {T:String}(hT:SeqT T) {it:Addr}{o:Obj}(ho:s.heap.get? it=some o) (hc:o.cls=.type T) {Q:Value→Shared→Prop}
  (h:∀ b:Builtin,(b=Builtin.«list_iterator.__next__»∨b=Builtin.«tuple_iterator.__next__»)→wpAny (model prog w) A.in1 (b ⟨[.ref it],[]⟩) (fun fin s'=>∃ v,fin=.done (.ret v)∧Q v s') E s) :
  NextIs prog w A (.ref it) Q E s:=by
 have tI:s.TypeIs (.ref it) T:=⟨o,ho,hc⟩
 rcases hT with rfl | rfl
 ·refine wpAny_callSpecial?_slot (name:=Str.ofString "__next__") tI slot_listiter_next (wpAny_call_entry slot_listiter_next tI entry_listiter_next ?_ (args_listiter_next _))
  exact wpAny_mono (h _ (.inl rfl)) (fun _ _ ⟨v,e,q⟩=>⟨v,e,v,rfl,q⟩) fun _ _ z=>z
 ·refine wpAny_callSpecial?_slot (name:=Str.ofString "__next__") tI slot_tupleiter_next (wpAny_call_entry slot_tupleiter_next tI entry_tupleiter_next ?_ (args_tupleiter_next _))
  exact wpAny_mono (h _ (.inr rfl)) (fun _ _ ⟨v,e,q⟩=>⟨v,e,v,rfl,q⟩) fun _ _ z=>z
theorem next_item {T:String}(hT:SeqT T) {it l:Addr}{i:Nat}{ol:Obj}{items:Array Value}{n:Nat}{x:Value}{Q:Value→Shared→Prop}(ho:s.heap.get? it=some (itObj T (.ref l) i)) (hol:s.heap.get? l=some ol) (hdl:ol.data=.seq items n) (hx:items[i]?=some x)
  (hQ:∀ h',h'.get? it=some (itObj T (.ref l) (i+1))→Heap.SameBut it s.heap h'→Q x { s with heap:=h' }):NextIs prog w A (.ref it) Q E s:=by
 refine seq_call hT ho rfl fun b hb=>?_
 have hd:(itObj T (.ref l) i).data=.fields #[.ref l,.int i 0]:=rfl
 rcases hb with hb | hb <;> replace hb:=hb.symm <;> subst hb
 all_goals
  show wpAny _ _ (field (.ref it) 0 >>= _) _ _ s
  refine wpAny_bind (wpAny_field ho hd (x:=.ref l) rfl ?_)
  show wpAny _ _ (if (Value.ref l == Value.none)=true then _ else _) _ _ s
  rw [if_neg (show ¬ ((Value.ref l == Value.none)=true) from Bool.false_ne_true)]
  show wpAny _ _ (field (.ref it) 1 >>= _) _ _ s
  refine wpAny_bind (wpAny_field ho hd (x:=.int i 0) rfl ?_)
  show wpAny _ _ (seqItems? (.ref l) >>= _) _ _ s
  refine wpAny_bind (wpAny_seqItems hol hdl ?_)
  simp only [Int.toNat_natCast,hx]
  refine wpAny_bind (wpAny_setField ho hd (by simp) (wpAny_pure (wi1_2 x rfl (hQ _ ?_ (Heap.SameBut.update ..)))))
  rw [Heap.get?_update_self _ ho (Obj.isFreed_of_fields (Obj.data_mapFields hd _))]
  simp [Obj.mapFields,rawInt]
theorem next_end {T:String}(hT:SeqT T) (hh:A.handled=none) {it l:Addr}{i:Nat}{ol:Obj}{items:Array Value}{n:Nat}{Q:Value→Shared→Prop}(ho:s.heap.get? it=some (itObj T (.ref l) i)) (hol:s.heap.get? l=some ol) (hdl:ol.data=.seq items n) (hx:items[i]?=none)
  (hE:∀ h₁ h' e,h₁.get? it=some (itObj T .none i)→Heap.SameBut it s.heap h₁→Heap.NewExc h₁ h' e "StopIteration"→h₁.objs.size≤h'.objs.size→E (.ref e) { s with heap:=h' }):NextIs prog w A (.ref it) Q E s:=by
 refine seq_call hT ho rfl fun b hb=>?_
 have hd:(itObj T (.ref l) i).data=.fields #[.ref l,.int i 0]:=rfl
 rcases hb with hb | hb <;> replace hb:=hb.symm <;> subst hb
 all_goals
  show wpAny _ _ (field (.ref it) 0 >>= _) _ _ s
  refine wpAny_bind (wpAny_field ho hd (x:=.ref l) rfl ?_)
  show wpAny _ _ (if (Value.ref l == Value.none)=true then _ else _) _ _ s
  rw [if_neg (show ¬ ((Value.ref l == Value.none)=true) from Bool.false_ne_true)]
  show wpAny _ _ (field (.ref it) 1 >>= _) _ _ s
  refine wpAny_bind (wpAny_field ho hd (x:=.int i 0) rfl ?_)
  show wpAny _ _ (seqItems? (.ref l) >>= _) _ _ s
  refine wpAny_bind (wpAny_seqItems hol hdl ?_)
  simp only [Int.toNat_natCast,hx]
  refine wpAny_bind (wpAny_rule (wpAny_bind (wpAny_setField ho hd (by simp) ?_)))
  refine stop_raise (s:={ s with heap:=s.heap.update it _ }) hh fun h' e hx' hz=>hE _ h' e ?_ (Heap.SameBut.update ..) hx' hz
  rw [Heap.get?_update_self _ ho (Obj.isFreed_of_fields (Obj.data_mapFields hd _))]
  simp [Obj.mapFields]
theorem next_ended {T:String}(hT:SeqT T) (hh:A.handled=none) {it:Addr}{i:Nat}{Q:Value→Shared→Prop}(ho:s.heap.get? it=some (itObj T .none i))
  (hE:∀ h' e,Heap.NewExc s.heap h' e "StopIteration"→s.heap.objs.size≤h'.objs.size→E (.ref e) { s with heap:=h' }):NextIs prog w A (.ref it) Q E s:=by
 refine seq_call hT ho rfl fun b hb=>?_
 have hd:(itObj T .none i).data=.fields #[.none,.int i 0]:=rfl
 rcases hb with hb | hb <;> replace hb:=hb.symm <;> subst hb
 all_goals
  show wpAny _ _ (field (.ref it) 0 >>= _) _ _ s
  refine wpAny_bind (wpAny_field ho hd (x:=.none) rfl ?_)
  show wpAny _ _ (if (Value.none == Value.none)=true then _ else _) _ _ s
  rw [if_pos (show ((Value.none == Value.none)=true) from rfl)]
  exact wpAny_bind (wpAny_rule (wpAny_bind (stop_raise hh hE)))
end
section
variable {prog:Program}{w:World}{A:Around}{E:Value→Shared→Prop}{s:Shared}
noncomputable def wokeP (Q:Value→Shared→Prop) (E:Value→Shared→Prop) (g:Nat) (e:End) (s₁:Shared):Prop:=match e with
 | .susp v gd l k c p fs=>Q v (s₁.setGen g ((End.susp v gd l k c p fs).genState))
 | .ret (.ok (.ret .none))=>∀ h' x,Heap.NewExc s₁.heap h' x "StopIteration"→s₁.heap.objs.size≤h'.objs.size→E (.ref x) { s₁.setGen g .finished with heap:=h' }
 | _=>False
theorem gen_enter {a:Addr}{g:Nat}{Q:Value→Shared→Prop}(hg:s.heap.IsGen a g)
  (h:wpAny (model prog w) A.in1 (Builtin.Generator.genWake (.ref a) (.send .none)) (fun fin s'=>∃ v,fin=.done (.ret v)∧Q v s') E s):NextIs prog w A (.ref a) Q E s:=by
 refine wpAny_callSpecial?_slot (name:=Str.ofString "__next__") hg.typeIs slot_gen_next (wpAny_call_entry slot_gen_next hg.typeIs entry_gen_next ?_ (args_gen_next _))
 exact wpAny_mono h (fun _ _ ⟨v,e,q⟩=>⟨v,e,v,rfl,q⟩) fun _ _ z=>z
theorem gen_ended {a:Addr}{g:Nat}{Q:Value→Shared→Prop}(hh:A.handled=none) (hg:s.heap.IsGen a g) (hgs:s.gens[g]?=some .finished)
  (hE:∀ h' e,Heap.NewExc s.heap h' e "StopIteration"→s.heap.objs.size≤h'.objs.size→E (.ref e) { s with heap:=h' }):NextIs prog w A (.ref a) Q E s:=by
 refine gen_enter hg ?_
 unfold Builtin.Generator.genWake
 refine wpAny_bind (wpAny_holding (wpAny_genNumber hg (wpAny_bind (wpAny_genState hgs ?_))))
 show wpAny _ _ (.resume g (.send .none) [] _) _ _ s
 intro Γ p hΓ
 rw [Sem.wp_resume]
 refine (wi2_2 .finished s (by unfold Wakes;rw [hgs];exact ⟨rfl,rfl⟩) ?_)
 exact stop_raise (α:=Fin) (A:=A.in1) hh hE Γ p hΓ
theorem gen_goes {a:Addr}{g:Nat}{gs:GenState}{Q:Value→Shared→Prop}{c₀:Code}{t₀:Sem Fin}{fs₀:List Frame}(hh:A.handled=none) (hl:s.heap.NoLimit) (hroom:A.depth < recursionLimit) (hg:s.heap.IsGen a g) (hgs:s.gens[g]?=some gs)
  (hst:(gs=.fresh c₀∧t₀=denote table c₀∧fs₀=[])∨(∃ k₀ l₀ p₀ cl,gs=.suspended k₀ l₀ c₀ p₀ fs₀ cl∧t₀=k₀ (.send .none)))
  (x:SegX (model prog w) A.in1 c₀ t₀ fs₀ (s.setGen g .running) (wokeP Q E g)):NextIs prog w A (.ref a) Q E s:=by
 refine gen_enter hg ?_
 unfold Builtin.Generator.genWake
 refine wpAny_bind (wpAny_holding (wpAny_genNumber hg (wpAny_bind (wpAny_genState hgs ?_))))
 have go:wpAny (model prog w) A.in1 (resume g (.send .none) >>= fun r=>match r with
   | .yielded v=>ret v
   | .returned v=>do
    if v == .none then raiseNew (← newExc (.type "StopIteration") [])
    rule "generator.return-value";throw (← newExc (.type "StopIteration") [v])
   | .raised e=>do Builtin.Generator.genLeft (.ref a) e
   | .running=>do rule "generator.already-executing";raiseError "ValueError" "generator already executing"
   | .justStarted=>do rule "generator.send-to-fresh";raiseError "TypeError" "can't send non-None value to a just-started generator"
   | .finished=>do raiseNew (← newExc (.type "StopIteration") [])) (fun fin s'=>∃ v,fin=.done (.ret v)∧Q v s') E s:=by
  show wpAny _ _ (.resume g (.send .none) [] _) _ _ s
  intro Γ p hΓ
  refine wake_any Fin prog w hgs (hst.imp (fun ⟨a,b,c⟩=>⟨a,rfl,b,c⟩) fun ⟨k,l,p,cl,a,b⟩=>⟨k,l,p,cl,a,b⟩) (fun Γ=>Γ.In A.in1) (fun _ h=>h) (x.mono fun e s₁ h Γ p hC=>?_) Γ p hΓ
  unfold wokeP at h
  split at h
  ·exact ⟨_,rfl,h⟩
  ·exact stop_raise2 (α:=Unit) (A:=A.in1) (s:=s₁.setGen g .finished) hh h Γ p hC
  ·exact h.elim
 rcases hst with ⟨rfl,_,_⟩ | ⟨k₀,l₀,p₀,cl,rfl,_⟩
 ·exact wpAny_bind (wpAny_roomToWake hl hroom go)
 ·exact wpAny_bind (wpAny_roomToWake hl hroom go)
end
noncomputable abbrev nX:Str:=Str.ofString "x"
noncomputable abbrev nOne:Str:=Str.ofString "one"
noncomputable abbrev nTwo:Str:=Str.ofString "two"
noncomputable def possP:{l:List Pos // ∃ a b c d e f g h i,PySem.Challenge.pw_ln0024_01.main.body[1]?=some (.FunctionDef a b [.For (.Name nX (l.getD 0 default)) (.Name nOne (l.getD 1 default)) [.Expr (.Yield (some (.Name nX (l.getD 2 default))) (l.getD 3 default)) (l.getD 4 default)] [] (l.getD 5 default),.For (.Name nX (l.getD 6 default)) (.Name nTwo (l.getD 7 default)) [.Expr (.Yield (some (.Name nX (l.getD 8 default))) (l.getD 9 default)) (l.getD 10 default)] [] (l.getD 11 default)] c d e f g h i)} :=
 ⟨[_,_,_,_,_,_,_,_,_,_,_,_],_,_,_,_,_,_,_,_,_,rfl⟩
noncomputable def poss:List Pos:=possP.1
noncomputable def qp (i:Nat):Pos:=poss.getD i default
noncomputable def X1:Expr:=.Name nX (qp 0)
noncomputable def X2:Expr:=.Name nX (qp 6)
noncomputable def Y1:List Stmt:=[.Expr (.Yield (some (.Name nX (qp 2))) (qp 3)) (qp 4)]
noncomputable def Y2:List Stmt:=[.Expr (.Yield (some (.Name nX (qp 8))) (qp 9)) (qp 10)]
noncomputable def For1:Stmt:=.For X1 (.Name nOne (qp 1)) Y1 [] (qp 5)
noncomputable def For2:Stmt:=.For X2 (.Name nTwo (qp 7)) Y2 [] (qp 11)
noncomputable def chainBody:List Stmt:=[For1,For2]
noncomputable abbrev chainScope:Scope:={ kind:=.function,names:=[(nOne,.local),(nTwo,.local),(nX,.local)],isGenerator:=true,isCoroutine:=false,more:=[] }
noncomputable def cenv (L:Addr):Env:=envOf (Str.ofString "_chain") chainScope L 21 (.ref 20)
noncomputable def fc (L:Addr):Code:=.func chainBody (cenv L)
noncomputable def c1 (L:Addr) (it:Value):Code:=.forLoop X1 it Y1 [] (cenv L)
noncomputable def c2 (L:Addr) (it:Value):Code:=.forLoop X2 it Y2 [] (cenv L)
noncomputable def fr1 (L:Addr) (q:Pos):Frame:=.ret (forK (cenv L) [For2]) none false [] (fc L) q []
noncomputable def fr2 (L:Addr) (q:Pos):Frame:=.ret (forK (cenv L) []) none false [] (fc L) q []
section
variable (prog:Program) (w:World)
noncomputable def In1 (gs:GenState) (L:Addr) (it:Value):Prop:=∃ k l p q,gs=.suspended k l (c1 L it) p [fr1 L q] false ∧
 ∀ A s P,SegX (model prog w) A (c1 L it) (denote table (c1 L it)) [fr1 L q] s P→SegX (model prog w) A (c1 L it) (k (.send .none)) [fr1 L q] s P
noncomputable def In2 (gs:GenState) (L:Addr) (it:Value):Prop:=∃ k l p q,gs=.suspended k l (c2 L it) p [fr2 L q] false ∧
 ∀ A s P,SegX (model prog w) A (c2 L it) (denote table (c2 L it)) [fr2 L q] s P→SegX (model prog w) A (c2 L it) (k (.send .none)) [fr2 L q] s P
end
noncomputable def gA (A:Around) (L:Addr) (k:Nat):Around:={ A with depth:=A.depth+1,frames:=A.frames.map (cenv L :: ·),units:=A.units+k }
theorem over0 (A:Around) (L:Addr):A.over (fc L) []=gA A L 3:=by
 apply hide;intro _ kι;obtain ⟨h,d,f,g,u⟩:=A;apply kι
 cases f <;> rfl
theorem over1 (A:Around) (L:Addr) (it:Value) (q:Pos):A.over (c1 L it) [fr1 L q]=gA A L 3:=by
 apply hide;intro _ kι;obtain ⟨h,d,f,g,u⟩:=A;apply kι
 cases f <;> rfl
theorem over2 (A:Around) (L:Addr) (it:Value) (q:Pos):A.over (c2 L it) [fr2 L q]=gA A L 3:=by
 apply hide;intro _ kι;obtain ⟨h,d,f,g,u⟩:=A;apply kι
 cases f <;> rfl
noncomputable def updX (m:Str→Option Value) (v:Value):Str→Option Value:=fun y=>if y=nX then some v else m y
section
variable {prog:Program}{w:World}{A:Around}{Q E:Value→Shared→Prop}{s:Shared}{g:Nat}{L:Addr}{it:Value}
theorem one_name {m:Str→Option Value}{v:Value}{A':Around}{E':Value→Shared→Prop}{Q':Value→Shared→Prop}(hn:s.heap.Ns L m) (hv:m nOne=some v) (p:Pos) (h:Q' v s):wpAny (model prog w) A' (eval (.Name nOne p) (cenv L)) Q' E' s :=
 wpAny_Name (wpAny_loadName_local (env:=cenv L) rfl rfl hn hv h) (by decide)
theorem two_name {m:Str→Option Value}{v:Value}{A':Around}{E':Value→Shared→Prop}{Q':Value→Shared→Prop}(hn:s.heap.Ns L m) (hv:m nTwo=some v) (p:Pos) (h:Q' v s):wpAny (model prog w) A' (eval (.Name nTwo p) (cenv L)) Q' E' s :=
 wpAny_Name (wpAny_loadName_local (env:=cenv L) rfl rfl hn hv h) (by decide)
theorem x_name {m:Str→Option Value}{v:Value}{A':Around}{E':Value→Shared→Prop}{Q':Value→Shared→Prop}(hn:s.heap.Ns L m) (hv:m nX=some v) (p:Pos) (h:Q' v s):wpAny (model prog w) A' (eval (.Name nX p) (cenv L)) Q' E' s :=
 wpAny_Name (wpAny_loadName_local (env:=cenv L) rfl rfl hn hv h) (by decide)
theorem x_store {m:Str→Option Value}{v:Value}{A':Around}{E':Value→Shared→Prop}{Q':Unit→Shared→Prop}(hn:s.heap.Ns L m) (p:Pos)
  (h:∀ h',h'.Ns L (updX m v)→Heap.SameBut L s.heap h'→Q' () { s with heap:=h',toks:=s.toks+1 }):wpAny (model prog w) A' (assign (.Name nX p) (cenv L) v) Q' E' s :=
 wpAny_assign_Name (wpAny_storeName_local (env:=cenv L) rfl hn (fun h' hn' hs=>h h' hn' hs) rfl)
theorem turn1 {q:Pos}(h:wpAny (model prog w) (gA A L 3) (pyNext it) (fun r s₂=>match r with
   | some v=>∃ m,s₂.heap.Ns L m∧∀ h' gs',h'.Ns L (updX m v)→Heap.SameBut L s₂.heap h'→In1 prog w gs' L it→Q v ({ s₂ with heap:=h',toks:=s₂.toks+1 }.setGen g gs')
   | none=>SegX (model prog w) A (fc L) ((execs [For2] (cenv L)).wrap genK (genH (cenv L)) id id) [] s₂ (wokeP Q E g)) (fun _ _=>False) s) :
  SegX (model prog w) A (c1 L it) (denote table (c1 L it)) [fr1 L q] s (wokeP Q E g):=by
 refine sx_turn (fun v=>rfl) ?_
 show wpAny _ (A.over (c1 L it) [fr1 L q]) _ _ _ _
 rw [over1]
 refine wpAny_mono h (fun r s₂ hr=>?_) fun _ _ z=>z
 cases r with
 | none=>exact sx_block hr
 | some v =>
  refine xe1_2 hr fun m hn hm=>?_
  refine x_store hn _ fun h' hn' hs=>?_
  refine sx_yield rfl rfl ?_
  show wpAny _ (A.over (c1 L it) [fr1 L q]) _ _ _ _
  refine x_name (v:=v) (s:={ s₂ with heap:=h',toks:=s₂.toks+1 }) hn' (by simp [updX]) _ fun k l p hk=>?_
  refine hm h' _ hn' hs ⟨k,l,p,q,rfl,fun A' s' P' x=>hk A' s' P' (s_again prog w A' (c1 L it) [fr1 L q] P' s' (c1 L it) rfl x)⟩
theorem turn2 {q:Pos}(h:wpAny (model prog w) (gA A L 3) (pyNext it) (fun r s₂=>match r with
   | some v=>∃ m,s₂.heap.Ns L m∧∀ h' gs',h'.Ns L (updX m v)→Heap.SameBut L s₂.heap h'→In2 prog w gs' L it→Q v ({ s₂ with heap:=h',toks:=s₂.toks+1 }.setGen g gs')
   | none=>∀ h' x,Heap.NewExc s₂.heap h' x "StopIteration"→s₂.heap.objs.size≤h'.objs.size→E (.ref x) { s₂.setGen g .finished with heap:=h' }) (fun _ _=>False) s) :
  SegX (model prog w) A (c2 L it) (denote table (c2 L it)) [fr2 L q] s (wokeP Q E g):=by
 refine sx_turn (fun v=>rfl) ?_
 show wpAny _ (A.over (c2 L it) [fr2 L q]) _ _ _ _
 rw [over2]
 refine wpAny_mono h (fun r s₂ hr=>?_) fun _ _ z=>z
 cases r with
 | none=>exact sx_block (s_end prog w A _ _ s₂ (.ok (.ret .none)) _ rfl hr)
 | some v =>
  refine xe1_2 hr fun m hn hm=>?_
  refine x_store hn _ fun h' hn' hs=>?_
  refine sx_yield rfl rfl ?_
  show wpAny _ (A.over (c2 L it) [fr2 L q]) _ _ _ _
  refine x_name (v:=v) (s:={ s₂ with heap:=h',toks:=s₂.toks+1 }) hn' (by simp [updX]) _ fun k l p hk=>?_
  refine hm h' _ hn' hs ⟨k,l,p,q,rfl,fun A' s' P' x=>hk A' s' P' (s_again prog w A' (c2 L it) [fr2 L q] P' s' (c2 L it) rfl x)⟩
theorem into2 {m:Str→Option Value}{two:Value}(hn:s.heap.Ns L m) (ht:m nTwo=some two)
  (h:wpAny (model prog w) (gA A L 3) (pyIter two) (fun it s₂=>∀ q,SegX (model prog w) A (c2 L it) (denote table (c2 L it)) [fr2 L q] s₂ (wokeP Q E g)) (fun _ _=>False) s) :
  SegX (model prog w) A (fc L) ((execs [For2] (cenv L)).wrap genK (genH (cenv L)) id id) [] s (wokeP Q E g):=by
 refine sx_for (fun _=>rfl) ?_
 rw [over0]
 exact two_name hn ht _ h
theorem into1 {m:Str→Option Value}{one:Value}(hn:s.heap.Ns L m) (ho:m nOne=some one)
  (h:wpAny (model prog w) (gA A L 3) (pyIter one) (fun it s₂=>∀ q,SegX (model prog w) A (c1 L it) (denote table (c1 L it)) [fr1 L q] s₂ (wokeP Q E g)) (fun _ _=>False) s) :
  SegX (model prog w) A (fc L) (denote table (fc L)) [] s (wokeP Q E g):=by
 refine sx_func ?_
 refine sx_for (fun _=>rfl) ?_
 show wpAny _ (A.over (fc L) []) _ _ _ _
 rw [over0]
 exact one_name hn ho _ h
end
noncomputable def frs (outer:List Env):List Addr:=outer.filterMap (·.frame)
structure Ext (fr fp:List Addr) (gp:List Nat) (s s':Shared):Prop where
 keep:∀ b o,s.heap.get? b=some o→b ∉ fp→b ∉ fr→s'.heap.get? b=some o
 slot:∀ b o,s.heap.get? b=some o→b ∉ fp→b∈fr→∃ sl,s'.heap.get? b=some { o with slots:=sl }
 there:∀ b o,s.heap.get? b=some o→∃ o',s'.heap.get? b=some o'
 gkeep:∀ g x,s.gens[g]?=some x→g ∉ gp→s'.gens[g]?=some x
 gsize:s.gens.size≤s'.gens.size
 drawn:s'.drawn=s.drawn
 os:s'.os=s.os
 bare:AllBare s.gens→AllBare s'.gens
namespace Ext
variable {fr fp fp':List Addr}{gp gp':List Nat}{s s' s'':Shared}
theorem refl (fr fp gp) (s:Shared):Ext fr fp gp s s:=⟨fun _ _ e _ _=>e,fun _ o e _ _=>⟨o.slots,e⟩,fun _ o e=>⟨o,e⟩,fun _ _ e _=>e,Nat.le_refl _,rfl,rfl,id⟩
theorem up (x:Ext fr fp gp s s') {b:Addr}{o:Obj}(e:s.heap.get? b=some o) (hb:b ∉ fp):∃ sl,s'.heap.get? b=some { o with slots:=sl }:=by
 by_cases h:b∈fr
 ·exact x.slot b o e hb h
 ·exact ⟨o.slots,x.keep b o e hb h⟩
theorem fresh (x:Ext fr fp gp s s') {b:Addr}(e:s'.heap.get? b=none):s.heap.get? b=none:=by
 cases h:s.heap.get? b with
 | none=>rfl
 | some o=>obtain ⟨_,e'⟩:=x.there b o h;rw [e'] at e;exact nsf e.symm
theorem trans (x:Ext fr fp gp s s') (y:Ext fr fp' gp' s' s'') (h:∀ b∈fp',b∈fp∨s.heap.get? b=none) (hg:∀ g∈gp',g∈gp∨s.gens.size≤g):Ext fr fp gp s s'':=by
 have off:∀ b o,s.heap.get? b=some o→b ∉ fp→b ∉ fp':=fun b o e hb hc=>(h b hc).elim hb fun z=>by rw [z] at e;exact nsf e
 have goff:∀ g x,s.gens[g]?=some x→g ∉ gp→g ∉ gp':=fun g v e hb hc=>(hg g hc).elim hb fun z=>absurd (Array.getElem?_eq_some_iff.mp e).1 (Nat.not_lt.mpr z)
 refine ⟨fun b o e hb hf=>y.keep b o (x.keep b o e hb hf) (off b o e hb) hf,fun b o e hb hf=>?_,fun b o e=>let ⟨o',e'⟩:=x.there b o e;y.there b o' e',fun g v e hb=>y.gkeep g v (x.gkeep g v e hb) (goff g v e hb),Nat.le_trans x.gsize y.gsize,y.drawn.trans x.drawn,y.os.trans x.os,fun z=>y.bare (x.bare z)⟩
 obtain ⟨sl,e1⟩:=x.slot b o e hb hf
 obtain ⟨sl',e2⟩:=y.slot b _ e1 (off b o e hb) hf
 exact ⟨sl',e2⟩
theorem weak (x:Ext fr fp gp s s') {fr' fp'':List Addr}{gp'':List Nat}(h:∀ b∈fp,b∈fp''∨s.heap.get? b=none) (hg:∀ g∈gp,g∈gp''∨s.gens.size≤g) (hf:∀ b∈fr,b∈fr'∨b∈fp''∨s.heap.get? b=none):Ext fr' fp'' gp'' s s':=by
 have lt:∀ b o,s.heap.get? b=some o→¬ s.heap.get? b=none:=fun b o e z=>by rw [z] at e;exact nsf e
 have gl:∀ g v,s.gens[g]?=some v→¬ s.gens.size≤g:=fun g v e=>Nat.not_le.mpr (Array.getElem?_eq_some_iff.mp e).1
 refine ⟨fun b o e hb hf'=>x.keep b o e (fun q=>(h b q).elim hb (lt b o e)) fun q=>(hf b q).elim hf' fun z=>z.elim hb (lt b o e),fun b o e hb _=>x.up e fun q=>(h b q).elim hb (lt b o e),x.there,fun g v e hb=>x.gkeep g v e fun q=>(hg g q).elim hb (gl g v e),x.gsize,x.drawn,x.os,x.bare⟩
theorem ns (x:Ext fr fp gp s s') {L:Addr}{m:Str→Option Value}(hn:s.heap.Ns L m) (hb:L ∉ fp):s'.heap.Ns L m:=by
 refine xe3_4 hn fun o es ep ho hd hk hf=>?_
 obtain ⟨sl,e⟩:=x.up ho hb
 exact ⟨_,es,ep,e,hd,hk,hf⟩
theorem sameThere {a:Addr}{h h':Heap}(hs:Heap.SameBut a h h') (ha:∃ o,h'.get? a=some o):∀ b o,h.get? b=some o→∃ o',h'.get? b=some o':=fun b o e=>by
 by_cases q:b=a
 ·exact q▸ha
 ·exact ⟨o,(hs.2 b q).trans e⟩
theorem one {a:Addr}{h':Heap}{tk:Nat}(hs:Heap.SameBut a s.heap h') (ha:a∈fp) (ht:∃ o,h'.get? a=some o):Ext fr fp gp s { s with heap:=h',toks:=tk } :=
 ⟨fun b o e hb _=>(hs.2 b fun q=>hb (q▸ha)).trans e,fun b o e hb _=>⟨o.slots,(hs.2 b fun q=>hb (q▸ha)).trans e⟩,sameThere hs ht,fun _ _ e _=>e,Nat.le_refl _,rfl,rfl,id⟩
theorem more {h':Heap}{tk:Nat}(hk:∀ b o,s.heap.get? b=some o→h'.get? b=some o):Ext fr fp gp s { s with heap:=h',toks:=tk } :=
 ⟨fun b o e _ _=>hk b o e,fun b o e _ _=>⟨o.slots,hk b o e⟩,fun b o e=>⟨o,hk b o e⟩,fun _ _ e _=>e,Nat.le_refl _,rfl,rfl,id⟩
theorem setGen {g:Nat}{gs:GenState}(hg:g∈gp) (hb:gs.bare=true):Ext fr fp gp s (s.setGen g gs):=by
 refine ⟨fun b o e _ _=>e,fun b o e _ _=>⟨o.slots,e⟩,fun b o e=>⟨o,e⟩,fun g' v e hn=>?_,by simp [Shared.setGen],rfl,rfl,fun hA y hy=>?_⟩
 ·have:g≠g':=fun q=>hn (q▸hg)
  simp [Shared.setGen,Array.getElem?_setIfInBounds,this,e]
 ·simp only [Shared.setGen] at hy
  rcases Array.mem_or_eq_of_mem_setIfInBounds hy with h | h
  ·exact hA y h
  ·exact h▸hb
end Ext
structure Gr where
 w:World
 p:Program
 loose:List Str
 mean:ExcName→Option Value
 mg:Str→Option Value
 mb:Str→Option Value
 base:Heap
 X:(hd.heap_1 w.params).In base
 T:Top p loose mean mg mb base
 C1:CodeHd base 253 249
 C2:CodeHd base 267 263
 n1:base.get? 249=none
 n2:base.get? 263=none
structure Cx (G:Gr) (A:Around) (outer:List Env) (d u:Nat) (h:Heap):Prop where
 st:G.base.StaysIn h
 hd:A.handled=none
 fr:A.frames=some outer
 ff:h.FunFrames G.base outer
 dp:A.depth+d < recursionLimit
 un:A.units+u < cLine
theorem cx_open {α:Type}{M:Model}{f:Sem α}{Q:α→Shared→Prop}{E:Value→Shared→Prop}{s:Shared}{G:Gr}{A:Around}{outer:List Env}{d u:Nat}{h:Heap}(c:Cx G A outer d u h) (k:∀ ad ag au,Cx G { handled:=none,depth:=ad,frames:=some outer,guards:=ag,units:=au } outer d u h→wpAny M { handled:=none,depth:=ad,frames:=some outer,guards:=ag,units:=au } f Q E s):wpAny M A f Q E s:=by
 obtain ⟨ah,ad,af,ag,au⟩:=A
 obtain rfl:ah=none:=c.hd
 obtain rfl:af=some outer:=c.fr
 exact k ad ag au c
theorem cx_openC {M:Model}{f:Code}{Q:Except Value Flow→Shared→Prop}{s:Shared}{G:Gr}{A:Around}{outer:List Env}{d u:Nat}{h:Heap}(c:Cx G A outer d u h) (k:∀ ad ag au,Cx G { handled:=none,depth:=ad,frames:=some outer,guards:=ag,units:=au } outer d u h→codeAny M { handled:=none,depth:=ad,frames:=some outer,guards:=ag,units:=au } f Q s):codeAny M A f Q s:=by
 obtain ⟨ah,ad,af,ag,au⟩:=A
 obtain rfl:ah=none:=c.hd
 obtain rfl:af=some outer:=c.fr
 exact k ad ag au c
theorem frs_old {h base:Heap}:∀ {l:List Env},h.FunFrames base l→∀ a∈frs l,base.get? a=none∧∃ o,h.get? a=some o∧∀ vs,o.data≠.fields vs:=fun hl _ ha=>hl.mem ha
namespace Cx
variable {G:Gr}{A:Around}{outer:List Env}{d u:Nat}{s s':Shared}
theorem nolimit (c:Cx G A outer d u s.heap):s.heap.NoLimit:=G.T.nolimit.keeps c.st
theorem next (c:Cx G A outer d u s.heap) {fp:List Addr}{gp:List Nat}(x:Ext (frs outer) fp gp s s') (hb:∀ a∈fp,G.base.get? a=none) (hf:∀ a∈fp,a ∉ frs outer):Cx G A outer d u s'.heap:=by
 refine ⟨fun b o e=>?_,c.hd,c.fr,?_,c.dp,c.un⟩
 ·exact x.keep b o (c.st b o e) (fun q=>by rw [hb b q] at e;cases e) fun q=>by rw [(frs_old c.ff b q).1] at e;exact nsf e
 ·have key:∀ l:List Env,(∀ a∈frs l,a∈frs outer)→s.heap.FunFrames G.base l→s'.heap.FunFrames G.base l:=by
   intro l
   induction l with
   | nil=>intro _ _;trivial
   | cons env r ih =>
    rintro hm ⟨hk,⟨L,o,hfr,hn,ho,hd⟩,hr⟩
    have hL:L∈frs outer:=hm L (by simp [frs,hfr])
    obtain ⟨sl,e⟩:=x.up ho fun q=>hf L q hL
    exact ⟨hk,(wi2_4 L _ hfr hn e hd),ih (fun a ha=>hm a (by simp only [frs,List.filterMap_cons,hfr];exact List.mem_cons_of_mem _ ha)) hr⟩
  exact key outer (fun _ h=>h) c.ff
theorem less (c:Cx G A outer d u s.heap) {d' u':Nat}(hd:d'≤d) (hu:u'≤u):Cx G A outer d' u' s.heap:=⟨c.st,c.hd,c.fr,c.ff,by have:=c.dp;exact zq97 hd this,by have:=c.un;exact zq97 hu this⟩
theorem in1 (c:Cx G A outer d (u+1) s.heap):Cx G A.in1 outer d u s.heap:=⟨c.st,c.hd,c.fr,c.ff,c.dp,by show A.units+1+u < cLine;have:=c.un;exact zq32 this⟩
theorem below (c:Cx G A outer d u s.heap) {fp:List Addr}(hb:∀ a∈fp,G.base.get? a=none) (hf:∀ a∈fp,a ∉ frs outer):Below A G.base outer (hideAll s.heap fp) :=
 ⟨c.fr,(fun b o e=>hideAll_get _ (c.st b o e) fun q=>by rw [hb b q] at e;exact nsf e),funFrames_hideAll c.ff fun env he a ha q=>hf a ha (by simp only [frs];exact List.mem_filterMap.mpr (wi1_2 env he q))⟩
theorem inK (c:Cx G A outer d u s.heap) {fp:List Addr}(hb:∀ a∈fp,G.base.get? a=none):(Mine.hd.heap_1 G.w.params).In (hideAll s.heap fp) :=
 G.X.keeps fun b o e=>hideAll_get _ (c.st b o e) fun q=>by rw [hb b q] at e;cases e
theorem top (c:Cx G A outer d u s.heap) {fp:List Addr}(hb:∀ a∈fp,G.base.get? a=none):Top G.p G.loose G.mean G.mg G.mb (hideAll s.heap fp) :=
 G.T.keeps fun b o e=>hideAll_get _ (c.st b o e) fun q=>by rw [hb b q] at e;cases e
theorem gen (c:Cx G A outer (d+1) (u+3) s.heap) {L:Addr}{m:Str→Option Value}(hn:s.heap.Ns L m) (hL:G.base.get? L=none):Cx G (gA A L 3) (cenv L :: outer) d u s.heap :=
 ⟨c.st,c.hd,by show A.frames.map _=_;rw [c.fr];rfl,.cons (by show ScopeKind.function≠.module;decide) rfl hn hL c.ff,by show A.depth+1+d < _;have:=c.dp;exact zq32 this,by show A.units+3+u < _;have:=c.un;exact zq98 this⟩
theorem inner (c:Cx G A outer (d+1) (u+3) s.heap) {hid:List Addr}{h:Heap}{m:Str→Option Value}{env:Env}(F:Fr (hideAll s.heap hid) s.heap.objs.size h m) (hb:∀ a∈hid,G.base.get? a=none)
  (kf:∀ a∈frs outer,∃ o,s.heap.get? a=some o∧∃ sl,h.get? a=some { o with slots:=sl }) (hf:env.frame=some s.heap.objs.size) (hk:env.scope.kind=.function):Cx G (A.deeper env) (env :: outer) d u h:=by
 have nb:G.base.get? s.heap.objs.size=none:=by
  cases q:G.base.get? s.heap.objs.size with
  | none=>rfl
  | some o=>exact absurd (Heap.lt_size (c.st _ _ q)) (Nat.lt_irrefl _)
 have key:∀ l:List Env,(∀ a∈frs l,a∈frs outer)→s.heap.FunFrames G.base l→h.FunFrames G.base l:=by
  intro l
  induction l with
  | nil=>intro _ _;trivial
  | cons env r ih =>
   rintro hm ⟨hk,⟨L,o,hfr,hn,ho,hd⟩,hr⟩
   have hL:L∈frs outer:=hm L (by simp [frs,hfr])
   apply hide;intro _ kι;obtain ⟨o',e1,sl,e2⟩:=kf L hL;apply kι
   rw [ho] at e1;(replace e1:=Eq.symm e1;cases e1)
   exact ⟨hk,(wi2_4 L _ hfr hn e2 hd),ih (fun a ha=>hm a (by simp only [frs,List.filterMap_cons,hfr];exact List.mem_cons_of_mem _ ha)) hr⟩
 refine ⟨fun b o e=>F.keep b o (hideAll_get _ (c.st b o e) fun q=>by rw [hb b q] at e;exact nsf e),c.hd,by show A.frames.map _=_;rw [c.fr];rfl,.cons (by rw [hk];decide) hf F.ns nb (key outer (fun _ h=>h) c.ff),?_,?_⟩
 ·show A.depth+1+d < _;have:=c.dp;exact zq32 this
 ·show A.units+3+u < _;have:=c.un;exact zq98 this
end Cx
noncomputable def restOf (h g:Heap) (ex:List Addr):List (Addr × Obj) :=
 (List.range h.objs.size).filterMap fun a=>if a∈ex then none else match g.get? a with | some _=>none | none=>(h.get? a).map fun o=>(a,o)
theorem mem_restOf {h g:Heap}{ex:List Addr}{a:Addr}{o:Obj}:(a,o)∈restOf h g ex ↔ h.get? a=some o∧g.get? a=none∧a ∉ ex:=by
 unfold restOf
 rw [List.mem_filterMap]
 constructor
 ·rintro ⟨b,_,hb⟩
  by_cases hx:b∈ex
  ·rw [if_pos hx] at hb;cases hb
  ·rw [if_neg hx] at hb
   cases hg:g.get? b with
   | some _=>rw [hg] at hb;cases hb
   | none =>
    rw [hg] at hb
    cases hh:h.get? b with
    | none=>rw [hh] at hb;cases hb
    | some o'=>rw [hh] at hb;cases hb;exact (yi3 hh hg hx)
 ·rintro ⟨hh,hg,hx⟩
  exact (wi1_2 a (List.mem_range.mpr (Heap.lt_size hh)) (by rw [if_neg hx,hg,hh];rfl))
theorem restOf_ne {h g:Heap}{ex:List Addr}{e:Addr}(he:e∈ex):∀ p∈restOf h g ex,p.1≠e:=fun p hp q=>by
 have:=(mem_restOf (a:=p.1) (o:=p.2)).mp hp
 exact this.2.2 (q▸he)
theorem restOf_news {h g:Heap}{L:Addr}{ex:List Addr}(he:L∈ex):News g L h (restOf h g ex):=fun p hp=>by
 have:=(mem_restOf (a:=p.1) (o:=p.2)).mp hp
 exact (yi3 this.1 (fun q=>this.2.2 (q▸he)) this.2.1)
theorem news_cons {g h:Heap}{L:Addr}{a:Addr}{o:Obj}{r:List (Addr × Obj)}(N:News g L h r) (h1:h.get? a=some o) (h2:a≠L) (h3:g.get? a=none):News g L h ((a,o) :: r):=fun p hp=>by
 rcases (List.mem_cons.mp hp).imp_left Eq.symm with rfl | hp
 ·exact (yi3 h1 h2 h3)
 ·exact N p hp
theorem ledger {s h₁:Heap}{fr hid:List Addr}{ex:List (Addr × Obj)}(hk:∀ b o,s.get? b=some o→h₁.get? b=some o) (ha:∀ p∈ex,s.get? p.1=some p.2) (hh:hid=ex.map (·.1)++fr) (hfr:∀ a∈fr,∃ o,s.get? a=some o) :
  ∃ rest,News (hideAll s hid) s.objs.size h₁ (ex++rest)∧(∀ e∈ex.map (·.1),∀ p∈rest,p.1≠e)∧∀ b o,s.get? b=some o→b∈hid→b∈ex.map (·.1)∨(b,o)∈rest:=by
 subst hh
 refine (wi1_3 (restOf h₁ (hideAll s (ex.map (·.1)++fr)) (s.objs.size :: ex.map (·.1))) (fun p hp=>?_) (fun e he=>restOf_ne (.tail _ he)) (fun b o hb hh=>?_))
 ·rcases List.mem_append.mp hp with hp | hp
  ·exact (yi3 (hk _ _ (ha p hp)) (Nat.ne_of_lt (Heap.lt_size (ha p hp))) (hideAll_none _ (List.mem_append_left _ (List.mem_map_of_mem hp))))
  ·exact restOf_news (.head _) p hp
 ·by_cases e:b∈ex.map (·.1)
  ·exact .inl e
  ·refine .inr (mem_restOf.mpr (yi3 (hk _ _ hb) (hideAll_none _ hh) (fun q=>?_)))
   rcases List.mem_cons.mp q with q | q
   ·exact Nat.ne_of_lt (Heap.lt_size hb) q
   ·exact e q
theorem ext_fr {s:Shared}{fr hid fp:List Addr}{m:Str→Option Value}{news:List (Addr × Obj)}{h':Heap}{tk:Nat}
  (F:Fr (hideAll s.heap hid) s.heap.objs.size h' m) (N:News (hideAll s.heap hid) s.heap.objs.size h' news)
  (hh:∀ a o,s.heap.get? a=some o→a∈hid→(a,o)∈news∨(a∈fp∧∃ o',(a,o')∈news)):Ext fr fp [] s { s with heap:=h',toks:=tk }:=by
 have key:∀ b o,s.heap.get? b=some o→b ∉ fp→h'.get? b=some o:=fun b o e hb=>by
  by_cases hi:b∈hid
  ·rcases hh b o e hi with h | h
   ·exact (N _ h).1
   ·exact absurd h.1 hb
  ·exact F.keep b o (hideAll_get _ e hi)
 refine ⟨fun b o e hb _=>key b o e hb,fun b o e hb _=>⟨o.slots,key b o e hb⟩,fun b o e=>?_,fun _ _ e _=>e,Nat.le_refl _,rfl,rfl,id⟩
 by_cases hi:b∈hid
 ·rcases hh b o e hi with h | ⟨_,o',h⟩
  ·exact ⟨o,(N _ h).1⟩
  ·exact ⟨o',(N _ h).1⟩
 ·exact ⟨o,F.keep b o (hideAll_get _ e hi)⟩
theorem ext_step {g:Heap}{L:Addr}{m₂ m₃:Str→Option Value}{s₂:Shared}{h₃:Heap}{fr fp:List Addr}{news:List (Addr × Obj)}{tk:Nat}(F₂:Fr g L s₂.heap m₂) (F₃:Fr g L h₃ m₃) (N₃:News g L h₃ news)
  (hh:∀ a o,s₂.heap.get? a=some o→g.get? a=none→a=L∨(a,o)∈news∨(a∈fp∧∃ o',(a,o')∈news)):Ext fr (L :: fp) [] s₂ { s₂ with heap:=h₃,toks:=tk }:=by
 have key:∀ b o,s₂.heap.get? b=some o→(b=L∨b∈fp∨h₃.get? b=some o)∧∃ o',h₃.get? b=some o':=fun b o e=>by
  cases hg:g.get? b with
  | some o' =>
   have:=F₂.keep b o' hg
   rw [e] at this;cases this
   exact ⟨.inr (.inr (F₃.keep b o hg)),o,F₃.keep b o hg⟩
  | none =>
   rcases (hh b o e hg).imp_left Eq.symm with rfl | h | ⟨h,o',h'⟩
   ·refine xe3_2 F₃.ns fun oL _ _ hL _=>?_
    exact ⟨.inl rfl,oL,hL⟩
   ·exact ⟨.inr (.inr (N₃ _ h).1),o,(N₃ _ h).1⟩
   ·exact ⟨.inr (.inl h),o',(N₃ _ h').1⟩
 have kp:∀ b o,s₂.heap.get? b=some o→b ∉ L :: fp→h₃.get? b=some o:=fun b o e hb=>by
  rcases (key b o e).1 with h | h | h
  ·exact absurd (h▸.head _) hb
  ·exact absurd (.tail _ h) hb
  ·exact h
 exact ⟨fun b o e hb _=>kp b o e hb,fun b o e hb _=>⟨o.slots,kp b o e hb⟩,fun b o e=>(key b o e).2,fun _ _ e _=>e,Nat.le_refl _,rfl,rfl,id⟩
theorem fr_next {g:Heap}{L:Addr}{m:Str→Option Value}{s₁ s₂:Shared}{fr fp:List Addr}{gp:List Nat}(F:Fr g L s₁.heap m) (x:Ext fr fp gp s₁ s₂) (hL:L ∉ fp) (hg:∀ a∈fp,g.get? a=none) (hf:∀ a∈fr,a=L∨g.get? a=none):Fr g L s₂.heap m:=by
 refine ⟨x.ns F.ns hL,fun b o e=>?_,F.above⟩
 have hb:b ∉ fp:=fun q=>by rw [hg b q] at e;cases e
 by_cases hr:b∈fr
 ·rcases (hf b hr).imp_left Eq.symm with rfl | h
  ·have:=Heap.lt_size e;exact absurd this (Nat.not_lt.mpr F.above)
  ·rw [h] at e;cases e
 ·exact x.keep b o (F.keep b o e) hb hr
theorem funFrames_any {h base base':Heap}{l:List Env}:h.FunFrames base l→(∀ a∈frs l,base'.get? a=none)→h.FunFrames base' l:=by
 induction l with
 | nil=>exact fun _ _=>trivial
 | cons env r ih =>
  intro x hb
  obtain ⟨hk,⟨L,o,hf,_,ho,hd⟩,hr⟩:=x
  exact ⟨hk,(wi2_4 L o hf (hb L (by simp only [frs,List.filterMap_cons,hf];exact .head _)) ho hd),ih hr fun a ha=>hb a (by simp only [frs,List.filterMap_cons,hf];exact .tail _ ha)⟩
section
variable {G:Gr}{A:Around}{outer:List Env}{d u:Nat}{s:Shared}{env:Env}{L e:Addr}{Q:Unit→Shared→Prop}{E:Value→Shared→Prop}
theorem leave1 {M:Model}(c:Cx G A (env :: outer) d u s.heap) (hf:env.frame=some L) {ob:Obj}{vs:Array Value}(he:s.heap.get? e=some ob) (hd:ob.data=.fields vs) (h1:vs[1]?=some .none)
  (h:∀ h',Ext (frs (env :: outer)) [e] [] s { s with heap:=h' }→h'.Traced (hideAll s.heap (e :: frs (env :: outer))) e ob.cls→Q () { s with heap:=h' }):wpAny M A (leaving env (.ref e)) Q E s:=by
 have hb:∀ a∈frs (env :: outer),(hideAll s.heap (e :: frs (env :: outer))).get? a=none:=fun a ha=>hideAll_none _ (.tail _ ha)
 refine wpAny_leaving_first (base:=hideAll s.heap (e :: frs (env :: outer))) c.fr (funFrames_any c.ff hb) hf he (fun b o z=>of_hideAll _ z) (hideAll_none _ (.head _)) hd h1 fun h' hL=>?_
 refine xe0_4 hL fun k1 _ k3 k4=>?_
 have ne:∀ a∈frs (env :: outer),a≠e:=fun a ha q=>by
  apply hide;intro _ kι;obtain ⟨_,o,ho,hn⟩:=frs_old c.ff a ha;apply kι
  rw [q,he] at ho;cases ho;exact hn _ hd
 refine h h' ⟨fun b o z hb' hf'=>k1 b o (hideAll_get _ z fun q=>?_),fun b o z hb' hf'=>k4 b o z ?_,fun b o z=>?_,fun _ _ z _=>z,Nat.le_refl _,rfl,rfl,id⟩ k3
 ·rcases List.mem_cons.mp q with q | q
  ·exact hb' (q▸.head _)
  ·exact hf' q
 ·apply hide;intro _ kι;obtain ⟨_,o',ho,hn⟩:=frs_old c.ff b hf';apply kι
  rw [z] at ho;cases ho;exact hn
 ·by_cases q:b=e
  ·refine xe5_2 k3 fun oe _ _ _ _ hoe _=>?_
   exact ⟨oe,q▸hoe⟩
  ·by_cases q':b∈frs (env :: outer)
   ·apply hide;intro _ kι;obtain ⟨_,o',ho,hn⟩:=frs_old c.ff b q';apply kι
    rw [z] at ho;cases ho
    obtain ⟨sl,z'⟩:=k4 b o z hn
    exact ⟨_,z'⟩
   ·exact ⟨o,k1 b o (hideAll_get _ z fun w=>by rcases List.mem_cons.mp w with w | w;exact q w;exact q' w)⟩
end
noncomputable abbrev teeObj (R:Value) (S:Nat) (p:Int) (h1 h2 h3:Int) (t1 t2 t3 t4:Nat):Obj:=dictOf [⟨h1,.str (Str.ofString "_rest") t1,R⟩,⟨h2,.str (Str.ofString "_seen") t2,.ref S⟩,⟨h3,.str (Str.ofString "_place") t3,.int p t4⟩] 3
structure IsTee (h:Heap) (x dx:Nat) (R:Value) (S:Nat) (p:Int):Prop where
 at_:h.get? x=some (instObj 52 dx)
 di:∃ h1 h2 h3 t1 t2 t3 t4,h.get? dx=some (teeObj R S p h1 h2 h3 t1 t2 t3 t4)
theorem tee_read {G:Gr}{A:Around}{outer:List Env}{d u:Nat}{s:Shared}{x dx S n:Nat}{R:Value}{p:Int}{its:List Value}{v:Value}{Q E:Value→Shared→Prop}
  (c:Cx G A outer (d+1) u s.heap) (tee:IsTee s.heap x dx R S p) (seen:s.heap.get? S=some (W.listOf its.toArray n))
  (d1:@Ne Nat x dx) (d2:@Ne Nat x S) (d3:@Ne Nat dx S) (ob:∀ a∈[x,dx,S],G.base.get? a=none) (h0:0≤p) (hv:its[p.toNat]?=some v) (hl:its.length < 1000)
  (post:∀ s',Ext (frs outer) [dx] [] s s'→IsTee s'.heap x dx R S (p+1)→Q v s'):wpAny (model PR G.w) A (call (.ref 49) [.ref x]) Q E s:=by
 have:=@on "sub"
 apply hide;intro _ kι;obtain ⟨o1,h1,h2,h3,t1,t2,t3,t4,o2⟩:=tee;apply kι
 have hb:∀ a∈x :: dx :: S :: frs outer,G.base.get? a=none:=fq (ob _ zm0) (fq (ob _ zm1) (fq (ob _ zm2) (fun a ha=>(frs_old c.ff a ha).1)))
 have X:=c.inK hb
 have T:=c.top hb
 refine wpAny_call (ent X c.nolimit (by k_is) (by k_is) (by have:=c.dp;exact zq2 this) (BindsTo.of_eq rfl) (locs rfl) ?_)
 intro h₁ F hk
 refine xe1_3 (ledger (s:=s.heap) (fr:=frs outer) (hid:=x :: dx :: S :: frs outer) (ex:=[(x,instObj 52 dx),(dx,teeObj R S p h1 h2 h3 t1 t2 t3 t4),(S,W.listOf its.toArray n)]) hk
  (fq o1 (fq o2 (fq seen fn0))) rfl (fun a ha=>let ⟨_,o,ho,_⟩:=frs_old c.ff a ha;⟨o,ho⟩)) fun rest N rne hr=>?_
 simp only [List.cons_append,List.nil_append] at N
 have r1:=rne x zp0
 have r2:=rne dx zp1
 have r3:=rne S zp2
 obtain ⟨k,hsz⟩:∃ k,its.toArray.size=k:=⟨_,rfl⟩
 have hlk:its.length=k:=by simpa using hsz
 have hlt:p < (k:Int):=by have:=(List.getElem?_eq_some_iff.mp hv).1;exact Int.lt_of_le_of_lt (Int.self_le_toNat _) (Int.ofNat_lt.2 (hlk▸this))
 have hne:(p == (k:Int))=false:=by simp;exact Int.ne_of_lt hlt
 have hv':its[(p+1 - 1).toNat]?=some v:=by rw [Int.add_sub_cancel];exact hv
 clear hk hv rne
 dsimp only
 k_steps
 refine kim_list (by k_asm) (by k_dflt k_mem) rfl rfl (by omega) (by omega) (by with_reducible assumption) ?_
 k_steps
 refine post _ (ext_fr (hid:=x :: dx :: S :: frs outer) (by k_asm) (by k_asm) ?_) ⟨News.get (by k_asm) (by k_mem),(xi7 _ _ _ _ _ _ _ (News.get (by k_asm) (by k_mem)))⟩
 intro a o ha hm
 rcases hr a o ha hm with h | h
 ·simp only [List.map_cons,List.map_nil,List.mem_cons,List.not_mem_nil,or_false] at h
  rcases h with h | h | h <;> replace h:=h.symm <;> subst h
  ·rw [o1] at ha;(replace ha:=Eq.symm ha;cases ha);exact .inl (by k_mem)
  ·exact .inr ⟨zm0,_,by k_mem⟩
  ·rw [seen] at ha;cases ha;exact .inl (by k_mem)
 ·exact .inl (.tail _ (.tail _ (.tail _ h)))
noncomputable def Draws (G:Gr) (outer:List Env) (d u:Nat) (R:Value) (s:Shared) (Q E:List Env→Shared→Value→Shared→Prop):Prop :=
 ∀ A' env s₁,Cx G A' (env :: outer) d u s₁.heap→env.frame=some s.heap.objs.size→Ext (frs outer) [] [] s s₁ →
  wpAny (model PR G.w) A' (call (.builtin "next") [R]) (Q (env :: outer) s₁) (E (env :: outer) s₁) s₁
theorem tee_draw {G:Gr}{A:Around}{outer:List Env}{d u:Nat}{s:Shared}{x dx S n:Nat}{r:Nat}{its:List Value}{fpS:List Addr}{gpS:List Nat}{J:Shared→Value→Shared→Prop}{Q E:Value→Shared→Prop}
  (c:Cx G A outer (d+1) (u+3) s.heap) (tee:IsTee s.heap x dx (.ref r) S (its.length:Nat)) (seen:s.heap.get? S=some (W.listOf its.toArray n))
  (d1:@Ne Nat x dx) (d2:@Ne Nat x S) (d3:@Ne Nat dx S) (ob:∀ a∈[x,dx,S],G.base.get? a=none) (of:∀ a∈[x,dx,S],a ∉ frs outer) (hl:its.length < 1000)
  (sx:∀ a∈fpS,a≠x∧a≠dx∧a≠S∧G.base.get? a=none∧∃ o,s.heap.get? a=some o)
  (src:Draws G outer d u (.ref r) s (fun o' s₁ v s₂=>Ext (frs o') fpS gpS s₁ s₂∧J s₁ v s₂) (fun _ _ _ _=>False))
  (post:∀ v s₁ s₂ s₃ n' l,J s₁ v s₂→Ext (frs outer) [] [] s s₁→(∃ o,s₁.heap.get? l=some o)→s.heap.get? l=none→Ext (frs outer) [l,S,dx] [] s₂ s₃→Ext (frs outer) (S :: dx :: fpS) gpS s s₃→IsTee s₃.heap x dx (.ref r) S ((its.length:Nat)+1)→s₃.heap.get? S=some (W.listOf (its++[v]).toArray n')→Q v s₃):wpAny (model PR G.w) A (call (.ref 49) [.ref x]) Q E s:=by
 have:=@on "sub"
 apply hide;intro _ kι;obtain ⟨o1,h1,h2,h3,t1,t2,t3,t4,o2⟩:=tee;apply kι
 have hb:∀ a∈x :: dx :: S :: (fpS++frs outer),G.base.get? a=none:=fq (ob _ zm0) (fq (ob _ zm1) (fq (ob _ zm2) (fun a ha=>(List.mem_append.mp ha).elim (fun h=>(sx a h).2.2.2.1) fun h=>(frs_old c.ff a h).1)))
 have X:=c.inK hb
 have T:=c.top hb
 refine wpAny_call (ent X c.nolimit (by k_is) (by k_is) (by have:=c.dp;exact zq2 this) (BindsTo.of_eq rfl) (locs rfl) ?_)
 intro h₁ F hk
 refine xe1_3 (ledger (s:=s.heap) (fr:=fpS++frs outer) (hid:=x :: dx :: S :: (fpS++frs outer)) (ex:=[(x,instObj 52 dx),(dx,teeObj (.ref r) S (its.length:Nat) h1 h2 h3 t1 t2 t3 t4),(S,W.listOf its.toArray n)]) hk
  (fq o1 (fq o2 (fq seen fn0))) rfl (fun a ha=>(List.mem_append.mp ha).elim (fun h=>(sx a h).2.2.2.2) fun h=>let ⟨_,o,ho,_⟩:=frs_old c.ff a h;⟨o,ho⟩)) fun rest N rne hr=>?_
 simp only [List.cons_append,List.nil_append] at N
 have r1:=rne x zp0
 have r2:=rne dx zp1
 have r3:=rne S zp2
 obtain ⟨k,hsz⟩:∃ k,its.toArray.size=k:=⟨_,rfl⟩
 have hlk:its.length=k:=by simpa using hsz
 have hne:(((its.length:Nat):Int) == (k:Int))=true:=by rw [hlk];simp
 dsimp only
 k_steps
 have nL:∀ a o,s.heap.get? a=some o→a≠s.heap.objs.size:=fun a o e=>Nat.ne_of_lt (Heap.lt_size e)
 refine wpAny_mono (src _ _ _ (c.inner F hb (fun a ha=>let ⟨_,o,ho,_⟩:=frs_old c.ff a ha;(wi1_2 o ho ⟨o.slots,hk _ _ ho⟩)) rfl rfl) rfl (Ext.more hk)) (fun v s₂ hv=>?_) (fun _ _ z=>z.elim)
 obtain ⟨x₂,hJ⟩:=hv
 have frm:∀ {env:Env},env.frame=some s.heap.objs.size→∀ a,a∈frs (env :: outer)→a=s.heap.objs.size∨a∈frs outer:=fun he a ha=>by
  simp only [frs,List.filterMap_cons,he] at ha;exact List.mem_cons.mp ha
 have kp:∀ a∈[x,dx,S],∀ o,s.heap.get? a=some o→s₂.heap.get? a=some o:=fun a ha o e=>x₂.keep a o (hk a o e) (fun q=>by
  refine xe0_4 (sx a q) fun q1 q2 q3 _=>?_
  simp only [List.mem_cons,List.not_mem_nil,or_false] at ha
  rcases ha with h | h | h
  ·exact q1 h
  ·exact q2 h
  ·exact q3 h) fun q=>(frm rfl a q).elim (nL a o e) (of a ha)
 have F₂:=fr_next F x₂ (fun q=>by obtain ⟨o,ho⟩:=(sx _ q).2.2.2.2;exact nL _ o ho rfl) (fun a ha=>hideAll_none _ (.tail _ (.tail _ (.tail _ (List.mem_append_left _ ha))))) (fun a ha=>(frm rfl a ha).imp id fun h=>hideAll_none _ (.tail _ (.tail _ (.tail _ (List.mem_append_right _ h)))))
 have N₂:News (hideAll s.heap (x :: dx :: S :: (fpS++frs outer))) s.heap.objs.size s₂.heap ((x,instObj 52 dx) :: (dx,teeObj (.ref r) S (its.length:Nat) h1 h2 h3 t1 t2 t3 t4) :: (S,W.listOf its.toArray n) :: restOf s₂.heap (hideAll s.heap (x :: dx :: S :: (fpS++frs outer))) [s.heap.objs.size,x,dx,S]) :=
  news_cons (news_cons (news_cons (restOf_news zm0) (kp S zm2 _ seen) (nL _ _ seen) (hideAll_none _ zm2)) (kp dx zm1 _ o2) (nL _ _ o2) (hideAll_none _ zm1)) (kp x zm0 _ o1) (nL _ _ o1) (hideAll_none _ zm0)
 have q1:=restOf_ne (h:=s₂.heap) (g:=hideAll s.heap (x :: dx :: S :: (fpS++frs outer))) (ex:=[s.heap.objs.size,x,dx,S]) (e:=x) zm1
 have q2:=restOf_ne (h:=s₂.heap) (g:=hideAll s.heap (x :: dx :: S :: (fpS++frs outer))) (ex:=[s.heap.objs.size,x,dx,S]) (e:=dx) zm2
 have q3:=restOf_ne (h:=s₂.heap) (g:=hideAll s.heap (x :: dx :: S :: (fpS++frs outer))) (ex:=[s.heap.objs.size,x,dx,S]) (e:=S) zm3
 have hr₂:∀ a o,s₂.heap.get? a=some o→(hideAll s.heap (x :: dx :: S :: (fpS++frs outer))).get? a=none→a=s.heap.objs.size∨a=x∨a=dx∨a=S∨(a,o)∈restOf s₂.heap (hideAll s.heap (x :: dx :: S :: (fpS++frs outer))) [s.heap.objs.size,x,dx,S]:=fun a o e eg=>by
  by_cases e0:a=s.heap.objs.size;· exact .inl e0
  by_cases e1:a=x;· exact .inr (.inl e1)
  by_cases e2:a=dx;· exact .inr (.inr (.inl e2))
  by_cases e3:a=S;· exact .inr (.inr (.inr (.inl e3)))
  exact .inr (.inr (.inr (.inr (mem_restOf.mpr (yi3 e eg (by simp [e0,e1,e2,e3]))))))
 generalize restOf s₂.heap (hideAll s.heap (x :: dx :: S :: (fpS++frs outer))) [s.heap.objs.size,x,dx,S]=rest₂ at N₂ q1 q2 q3 hr₂
 have hv':(its++[v])[(((its.length:Nat):Int)+1 - 1).toNat]?=some v:=by rw [Int.add_sub_cancel];simp
 have F₀:True→_:=fun _=>F
 have F₂k:True→_:=fun _=>F₂
 clear N r1 r2 r3 hr rne F
 have F:=F₂
 have N:=N₂
 have r1:=q1
 have r2:=q2
 have r3:=q3
 try dsimp only
 k_steps
 refine kim_list (by k_asm) (by k_dflt k_mem) rfl rfl (by omega) (by omega) (by with_reducible assumption) ?_
 k_steps
 have fL:s.heap.get? s.heap.objs.size=none:=Heap.get?_none_of_le (Nat.le_refl _)
 have e2:Ext (frs outer) (S :: dx :: fpS) gpS s s₂:=(Ext.more (fr:=frs outer) (fp:=S :: dx :: fpS) (gp:=gpS) hk).trans (x₂.weak (fr':=frs outer) (fp'':=s.heap.objs.size :: fpS) (gp'':=gpS) (fun b hb=>.inl (.tail _ hb)) (fun _ h=>.inl h) (fun b hb=>(frm rfl b hb).elim (fun h=>.inr (.inl (h▸.head _))) .inl)) (fun b hb=>(List.mem_cons.mp hb).elim (fun h=>.inr (h▸fL)) fun h=>.inl (.tail _ (.tail _ h))) (fun _ h=>.inl h)
 refine xe3_2 ((F₀ trivial).ns) fun oL _ _ hoL _=>?_
 refine post v _ s₂ _ _ s.heap.objs.size hJ (Ext.more hk) ⟨oL,hoL⟩ fL ?e23 ?tot ⟨News.get (by k_asm) (by k_mem),_,_,_,_,_,_,_,News.get (by k_asm) (by k_mem)⟩ (News.get (by k_asm) (by k_mem))
 case e23 =>
  refine ext_step (F₂k trivial) (by k_asm) (by k_asm) fun a o e eg=>?_
  rcases hr₂ a o e eg with h | rfl | rfl | rfl | h
  ·exact .inl h
  ·rw [kp a zm0 _ o1] at e;cases e;exact .inr (.inl (by k_mem))
  ·exact .inr (.inr ⟨zm1,_,by k_mem⟩)
  ·exact .inr (.inr ⟨zm0,_,by k_mem⟩)
  ·exact .inr (.inl (.tail _ (.tail _ (.tail _ h))))
 case tot =>
  refine e2.trans (fp':=[s.heap.objs.size,S,dx]) (gp':=[]) (ext_step (F₂k trivial) (by k_asm) (by k_asm) fun a o e eg=>?_) (fun b hb=>?_) fn0
  ·rcases hr₂ a o e eg with h | rfl | rfl | rfl | h
   ·exact .inl h
   ·rw [kp a zm0 _ o1] at e;cases e;exact .inr (.inl (by k_mem))
   ·exact .inr (.inr ⟨zm1,_,by k_mem⟩)
   ·exact .inr (.inr ⟨zm0,_,by k_mem⟩)
   ·exact .inr (.inl (.tail _ (.tail _ (.tail _ h))))
  ·simp only [List.mem_cons,List.not_mem_nil,or_false] at hb
   rcases hb with hb | hb | hb <;> replace hb:=hb.symm <;> subst hb
   ·exact .inr fL
   ·exact .inl (.head _)
   ·exact .inl (.tail _ (.head _))
theorem ledger2 {g:Heap}{L:Addr}{h:Heap}{ex:List (Addr × Obj)}(ha:∀ p∈ex,h.get? p.1=some p.2∧p.1≠L∧g.get? p.1=none) :
  ∃ rest,News g L h (ex++rest)∧(∀ e∈ex.map (·.1),∀ p∈rest,p.1≠e)∧∀ b o,h.get? b=some o→g.get? b=none→b=L∨b∈ex.map (·.1)∨(b,o)∈rest:=by
 refine (wi1_3 (restOf h g (L :: ex.map (·.1))) (fun p hp=>?_) (fun e he=>restOf_ne (.tail _ he)) (fun b o hb hg=>?_))
 ·rcases List.mem_append.mp hp with hp | hp
  ·exact ha p hp
  ·exact restOf_news (.head _) p hp
 ·by_cases e0:b=L
  ·exact .inl e0
  ·by_cases e:b∈ex.map (·.1)
   ·exact .inr (.inl e)
   ·exact .inr (.inr (mem_restOf.mpr (yi3 hb hg (fun q=>by rcases List.mem_cons.mp q with q | q;exact e0 q;exact e q))))
theorem ext_led {g:Heap}{L:Addr}{m₂ m₃:Str→Option Value}{s₂:Shared}{h₃:Heap}{fr fp:List Addr}{ex rest news:List (Addr × Obj)}{tk:Nat}(F₂:Fr g L s₂.heap m₂) (F₃:Fr g L h₃ m₃) (N₃:News g L h₃ news)
  (hr:∀ b o,s₂.heap.get? b=some o→g.get? b=none→b=L∨b∈ex.map (·.1)∨(b,o)∈rest) (hx:∀ p∈ex,s₂.heap.get? p.1=some p.2∧(p∈news∨(p.1∈fp∧∃ o',(p.1,o')∈news))) (hrest:∀ p∈rest,p∈news):Ext fr (L :: fp) [] s₂ { s₂ with heap:=h₃,toks:=tk }:=by
 refine ext_step F₂ F₃ N₃ fun a o e eg=>?_
 rcases hr a o e eg with h | h | h
 ·exact .inl h
 ·(refine xe1_2 (List.mem_map.mp h) ?_;rintro p hp rfl)
  obtain ⟨z,y⟩:=hx p hp
  rw [e] at z;cases z
  exact .inr y
 ·exact .inr (.inl (hrest _ h))
noncomputable def Raw (e:Addr) (h:Heap):Prop:=∃ ob vs,h.get? e=some ob∧ob.cls=.type "StopIteration"∧ob.data=.fields vs∧vs[1]?=some .none
theorem raw_of {h h':Heap}{e:Addr}(x:Heap.NewExc h h' e "StopIteration"):Raw e h':=by
 refine xe2_3 x.there fun ob t h1 h2 h3=>?_
 exact ⟨ob,_,h1,h2,h3,rfl⟩
theorem frs_cons {env:Env}{outer:List Env}{L:Addr}(he:env.frame=some L) (a:Addr) (ha:a∈frs (env :: outer)):a=L∨a∈frs outer:=by
 simp only [frs,List.filterMap_cons,he] at ha;exact List.mem_cons.mp ha
theorem tee_stop {G:Gr}{A:Around}{outer:List Env}{d u:Nat}{s:Shared}{x dx S n r:Nat}{its:List Value}{fpS:List Addr}{gpS:List Nat}{J:Shared→Shared→Prop}{Q E:Value→Shared→Prop}
  (c:Cx G A outer (d+1) (u+3) s.heap) (tee:IsTee s.heap x dx (.ref r) S (its.length:Nat)) (seen:s.heap.get? S=some (W.listOf its.toArray n))
  (d1:@Ne Nat x dx) (d2:@Ne Nat x S) (d3:@Ne Nat dx S) (ob:∀ a∈[x,dx,S],G.base.get? a=none) (hl:its.length < 1000)
  (sx:∀ a∈fpS,a ∉ frs outer∧G.base.get? a=none∧∃ o,s.heap.get? a=some o)
  (src:Draws G outer d u (.ref r) s (fun _ _ _ _=>False) (fun o' s₁ v s₂=>∃ e,v=.ref e∧Ext (frs o') fpS gpS s₁ s₂∧Raw e s₂.heap∧s₁.heap.get? e=none∧J s₁ s₂))
  (post:∀ e s₁ s₂ s₃ l,J s₁ s₂→Ext (frs outer) [] [] s s₁→(∃ o,s₁.heap.get? l=some o)→s.heap.get? l=none→s₁.heap.get? e=none→Ext (l :: frs outer) [e] [] s₂ s₃→Ext (frs outer) fpS gpS s s₃→Stops (.ref e) s₃→(s₃.heap.Traced (hideAll s₂.heap (e :: l :: frs outer)) e (.type "StopIteration")∧∀ b∈l :: frs outer,∃ ob,s₂.heap.get? b=some ob∧∀ vs,ob.data≠.fields vs)→E (.ref e) s₃):wpAny (model PR G.w) A (call (.ref 49) [.ref x]) Q E s:=by
 apply hide;intro _ kι;obtain ⟨o1,h1,h2,h3,t1,t2,t3,t4,o2⟩:=tee;apply kι
 have hb:∀ a∈x :: dx :: S :: (fpS++frs outer),G.base.get? a=none:=fq (ob _ zm0) (fq (ob _ zm1) (fq (ob _ zm2) (fun a ha=>(List.mem_append.mp ha).elim (fun h=>(sx a h).2.1) fun h=>(frs_old c.ff a h).1)))
 have X:=c.inK hb
 have T:=c.top hb
 refine wpAny_call (ent X c.nolimit (by k_is) (by k_is) (by have:=c.dp;exact zq2 this) (BindsTo.of_eq rfl) (locs rfl) ?_)
 intro h₁ F hk
 refine xe1_3 (ledger (s:=s.heap) (fr:=fpS++frs outer) (hid:=x :: dx :: S :: (fpS++frs outer)) (ex:=[(x,instObj 52 dx),(dx,teeObj (.ref r) S (its.length:Nat) h1 h2 h3 t1 t2 t3 t4),(S,W.listOf its.toArray n)]) hk
  (fq o1 (fq o2 (fq seen fn0))) rfl (fun a ha=>(List.mem_append.mp ha).elim (fun h=>(sx a h).2.2) fun h=>let ⟨_,o,ho,_⟩:=frs_old c.ff a h;⟨o,ho⟩)) fun rest N rne hr=>?_
 simp only [List.cons_append,List.nil_append] at N
 obtain ⟨k,hsz⟩:∃ k,its.toArray.size=k:=⟨_,rfl⟩
 have hlk:its.length=k:=by simpa using hsz
 have hne:(((its.length:Nat):Int) == (k:Int))=true:=by rw [hlk];simp
 dsimp only
 k_steps
 have ci:=fun (env:Env) (q1:env.frame=some s.heap.objs.size) (q2:env.scope.kind=.function)=>c.inner (env:=env) F hb (fun a ha=>let ⟨_,o,ho,_⟩:=frs_old c.ff a ha;(wi1_2 o ho ⟨o.slots,hk _ _ ho⟩)) q1 q2
 refine wpAny_mono (src _ _ _ (ci _ rfl rfl) rfl (Ext.more hk)) (fun _ _ z=>z.elim) (fun v s₂ hv=>?_)
 (refine hide fun Zq kZ=>?_;refine xe1_5 hv ?_;rintro e rfl x₂ ⟨obj,vs,he,hcl,hdat,hv1⟩ hn hJ;all_goals (refine kZ ?_;clear kZ Zq))
 have fL:s.heap.get? s.heap.objs.size=none:=Heap.get?_none_of_le (Nat.le_refl _)
 have c2:=Cx.next (s:={ s with heap:=h₁,toks:=_ }) (ci _ rfl rfl) x₂ (fun a ha=>(sx a ha).2.1) (fun a ha q=>(frs_cons rfl a q).elim (fun h=>by obtain ⟨o,ho⟩:=(sx a ha).2.2;rw [h,fL] at ho;cases ho) (sx a ha).1)
 refine leave1 c2 rfl he hdat hv1 fun h' x₃ tr=>?_
 have e2:Ext (frs outer) fpS gpS s s₂:=(Ext.more (fr:=frs outer) (fp:=fpS) (gp:=gpS) hk).trans (x₂.weak (fr':=frs outer) (fp'':=s.heap.objs.size :: fpS) (gp'':=gpS) (fun b hb=>.inl (.tail _ hb)) (fun _ h=>.inl h) (fun b hb=>(frs_cons rfl b hb).elim (fun h=>.inr (.inl (h▸.head _))) .inl)) (fun b hb=>(List.mem_cons.mp hb).elim (fun h=>.inr (h▸fL)) fun h=>.inl h) (fun _ h=>.inl h)
 have fe:s.heap.get? e=none:=(Ext.more (fr:=[]) (fp:=[]) (gp:=[]) (s:=s) (h':=h₁) (tk:=0) hk).fresh hn
 refine xe3_2 F.ns fun oL _ _ hoL _=>?_
 refine post e _ s₂ _ s.heap.objs.size hJ (Ext.more hk) ⟨oL,hoL⟩ fL hn (x₃.weak (fun b hb=>.inl hb) (fun _ h=>.inl h) (fun b hb=>.inl ((frs_cons rfl b hb).elim (fun h=>h▸.head _) (.tail _)))) ?_ ?_ ⟨hcl▸tr,fun b hb=>?_⟩
 ·exact e2.trans (x₃.weak (fr':=frs outer) (fp'':=[e,s.heap.objs.size]) (gp'':=[]) (fun b hb=>.inl (by simp at hb;simp [hb])) (fun _ h=>.inl h) (fun b hb=>(frs_cons rfl b hb).elim (fun h=>.inr (.inl (by simp [h]))) .inl)) (fq (.inr fe) (fq (.inr fL) fn0)) fn0
 ·refine xe5_3 tr fun oe _ _ _ _ hoe hoc _=>?_
  exact ⟨oe,hoe,hoc.trans hcl⟩
 ·apply hide;intro _ kι;obtain ⟨_,ob,e1,e2⟩:=frs_old c2.ff b (by simp only [frs,List.filterMap_cons] at hb ⊢;exact hb);apply kι
  exact (wi1_2 ob e1 e2)
theorem make_raw {prog:Program}{w:World}{A:Around}{K:Frag}{C fI:Addr}{s:Shared}{args:List Value}{Q E:Value→Shared→Prop}(X:K.In s.heap) (hm:makesIn K C=true) (hi:findIn K (.ref C) "__init__"=some (some (.ref fI))) (hf:isFn K (.ref fI)=true)
  (h:codeAny (model prog w) (A.under (.builtin "type.__call__" ⟨.ref C :: args,[]⟩)) (.call (.ref fI) ⟨.ref (s.heap.objs.size+1) :: args,[]⟩)
   (InitBack (s.heap.objs.size+1) fun r s'=>match r with | .ok (.ret v)=>Q v s' | .ok _=>False | .error e=>E e s') { s with heap:=(s.heap.push emptyDict).push (instObj C s.heap.objs.size) }) :
  wpAny (model prog w) A (call (.ref C) args) Q E s:=by
 apply hide;intro _ kι;obtain ⟨hh,g,d,t,os⟩:=s;apply kι
 exact wpAny_call (make_core (makes_of X hm) (looks_findIn X hi) (fun self=>bind_fn X self (beq_iff_eq.mp hf)) (.inl rfl) h)
structure Fresh2 (s:Shared) (s₁:Shared) (x dx C:Nat):Prop where
 nx:s.heap.get? x=none
 nd:s.heap.get? dx=none
 ox:s₁.heap.get? x=some (instObj C dx)
 od:s₁.heap.get? dx=some emptyDict
 ne:@Ne Nat x dx
 ext:∀ fr fp gp,Ext fr fp gp s s₁
theorem fresh2 (s:Shared) (C:Addr):Fresh2 s { s with heap:=(s.heap.push emptyDict).push (instObj C s.heap.objs.size) } (s.heap.objs.size+1) s.heap.objs.size C:=by
 refine ⟨Heap.get?_none_of_le (Nat.le_succ _),Heap.get?_none_of_le (Nat.le_refl _),?_,Heap.get?_push_of_some _ (Heap.get?_push_size _ rfl),Nat.succ_ne_self _,fun _ _ _=>Ext.more (tk:=s.toks) fun b o e=>Heap.get?_push_of_some _ (Heap.get?_push_of_some _ e)⟩
 have:=Heap.get?_push_size (h:=s.heap.push emptyDict) (o:=instObj C s.heap.objs.size) rfl
 rwa [Heap.size_push] at this
theorem Cx.make {G:Gr}{A:Around}{outer:List Env}{d u:Nat}{s s₁:Shared}(c:Cx G A outer (d+1) (u+1) s.heap) (C:Addr) (args:List Value) (x:Ext (frs outer) [] [] s s₁):Cx G (A.under (.builtin "type.__call__" ⟨.ref C :: args,[]⟩)) outer d u s₁.heap:=by
 have c':=c.next x fn0 fn0
 refine ⟨c'.st,c'.hd,?_,c'.ff,?_,?_⟩
 ·show pushEnvs [] A.frames=_;exact c'.fr
 ·show A.depth+1+d < _;have:=c.dp;exact zq32 this
 ·show A.units+1+u < _;have:=c.un;exact zq32 this
theorem tee_init {G:Gr}{A:Around}{outer:List Env}{d u:Nat}{s:Shared}{x dx S r:Nat}{p:Int}{t:Nat}{R:Result→Shared→Prop}
  (c:Cx G A outer (d+1) u s.heap) (o1:s.heap.get? x=some (instObj 52 dx)) (o2:s.heap.get? dx=some emptyDict) (d1:@Ne Nat x dx) (ob:∀ a∈[x,dx],G.base.get? a=none)
  (post:∀ s',Ext [] [dx] [] s s'→IsTee s'.heap x dx (.ref r) S p→R (.ok (.ret (.ref x))) s'):codeAny (model PR G.w) A (.call (.ref 35) ⟨[.ref x,.ref r,.ref S,.int p t],[]⟩) (InitBack x R) s:=by
 refine cx_openC c ?_;clear c;intro ad ag au c
 have hb:∀ a∈x :: dx :: frs outer,G.base.get? a=none:=fq (ob _ zm0) (fq (ob _ zm1) (fun a ha=>(frs_old c.ff a ha).1))
 have X:=c.inK hb
 have T:=c.top hb
 refine ent X c.nolimit (by k_is) (by k_is) (by have:=c.dp;dsimp only at this ⊢;exact zq2 this) (BindsTo.of_eq rfl) (locs rfl) ?_
 intro h₁ F hk
 refine xe1_3 (ledger (s:=s.heap) (fr:=frs outer) (hid:=x :: dx :: frs outer) (ex:=[(x,instObj 52 dx),(dx,dictOf [] 0)]) hk
  (fq o1 (fq o2 fn0)) rfl (fun a ha=>let ⟨_,o,ho,_⟩:=frs_old c.ff a ha;⟨o,ho⟩)) fun rest N rne hr=>?_
 simp only [List.cons_append,List.nil_append] at N
 have r1:=rne x zp0
 have r2:=rne dx zp1
 dsimp only
 k_steps
 refine ⟨rfl,post _ (ext_fr (hid:=x :: dx :: frs outer) (by k_asm) (by k_asm) ?_) ⟨News.get (by k_asm) (by k_mem),(xi7 _ _ _ _ _ _ _ (News.get (by k_asm) (by k_mem)))⟩⟩
 intro a o ha hm
 rcases hr a o ha hm with h | h
 ·simp only [List.map_cons,List.map_nil,List.mem_cons,List.not_mem_nil,or_false] at h
  rcases h with h | h <;> replace h:=h.symm <;> subst h
  ·rw [o1] at ha;cases ha;exact .inl (by k_mem)
  ·exact .inr ⟨zm0,_,by k_mem⟩
 ·exact .inl (by k_mem)
theorem mk_tee {G:Gr}{A:Around}{outer:List Env}{d u:Nat}{s:Shared}{S r:Nat}{p:Int}{t:Nat}{Q E:Value→Shared→Prop}(c:Cx G A outer (d+2) (u+1) s.heap)
  (post:∀ s' x dx,Ext [] [] [] s s'→s.heap.get? x=none→s.heap.get? dx=none→@Ne Nat x dx→IsTee s'.heap x dx (.ref r) S p→Q (.ref x) s'):wpAny (model PR G.w) A (call (.ref 52) [.ref r,.ref S,.int p t]) Q E s:=by
 have Y:=fresh2 s 52
 refine make_raw (G.X.keeps c.st) (by k_is) (by k_is) (by k_is) ?_
 have nb:∀ a,s.heap.get? a=none→G.base.get? a=none:=fun a e=>by
  cases q:G.base.get? a with
  | none=>rfl
  | some o=>rw [c.st a o q] at e;exact nsf e.symm
 refine tee_init (d:=d) (u:=u) (Cx.make c 52 _ (Y.ext _ _ _)) Y.ox Y.od Y.ne (fq (nb _ Y.nx) (fq (nb _ Y.nd) fn0)) fun s' x₁ it=>?_
 exact post s' _ _ ((Y.ext _ _ _).trans x₁ (fun b hb=>.inr (by simp at hb;exact hb▸Y.nd)) fn0) Y.nx Y.nd Y.ne it
theorem biter_of {prog:Program}{w:World}{A:Around}{s:Shared}{v:Value}{Q E:Value→Shared→Prop}(h:wpAny (model prog w) A.in1 (pyIter v) Q E s):wpAny (model prog w) A (call (.builtin "iter") [v]) Q E s:=by
 refine call_function_entry (b:=Builtin.«iter») (by decide +kernel) (by decide +kernel) (entryFor_of_fast (by kernel_rfl)) (by unfold argsOk;kernel_rfl) ?_
 unfold Builtin.«iter»
 refine wpAny_bind (m:=someArgs "iter" 1 2 ⟨[v],[]⟩) (wpAny_of_eq (a:=[v]) (by rfl) ?_)
 exact wpAny_bind (wpAny_mono h (fun r s' hr=>wpAny_pure (wi1_2 r rfl hr)) fun _ _ z=>z)
theorem k_after {g:Heap}{L:Addr}{m:Str→Option Value}{s₁ s₂:Shared}{news:List (Addr × Obj)}(F:Fr g L s₁.heap m) (N:News g L s₁.heap news) (x:Ext [] [] [] s₁ s₂):Fr g L s₂.heap m∧News g L s₂.heap news :=
 ⟨fr_next F x fnm fn0 fn0,fun p hp=>⟨x.keep _ _ (N p hp).1 fnm fnm,(N p hp).2⟩⟩
theorem k_new {g:Heap}{L:Addr}{m:Str→Option Value}{s₁:Shared}{h₂:Heap}{a:Addr}{o:Obj}{news:List (Addr × Obj)}(F:Fr g L s₁.heap m) (N:News g L h₂ news) (e:s₁.heap.get? a=none) (ho:h₂.get? a=some o):News g L h₂ ((a,o) :: news):=by
 refine news_cons N ho (fun q=>?_) ?_
 ·refine xe3_2 F.ns fun oL _ _ hL _=>?_;rw [q,hL] at e;exact nsf e.symm
 ·cases q:g.get? a with
  | none=>rfl
  | some o'=>rw [F.keep a o' q] at e;exact nsf e.symm
structure GE (gp:List Nat) (s s':Shared):Prop where
 gkeep:∀ g x,s.gens[g]?=some x→g ∉ gp→s'.gens[g]?=some x
 gsize:s.gens.size≤s'.gens.size
 drawn:s'.drawn=s.drawn
 os:s'.os=s.os
 bare:AllBare s.gens→AllBare s'.gens
theorem Ext.ge {fr fp:List Addr}{gp:List Nat}{s s':Shared}(x:Ext fr fp gp s s'):GE gp s s':=⟨x.gkeep,x.gsize,x.drawn,x.os,x.bare⟩
theorem Ext.ge' {fr fp:List Addr}{gp:List Nat}{s s':Shared}{h:Heap}{t:Nat}(x:Ext fr fp gp ⟨h,s.gens,s.drawn,t,s.os⟩ s'):GE gp s s':=⟨x.gkeep,x.gsize,x.drawn,x.os,x.bare⟩
theorem GE.refl (gp:List Nat) (s:Shared):GE gp s s:=⟨fun _ _ e _=>e,Nat.le_refl _,rfl,rfl,id⟩
theorem GE.trans {gp gp':List Nat}{s s' s'':Shared}(x:GE gp s s') (y:GE gp' s' s'') (hg:∀ g∈gp',g∈gp∨s.gens.size≤g):GE gp s s'' :=
 ⟨fun g v e hb=>y.gkeep g v (x.gkeep g v e hb) fun hc=>(hg g hc).elim hb fun z=>absurd (Array.getElem?_eq_some_iff.mp e).1 (Nat.not_lt.mpr z),Nat.le_trans x.gsize y.gsize,y.drawn.trans x.drawn,y.os.trans x.os,fun z=>y.bare (x.bare z)⟩
theorem ext_fr2 {s s₂:Shared}{fr hid fp:List Addr}{gp:List Nat}{m:Str→Option Value}{news:List (Addr × Obj)}{h':Heap}{tk:Nat}(x:GE gp s s₂)
  (F:Fr (hideAll s.heap hid) s.heap.objs.size h' m) (N:News (hideAll s.heap hid) s.heap.objs.size h' news)
  (hh:∀ a o,s.heap.get? a=some o→a∈hid→(a,o)∈news∨(a∈fp∧∃ o',(a,o')∈news)):Ext fr fp gp s { s₂ with heap:=h',toks:=tk }:=by
 have y:=ext_fr (fr:=fr) (tk:=tk) F N hh
 exact ⟨y.keep,y.slot,y.there,x.gkeep,x.gsize,x.drawn,x.os,x.bare⟩
theorem hid_of {h:Heap}{hid:List Addr}{a:Addr}{o:Obj}(e:(hideAll h hid).get? a=none) (ho:h.get? a=some o):a∈hid:=by
 by_cases q:a∈hid
 ·exact q
 ·rw [hideAll_get _ ho q] at e;exact nsf e.symm
theorem allLt_mem {d:Addr}{l:List (Addr × Obj)}:AllLt d l→∀ p∈l,p.1 < d:=by
 induction l with
 | nil=>intro _ p hp;cases hp
 | cons q r ih =>
  intro h p hp
  rcases (List.mem_cons.mp hp).imp_left Eq.symm with rfl | hp
  ·exact h.1
  ·exact ih h.2 p hp
theorem new_in {s:Shared}{hid:List Addr}{L a:Addr}{h':Heap}{o':Obj}{ex rest news:List (Addr × Obj)}(N:News (hideAll s.heap hid) L h' news) (hm:(a,o')∈news)
  (hr:∀ b o,s.heap.get? b=some o→b∈hid→b∈ex.map (·.1)∨(b,o)∈rest) (hx:∀ p∈ex,p.1 < a) (hl:AllLt a rest):s.heap.get? a=none:=by
 cases q:s.heap.get? a with
 | none=>rfl
 | some o =>
  rcases hr a o q (hid_of (N _ hm).2.2 q) with h | h
  ·refine xe1_2 (List.mem_map.mp h) fun p hp e=>?_
   exact absurd (hx p hp) (by rw [e];exact Nat.lt_irrefl _)
  ·exact absurd (allLt_mem hl _ h) (Nat.lt_irrefl _)
theorem tee_again {G:Gr}{A:Around}{outer:List Env}{d u:Nat}{s:Shared}{x dx S r:Nat}{p:Int}{Q E:Value→Shared→Prop}
  (c:Cx G A outer (d+3) (u+4) s.heap) (tee:IsTee s.heap x dx (.ref r) S p) (d1:@Ne Nat x dx) (ob:∀ a∈[x,dx],G.base.get? a=none)
  (post:∀ s' t x' dx' n,Ext [] [] [] s s'→(∀ a∈[t,x',dx'],s.heap.get? a=none)→IsTee s'.heap x' dx' (.ref r) S p→@Ne Nat x' dx'→s'.heap.get? t=some { cls:=.type "tuple",data:=.seq #[.ref x,.ref x'] n }→Q (.ref t) s'):wpAny (model PR G.w) A (call (.ref 63) [.ref x]) Q E s:=by
 refine cx_open c ?_;clear c;intro ad ag au c
 apply hide;intro _ kι;obtain ⟨o1,h1,h2,h3,t1,t2,t3,t4,o2⟩:=tee;apply kι
 have hb:∀ a∈x :: dx :: frs outer,G.base.get? a=none:=fq (ob _ zm0) (fq (ob _ zm1) (fun a ha=>(frs_old c.ff a ha).1))
 have X:=c.inK hb
 have T:=c.top hb
 refine wpAny_call (ent X c.nolimit (by k_is) (by k_is) (by have:=c.dp;dsimp only at this ⊢;exact zq17 this) (BindsTo.of_eq rfl) (locs rfl) ?_)
 intro h₁ F hk
 refine xe1_3 (ledger (s:=s.heap) (fr:=frs outer) (hid:=x :: dx :: frs outer) (ex:=[(x,instObj 52 dx),(dx,teeObj (.ref r) S p h1 h2 h3 t1 t2 t3 t4)]) hk
  (fq o1 (fq o2 fn0)) rfl (fun a ha=>let ⟨_,o,ho,_⟩:=frs_old c.ff a ha;⟨o,ho⟩)) fun rest N rne hr=>?_
 simp only [List.cons_append,List.nil_append] at N
 have r1:=rne x zp0
 have r2:=rne dx zp1
 dsimp only
 k_steps
 have ci:=fun (env:Env) (q1:env.frame=some s.heap.objs.size) (q2:env.scope.kind=.function)=>Cx.inner (d:=d+2) (u:=u+1) (env:=env) c F hb (fun a ha=>let ⟨_,o,ho,_⟩:=frs_old c.ff a ha;(wi1_2 o ho ⟨o.slots,hk _ _ ho⟩)) q1 q2
 refine mk_tee (G:=G) (ci _ rfl rfl) fun s₂ x' dx' x₂ fx fd ne it=>?_
 obtain ⟨F₂,N₂⟩:=k_after (s₁:={ s with heap:=h₁,toks:=_ }) F N x₂
 obtain ⟨i1,i2⟩:=it
 refine xe7_1 i2 fun h1' h2' h3' t1' t2' t3' t4' i2=>?_
 have N₃:=k_new (s₁:={ s with heap:=h₁,toks:=_ }) F (k_new (s₁:={ s with heap:=h₁,toks:=_ }) F N₂ fd i2) fx i1
 have F₀:True→_:=fun _=>F
 clear F N N₂
 k_steps
 have e1:Ext [] [] [] s s₂:=(Ext.more (fr:=[]) (fp:=[]) (gp:=[]) hk).trans x₂ fn0 fn0
 have e0:=Ext.more (fr:=[]) (fp:=[]) (gp:=[]) (s:=s) (tk:=s.toks) hk
 refine post _ _ x' dx' _ (ext_fr2 (hid:=x :: dx :: frs outer) e1.ge (by k_asm) (by k_asm) ?ext) ?fr ⟨News.get (by k_asm) (by k_mem),_,_,_,_,_,_,_,News.get (by k_asm) (by k_mem)⟩ ne (News.get (by k_asm) (by k_mem))
 case ext =>
  intro a o ha hm
  rcases hr a o ha hm with h | h
  ·simp only [List.map_cons,List.map_nil,List.mem_cons,List.not_mem_nil,or_false] at h
   rcases h with h | h <;> replace h:=h.symm <;> subst h
   ·rw [o1] at ha;cases ha;exact .inl (by k_mem)
   ·rw [o2] at ha;cases ha;exact .inl (by k_mem)
  ·exact .inl (by k_mem)
 case fr =>
  refine fq (?_) (fq (e0.fresh fx) (fq (e0.fresh fd) fn0))
  rename _ < _∧_=>l1
  refine new_in (by k_asm) (by k_mem) hr ?_ l1.2.2.2.2
  exact fq l1.2.2.1 (fq l1.2.2.2.1 fn0)
noncomputable abbrev pairObj (x y:Nat) (n:Nat):Obj:={ cls:=.type "tuple",data:=.seq #[.ref x,.ref y] n }
noncomputable abbrev genObj (g:Nat) (nm qn:Value):Obj:={ cls:=.type "generator",data:=.fields #[.int g 0,nm,qn] }
theorem kf_of {s:Shared}{outer:List Env}{G:Gr}{A:Around}{d u:Nat}(c:Cx G A outer d u s.heap) {hid:List Addr}{ex rest news:List (Addr × Obj)}{g h:Heap}{L:Addr}(hr:∀ b o,s.heap.get? b=some o→b∈hid→b∈ex.map (·.1)∨(b,o)∈rest) (hf:∀ a∈frs outer,a∈hid)
  (N:News g L h news) (hx:∀ p∈ex,s.heap.get? p.1=some p.2∧p∈news) (hrest:∀ p∈rest,p∈news):∀ a∈frs outer,∃ o,s.heap.get? a=some o∧∃ sl,h.get? a=some { o with slots:=sl }:=fun a ha=>by
 apply hide;intro _ kι;obtain ⟨_,o,ho,_⟩:=frs_old c.ff a ha;apply kι
 refine (wi1_2 o ho ⟨o.slots,?_⟩)
 rcases hr a o ho (hf a ha) with h' | h'
 ·refine xe1_2 (List.mem_map.mp h') fun p hp e=>?_
  obtain ⟨z,y⟩:=hx p hp
  rw [e,ho] at z;(replace z:=Eq.symm z;cases z)
  exact e▸(N p y).1
 ·exact (N _ (hrest _ h')).1
theorem news_fresh {g h:Heap}{L a:Addr}{news:List (Addr × Obj)}(N:News g L h news) (e:h.get? a=none):∀ p∈news,p.1≠a:=fun p hp q=>by
 have:=(N p hp).1;rw [q,e] at this;exact nsf this
theorem mk_teeK {G:Gr}{A:Around}{outer:List Env}{d u:Nat}{s s₁:Shared}{hid:List Addr}{ex rest news:List (Addr × Obj)}{m:Str→Option Value}{env:Env}{S r:Nat}{p:Int}{t:Nat}{Q E:Value→Shared→Prop}
  (c:Cx G A outer (d+3) (u+4) s.heap) (hb:∀ a∈hid,G.base.get? a=none) (hr:∀ b o,s.heap.get? b=some o→b∈hid→b∈ex.map (·.1)∨(b,o)∈rest) (hf:∀ a∈frs outer,a∈hid)
  (F:Fr (hideAll s.heap hid) s.heap.objs.size s₁.heap m) (N:News (hideAll s.heap hid) s.heap.objs.size s₁.heap news) (hx:∀ p∈ex,s.heap.get? p.1=some p.2∧p∈news) (hrest:∀ p∈rest,p∈news) (e1:env.frame=some s.heap.objs.size) (e2:env.scope.kind=.function)
  (h:∀ s₂ x dx h1 h2 h3 t1 t2 t3 t4,Ext [] [] [] s₁ s₂→Fr (hideAll s.heap hid) s.heap.objs.size s₂.heap m→News (hideAll s.heap hid) s.heap.objs.size s₂.heap ((x,instObj 52 dx) :: (dx,teeObj (.ref r) S p h1 h2 h3 t1 t2 t3 t4) :: news)→s.heap.get? x=none→s.heap.get? dx=none→@Ne Nat x dx→(∀ p∈news,p.1≠x∧p.1≠dx)→Q (.ref x) s₂) :
  wpAny (model PR G.w) (A.deeper env) (call (.ref 52) [.ref r,.ref S,.int p t]) Q E s₁:=by
 refine mk_tee (d:=d) (u:=u) (G:=G) (Cx.inner (d:=d+2) (u:=u+1) c F hb (kf_of c hr hf N hx hrest) e1 e2) fun s₂ x dx x₂ fx fd ne it=>?_
 obtain ⟨F₂,N₂⟩:=k_after F N x₂
 apply hide;intro _ kι;obtain ⟨i1,h1,h2,h3,t1,t2,t3,t4,i2⟩:=it;apply kι
 have old:∀ a,s₁.heap.get? a=none→s.heap.get? a=none:=fun a e=>by
  cases q:s.heap.get? a with
  | none=>rfl
  | some o =>
   exfalso
   by_cases hi:a∈hid
   ·rcases hr a o q hi with h' | h'
    ·refine xe1_2 (List.mem_map.mp h') fun p hp e'=>?_
     have:=(N p (hx p hp).2).1
     rw [e',e] at this;exact nsf this
    ·have:=(N _ (hrest _ h')).1
     rw [e] at this;exact nsf this
   ·have:=F.keep a o (hideAll_get _ q hi)
    rw [e] at this;exact nsf this
 exact h s₂ x dx h1 h2 h3 t1 t2 t3 t4 x₂ F₂ (k_new F (k_new F N₂ fd i2) fx i1) (old _ fx) (old _ fd) ne fun p hp=>⟨news_fresh N fx p hp,news_fresh N fd p hp⟩
theorem tee_list {G:Gr}{A:Around}{outer:List Env}{d u:Nat}{s:Shared}{l n:Nat}{its:List Value}{Q E:Value→Shared→Prop}
  (c:Cx G A outer (d+3) (u+4) s.heap) (ol:s.heap.get? l=some (W.listOf its.toArray n)) (ob:G.base.get? l=none)
  (post:∀ s' t x1 d1 x2 d2 S r n' n'',Ext [] [] [] s s'→(∀ a∈[t,x1,d1,x2,d2,S,r],s.heap.get? a=none)→@Ne Nat d1 d2→@Ne Nat x1 d1→@Ne Nat x2 d2→IsTee s'.heap x1 d1 (.ref r) S 0→IsTee s'.heap x2 d2 (.ref r) S 0→s'.heap.get? S=some (W.listOf #[] n'') →
   s'.heap.get? r=some (itObj "list_iterator" (.ref l) 0)→s'.heap.get? t=some (pairObj x1 x2 n')→Q (.ref t) s'):wpAny (model PR G.w) A (call (.ref 63) [.ref l]) Q E s:=by
 refine cx_open c ?_;clear c;intro ad ag au c
 have hb:∀ a∈l :: frs outer,G.base.get? a=none:=fq ob (fun a ha=>(frs_old c.ff a ha).1)
 have X:=c.inK hb
 have T:=c.top hb
 refine wpAny_call (ent X c.nolimit (by k_is) (by k_is) (by have:=c.dp;dsimp only at this ⊢;exact zq17 this) (BindsTo.of_eq rfl) (locs rfl) ?_)
 intro h₁ F hk
 refine xe1_3 (ledger (s:=s.heap) (fr:=frs outer) (hid:=l :: frs outer) (ex:=[(l,W.listOf its.toArray n)]) hk
  (fq ol fn0) rfl (fun a ha=>let ⟨_,o,ho,_⟩:=frs_old c.ff a ha;⟨o,ho⟩)) fun rest N rne hr=>?_
 simp only [List.cons_append,List.nil_append] at N
 have r1:=rne l zp0
 dsimp only
 k_steps
 refine biter_of (wpAny_pyIter_list ⟨_,News.get N (by k_mem),rfl,_,rfl⟩ ?_)
 have e1:Ext [] [] [] s { s with heap:=h₁.push (itObj "list_iterator" (.ref l) 0),toks:=s.toks }:=Ext.more fun b o e=>Heap.get?_push_of_some _ (hk b o e)
 have fr:s.heap.get? h₁.objs.size=none:=by
  cases q:s.heap.get? h₁.objs.size with
  | none=>rfl
  | some o=>exact absurd (Heap.lt_size (hk _ _ q)) (Nat.lt_irrefl _)
 have N₁:=N.push F (itObj "list_iterator" (.ref l) 0)
 have F₁:=F.push (itObj "list_iterator" (.ref l) 0)
 dsimp only at N₁ F₁ ⊢
 generalize hr1:h₁.objs.size=r at *
 clear F N
 k_steps
 refine mk_teeK c hb hr (fun a ha=>.tail _ ha) (by k_asm) (by k_asm) (fq ⟨ol,by k_mem⟩ fn0) (fun p hp=>by k_mem) rfl rfl ?_
 intro s₂ x1 d1 a1 a2 a3 a4 a5 a6 a7 y1 F₂ N₂ fx1 fd1 ne1 nf1
 k_steps
 refine mk_teeK c hb hr (fun a ha=>.tail _ ha) (by k_asm) (by k_asm) (fq ⟨ol,by k_mem⟩ fn0) (fun p hp=>by k_mem) rfl rfl ?_
 intro s₃ x2 d2 b1 b2 b3 b4 b5 b6 b7 y2 F₃ N₃ fx2 fd2 ne2 nf2
 have dd:@Ne Nat d1 d2:=(nf2 (d1,_) (by k_mem)).2
 k_steps
 rename _ < _∧_=>l1
 rename _ < _∧_ < _∧AllLt _ _=>l0
 refine post _ _ x1 d1 x2 d2 _ r _ _ (ext_fr2 (hid:=l :: frs outer) ((Ext.ge' (s:=s) y1).trans (Ext.ge' (s:=s₂) y2) fn0) (by k_asm) (by k_asm) ?ext) ?fr dd ne1 ne2 ⟨News.get (by k_asm) (by k_mem),_,_,_,_,_,_,_,News.get (by k_asm) (by k_mem)⟩ ⟨News.get (by k_asm) (by k_mem),_,_,_,_,_,_,_,News.get (by k_asm) (by k_mem)⟩
  (News.get (by k_asm) (by k_mem)) (News.get (by k_asm) (by k_mem)) (News.get (by k_asm) (by k_mem))
 case ext =>
  intro a o ha hm
  rcases hr a o ha hm with h | h
  ·simp only [List.map_cons,List.map_nil,List.mem_cons,List.not_mem_nil,or_false] at h
   (replace h:=Eq.symm h;subst h)
   rw [ol] at ha;cases ha;exact .inl (by k_mem)
  ·exact .inl (by k_mem)
 case fr =>
  refine fq (?_) (fq fx1 (fq fd1 (fq fx2 (fq fd2 (fq (?_) (fq fr fn0))))))
  ·refine new_in (by k_asm) (by k_mem) hr ?_ l1.2.2.2.2.2.2.2.2
   exact fq l1.2.2.2.2.2.2.2.1 fn0
  ·refine new_in (by k_asm) (by k_mem) hr ?_ l0.2.2
   exact fq l0.2.1 fn0
namespace N_generator
theorem slot_ga:Slot "generator" "__getattribute__" "object.__getattribute__" :=
 .of (owner:="object") (n:="__getattribute__") (by rw [typeLookup_type,builtinLookup_eq_fast];kernel_rfl) (by decide +kernel) (by decide +kernel) (by decide +kernel)
  (by first | exact .inl (by decide +kernel) | exact .inr (by decide +kernel)) (by rw [isSubtype_type];kernel_rfl)
theorem args_ga (a b:Value):argsOk "object.__getattribute__" ⟨[a,b],[]⟩:=by unfold argsOk;kernel_rfl
theorem entry_ga:entryFor table "object.__getattribute__"=some Builtin.«object.__getattribute__»:=entryFor_of_fast (by kernel_rfl)
theorem lk_class:typeLookup (.type "generator") "__class__"=pure (some (.builtin "object.__class__")):=by rw [typeLookup_type,builtinLookup_eq_fast];kernel_rfl
theorem sub_owner:isSubtype (.type "generator") (.type (".".intercalate ("object.__class__".cutAt '.').dropLast))=pure true:=by
 rw [F.owner_object_class,isSubtype_type];kernel_rfl
section
variable {prog:Program}{w:World}{A:Around}{E:Value→Shared→Prop}{h:Heap}{g:Array GenState}{d:Drawn}{t:Nat}{os:OsState}{a:Addr}{o:Obj}
theorem class_get {R:Result→Shared→Prop}(hx:h.get? a=some o) (hc:o.cls=.type "generator") (hq:R (.ok (.ret (.type "generator"))) ⟨h,g,d,t,os⟩) :
  codeAny (model prog w) A (.call (.builtin "getset_descriptor.__get__") ⟨[.builtin "object.__class__",.ref a,.type "generator"],[]⟩) R ⟨h,g,d,t,os⟩:=by
 have hT:(⟨h,g,d,t,os⟩:Shared).TypeIs (.ref a) "generator":=⟨_,hx,hc⟩
 have hT5:(⟨h,g,d,t,os⟩:Shared).TypeIs (.builtin "object.__class__") "getset_descriptor":=F.typeOf_object_class
 have f8:=sub_owner
 refine codeAny_call_builtin F.slot_gs_get.plain F.entry_gs_get (F.slot_gs_get.check _ _ _ _ _ _ _ _ hT5 (F.args_gs_get _ _ _) ?_)
 repeat (any_goals (first | assumption | wp_step))
 refine ⟨Code.quiet_builtin _ (by decide +kernel),codeAny_builtin F.entry_object_class ?_⟩
 repeat (any_goals (first | assumption | wp_step))
theorem class_entry {tk:Tok}{Q:Fin→Shared→Prop}(hx:h.get? a=some o) (hc:o.cls=.type "generator") (hq:Q (.done (.ret (.type "generator"))) ⟨h,g,d,t,os⟩) :
  wpAny (model prog w) A (Builtin.«object.__getattribute__» ⟨[.ref a,.str "__class__" tk],[]⟩) Q E ⟨h,g,d,t,os⟩:=by
 have hT:(⟨h,g,d,t,os⟩:Shared).TypeIs (.ref a) "generator":=⟨_,hx,hc⟩
 have hT5:(⟨h,g,d,t,os⟩:Shared).TypeIs (.builtin "object.__class__") "getset_descriptor":=F.typeOf_object_class
 have f4:=lk_class
 have f5:=F.typeOf_object_class
 have f6:=F.slot_gs_get.lookup
 have f7:=F.slot_gs_set.lookup
 repeat (any_goals (first | assumption | wp_step))
 refine class_get hx hc ?_
 repeat (any_goals (first | assumption | wp_step))
theorem class_call {tk:Tok}{R:Result→Shared→Prop}(hx:h.get? a=some o) (hc:o.cls=.type "generator") (hq:R (.ok (.ret (.type "generator"))) ⟨h,g,d,t,os⟩) :
  codeAny (model prog w) A (.call (.builtin "object.__getattribute__") ⟨[.ref a,.str "__class__" tk],[]⟩) R ⟨h,g,d,t,os⟩ :=
 codeAny_call_builtin slot_ga.plain entry_ga (slot_ga.check _ _ _ _ _ _ _ _ (show (⟨h,g,d,t,os⟩:Shared).TypeIs (.ref a) "generator" from ⟨_,hx,hc⟩) (args_ga _ _) (class_entry hx hc hq))
theorem class_by {tk:Tok}{Q:Value→Shared→Prop}(hx:h.get? a=some o) (hc:o.cls=.type "generator") (hq:Q (.type "generator") ⟨h,g,d,t,os⟩):wpAny (model prog w) A (getAttrBy (.ref a) (.str "__class__" tk) false) Q E ⟨h,g,d,t,os⟩:=by
 have hT:(⟨h,g,d,t,os⟩:Shared).TypeIs (.ref a) "generator":=⟨_,hx,hc⟩
 have f2:=slot_ga.lookup
 have f3:=slot_ga.bind (.ref a)
 repeat (any_goals (first | assumption | wp_step))
 refine class_call hx hc ?_
 repeat (any_goals (first | assumption | wp_step))
theorem class_attr {Q:Option Value→Shared→Prop}(hx:h.get? a=some o) (hc:o.cls=.type "generator") (hq:Q (some (.type "generator")) ⟨h,g,d,t+1,os⟩):wpAny (model prog w) A (getAttr? (.ref a) "__class__") Q E ⟨h,g,d,t,os⟩:=by
 unfold getAttr? getAttrBy?
 repeat (any_goals (first | assumption | with_reducible apply class_by hx hc | wp_step))
end
theorem kitx {K:Frag}{a:Addr}:KitX K (.ref a) (.type "generator") (KitAt a "generator"):=kitx_of kitAt_ty (fun {_ _ _ _ _ s} p k=>by apply hide;intro _ kι;obtain ⟨h,g,d,t,os⟩:=s;apply kι;refine xe1_2 p fun o h1 h2=>?_;exact class_attr h1 h2 k)
end N_generator
namespace N_zip
theorem slot_ga:Slot "zip" "__getattribute__" "zip.__getattribute__" :=
 .of (owner:="zip") (n:="__getattribute__") (by rw [typeLookup_type,builtinLookup_eq_fast];kernel_rfl) (by decide +kernel) (by decide +kernel) (by decide +kernel)
  (by first | exact .inl (by decide +kernel) | exact .inr (by decide +kernel)) (by rw [isSubtype_type];kernel_rfl)
theorem args_ga (a b:Value):argsOk "zip.__getattribute__" ⟨[a,b],[]⟩:=by unfold argsOk;kernel_rfl
theorem entry_ga:entryFor table "zip.__getattribute__"=some Builtin.«object.__getattribute__» :=
 entryFor_alias (id':="object.__getattribute__") (by kernel_rfl) (by first | rfl | decide +kernel) (by decide +kernel) (by kernel_rfl)
theorem lk_class:typeLookup (.type "zip") "__class__"=pure (some (.builtin "object.__class__")):=by rw [typeLookup_type,builtinLookup_eq_fast];kernel_rfl
theorem sub_owner:isSubtype (.type "zip") (.type (".".intercalate ("object.__class__".cutAt '.').dropLast))=pure true:=by
 rw [F.owner_object_class,isSubtype_type];kernel_rfl
section
variable {prog:Program}{w:World}{A:Around}{E:Value→Shared→Prop}{h:Heap}{g:Array GenState}{d:Drawn}{t:Nat}{os:OsState}{a:Addr}{o:Obj}
theorem class_get {R:Result→Shared→Prop}(hx:h.get? a=some o) (hc:o.cls=.type "zip") (hq:R (.ok (.ret (.type "zip"))) ⟨h,g,d,t,os⟩) :
  codeAny (model prog w) A (.call (.builtin "getset_descriptor.__get__") ⟨[.builtin "object.__class__",.ref a,.type "zip"],[]⟩) R ⟨h,g,d,t,os⟩:=by
 have hT:(⟨h,g,d,t,os⟩:Shared).TypeIs (.ref a) "zip":=⟨_,hx,hc⟩
 have hT5:(⟨h,g,d,t,os⟩:Shared).TypeIs (.builtin "object.__class__") "getset_descriptor":=F.typeOf_object_class
 have f8:=sub_owner
 refine codeAny_call_builtin F.slot_gs_get.plain F.entry_gs_get (F.slot_gs_get.check _ _ _ _ _ _ _ _ hT5 (F.args_gs_get _ _ _) ?_)
 repeat (any_goals (first | assumption | wp_step))
 refine ⟨Code.quiet_builtin _ (by decide +kernel),codeAny_builtin F.entry_object_class ?_⟩
 repeat (any_goals (first | assumption | wp_step))
theorem class_entry {tk:Tok}{Q:Fin→Shared→Prop}(hx:h.get? a=some o) (hc:o.cls=.type "zip") (hq:Q (.done (.ret (.type "zip"))) ⟨h,g,d,t,os⟩) :
  wpAny (model prog w) A (Builtin.«object.__getattribute__» ⟨[.ref a,.str "__class__" tk],[]⟩) Q E ⟨h,g,d,t,os⟩:=by
 have hT:(⟨h,g,d,t,os⟩:Shared).TypeIs (.ref a) "zip":=⟨_,hx,hc⟩
 have hT5:(⟨h,g,d,t,os⟩:Shared).TypeIs (.builtin "object.__class__") "getset_descriptor":=F.typeOf_object_class
 have f4:=lk_class
 have f5:=F.typeOf_object_class
 have f6:=F.slot_gs_get.lookup
 have f7:=F.slot_gs_set.lookup
 repeat (any_goals (first | assumption | wp_step))
 refine class_get hx hc ?_
 repeat (any_goals (first | assumption | wp_step))
theorem class_call {tk:Tok}{R:Result→Shared→Prop}(hx:h.get? a=some o) (hc:o.cls=.type "zip") (hq:R (.ok (.ret (.type "zip"))) ⟨h,g,d,t,os⟩) :
  codeAny (model prog w) A (.call (.builtin "zip.__getattribute__") ⟨[.ref a,.str "__class__" tk],[]⟩) R ⟨h,g,d,t,os⟩ :=
 codeAny_call_builtin slot_ga.plain entry_ga (slot_ga.check _ _ _ _ _ _ _ _ (show (⟨h,g,d,t,os⟩:Shared).TypeIs (.ref a) "zip" from ⟨_,hx,hc⟩) (args_ga _ _) (class_entry hx hc hq))
theorem class_by {tk:Tok}{Q:Value→Shared→Prop}(hx:h.get? a=some o) (hc:o.cls=.type "zip") (hq:Q (.type "zip") ⟨h,g,d,t,os⟩):wpAny (model prog w) A (getAttrBy (.ref a) (.str "__class__" tk) false) Q E ⟨h,g,d,t,os⟩:=by
 have hT:(⟨h,g,d,t,os⟩:Shared).TypeIs (.ref a) "zip":=⟨_,hx,hc⟩
 have f2:=slot_ga.lookup
 have f3:=slot_ga.bind (.ref a)
 repeat (any_goals (first | assumption | wp_step))
 refine class_call hx hc ?_
 repeat (any_goals (first | assumption | wp_step))
theorem class_attr {Q:Option Value→Shared→Prop}(hx:h.get? a=some o) (hc:o.cls=.type "zip") (hq:Q (some (.type "zip")) ⟨h,g,d,t+1,os⟩):wpAny (model prog w) A (getAttr? (.ref a) "__class__") Q E ⟨h,g,d,t,os⟩:=by
 unfold getAttr? getAttrBy?
 repeat (any_goals (first | assumption | with_reducible apply class_by hx hc | wp_step))
end
theorem kitx {K:Frag}{a:Addr}:KitX K (.ref a) (.type "zip") (KitAt a "zip"):=kitx_of kitAt_ty (fun {_ _ _ _ _ s} p k=>by apply hide;intro _ kι;obtain ⟨h,g,d,t,os⟩:=s;apply kι;refine xe1_2 p fun o h1 h2=>?_;exact class_attr h1 h2 k)
end N_zip
theorem tee_gen {G:Gr}{A:Around}{outer:List Env}{d u:Nat}{s:Shared}{l g:Nat}{nm qn:Value}{Q E:Value→Shared→Prop}
  (c:Cx G A outer (d+3) (u+4) s.heap) (ol:s.heap.get? l=some (genObj g nm qn)) (ob:G.base.get? l=none)
  (post:∀ s' t x1 d1 x2 d2 S n' n'',Ext [] [] [] s s'→(∀ a∈[t,x1,d1,x2,d2,S],s.heap.get? a=none)→@Ne Nat d1 d2→@Ne Nat x1 d1→@Ne Nat x2 d2→IsTee s'.heap x1 d1 (.ref l) S 0→IsTee s'.heap x2 d2 (.ref l) S 0→s'.heap.get? S=some (W.listOf #[] n'')→s'.heap.get? t=some (pairObj x1 x2 n')→Q (.ref t) s'):wpAny (model PR G.w) A (call (.ref 63) [.ref l]) Q E s:=by
 have:=@on "call builtin:isinstance"
 refine cx_open c ?_;clear c;intro ad ag au c
 have hb:∀ a∈l :: frs outer,G.base.get? a=none:=fq ob (fun a ha=>(frs_old c.ff a ha).1)
 have X:=c.inK hb
 have T:=c.top hb
 refine wpAny_call (ent X c.nolimit (by k_is) (by k_is) (by have:=c.dp;dsimp only at this ⊢;exact zq17 this) (BindsTo.of_eq rfl) (locs rfl) ?_)
 intro h₁ F hk
 refine xe1_3 (ledger (s:=s.heap) (fr:=frs outer) (hid:=l :: frs outer) (ex:=[(l,genObj g nm qn)]) hk
  (fq ol fn0) rfl (fun a ha=>let ⟨_,o,ho,_⟩:=frs_old c.ff a ha;⟨o,ho⟩)) fun rest N rne hr=>?_
 simp only [List.cons_append,List.nil_append] at N
 have r1:=rne l zp0
 dsimp only
 k_steps
 k_dflt refine kia_one N_generator.kitx (by k_in) (kitAt_N (by k_asm) (by k_mem) rfl) (by kit_is) (by kit_nb) ?_;k_whole;intro _;k_steps
 refine biter_of (wpAny_pyIter_gen (g:=g) ⟨_,nm,qn,News.get N (by k_mem),rfl,rfl,rfl⟩ ?_)
 k_steps
 refine mk_teeK c hb hr (fun a ha=>.tail _ ha) (by k_asm) (by k_asm) (fq ⟨ol,by k_mem⟩ fn0) (fun p hp=>by k_mem) rfl rfl ?_
 intro s₂ x1 d1 a1 a2 a3 a4 a5 a6 a7 y1 F₂ N₂ fx1 fd1 ne1 nf1
 k_steps
 refine mk_teeK c hb hr (fun a ha=>.tail _ ha) (by k_asm) (by k_asm) (fq ⟨ol,by k_mem⟩ fn0) (fun p hp=>by k_mem) rfl rfl ?_
 intro s₃ x2 d2 b1 b2 b3 b4 b5 b6 b7 y2 F₃ N₃ fx2 fd2 ne2 nf2
 have dd:@Ne Nat d1 d2:=(nf2 (d1,_) (by k_mem)).2
 k_steps
 rename _ < _∧_=>l1
 rename _ < _∧AllLt _ _=>l0
 refine post _ _ x1 d1 x2 d2 _ _ _ (ext_fr2 (hid:=l :: frs outer) ((Ext.ge' (s:=s) y1).trans (Ext.ge' (s:=s₂) y2) fn0) (by k_asm) (by k_asm) ?ext) ?fr dd ne1 ne2 ⟨News.get (by k_asm) (by k_mem),_,_,_,_,_,_,_,News.get (by k_asm) (by k_mem)⟩ ⟨News.get (by k_asm) (by k_mem),_,_,_,_,_,_,_,News.get (by k_asm) (by k_mem)⟩
  (News.get (by k_asm) (by k_mem)) (News.get (by k_asm) (by k_mem))
 case ext =>
  intro a o ha hm
  rcases hr a o ha hm with h | h
  ·simp only [List.map_cons,List.map_nil,List.mem_cons,List.not_mem_nil,or_false] at h
   (replace h:=Eq.symm h;subst h)
   rw [ol] at ha;(replace ha:=Eq.symm ha;cases ha);exact .inl (by k_mem)
  ·exact .inl (by k_mem)
 case fr =>
  refine fq (?_) (fq fx1 (fq fd1 (fq fx2 (fq fd2 (fq (?_) fn0)))))
  ·refine new_in (by k_asm) (by k_mem) hr ?_ l1.2.2.2.2.2.2.2
   exact fq l1.2.2.2.2.2.2.1 fn0
  ·refine new_in (by k_asm) (by k_mem) hr ?_ l0.2
   exact fq l0.1 fn0
theorem old_of {s s₁:Shared}{hid:List Addr}{ex rest news:List (Addr × Obj)}{m:Str→Option Value}(hr:∀ b o,s.heap.get? b=some o→b∈hid→b∈ex.map (·.1)∨(b,o)∈rest)
  (F:Fr (hideAll s.heap hid) s.heap.objs.size s₁.heap m) (N:News (hideAll s.heap hid) s.heap.objs.size s₁.heap news) (hx:∀ p∈ex,s.heap.get? p.1=some p.2∧p∈news) (hrest:∀ p∈rest,p∈news):∀ a,s₁.heap.get? a=none→s.heap.get? a=none:=fun a e=>by
 cases q:s.heap.get? a with
 | none=>rfl
 | some o =>
  exfalso
  by_cases hi:a∈hid
  ·rcases hr a o q hi with h' | h'
   ·refine xe1_2 (List.mem_map.mp h') fun p hp e'=>?_
    have:=(N p (hx p hp).2).1
    rw [e',e] at this;exact nsf this
   ·have:=(N _ (hrest _ h')).1
    rw [e] at this;exact nsf this
  ·have:=F.keep a o (hideAll_get _ q hi)
   rw [e] at this;exact nsf this
theorem here {G:Gr}{A:Around}{outer:List Env}{d u:Nat}{s:Shared}{hid:List Addr}{ex rest news:List (Addr × Obj)}{m:Str→Option Value}{h:Heap}
  (c:Cx G A outer (d+1) (u+3) s.heap) (hb:∀ a∈hid,G.base.get? a=none) (hr:∀ b o,s.heap.get? b=some o→b∈hid→b∈ex.map (·.1)∨(b,o)∈rest) (hf:∀ a∈frs outer,a∈hid) (ha:∀ p∈ex,s.heap.get? p.1=some p.2)
  (F:Fr (hideAll s.heap hid) s.heap.objs.size h m) (N:News (hideAll s.heap hid) s.heap.objs.size h news) (hx:∀ p∈ex,p∈news) (hrest:∀ p∈rest,p∈news) :
  (∀ env:Env,env.frame=some s.heap.objs.size→env.scope.kind=.function→Cx G (A.deeper env) (env :: outer) d u h)∧∀ a,h.get? a=none→s.heap.get? a=none :=
 ⟨fun env e1 e2=>Cx.inner c F hb (kf_of c hr hf N (fun p hp=>⟨ha p hp,hx p hp⟩) hrest) e1 e2,old_of (s₁:={ s with heap:=h }) hr F N (fun p hp=>⟨ha p hp,hx p hp⟩) hrest⟩
noncomputable abbrev facObj (f it:Value) (h1 h2:Int) (t1 t2:Nat):Obj:=dictOf [⟨h1,.str (Str.ofString "_factory") t1,f⟩,⟨h2,.str (Str.ofString "_iterable") t2,it⟩] 2
structure IsFac (h:Heap) (v dv:Nat) (f it:Value):Prop where
 at_:h.get? v=some (instObj 165 dv)
 di:∃ h1 h2 t1 t2,h.get? dv=some (facObj f it h1 h2 t1 t2)
theorem fac_again {G:Gr}{A:Around}{outer:List Env}{d u:Nat}{s:Shared}{v dv f x dx S r:Nat}{p:Int}{Q E:Value→Shared→Prop}
  (c:Cx G A outer (d+4) (u+7) s.heap) (fac:IsFac s.heap v dv (.ref f) (.ref x)) (tee:IsTee s.heap x dx (.ref r) S p) (dvv:@Ne Nat v dv) (d1:@Ne Nat x dx) (ob:∀ a∈[v,dv,x,dx],G.base.get? a=none)
  (e1:@Ne Nat v x) (e2:@Ne Nat v dx) (e3:@Ne Nat dv x) (e4:@Ne Nat dv dx)
  (post:∀ s' x' dx',Ext [] [] [] s s'→s.heap.get? x'=none→s.heap.get? dx'=none→@Ne Nat x' dx'→IsTee s'.heap x' dx' (.ref r) S p→Q (.ref x') s'):wpAny (model PR G.w) A (call (.ref 162) [.ref v]) Q E s:=by
 refine cx_open c ?_;clear c;intro ad ag au c
 apply hide;intro _ kι;obtain ⟨o1,i1,i2,j1,j2,o2⟩:=fac;apply kι
 apply hide;intro _ kι;obtain ⟨o3,h1,h2,h3,t1,t2,t3,t4,o4⟩:=id tee;apply kι
 have hb:∀ a∈v :: dv :: x :: dx :: frs outer,G.base.get? a=none:=fq (ob _ zm0) (fq (ob _ zm1) (fq (ob _ zm2) (fq (ob _ zm3) (fun a ha=>(frs_old c.ff a ha).1))))
 have X:=c.inK hb
 have T:=c.top hb
 refine wpAny_call (ent X c.nolimit (by k_is) (by k_is) (by have:=c.dp;dsimp only at this ⊢;exact Nat.lt_of_add_right_lt this) (BindsTo.of_eq rfl) (locs rfl) ?_)
 intro h₁ F hk
 have hA:∀ q∈[(v,instObj 165 dv),(dv,facObj (.ref f) (.ref x) i1 i2 j1 j2),(x,instObj 52 dx),(dx,teeObj (.ref r) S p h1 h2 h3 t1 t2 t3 t4)],s.heap.get? q.1=some q.2:=fq o1 (fq o2 (fq o3 (fq o4 fn0)))
 refine xe1_3 (ledger (fr:=frs outer) (hid:=v :: dv :: x :: dx :: frs outer) hk hA rfl (fun a ha=>let ⟨_,o,ho,_⟩:=frs_old c.ff a ha;⟨o,ho⟩)) fun rest N rne hr=>?_
 simp only [List.cons_append,List.nil_append] at N
 have r1:=rne v zp0
 have r2:=rne dv zp1
 have r3:=rne x zp2
 have r4:=rne dx zp3
 dsimp only
 k_steps
 rename Fr _ _ _ _=>F1
 rename News _ _ _ _=>N1
 obtain ⟨ci,old⟩:=here (d:=d+3) (u:=u+4) c hb hr (fun a ha=>by simp [ha]) hA F1 N1 (fq (by k_mem) (fq (by k_mem) (fq (by k_mem) (fq (by k_mem) fn0)))) (fun q hq=>by k_mem)
 refine tee_again (G:=G) (d:=d) (u:=u) (p:=p) (S:=S) (r:=r) (dx:=dx) (ci _ rfl rfl) ⟨News.get N1 (by k_mem),_,_,_,_,_,_,_,News.get N1 (by k_mem)⟩ d1 (fun a ha=>ob a (by simp at ha;simp [ha])) ?_
 intro s₂ t x' dx' n y fr it' ne' ot
 obtain ⟨F2,N2⟩:=k_after (s₁:={ s with heap:=_,toks:=_ }) F1 N1 y
 apply hide;intro _ kι;obtain ⟨i3,a1,a2,a3,b1,b2,b3,b4,i4⟩:=it';apply kι
 have N3:=k_new (s₁:={ s with heap:=_,toks:=_ }) F1 (k_new (s₁:={ s with heap:=_,toks:=_ }) F1 (k_new (s₁:={ s with heap:=_,toks:=_ }) F1 N2 (fr dx' zm2) i4) (fr x' zm1) i3) (fr t zm0) ot
 have k1:@Ne Nat dv t:=news_fresh N1 (fr t zm0) (dv,_) (by k_mem)
 have k2:@Ne Nat dv x':=news_fresh N1 (fr x' zm1) (dv,_) (by k_mem)
 have k3:@Ne Nat dv dx':=news_fresh N1 (fr dx' zm2) (dv,_) (by k_mem)
 have F1k:True→_:=fun _=>F1
 clear F1 N1 N2
 k_steps
 refine post _ x' dx' (ext_fr2 (hid:=v :: dv :: x :: dx :: frs outer) (Ext.ge' (s:=s) y) (by k_asm) (by k_asm) ?_) (old _ (fr x' zm1)) (old _ (fr dx' zm2)) ne' ⟨News.get (by k_asm) (by k_mem),_,_,_,_,_,_,_,News.get (by k_asm) (by k_mem)⟩
 intro a o ha hm
 rcases hr a o ha hm with h | h
 ·(refine xe1_2 (List.mem_map.mp h) ?_;rintro q hq rfl)
  have z:=hA q hq
  rw [ha] at z;(replace z:=Eq.symm z;cases z)
  simp only [List.mem_cons,List.not_mem_nil,or_false] at hq
  rcases hq with hq | hq | hq | hq <;> replace hq:=hq.symm <;> subst hq <;> exact .inl (by k_mem)
 ·exact .inl (by k_mem)
theorem fac_open {G:Gr}{A:Around}{outer:List Env}{d u:Nat}{s:Shared}{v dv f:Nat}{fpF:List Addr}{J:Shared→Shared→Nat→Prop}{J':Shared→Shared→Nat→Nat→Prop}{Q E:Value→Shared→Prop}
  (c:Cx G A outer (d+1) (u+3) s.heap) (fac:IsFac s.heap v dv (.ref f) .none) (dvv:@Ne Nat v dv) (ob:∀ a∈[v,dv],G.base.get? a=none) (hfn:FnAt f s.heap)
  (sx:∀ a∈fpF,a≠v∧a≠dv∧a ∉ frs outer∧G.base.get? a=none∧∃ o,s.heap.get? a=some o)
  (fcall:∀ A' env s₁,Cx G A' (env :: outer) d u s₁.heap→env.frame=some s.heap.objs.size→Ext [] [] [] s s₁→wpAny (model PR G.w) A' (call (.ref f) []) (fun y s₂=>∃ ya,y=.ref ya∧Ext [] fpF [] s₁ s₂∧J s₁ s₂ ya) (fun _ _=>False) s₁)
  (tcall:∀ A' env s₁ s₂ s₃ ya,J s₁ s₂ ya→Ext [] [s.heap.objs.size] [] s₂ s₃→Cx G A' (env :: outer) d u s₃.heap→(∃ o,s₁.heap.get? s.heap.objs.size=some o)→wpAny (model PR G.w) A' (call (.ref 63) [.ref ya]) (fun t s₄=>∃ ta x1 x2 n,t=.ref ta∧Ext [] [] [] s₃ s₄∧s₃.heap.get? ta=none∧s₄.heap.get? ta=some (pairObj x1 x2 n)∧J' s₃ s₄ x1 x2) (fun _ _=>False) s₃)
  (post:∀ s₃ s₄ s₅ x1 x2,J' s₃ s₄ x1 x2→(∃ o,s₃.heap.get? s.heap.objs.size=some o)→Ext [] [] [] s₃ s₄→Ext [] [s.heap.objs.size,dv] [] s₄ s₅→Ext [] (dv :: fpF) [] s s₅→Ext [] (s.heap.objs.size :: fpF) [] s s₃→IsFac s₅.heap v dv (.ref f) (.ref x1)→Q (.ref x2) s₅):wpAny (model PR G.w) A (call (.ref 162) [.ref v]) Q E s:=by
 refine cx_open c ?_;clear c;intro ad ag au c
 apply hide;intro _ kι;obtain ⟨o1,i1,i2,j1,j2,o2⟩:=fac;apply kι
 have hb:∀ a∈v :: dv :: (fpF++frs outer),G.base.get? a=none:=fq (ob _ zm0) (fq (ob _ zm1) (fun a ha=>(List.mem_append.mp ha).elim (fun h=>(sx a h).2.2.2.1) fun h=>(frs_old c.ff a h).1))
 have X:=c.inK hb
 have T:=c.top hb
 have nL:∀ a o,s.heap.get? a=some o→a≠s.heap.objs.size:=fun a o e=>Nat.ne_of_lt (Heap.lt_size e)
 have fL:s.heap.get? s.heap.objs.size=none:=Heap.get?_none_of_le (Nat.le_refl _)
 refine wpAny_call (ent X c.nolimit (by k_is) (by k_is) (by have:=c.dp;dsimp only at this ⊢;exact zq2 this) (BindsTo.of_eq rfl) (locs rfl) ?_)
 intro h₁ F hk
 have hA:∀ q∈[(v,instObj 165 dv),(dv,facObj (.ref f) .none i1 i2 j1 j2)],s.heap.get? q.1=some q.2:=fq o1 (fq o2 fn0)
 refine xe1_3 (ledger (fr:=fpF++frs outer) (hid:=v :: dv :: (fpF++frs outer)) hk hA rfl (fun a ha=>(List.mem_append.mp ha).elim (fun h=>(sx a h).2.2.2.2) fun h=>let ⟨_,o,ho,_⟩:=frs_old c.ff a h;⟨o,ho⟩)) fun rest N rne hr=>?_
 simp only [List.cons_append,List.nil_append] at N
 have r1:=rne v zp0
 have r2:=rne dv zp1
 dsimp only
 k_steps
 have hfn':FnAt f h₁:=by
  refine xe4_1 hfn fun oc od fd sl ho=>?_
  exact ⟨oc,od,fd,sl,hk _ _ ho⟩
 refine callWith_F0 hfn' ?_
 obtain ⟨ci,old⟩:=here (d:=d) (u:=u) c hb hr (fun a ha=>by simp [ha]) hA F N (fq (by k_mem) (fq (by k_mem) fn0)) (fun q hq=>by k_mem)
 refine wpAny_mono (fcall _ _ _ (ci _ rfl rfl) rfl (Ext.more hk)) (fun y s₂ hy=>?_) (fun _ _ z=>z.elim)
 (refine xe1_3 hy ?_;rintro ya rfl y₂ hJ)
 have kp:∀ a∈[v,dv],∀ o,s.heap.get? a=some o→s₂.heap.get? a=some o:=fun a ha o e=>y₂.keep a o (hk a o e) (fun q=>by
  refine xe0_3 (sx a q) fun q1 q2 _=>?_
  simp only [List.mem_cons,List.not_mem_nil,or_false] at ha
  rcases ha with h | h
  ·exact q1 h
  ·exact q2 h) fnm
 have kfr:∀ a∈frs outer,∃ o,s.heap.get? a=some o∧s₂.heap.get? a=some o:=fun a ha=>by
  apply hide;intro _ kι;obtain ⟨_,o,ho,_⟩:=frs_old c.ff a ha;apply kι
  exact (wi1_2 o ho (y₂.keep a o (hk a o ho) (fun q=>(sx a q).2.2.1 ha) fnm))
 have F2:=fr_next F y₂ (fun q=>by obtain ⟨o,ho⟩:=(sx _ q).2.2.2.2;exact nL _ o ho rfl) (fun a ha=>hideAll_none _ (.tail _ (.tail _ (List.mem_append_left _ ha)))) fn0
 apply hide;intro _ kι;obtain ⟨rest2,N2,rne2,hr2⟩:=ledger2 (g:=hideAll s.heap (v :: dv :: (fpF++frs outer))) (L:=s.heap.objs.size) (h:=s₂.heap) (ex:=[(v,instObj 165 dv),(dv,facObj (.ref f) .none i1 i2 j1 j2)])
  (fq (yi3 (kp v zm0 _ o1) (nL _ _ o1) (hideAll_none _ zm0)) (fq (yi3 (kp dv zm1 _ o2) (nL _ _ o2) (hideAll_none _ zm1)) fn0));apply kι
 simp only [List.cons_append,List.nil_append] at N2
 refine xe3_2 F.ns fun oL _ _ hoL _=>?_
 have F2k:True→_:=fun _=>F2
 clear F N r1 r2 rne hr
 have r1:=rne2 v zp0
 have r2:=rne2 dv zp1
 k_steps
 rename Fr _ _ _ _=>F3
 rename News _ _ _ _=>N3
 have x23:=ext_led (fr:=[]) (fp:=[]) (tk:=s₂.toks+1) (F2k trivial) F3 N3 hr2 (fq ⟨kp v zm0 _ o1,.inl (by k_mem)⟩ (fq ⟨kp dv zm1 _ o2,.inl (by k_mem)⟩ fn0)) (fun q hq=>by k_mem)
 have c3:=fun (env:Env) (q1:env.frame=some s.heap.objs.size) (q2:env.scope.kind=.function)=>Cx.inner (d:=d) (u:=u) (env:=env) c F3 hb (fun a ha=>by
  refine xe1_2 (kfr a ha) fun o ho ho2=>?_
  exact (wi1_2 o ho ⟨o.slots,x23.keep a o ho2 (by simp;exact nL _ _ ho) fnm⟩)) q1 q2
 refine wpAny_mono (tcall _ _ _ _ _ _ hJ x23 (c3 _ rfl rfl) ⟨oL,hoL⟩) (fun y s₄ hy=>?_) (fun _ _ z=>z.elim)
 (refine xe4_5 hy ?_;rintro ta x1 x2 n rfl y₄ fta ota hJ')
 have F4:=fr_next (s₁:={ s₂ with heap:=_,toks:=_ }) F3 y₄ fnm fn0 fn0
 have kp4:∀ a∈[v,dv],∀ o,s.heap.get? a=some o→s₄.heap.get? a=some o:=fun a ha o e=>y₄.keep a o (x23.keep a o (kp a ha o e) (by simp;exact nL _ _ e) fnm) fnm fnm
 have neL:ta≠s.heap.objs.size:=fun q=>by
  refine xe3_2 F3.ns fun o3 _ _ ho3 _=>?_
  rw [q] at fta;exact absurd (fta.symm.trans ho3) (by simp)
 have gta:(hideAll s.heap (v :: dv :: (fpF++frs outer))).get? ta=none:=by
  cases q:(hideAll s.heap (v :: dv :: (fpF++frs outer))).get? ta with
  | none=>rfl
  | some o=>exact absurd (fta.symm.trans (F3.keep _ _ q)) (by simp)
 apply hide;intro _ kι;obtain ⟨rest4,N4,rne4,hr4⟩:=ledger2 (g:=hideAll s.heap (v :: dv :: (fpF++frs outer))) (L:=s.heap.objs.size) (h:=s₄.heap) (ex:=[(v,instObj 165 dv),(dv,facObj (.ref f) .none i1 i2 j1 j2),(ta,pairObj x1 x2 n)])
  (fq (yi3 (kp4 v zm0 _ o1) (nL _ _ o1) (hideAll_none _ zm0)) (fq (yi3 (kp4 dv zm1 _ o2) (nL _ _ o2) (hideAll_none _ zm1)) (fq (yi3 ota neL gta) fn0)));apply kι
 simp only [List.cons_append,List.nil_append] at N4
 have net:@Ne Nat dv ta:=fun q=>by
  have:=kp4 dv zm1 _ o2
  rw [q,ota] at this;exact absurd (congrArg Obj.cls (Option.some.inj this)) (by simp)
 have F4k:True→_:=fun _=>F4
 have F3k:True→_:=fun _=>F3
 clear N3 F3 r1 r2 rne2
 have r1:=rne4 v zp0
 have r2:=rne4 dv zp1
 k_steps
 have fin:=fun tk=>ext_led (fr:=[]) (fp:=[dv]) (tk:=tk) (F4k trivial) (by k_asm) (by k_asm) hr4 (fq ⟨kp4 v zm0 _ o1,.inl (by k_mem)⟩ (fq ⟨kp4 dv zm1 _ o2,.inr ⟨zm0,_,by k_mem⟩⟩ (fq ⟨ota,.inl (by k_mem)⟩ fn0))) (fun q hq=>by k_mem)
 have e3:Ext [] (s.heap.objs.size :: fpF) [] s { s₂ with heap:=_,toks:=s₂.toks+1 }:=((Ext.more (fr:=[]) (fp:=s.heap.objs.size :: fpF) (gp:=[]) hk).trans (y₂.weak (fp'':=s.heap.objs.size :: fpF) (gp'':=[]) (fr':=[]) (fun b hb=>.inl (.tail _ hb)) fn0 fn0) (fun b hb=>.inl hb) fn0).trans x23 (fun b hb=>.inl (by simp at hb;simp [hb])) fn0
 refine xe3_2 ((F3k trivial).ns) fun oL3 _ _ hoL3 _=>?_
 have tot:=fun tk=>((e3.weak (fr':=[]) (fp'':=dv :: fpF) (gp'':=[]) (fun b hb=>(List.mem_cons.mp hb).elim (fun h=>.inr (h▸fL)) fun h=>.inl (.tail _ h)) fn0 fn0).trans y₄ fn0 fn0).trans (fin tk) (fq (.inr fL) (fq (.inl (.head _)) fn0)) fn0
 exact post _ s₄ _ x1 x2 hJ' ⟨oL3,hoL3⟩ y₄ (fin _) (tot _) e3 ⟨News.get (by k_asm) (by k_mem),_,_,_,_,News.get (by k_asm) (by k_mem)⟩
section
variable {prog:Program}{w:World}{A:Around}{E:Value→Shared→Prop}{s:Shared}{h₀:Heap}{L:Addr}{m:Str→Option Value}{news:List (Addr × Obj)}
theorem my_extend {D b n n2:Nat}{its its2:List Value}{news':Nat→List (Addr × Obj)}{Q:Value→Shared→Prop}(F:Fr h₀ L s.heap m) (N:News h₀ L s.heap news) (hb:(b,W.listOf its2.toArray n2)∈news)
  (U:∀ n',Upd D (W.listOf its.toArray n) (W.listOf (its++its2).toArray n') news (news' n')) (hl:its.length+its2.length≤100000)
  (h:∀ h' n',Fr h₀ L h' m→News h₀ L h' (news' n')→Q .none { s with heap:=h' }):wpAny (model prog w) A (call (.builtin "list.extend") [.ref D,.ref b]) Q E s:=by
 have hd:¬(!its.toArray.isEmpty && Builtin.List.listTooLong (its.toArray.size+its2.toArray.size))=true:=by
  simp [Builtin.List.listTooLong,sizeLine];exact fun _=>za hl rfl
 have hz:its.toArray.toList.length≤sizeLine:=by simp [sizeLine];exact za (Nat.le_trans (Nat.le_add_right _ _) hl) rfl
 have hz2:its.toArray.size+its2.toArray.size≤sizeLine+1:=by simp [sizeLine];exact za hl rfl
 cases its2 with
 | nil =>
  refine kxn_extend (n:=n) F N hb rfl (news':=news' n) ?_ hd hz hz2 fun h' F' N'=>h h' n F' N'
  have:=U n
  rwa [List.append_nil] at this
 | cons v r =>
  exact kl_extend F N hb (l:=its++v :: r) rfl (by simp) (U (n+1)) hd hz hz2 fun h' F' N'=>h h' _ F' N'
end
theorem make_ {G:Gr}{A:Around}{outer:List Env}{d u:Nat}{s:Shared}{mm l n k:Nat}{ms its:List Value}{Q E:Value→Shared→Prop}
  (c:Cx G A outer (d+1) (u+3) s.heap) (o1:s.heap.get? mm=some (W.listOf ms.toArray n)) (o2:s.heap.get? l=some (W.listOf its.toArray k)) (d1:@Ne Nat mm l) (ob:∀ a∈[mm,l],G.base.get? a=none) (hl:its.length < 1000) (hl2:ms.length < 1000)
  (post:∀ s' l' n' k',Ext [] [mm] [] s s'→s.heap.get? l'=none→s'.heap.get? mm=some (W.listOf (ms++its).toArray n')→s'.heap.get? l'=some (W.listOf its.toArray k')→Q (.ref l') s'):wpAny (model PR G.w) A (call (.ref 247) [.ref mm,.ref l]) Q E s:=by
 have:=@on "call builtin:list.extend"
 have:=@on "call type:list"
 refine cx_open c ?_;clear c;intro ad ag au c
 have hb:∀ a∈mm :: l :: frs outer,G.base.get? a=none:=fq (ob _ zm0) (fq (ob _ zm1) (fun a ha=>(frs_old c.ff a ha).1))
 have X:=c.inK hb
 have T:=c.top hb
 refine wpAny_call (ent X c.nolimit (by k_is) (by k_is) (by have:=c.dp;dsimp only at this ⊢;exact zq2 this) (BindsTo.of_eq rfl) (locs rfl) ?_)
 intro h₁ F hk
 have hA:∀ q∈[(mm,W.listOf ms.toArray n),(l,W.listOf its.toArray k)],s.heap.get? q.1=some q.2:=fq o1 (fq o2 fn0)
 refine xe1_3 (ledger (fr:=frs outer) (hid:=mm :: l :: frs outer) hk hA rfl (fun a ha=>let ⟨_,o,ho,_⟩:=frs_old c.ff a ha;⟨o,ho⟩)) fun rest N rne hr=>?_
 simp only [List.cons_append,List.nil_append] at N
 have r1:=rne mm zp0
 have r2:=rne l zp1
 dsimp only
 k_steps
 (k_dflt refine my_extend (by k_asm) (by k_asm) (by k_mem) (by intro _;k_upd) (by omega) ?_;intro _ _ _ _;(try k_sweep));k_steps
 refine list_copyK (by k_asm) (by k_asm) (News.isList (by k_asm) (by k_dflt k_mem)) ?_ (by simp only [List.size_toArray,sizeLine];omega);k_whole;intro _ _ _ _ _ l1;(try k_lt l1);(try k_sweep)
 k_steps
 rename _ < _∧_=>l1
 refine post _ _ _ _ (ext_fr (hid:=mm :: l :: frs outer) (by k_asm) (by k_asm) ?_) (new_in (by k_asm) (by k_mem) hr (fq l1.1 (fq l1.2.1 fn0)) l1.2.2) (News.get (by k_asm) (by k_mem)) (News.get (by k_asm) (by k_mem))
 intro a o ha hm
 rcases hr a o ha hm with h | h
 ·(refine xe1_2 (List.mem_map.mp h) ?_;rintro q hq rfl)
  have z:=hA q hq
  rw [ha] at z;cases z
  simp only [List.mem_cons,List.not_mem_nil,or_false] at hq
  rcases hq with hq | hq <;> replace hq:=hq.symm <;> subst hq
  ·exact .inr ⟨zm0,_,by k_mem⟩
  ·exact .inl (by k_mem)
 ·exact .inl (by k_mem)
theorem entGen {prog:Program}{w:World}{A:Around}{s:Shared}{K:Frag}
  {R:Result→Shared→Prop}{name qual:Str}{params:Arguments}{body:List Stmt}{scope:Scope}{dV kV doc pm cdv ct oc:Value}{an od:Option Addr}{osl:Array (Option Value)}{f:Addr}{args:Args}{binds:List (Str × Value)}
  (X:K.In s.heap) (hlim:s.heap.NoLimit)
  (ho:K.lookup f=some ⟨oc,od,.func (fnOf name qual params body scope dV kV doc pm an cdv ct),osl⟩) (hcd:codeIn K cdv qual=true) (hroom:A.depth < recursionLimit)
  (hbind:BindsTo s (fnOf name qual params body scope dV kV doc pm an cdv ct) args binds) (hloc:∀ y∈binds,scope.names.lookup y.1=some .local)
  (h:∀ (h₁:Heap) (tk:Nat),h₁.Ns s.heap.objs.size (fun y=>binds.reverse.lookup y)→(∀ b o,s.heap.get? b=some o→h₁.get? b=some o) →
   R (.ok (.ret (.ref h₁.objs.size))) { s with gens:=s.gens.push (.fresh (.func body (envOf qual scope s.heap.objs.size f cdv))),toks:=tk+1+1,heap:=h₁.push { cls:=.type "generator",data:=.fields #[.int s.gens.size 0,.str name tk,.str qual (tk+1)] } })
  (hco:scope.isCoroutine=false:=by rfl) (hgen:scope.isGenerator=true:=by rfl) (hk:scope.kind=.function:=by rfl)
  (hcell:∀ x∈scope.names,x.2≠.cell:=by decide):codeAny (model prog w) A (.call (.ref f) args) R s:=by
 refine codeAny_call_generator (fd:=fnOf name qual params body scope dV kV doc pm an cdv ct) (body:=body) hroom (X _ _ ho) rfl hco hgen rfl (codeRec_of X hcd) (hbind _ _ _ _ ?_)
 refine wpAny_newFunctionEnv hcell hloc (fun h₀ hns₀ hsb₀=>⟨hlim.fresh _ hsb₀,?_⟩) hk
 exact h h₀ _ hns₀ fun b o e=>hsb₀.extBut b o (Nat.ne_of_lt (Heap.lt_size e)) (Heap.get?_push_of_some _ e)
theorem mk_chain {G:Gr}{A:Around}{outer:List Env}{d u:Nat}{s:Shared}{v1 v2:Value}{Q E:Value→Shared→Prop}(c:Cx G A outer (d+1) u s.heap)
  (post:∀ s' a L nm qn m,Ext [] [] [] s s'→s.heap.get? a=none→s.heap.get? L=none→@Ne Nat a L→s'.heap.get? a=some (genObj s.gens.size nm qn)→s'.gens[s.gens.size]?=some (.fresh (fc L))→s'.gens.size=s.gens.size+1→s'.heap.Ns L m→m nOne=some v1→m nTwo=some v2→Q (.ref a) s') :
  wpAny (model PR G.w) A (call (.ref 21) [v1,v2]) Q E s:=by
 refine wpAny_call (entGen (G.X.keeps c.st) c.nolimit (by k_is) (by k_is) (by have:=c.dp;exact zq2 this) (BindsTo.of_eq rfl) (locs rfl) ?_)
 intro h₁ tk hns hk
 refine xe3_2 hns fun oL es ep hL rr=>?_
 have nL:s.heap.objs.size < h₁.objs.size:=Heap.lt_size hL
 have fresh:s.heap.get? h₁.objs.size=none:=by
  cases q:s.heap.get? h₁.objs.size with
  | none=>rfl
  | some o=>exact absurd (Heap.lt_size (hk _ _ q)) (Nat.lt_irrefl _)
 refine post _ _ s.heap.objs.size _ _ _ ?_ fresh (Heap.get?_none_of_le (Nat.le_refl _)) (Nat.ne_of_gt nL) (Heap.get?_push_size _ rfl) ?_ (by simp) ⟨oL,es,ep,Heap.get?_push_of_some _ hL,rr⟩ rfl rfl
 ·refine ⟨fun b o e _ _=>Heap.get?_push_of_some _ (hk b o e),fun b o e _ _=>⟨o.slots,Heap.get?_push_of_some _ (hk b o e)⟩,fun b o e=>⟨o,Heap.get?_push_of_some _ (hk b o e)⟩,fun g x e _=>?_,by simp,rfl,rfl,fun hA=>hA.push rfl⟩
  have:=(Array.getElem?_eq_some_iff.mp e).1
  simp only [Array.getElem?_push]
  rw [if_neg (Nat.ne_of_lt this)]
  exact e
 ·simp only [Array.getElem?_push_size]
  rfl
theorem all_kept {s:Shared}{hid:List Addr}{ex rest news:List (Addr × Obj)}{m:Str→Option Value}{h:Heap}(hr:∀ b o,s.heap.get? b=some o→b∈hid→b∈ex.map (·.1)∨(b,o)∈rest) (ha:∀ p∈ex,s.heap.get? p.1=some p.2)
  (F:Fr (hideAll s.heap hid) s.heap.objs.size h m) (N:News (hideAll s.heap hid) s.heap.objs.size h news) (hx:∀ p∈ex,p∈news) (hrest:∀ p∈rest,p∈news):∀ a o,s.heap.get? a=some o→h.get? a=some o:=fun a o e=>by
 by_cases hi:a∈hid
 ·rcases hr a o e hi with h' | h'
  ·refine xe1_2 (List.mem_map.mp h') fun p hp e'=>?_
   have z:=ha p hp
   rw [e',e] at z;cases z
   exact e'▸(N p (hx p hp)).1
  ·exact (N _ (hrest _ h')).1
 ·exact F.keep a o (hideAll_get _ e hi)
theorem ext_all {s s₂:Shared}{h:Heap}{tk:Nat}{gp:List Nat}(k:∀ a o,s.heap.get? a=some o→h.get? a=some o) (g:GE gp s s₂):Ext [] [] gp s { s₂ with heap:=h,toks:=tk } :=
 ⟨fun b o e _ _=>k b o e,fun b o e _ _=>⟨o.slots,k b o e⟩,fun b o e=>⟨o,k b o e⟩,g.gkeep,g.gsize,g.drawn,g.os,g.bare⟩
noncomputable abbrev mapObj (md acc ad:Value) (h1 h2 h3:Int) (t1 t2 t3:Nat):Obj:=dictOf [⟨h1,.str (Str.ofString "_mapping") t1,md⟩,⟨h2,.str (Str.ofString "_accessor") t2,acc⟩,⟨h3,.str (Str.ofString "_appends") t3,ad⟩] 3
structure IsMap (h:Heap) (x dx:Nat) (md ad:Nat):Prop where
 at_:h.get? x=some (instObj 123 dx)
 di:∃ h1 h2 h3 t1 t2 t3,h.get? dx=some (mapObj (.ref md) (.ref 240) (.ref ad) h1 h2 h3 t1 t2 t3)
theorem same_ {G:Gr}{A:Around}{outer:List Env}{d u:Nat}{s:Shared}{v:Nat}{Q E:Value→Shared→Prop}(c:Cx G A outer (d+1) u s.heap)
  (post:∀ s',Ext [] [] [] s s'→s'.gens=s.gens→Q (.ref v) s'):wpAny (model PR G.w) A (call (.ref 240) [.ref v]) Q E s:=by
 refine cx_open c ?_;clear c;intro ad ag au c
 have hb:∀ a∈frs outer,G.base.get? a=none:=fun a ha=>(frs_old c.ff a ha).1
 have X:=c.inK hb
 have T:=c.top hb
 refine wpAny_call (ent X c.nolimit (by k_is) (by k_is) (by have:=c.dp;dsimp only at this ⊢;exact zq2 this) (BindsTo.of_eq rfl) (locs rfl) ?_)
 intro h₁ F hk
 have N:News (hideAll s.heap (frs outer)) s.heap.objs.size h₁ []:=News.nil
 dsimp only
 k_steps
 exact post _ (Ext.more hk) rfl
theorem dict_get {prog:Program}{w:World}{A:Around}{E:Value→Shared→Prop}{s:Shared}{d:Nat}{o:Obj}{kvs:List (Int × Value)}{k:Int}{t:Nat}{dflt:Value}{Q:Value→Shared→Prop}(ho:s.heap.get? d=some o) (hd:o.IsDictOf (intKind prog w) kvs) (lo:(d == sysModules)=false) (h:Q ((valueAt kvs k).getD dflt) { s with toks:=s.toks+1 }) :
  wpAny (model prog w) A (call (.builtin "dict.get") [.ref d,.int k t,dflt]) Q E s :=
 have hD:s.heap.DictOf (intKind prog w) d kvs:=Heap.dictOf_iff.mpr (wi1_2 o ho hd)
 call_meetsIn PySem.F.slot_dict_get hD.typeIs PySem.F.entry_dict_get (PySem.F.args_dict_get_3 _ _ _) (meets_dict_get_default (intKind prog w) d (by simp [intKind,Value.isInt]) lo dflt) (wi1_2 _ hD.mapOf h)
theorem dict_getM {prog:Program}{w:World}{A:Around}{E:Value→Shared→Prop}{s:Shared}{d:Nat}{o:Obj}{kvs:List (Int × Value)}{pl:Sem Bool}{Q:Value × List Value→Shared→Prop}(ho:s.heap.get? d=some o) (hd:o.IsDictOf (intKind prog w) kvs) (h:Q (.builtin "dict.get",[.ref d]) s):wpAny (model prog w) A (getMethod (.ref d) "get" pl) Q E s :=
 have hD:s.heap.DictOf (intKind prog w) d kvs:=Heap.dictOf_iff.mpr (wi1_2 o ho hd)
 getMethod_builtin hD.typeIs PySem.F.plainAttrs_dict PySem.F.slot_dict_get PySem.F.type_dict_get hD.mapOf.noDict h
theorem getitem_ok {G:Gr}{A:Around}{outer:List Env}{d u:Nat}{s:Shared}{x dx md ad v:Nat}{k:Int}{t:Nat}{om oa:Obj}{kvs ads:List (Int × Value)}{Q E:Value→Shared→Prop}
  (c:Cx G A outer (d+3) (u+6) s.heap) (mp:IsMap s.heap x dx md ad) (o3:s.heap.get? md=some om) (hm:om.IsDictOf (intKind PR G.w) kvs) (hkv:valueAt kvs k=some (.ref v)) (o4:s.heap.get? ad=some oa) (ha:oa.IsDictOf (intKind PR G.w) ads)
  (ob:∀ a∈[x,dx,md],G.base.get? a=none) (nsm:(md == sysModules)=false) (nsa:(ad == sysModules)=false) (d1:@Ne Nat x dx) (d2:@Ne Nat x md) (d3:@Ne Nat dx md)
  (post:∀ s' a L e n nm qn m,Ext [] [] [] s s'→s.heap.get? a=none→s.heap.get? L=none→s.heap.get? e=none→@Ne Nat a L→s'.heap.get? a=some (genObj s.gens.size nm qn)→s'.gens[s.gens.size]?=some (.fresh (fc L))→s'.gens.size=s.gens.size+1→s'.heap.Ns L m→m nOne=some (.ref v) →
   m nTwo=some ((valueAt ads k).getD (.ref e))→s'.heap.get? e=some { cls:=.type "tuple",data:=.seq #[] n }→Q (.ref a) s'):wpAny (model PR G.w) A (call (.ref 106) [.ref x,.int k t]) Q E s:=by
 refine cx_open c ?_;clear c;intro aD ag au c
 apply hide;intro _ kι;obtain ⟨o1,h1,h2,h3,t1,t2,t3,o2⟩:=mp;apply kι
 have hb:∀ a∈x :: dx :: md :: frs outer,G.base.get? a=none:=fq (ob _ zm0) (fq (ob _ zm1) (fq (ob _ zm2) (fun a ha=>(frs_old c.ff a ha).1)))
 have X:=c.inK hb
 have T:=c.top hb
 refine wpAny_call (ent X c.nolimit (by k_is) (by k_is) (by have:=c.dp;dsimp only at this ⊢;exact zq17 this) (BindsTo.of_eq rfl) (locs rfl) ?_)
 intro h₁ F hk
 have hA:∀ q∈[(x,instObj 123 dx),(dx,mapObj (.ref md) (.ref 240) (.ref ad) h1 h2 h3 t1 t2 t3),(md,om)],s.heap.get? q.1=some q.2:=fq o1 (fq o2 (fq o3 fn0))
 refine xe1_3 (ledger (fr:=frs outer) (hid:=x :: dx :: md :: frs outer) hk hA rfl (fun a ha=>let ⟨_,o,ho,_⟩:=frs_old c.ff a ha;⟨o,ho⟩)) fun rest N rne hr=>?_
 simp only [List.cons_append,List.nil_append] at N
 have r1:=rne x zp0
 have r2:=rne dx zp1
 have r3:=rne md zp2
 dsimp only
 k_steps
 refine kdt_getItem (by k_asm) (by k_mem) hm (by simp [intKind,Value.isInt]) hkv ?_
 k_steps
 rename Fr _ _ _ _=>F1
 rename News _ _ _ _=>N1
 obtain ⟨ci,old⟩:=here (d:=d+2) (u:=u+3) c hb hr (fun a ha=>by simp [ha]) hA F1 N1 (fq (by k_mem) (fq (by k_mem) (fq (by k_mem) fn0))) (fun q hq=>by k_mem)
 refine same_ (G:=G) (d:=d+1) (ci _ rfl rfl) fun s₂ y hg=>?_
 obtain ⟨F2,N2⟩:=k_after (s₁:={ s with heap:=_,toks:=_ }) F1 N1 y
 clear F1 N1
 k_steps
 have kA:=all_kept hr hA F2 N2 (fq (by k_mem) (fq (by k_mem) (fq (by k_mem) fn0))) (fun q hq=>by k_mem)
 refine dict_getM (kA _ _ o4) ha ?_
 k_steps
 rename Fr _ _ _ _=>F3
 rename News _ _ _ _=>N3
 rename _ < _∧_=>l1
 have kA3:=all_kept hr hA F3 N3 (fq (by k_mem) (fq (by k_mem) (fq (by k_mem) fn0))) (fun q hq=>by k_mem)
 refine dict_get (kA3 _ _ o4) ha nsa ?_
 have fe:=new_in N3 (by k_mem) hr (fq l1.1 (fq l1.2.1 (fq l1.2.2.1 fn0))) l1.2.2.2
 k_steps
 obtain ⟨ci3,old3⟩:=here (d:=d+2) (u:=u+3) c hb hr (fun a ha=>by simp [ha]) hA F3 N3 (fq (by k_mem) (fq (by k_mem) (fq (by k_mem) fn0))) (fun q hq=>by k_mem)
 refine mk_chain (G:=G) (d:=d+1) (ci3 _ rfl rfl) fun s₄ a L nm qn m y4 fa fL ne oa' og gs ns m1 m2=>?_
 have e3:=fun tk=>ext_all (tk:=tk) kA3 (Ext.ge' (s:=s) y)
 dsimp only at oa' og gs
 rw [hg] at oa' og gs
 exact post s₄ a L _ _ nm qn m ((e3 _).trans (fp':=[]) (gp':=[]) y4 fn0 fn0) (old3 _ fa) (old3 _ fL) fe ne oa' og gs ns m1 m2 (y4.keep _ _ (News.get N3 (by k_mem)) fnm fnm)
theorem entC {prog:Program}{w:World}{A:Around}{s:Shared}{fp:List Addr}{K:Frag}
  {R:Result→Shared→Prop}{name qual:Str}{params:Arguments}{body:List Stmt}{scope:Scope}{dV kV doc pm cdv ct oc:Value}{an od:Option Addr}{osl:Array (Option Value)}{f:Addr}{args:Args}{binds:List (Str × Value)}
  (X:K.In (hideAll s.heap fp)) (hlim:s.heap.NoLimit)
  (ho:K.lookup f=some ⟨oc,od,.func (fnOf name qual params body scope dV kV doc pm an cdv ct),osl⟩) (hcd:codeIn K cdv qual=true) (hroom:A.depth < recursionLimit)
  (hbind:BindsTo s (fnOf name qual params body scope dV kV doc pm an cdv ct) args binds)
  (hkind:∀ n,∀ x∈binds,scope.names.lookup x.1=some .local∨(scope.names.lookup x.1=some .cell∧((cellsFrom n scope.names []).lookup x.1).isSome=true))
  (hnd:((cellsFrom 0 scope.names []).map (·.1)).Nodup)
  (h:∀ h₁ tk cells,Fr (hideAll s.heap fp) s.heap.objs.size h₁ (bindL (envOfC qual scope s.heap.objs.size f cdv).kindOf binds fun _=>none)→News (hideAll s.heap fp) s.heap.objs.size h₁ cells →
   CellsAre (bindC (envOfC qual scope s.heap.objs.size f cdv).kindOf binds fun _=>none) (cellsFrom (s.heap.objs.size+1) scope.names []) cells→(∀ p∈cells,s.heap.get? p.1=none)→(∀ b o,s.heap.get? b=some o→h₁.get? b=some o) →
   wpAny (model prog w) (A.deeper (envOfC qual scope s.heap.objs.size f cdv)) (execs body (envOfC qual scope s.heap.objs.size f cdv))
    (fun fl s'=>R (.ok (.ret (match fl with | .ret v=>v | _=>.none))) s')
    (fun e s'=>wpAny (model prog w) (A.deeper (envOfC qual scope s.heap.objs.size f cdv)) (leaving (envOfC qual scope s.heap.objs.size f cdv) e) (fun _ s''=>R (.error e) s'') (fun e' s''=>R (.error e') s'') s')
    { s with heap:=h₁,toks:=tk })
  (hco:scope.isCoroutine=false:=by rfl) (hgen:scope.isGenerator=false:=by rfl) (hk:scope.kind=.function:=by rfl):codeAny (model prog w) A (.call (.ref f) args) R s:=by
 have X':K.In s.heap:=fun a o e=>of_hideAll _ (X a o e)
 refine codeAny_call_function hroom (X' _ _ ho) rfl hco hgen rfl (codeRec_of X' hcd) (hbind _ _ _ _ ?_)
 refine wpAny_newFunctionEnv_cells hk (hkind _) fun env' he s' x=>?_
 subst he
 refine ⟨hlim.keeps x.toInCall.keep,codeAny_func ?_⟩
 (refine xe2_2 x.done ?_;rintro h₁ tk rfl _)
 have hk₁:=x.toInCall.keep
 refine xe1_2 (Cl.news (h₀:=s.heap) (Nat.le_refl _) fun n c hm=>⟨x.cell n c (lookup_of_mem_nodup (cellsFrom_names scope.names 0 (s.heap.objs.size+1) [] [] rfl▸hnd) hm),x.above n c hm⟩) fun cells NC Y=>?_
 refine h h₁ tk cells ⟨x.toInCall.ns,fun b o e=>hk₁ b o (of_hideAll _ e),Nat.le_of_eq (hideAll_size _ _)⟩ (fun p hp=>(yi3 ((NC p hp).1) ((NC p hp).2.1) ?_)) Y (fun p hp=>(NC p hp).2.2) hk₁
 cases q:(hideAll s.heap fp).get? p.1 with
 | none=>rfl
 | some o=>have:=of_hideAll _ q;rw [(NC p hp).2.2] at this;exact nsf this
theorem entL {prog:Program}{w:World}{A:Around}{s:Shared}{fp:List Addr}{R:Result→Shared→Prop}{name qual:Str}{params:Arguments}{body:Expr}{scope:Scope}{cl:List (Str × Addr)}{pm ctv:Value}{c':Addr}{f:Addr}{args:Args}{binds:List (Str × Value)}
  (hlim:s.heap.NoLimit) (ho:s.heap.get? f=some (kla_obj name qual params body scope cl pm c' ctv)) (hcd:s.heap.CodeRec (.ref c') qual) (hroom:A.depth < recursionLimit)
  (hbind:bindArgs (kla_fn name qual params body scope cl pm (.ref c') ctv) args=pure binds) (hloc:∀ y∈binds,scope.names.lookup y.1=some .local)
  (h:∀ h₁,Fr (hideAll s.heap fp) s.heap.objs.size h₁ (fun y=>binds.reverse.lookup y)→(∀ b o,s.heap.get? b=some o→h₁.get? b=some o) →
   wpAny (model prog w) (A.deeper (envX qual scope s.heap.objs.size f (.ref c') cl)) (eval body (envX qual scope s.heap.objs.size f (.ref c') cl)) (fun v s'=>R (.ok (.ret v)) s')
    (fun e s'=>wpAny (model prog w) (A.deeper (envX qual scope s.heap.objs.size f (.ref c') cl)) (leaving (envX qual scope s.heap.objs.size f (.ref c') cl) e) (fun _ s''=>R (.error e) s'') (fun e' s''=>R (.error e') s'') s')
    { s with heap:=h₁,toks:=s.toks+binds.length })
  (hco:scope.isCoroutine=false) (hgen:scope.isGenerator=false) (hk:scope.kind=.function) (hcell:∀ x∈scope.names,x.2≠.cell):codeAny (model prog w) A (.call (.ref f) args) R s:=by
 refine kla_callFunE hroom ho rfl hco hgen rfl hcd ?_
 rw [hbind]
 refine wpAny_pure (wpAny_newFunctionEnv hcell hloc (fun h₁ hns hsb=>⟨hlim.fresh _ hsb,?_⟩) hk)
 show codeAny _ _ (.expr body (envX qual scope s.heap.objs.size f (.ref c') cl)) _ _
 have hk₁:∀ b o,s.heap.get? b=some o→h₁.get? b=some o:=fun b o e=>hsb.extBut b o (Nat.ne_of_lt (Heap.lt_size e)) (Heap.get?_push_of_some _ e)
 exact kla_codeExpr (h h₁ ⟨hns,fun b o e=>hk₁ b o (of_hideAll _ e),Nat.le_of_eq (hideAll_size _ _)⟩ hk₁)
noncomputable def lamsOf:List Stmt→List (Arguments × Expr × Scope × Pos)
 | []=>[]
 | .Return (some (.Lambda ps b sc pos)) _ :: r=>(ps,b,sc,pos) :: lamsOf r
 | .If _ [.Return (some (.Lambda ps b sc pos)) _] _ _ :: r=>(ps,b,sc,pos) :: lamsOf r
 | _ :: r=>lamsOf r
noncomputable def lamIn (o:Option Obj) (i:Nat):Option (Str × Arguments × Expr × Scope × Pos):=match o with
 | some ⟨_,_,.func fd,_⟩=>match fd.body with | .stmts b=>(lamsOf b)[i]?.map fun q=>(fd.qualname,q) | _=>none
 | _=>none
theorem by_look {K:Frag}{a:Addr}{o:Obj}{P:Option Obj→Prop}(e:K.lookup a=some o) (h:P (some o)):P (K.lookup a):=e▸h
noncomputable abbrev nItem:Str:=Str.ofString "item"
noncomputable abbrev nMade:Str:=Str.ofString "made"
noncomputable abbrev nItems:Str:=Str.ofString "items"
noncomputable def IsLam (G:Gr) (h:Heap) (fa i f:Nat) (cl:List (Str × Addr)) (c':Nat):Prop :=
 ∃ qn ps b sc pos name qual pm ctv,lamIn ((hd.heap_1 G.w.params).lookup fa) i=some (qn,ps,b,sc,pos)∧h.get? f=some (kla_obj name qual ps b sc cl pm c' ctv)∧h.CodeRec (.ref c') qual
noncomputable def TabT (G:Gr) (h:Heap) (oc:Option Nat):Prop :=
 ∃ qn ps b sc pos tb,lamIn ((hd.heap_1 G.w.params).lookup 254) 0=some (qn,ps,b,sc,pos)∧h.get? 249=some (tabObj tb)∧((tb=#[]∧oc=none)∨∃ c',tb=#[rawInt pos.line,rawInt pos.col,.ref c']∧h.CodeRec (.ref c') (qn++".<locals>."++"<lambda>")∧oc=some c')
theorem codeRec_ext {s s':Shared}{cd:Value}{q:Str}{P:Addr}{ps:Array Value}(cr:s.heap.CodeRec cd q) (o:s.heap.get? P=some (tabObj ps)) (hps:∀ t,ps[1]?≠some (.str q t)) (x:Ext [] [P] [] s s'):s'.heap.CodeRec cd q:=by
 (refine xe4_4 cr ?_;rintro c2 oc' vs tq rfl q1 q2 q3)
 exact ⟨c2,oc',vs,tq,rfl,x.keep _ _ q1 (fun q=>by simp at q;rw [q,o] at q1;(replace q1:=Eq.symm q1;cases q1);cases q2;exact hps _ q3) fnm,q2,q3⟩
theorem none_st {b h:Heap}(st:b.StaysIn h) {a:Addr}(e:h.get? a=none):b.get? a=none:=by
 cases q:b.get? a with
 | none=>rfl
 | some o=>rw [st _ _ q] at e;exact nsf e.symm
theorem told_ {G:Gr}{A:Around}{outer:List Env}{d u:Nat}{s:Shared}{mm:Nat}{item:Nat}{oc:Option Nat}{Q E:Value→Shared→Prop}
  (c:Cx G A outer (d+1) u s.heap) (tb:TabT G s.heap oc)
  (post:∀ s' f ci cm c',(oc=some c'∨oc=none∧s.heap.get? c'=none)→Ext [] [249] [] s s'→s.heap.get? f=none→s.heap.get? ci=none→s.heap.get? cm=none→IsLam G s'.heap 254 0 f [(nMade,cm),(nItem,ci)] c'→s'.heap.IsCell ci (some (.ref item))→s'.heap.IsCell cm (some (.ref mm))→TabT G s'.heap (some c')→s'.gens=s.gens→@Ne Nat ci cm→Q (.ref f) s') :
  wpAny (model PR G.w) A (call (.ref 254) [.ref mm,.ref item]) Q E s:=by
 refine cx_open c ?_;clear c;intro ad ag au c
 refine xe6_3 tb fun qn ps b sc pos tb e0 o1 tbs=>?_
 have e1:=e0
 have hb:∀ a∈249 :: frs outer,G.base.get? a=none:=fq G.n1 (fun a ha=>(frs_old c.ff a ha).1)
 have X:=c.inK hb
 have T:=c.top hb
 have C:=G.C1.keeps fun b o e=>hideAll_get (h:=s.heap) (249 :: frs outer) (c.st b o e) fun q=>by rw [hb b q] at e;exact nsf e
 revert e0
 refine by_look (P:=fun o=>lamIn o 0=some (qn,ps,b,sc,pos)→_) (by k_is) ?_
 dsimp only [lamIn,lamsOf,List.getElem?_cons_zero,List.getElem?_cons_succ,Option.map]
 intro e0
 simp only [Option.some.injEq,Prod.mk.injEq] at e0
 (refine xe0_5 e0 ?_;rintro rfl rfl rfl rfl rfl)
 refine wpAny_call (entC X c.nolimit (by k_is) (by k_is) (by have:=c.dp;dsimp only at this ⊢;exact zq2 this) (BindsTo.of_eq rfl) (kindsX rfl) (by decide) ?_)
 intro h₁ tk cells F NC CA fc hk
 (refine xe2_3 (CellsAre.two CA) ?_;rintro oc1 oc2 rfl hc1 hc2)
 have hc1':oc1.data=.cell (some (.ref item)):=hc1
 have hc2':oc2.data=.cell (some (.ref mm)):=hc2
 clear hc1 hc2 CA
 have f1:=fc _ (.head _)
 have f2:=fc _ (.tail _ (.head _))
 dsimp only at f1 f2
 have hA:∀ q∈[((249:Nat),tabObj tb)],s.heap.get? q.1=some q.2:=fq o1 fn0
 refine xe1_3 (ledger (fr:=frs outer) (hid:=249 :: frs outer) hk hA rfl (fun a ha=>let ⟨_,o,ho,_⟩:=frs_old c.ff a ha;⟨o,ho⟩)) fun rest N₀ rne hr=>?_
 have N:News (hideAll s.heap (249 :: frs outer)) s.heap.objs.size h₁ ([(s.heap.objs.size+1+1,oc1),(s.heap.objs.size+1,oc2)]++([((249:Nat),tabObj tb)]++rest)):=fun p hp=>(List.mem_append.mp hp).elim (NC p) (N₀ p)
 clear N₀ NC
 simp only [List.cons_append,List.nil_append] at N
 have r1:=rne 249 zp0
 have n1:@Ne Nat (s.heap.objs.size+1+1) 249:=fun q=>by rw [q] at f1;rw [f1] at o1;exact nsf o1
 have n2:@Ne Nat (s.heap.objs.size+1) 249:=fun q=>by rw [q] at f2;rw [f2] at o1;exact nsf o1
 have n3:@Ne Nat (s.heap.objs.size+1+1) (s.heap.objs.size+1):=by exact zq35
 clear rne
 have ext:∀ {m:Str→Option Value}{h':Heap}{tk:Nat}{news:List (Addr × Obj)}{o':Obj},Fr (hideAll s.heap (249 :: frs outer)) s.heap.objs.size h' m→News (hideAll s.heap (249 :: frs outer)) s.heap.objs.size h' news→((249:Nat),o')∈news→(∀ q∈rest,q∈news)→Ext [] [249] [] s { s with heap:=h',toks:=tk }:=fun F N h1 h2 =>
  ext_fr F N fun a o ha hm=>(hr a o ha hm).elim (fun h=>by simp at h;exact .inr ⟨by simp [h],_,h▸h1⟩) fun h=>.inl (h2 _ h)
 rcases tbs with ⟨rfl,rfl⟩ | ⟨c',rfl,cr,rfl⟩
 ·dsimp only
  k_steps
  rename Fr _ _ _ _=>F1
  rename News _ _ _ _=>N1
  rename _ < _∧_=>l1
  rename _ < _=>l2
  rename _[1]?=_=>g1
  rename _=Data.fields _=>g2
  refine post _ _ (s.heap.objs.size+1+1) (s.heap.objs.size+1) _ (.inr ⟨rfl,?_⟩) (ext F1 N1 (by k_mem) (fun q hq=>by k_mem)) (Heap.get?_none_of_le (by exact Nat.le_of_lt (Nat.lt_trans (Nat.lt_of_succ_lt l1.2.1) l2))) f1 f2 ⟨_,_,_,_,_,_,_,_,_,e1,News.get N1 (by k_mem),⟨_,_,_,_,rfl,News.get N1 (by k_mem),g2,g1⟩⟩ ⟨oc1,News.get N1 (by k_mem),hc1'⟩ ⟨oc2,News.get N1 (by k_mem),hc2'⟩
   ⟨_,_,_,_,_,_,e1,News.get N1 (by k_mem),.inr (wi1_3 _ rfl ⟨_,_,_,_,rfl,News.get N1 (by k_mem),g2,g1⟩ rfl)⟩ rfl n3
  exact Heap.get?_none_of_le (by exact zq104 l1)
 ·dsimp only
  k_steps
  rename Fr _ _ _ _=>F1
  rename News _ _ _ _=>N1
  rename _ < _∧_=>l1
  have ee:=ext (tk:=s.toks) F1 N1 (by k_mem) (fun q hq=>by k_mem)
  have cr':=codeRec_ext cr o1 (fun t h=>by cases h) ee
  refine post _ _ (s.heap.objs.size+1+1) (s.heap.objs.size+1) _ (.inl rfl) (ext F1 N1 (by k_mem) (fun q hq=>by k_mem)) (Heap.get?_none_of_le (by exact zq104 l1)) f1 f2 ⟨_,_,_,_,_,_,_,_,_,e1,News.get N1 (by k_mem),cr'⟩ ⟨oc1,News.get N1 (by k_mem),hc1'⟩ ⟨oc2,News.get N1 (by k_mem),hc2'⟩
   ⟨_,_,_,_,_,_,e1,News.get N1 (by k_mem),.inr (wi1_3 _ rfl cr' rfl)⟩ rfl n3
theorem told_call {G:Gr}{A:Around}{outer:List Env}{d u:Nat}{s:Shared}{f ci cm mm item n c':Nat}{ms:List Value}{Q E:Value→Shared→Prop}
  (c:Cx G A outer (d+2) (u+6) s.heap) (lam:IsLam G s.heap 254 0 f [(nMade,cm),(nItem,ci)] c') (h1:s.heap.IsCell ci (some (.ref item))) (h2:s.heap.IsCell cm (some (.ref mm))) (o1:s.heap.get? mm=some (W.listOf ms.toArray n)) (ob:∀ a∈[ci,cm,mm],G.base.get? a=none) (hl:ms.length < 1000) (nf:mm ∉ frs outer)
  (d1:@Ne Nat ci cm)
  (post:∀ s' l' n' k',Ext [] [mm] [] s s'→s.heap.get? l'=none→s'.heap.get? mm=some (W.listOf (ms++[Value.ref item]).toArray n')→s'.heap.get? l'=some (W.listOf #[.ref item] k')→Q (.ref l') s'):wpAny (model PR G.w) A (call (.ref f) []) Q E s:=by
 refine cx_open c ?_;clear c;intro ad ag au c
 apply hide;intro _ kι;obtain ⟨qn,ps,b,sc,pos,name,qual,pm,ctv,e0,o2,cr⟩:=lam;apply kι
 refine xe1_2 h1 fun oc1 o3 hc1=>?_
 refine xe1_2 h2 fun oc2 o4 hc2=>?_
 revert e0
 refine by_look (P:=fun o=>lamIn o 0=some (qn,ps,b,sc,pos)→_) (by k_is) ?_
 dsimp only [lamIn,lamsOf,List.getElem?_cons_zero,List.getElem?_cons_succ,Option.map]
 intro e0
 simp only [Option.some.injEq,Prod.mk.injEq] at e0
 (refine xe0_5 e0 ?_;rintro rfl rfl rfl rfl rfl)
 have hb:∀ a∈ci :: cm :: mm :: frs outer,G.base.get? a=none:=fq (ob _ zm0) (fq (ob _ zm1) (fq (ob _ zm2) (fun a ha=>(frs_old c.ff a ha).1)))
 have X:=c.inK hb
 have T:=c.top hb
 have C:=G.C1.keeps fun b o e=>hideAll_get (h:=s.heap) (ci :: cm :: mm :: frs outer) (c.st b o e) fun q=>by rw [hb b q] at e;exact nsf e
 refine wpAny_call (entL (fp:=ci :: cm :: mm :: frs outer) c.nolimit o2 cr (by have:=c.dp;dsimp only at this ⊢;exact Nat.lt_of_add_right_lt this) rfl (locs rfl) ?_ rfl rfl rfl (by decide))
 intro h₁ F hk
 have hA:∀ q∈[(ci,oc1),(cm,oc2),(mm,W.listOf ms.toArray n)],s.heap.get? q.1=some q.2:=fq o3 (fq o4 (fq o1 fn0))
 refine xe1_3 (ledger (fr:=frs outer) (hid:=ci :: cm :: mm :: frs outer) hk hA rfl (fun a ha=>let ⟨_,o,ho,_⟩:=frs_old c.ff a ha;⟨o,ho⟩)) fun rest N rne hr=>?_
 simp only [List.cons_append,List.nil_append] at N
 have n1:@Ne Nat ci mm:=fun q=>by rw [q,o1] at o3;(replace o3:=Eq.symm o3;cases o3);cases hc1
 have n2:@Ne Nat cm mm:=fun q=>by rw [q,o1] at o4;(replace o4:=Eq.symm o4;cases o4);cases hc2
 have r1:=rne ci zp0
 have r2:=rne cm zp1
 have r3:=rne mm zp2
 clear rne
 dsimp only
 k_steps
 rename Fr _ _ _ _=>F1
 rename News _ _ _ _=>N1
 rename _ < _∧_=>l1
 obtain ⟨ci1,old⟩:=here (d:=d+1) (u:=u+3) c hb hr (fun a ha=>by simp [ha]) hA F1 N1 (fq (by k_mem) (fq (by k_mem) (fq (by k_mem) fn0))) (fun q hq=>by k_mem)
 have kA:=all_kept hr hA F1 N1 (fq (by k_mem) (fq (by k_mem) (fq (by k_mem) fn0))) (fun q hq=>by k_mem)
 refine make_ (G:=G) (d:=d) (its:=[.ref item]) (ci1 _ rfl rfl) (News.get N1 (by k_mem)) (News.get N1 (by k_mem)) (Nat.ne_of_lt l1.2.2.1) ?_ (by simp) hl ?_
 ·refine fq (ob _ zm2) (fq (?_) fn0)
  have fl:=new_in N1 (by k_mem) hr (fq l1.1 (fq l1.2.1 (fq l1.2.2.1 fn0))) l1.2.2.2
  exact none_st c.st fl
 ·intro s₂ l' n' k' y fl om ol
  have e3:=fun tk=>ext_all (tk:=tk) kA (GE.refl [] s)
  exact post s₂ l' n' k' (((e3 _).weak (fr':=[]) (fp'':=[mm]) (gp'':=[]) fn0 fn0 fn0).trans y (fun _ h=>.inl h) fn0) (old _ fl) om ol
theorem fac_init {G:Gr}{A:Around}{outer:List Env}{d u:Nat}{s:Shared}{x dx f:Nat}{R:Result→Shared→Prop}
  (c:Cx G A outer (d+1) u s.heap) (o1:s.heap.get? x=some (instObj 165 dx)) (o2:s.heap.get? dx=some emptyDict) (d1:@Ne Nat x dx) (ob:∀ a∈[x,dx],G.base.get? a=none)
  (post:∀ s',Ext [] [dx] [] s s'→IsFac s'.heap x dx (.ref f) .none→R (.ok (.ret (.ref x))) s'):codeAny (model PR G.w) A (.call (.ref 141) ⟨[.ref x,.ref f],[]⟩) (InitBack x R) s:=by
 refine cx_openC c ?_;clear c;intro ad ag au c
 have hb:∀ a∈x :: dx :: frs outer,G.base.get? a=none:=fq (ob _ zm0) (fq (ob _ zm1) (fun a ha=>(frs_old c.ff a ha).1))
 have X:=c.inK hb
 have T:=c.top hb
 refine ent X c.nolimit (by k_is) (by k_is) (by have:=c.dp;dsimp only at this ⊢;exact zq2 this) (BindsTo.of_eq rfl) (locs rfl) ?_
 intro h₁ F hk
 refine xe1_3 (ledger (s:=s.heap) (fr:=frs outer) (hid:=x :: dx :: frs outer) (ex:=[(x,instObj 165 dx),(dx,dictOf [] 0)]) hk
  (fq o1 (fq o2 fn0)) rfl (fun a ha=>let ⟨_,o,ho,_⟩:=frs_old c.ff a ha;⟨o,ho⟩)) fun rest N rne hr=>?_
 simp only [List.cons_append,List.nil_append] at N
 have r1:=rne x zp0
 have r2:=rne dx zp1
 dsimp only
 k_steps
 refine ⟨rfl,post _ (ext_fr (hid:=x :: dx :: frs outer) (by k_asm) (by k_asm) ?_) ⟨News.get (by k_asm) (by k_mem),(xi4 _ _ _ _ (News.get (by k_asm) (by k_mem)))⟩⟩
 intro a o ha hm
 rcases hr a o ha hm with h | h
 ·simp only [List.map_cons,List.map_nil,List.mem_cons,List.not_mem_nil,or_false] at h
  rcases h with h | h <;> replace h:=h.symm <;> subst h
  ·rw [o1] at ha;cases ha;exact .inl (by k_mem)
  ·exact .inr ⟨zm0,_,by k_mem⟩
 ·exact .inl (by k_mem)
theorem mk_fac {G:Gr}{A:Around}{outer:List Env}{d u:Nat}{s:Shared}{f:Nat}{Q E:Value→Shared→Prop}(c:Cx G A outer (d+2) (u+1) s.heap)
  (post:∀ s' x dx,Ext [] [] [] s s'→s.heap.get? x=none→s.heap.get? dx=none→@Ne Nat x dx→IsFac s'.heap x dx (.ref f) .none→Q (.ref x) s'):wpAny (model PR G.w) A (call (.ref 165) [.ref f]) Q E s:=by
 have Y:=fresh2 s 165
 refine make_raw (G.X.keeps c.st) (by k_is) (by k_is) (by k_is) ?_
 refine fac_init (d:=d) (u:=u) (Cx.make c 165 _ (Y.ext _ _ _)) Y.ox Y.od Y.ne (fq (none_st c.st Y.nx) (fq (none_st c.st Y.nd) fn0)) fun s' x₁ it=>?_
 exact post s' _ _ ((Y.ext _ _ _).trans x₁ (fun b hb=>.inr (by simp at hb;exact hb▸Y.nd)) fn0) Y.nx Y.nd Y.ne it
noncomputable abbrev seqObj (q:Value) (h1:Int) (t1:Nat):Obj:=dictOf [⟨h1,.str (Str.ofString "_sequence") t1,q⟩] 1
structure IsSeqV (h:Heap) (v dv q:Nat):Prop where
 at_:h.get? v=some (instObj 207 dv)
 di:∃ h1 t1,h.get? dv=some (seqObj (.ref q) h1 t1)
theorem seq_init {G:Gr}{A:Around}{outer:List Env}{d u:Nat}{s:Shared}{x dx f:Nat}{R:Result→Shared→Prop}
  (c:Cx G A outer (d+1) u s.heap) (o1:s.heap.get? x=some (instObj 207 dx)) (o2:s.heap.get? dx=some emptyDict) (d1:@Ne Nat x dx) (ob:∀ a∈[x,dx],G.base.get? a=none)
  (post:∀ s',Ext [] [dx] [] s s'→IsSeqV s'.heap x dx f→R (.ok (.ret (.ref x))) s'):codeAny (model PR G.w) A (.call (.ref 183) ⟨[.ref x,.ref f],[]⟩) (InitBack x R) s:=by
 refine cx_openC c ?_;clear c;intro ad ag au c
 have hb:∀ a∈x :: dx :: frs outer,G.base.get? a=none:=fq (ob _ zm0) (fq (ob _ zm1) (fun a ha=>(frs_old c.ff a ha).1))
 have X:=c.inK hb
 have T:=c.top hb
 refine ent X c.nolimit (by k_is) (by k_is) (by have:=c.dp;dsimp only at this ⊢;exact zq2 this) (BindsTo.of_eq rfl) (locs rfl) ?_
 intro h₁ F hk
 refine xe1_3 (ledger (s:=s.heap) (fr:=frs outer) (hid:=x :: dx :: frs outer) (ex:=[(x,instObj 207 dx),(dx,dictOf [] 0)]) hk
  (fq o1 (fq o2 fn0)) rfl (fun a ha=>let ⟨_,o,ho,_⟩:=frs_old c.ff a ha;⟨o,ho⟩)) fun rest N rne hr=>?_
 simp only [List.cons_append,List.nil_append] at N
 have r1:=rne x zp0
 have r2:=rne dx zp1
 dsimp only
 k_steps
 refine ⟨rfl,post _ (ext_fr (hid:=x :: dx :: frs outer) (by k_asm) (by k_asm) ?_) ⟨News.get (by k_asm) (by k_mem),(xi2 _ _ (News.get (by k_asm) (by k_mem)))⟩⟩
 intro a o ha hm
 rcases hr a o ha hm with h | h
 ·simp only [List.map_cons,List.map_nil,List.mem_cons,List.not_mem_nil,or_false] at h
  rcases h with h | h <;> replace h:=h.symm <;> subst h
  ·rw [o1] at ha;cases ha;exact .inl (by k_mem)
  ·exact .inr ⟨zm0,_,by k_mem⟩
 ·exact .inl (by k_mem)
theorem mk_seq {G:Gr}{A:Around}{outer:List Env}{d u:Nat}{s:Shared}{f:Nat}{Q E:Value→Shared→Prop}(c:Cx G A outer (d+2) (u+1) s.heap)
  (post:∀ s' x dx,Ext [] [] [] s s'→s.heap.get? x=none→s.heap.get? dx=none→@Ne Nat x dx→IsSeqV s'.heap x dx f→Q (.ref x) s'):wpAny (model PR G.w) A (call (.ref 207) [.ref f]) Q E s:=by
 have Y:=fresh2 s 207
 refine make_raw (G.X.keeps c.st) (by k_is) (by k_is) (by k_is) ?_
 refine seq_init (d:=d) (u:=u) (Cx.make c 207 _ (Y.ext _ _ _)) Y.ox Y.od Y.ne (fq (none_st c.st Y.nx) (fq (none_st c.st Y.nd) fn0)) fun s' x₁ it=>?_
 exact post s' _ _ ((Y.ext _ _ _).trans x₁ (fun b hb=>.inr (by simp at hb;exact hb▸Y.nd)) fn0) Y.nx Y.nd Y.ne it
theorem all_kept2 {s:Shared}{hid fp:List Addr}{ex rest news:List (Addr × Obj)}{m:Str→Option Value}{h:Heap}(hr:∀ b o,s.heap.get? b=some o→b∈hid→b∈ex.map (·.1)∨(b,o)∈rest) (ha:∀ p∈ex,s.heap.get? p.1=some p.2)
  (F:Fr (hideAll s.heap hid) s.heap.objs.size h m) (N:News (hideAll s.heap hid) s.heap.objs.size h news) (hx:∀ p∈ex,p∈news∨p.1∈fp) (hrest:∀ p∈rest,p∈news):∀ a o,a ∉ fp→s.heap.get? a=some o→h.get? a=some o:=fun a o hn e=>by
 by_cases hi:a∈hid
 ·rcases hr a o e hi with h' | h'
  ·refine xe1_2 (List.mem_map.mp h') fun p hp e'=>?_
   have z:=ha p hp
   rw [e',e] at z;(replace z:=Eq.symm z;cases z)
   rcases hx p hp with h2 | h2
   ·exact e'▸(N p h2).1
   ·exact absurd (e'▸h2) hn
  ·exact (N _ (hrest _ h')).1
 ·exact F.keep a o (hideAll_get _ e hi)
theorem map_init {G:Gr}{A:Around}{outer:List Env}{d u:Nat}{s:Shared}{x dx md ad:Nat}{oa:Obj}{ads:List (Int × Value)}{R:Result→Shared→Prop}
  (c:Cx G A outer (d+1) u s.heap) (o1:s.heap.get? x=some (instObj 123 dx)) (o2:s.heap.get? dx=some emptyDict) (o4:s.heap.get? ad=some oa) (ha:oa.IsDictOf (intKind PR G.w) ads) (hne:ads≠[]) (nad:@Ne Nat ad dx) (hsz:ads.length < 1000) (nsa:(ad == sysModules)=false) (d1:@Ne Nat x dx) (ob:∀ a∈[x,dx],G.base.get? a=none)
  (post:∀ s',Ext [] [dx] [] s s'→IsMap s'.heap x dx md ad→R (.ok (.ret (.ref x))) s'):codeAny (model PR G.w) A (.call (.ref 78) ⟨[.ref x,.ref md,.ref 240,.ref ad],[]⟩) (InitBack x R) s:=by
 refine cx_openC c ?_;clear c;intro aD ag au c
 have hb:∀ a∈x :: dx :: frs outer,G.base.get? a=none:=fq (ob _ zm0) (fq (ob _ zm1) (fun a ha=>(frs_old c.ff a ha).1))
 have X:=c.inK hb
 have T:=c.top hb
 refine ent X c.nolimit (by k_is) (by k_is) (by have:=c.dp;dsimp only at this ⊢;exact zq2 this) (binds_K (G.X.keeps c.st) rfl (by k_is) rfl rfl rfl) (locs rfl) ?_
 intro h₁ F hk
 have hA:∀ q∈[(x,instObj 123 dx),(dx,dictOf [] 0)],s.heap.get? q.1=some q.2:=fq o1 (fq o2 fn0)
 refine xe1_3 (ledger (s:=s.heap) (fr:=frs outer) (hid:=x :: dx :: frs outer) (ex:=[(x,instObj 123 dx),(dx,dictOf [] 0)]) hk hA rfl (fun a ha=>let ⟨_,o,ho,_⟩:=frs_old c.ff a ha;⟨o,ho⟩)) fun rest N rne hr=>?_
 simp only [List.cons_append,List.nil_append] at N
 have r1:=rne x zp0
 have r2:=rne dx zp1
 dsimp only
 k_steps
 rename Fr _ _ _ _=>F1
 rename News _ _ _ _=>N1
 have kA:=all_kept2 (fp:=[dx]) hr hA F1 N1 (fq (.inl (by k_mem)) (fq (.inr zm0) fn0)) (fun q hq=>by k_mem)
 refine wpAny_truthy_dict (knd:=intKind PR G.w) nsa (Heap.dictOf_iff.mpr (wi1_2 oa (kA _ _ (by simpa using nad) o4) ha)) (by omega) ?_
 have hte:ads.isEmpty=false:=by cases ads with | nil=>exact absurd rfl hne | cons=>rfl
 try simp only [hte,Bool.not_false]
 k_steps
 refine ⟨rfl,post _ (ext_fr (hid:=x :: dx :: frs outer) (by k_asm) (by k_asm) ?_) ⟨News.get (by k_asm) (by k_mem),(xi6 _ _ _ _ _ _ (News.get (by k_asm) (by k_mem)))⟩⟩
 intro a o ha hm
 rcases hr a o ha hm with h | h
 ·simp only [List.map_cons,List.map_nil,List.mem_cons,List.not_mem_nil,or_false] at h
  rcases h with h | h <;> replace h:=h.symm <;> subst h
  ·rw [o1] at ha;cases ha;exact .inl (by k_mem)
  ·exact .inr ⟨zm0,_,by k_mem⟩
 ·exact .inl (by k_mem)
theorem mk_map {G:Gr}{A:Around}{outer:List Env}{d u:Nat}{s:Shared}{md ad:Nat}{oa:Obj}{ads:List (Int × Value)}{Q E:Value→Shared→Prop}(c:Cx G A outer (d+2) (u+1) s.heap)
  (o4:s.heap.get? ad=some oa) (ha:oa.IsDictOf (intKind PR G.w) ads) (hne:ads≠[]) (hsz:ads.length < 1000) (nsa:(ad == sysModules)=false)
  (post:∀ s' x dx,Ext [] [] [] s s'→s.heap.get? x=none→s.heap.get? dx=none→@Ne Nat x dx→IsMap s'.heap x dx md ad→Q (.ref x) s'):wpAny (model PR G.w) A (call (.ref 123) [.ref md,.ref 240,.ref ad]) Q E s:=by
 have Y:=fresh2 s 123
 refine make_raw (G.X.keeps c.st) (by k_is) (by k_is) (by k_is) ?_
 refine map_init (d:=d) (u:=u) (Cx.make c 123 _ (Y.ext _ _ _)) Y.ox Y.od ((Y.ext [] [] []).keep _ _ o4 fnm fnm) ha hne (fun q=>by have:=Y.nd;rw [← q,o4] at this;exact nsf this.symm) hsz nsa Y.ne (fq (none_st c.st Y.nx) (fq (none_st c.st Y.nd) fn0)) fun s' x₁ it=>?_
 exact post s' _ _ ((Y.ext _ _ _).trans x₁ (fun b hb=>.inr (by simp at hb;exact hb▸Y.nd)) fn0) Y.nx Y.nd Y.ne it
theorem map_init0 {G:Gr}{A:Around}{outer:List Env}{d u:Nat}{s:Shared}{x dx md:Nat}{R:Result→Shared→Prop}
  (c:Cx G A outer (d+1) u s.heap) (o1:s.heap.get? x=some (instObj 123 dx)) (o2:s.heap.get? dx=some emptyDict) (d1:@Ne Nat x dx) (ob:∀ a∈[x,dx],G.base.get? a=none)
  (post:∀ s' ad,Ext [] [dx] [] s s'→IsMap s'.heap x dx md ad→s.heap.get? ad=none→(∃ oa,s'.heap.get? ad=some oa∧oa.IsDictOf (intKind PR G.w) [])→@LT.lt Nat _ x ad→R (.ok (.ret (.ref x))) s'):codeAny (model PR G.w) A (.call (.ref 78) ⟨[.ref x,.ref md,.ref 240],[]⟩) (InitBack x R) s:=by
 refine cx_openC c ?_;clear c;intro aD ag au c
 have hb:∀ a∈x :: dx :: frs outer,G.base.get? a=none:=fq (ob _ zm0) (fq (ob _ zm1) (fun a ha=>(frs_old c.ff a ha).1))
 have X:=c.inK hb
 have T:=c.top hb
 refine ent X c.nolimit (by k_is) (by k_is) (by have:=c.dp;dsimp only at this ⊢;exact zq2 this) (binds_K (G.X.keeps c.st) rfl (by k_is) rfl rfl rfl) (locs rfl) ?_
 intro h₁ F hk
 have hA:∀ q∈[(x,instObj 123 dx),(dx,dictOf [] 0)],s.heap.get? q.1=some q.2:=fq o1 (fq o2 fn0)
 refine xe1_3 (ledger (s:=s.heap) (fr:=frs outer) (hid:=x :: dx :: frs outer) (ex:=[(x,instObj 123 dx),(dx,dictOf [] 0)]) hk hA rfl (fun a ha=>let ⟨_,o,ho,_⟩:=frs_old c.ff a ha;⟨o,ho⟩)) fun rest N rne hr=>?_
 simp only [List.cons_append,List.nil_append] at N
 have r1:=rne x zp0
 have r2:=rne dx zp1
 dsimp only
 k_steps
 rename Obj.IsDictOf (intKind PR G.w) _ []=>hi
 rename Fr _ _ _ _=>F1
 rename News _ _ _ _=>N1
 rename _ < _∧_=>l1
 refine ⟨rfl,post _ _ (ext_fr (hid:=x :: dx :: frs outer) F1 N1 ?_) ⟨News.get N1 (by k_mem),(xi6 _ _ _ _ _ _ (News.get N1 (by k_mem)))⟩ (new_in N1 (by k_mem) hr (fq l1.1 (fq l1.2.1 fn0)) l1.2.2) (wi1_2 _ (News.get N1 (by k_mem)) hi) l1.1⟩
 intro a o ha hm
 rcases hr a o ha hm with h | h
 ·simp only [List.map_cons,List.map_nil,List.mem_cons,List.not_mem_nil,or_false] at h
  rcases h with h | h <;> replace h:=h.symm <;> subst h
  ·rw [o1] at ha;cases ha;exact .inl (by k_mem)
  ·exact .inr ⟨zm0,_,by k_mem⟩
 ·exact .inl (by k_mem)
theorem mk_map0 {G:Gr}{A:Around}{outer:List Env}{d u:Nat}{s:Shared}{md:Nat}{Q E:Value→Shared→Prop}(c:Cx G A outer (d+2) (u+1) s.heap)
  (post:∀ s' x dx ad,Ext [] [] [] s s'→s.heap.get? x=none→s.heap.get? dx=none→s.heap.get? ad=none→@Ne Nat x dx→IsMap s'.heap x dx md ad→(∃ oa,s'.heap.get? ad=some oa∧oa.IsDictOf (intKind PR G.w) [])→(ad == sysModules)=false→Q (.ref x) s'):wpAny (model PR G.w) A (call (.ref 123) [.ref md,.ref 240]) Q E s:=by
 have Y:=fresh2 s 123
 refine make_raw (G.X.keeps c.st) (by k_is) (by k_is) (by k_is) ?_
 refine map_init0 (d:=d) (u:=u) (Cx.make c 123 _ (Y.ext _ _ _)) Y.ox Y.od Y.ne (fq (none_st c.st Y.nx) (fq (none_st c.st Y.nd) fn0)) fun s' ad x₁ it fa oa la=>?_
 exact post s' _ _ ad ((Y.ext _ _ _).trans x₁ (fun b hb=>.inr (by simp at hb;exact hb▸Y.nd)) fn0) Y.nx Y.nd ((Y.ext [] [] []).fresh fa) Y.ne it oa (beq_eq_false_iff_ne.mpr (Nat.ne_of_gt (Nat.lt_trans (modules_low c.nolimit) (Nat.lt_of_succ_lt la))))
theorem bcallable {prog:Program}{w:World}{A:Around}{s:Shared}{v:Value}{T:String}{r:Option Value}{Q E:Value→Shared→Prop}(tI:s.TypeIs v T) (hl:typeLookup (.type T) (Str.ofString "__call__")=pure r) (h:Q (.bool r.isSome) s) :
  wpAny (model prog w) A (call (.builtin "callable") [v]) Q E s:=by
 refine call_function_entry (b:=Builtin.«callable») (by decide +kernel) (by decide +kernel) (entryFor_of_fast (by kernel_rfl)) (by unfold argsOk;kernel_rfl) ?_
 unfold Builtin.«callable»
 refine wpAny_bind (m:=oneArg "callable" ⟨[v],[]⟩) (wpAny_of_eq (a:=v) (by rfl) ?_)
 exact wpAny_bind (wpAny_specialOf tI hl (wpAny_pure (wi1_2 _ rfl h)))
theorem call_function_:typeLookup (.type "function") (Str.ofString "__call__")=pure (some (.builtin "function.__call__")):=by rw [typeLookup_type,builtinLookup_eq_fast];kernel_rfl
theorem call_list_:typeLookup (.type "list") (Str.ofString "__call__")=pure none:=by rw [typeLookup_type,builtinLookup_eq_fast];kernel_rfl
theorem call_tuple_:typeLookup (.type "tuple") (Str.ofString "__call__")=pure none:=by rw [typeLookup_type,builtinLookup_eq_fast];kernel_rfl
theorem call_zip_:typeLookup (.type "zip") (Str.ofString "__call__")=pure none:=by rw [typeLookup_type,builtinLookup_eq_fast];kernel_rfl
theorem biv_fn {G:Gr}{A:Around}{outer:List Env}{d u:Nat}{s:Shared}{f:Nat}{fo:Obj}{fd:FuncData}{Q E:Value→Shared→Prop}
  (c:Cx G A outer (d+3) (u+4) s.heap) (o1:s.heap.get? f=some fo) (hd1:fo.data=.func fd) (hc1:fo.cls=.type "function") (ob:G.base.get? f=none)
  (post:∀ s' x dx,Ext [] [] [] s s'→s.heap.get? x=none→s.heap.get? dx=none→@Ne Nat x dx→IsFac s'.heap x dx (.ref f) .none→Q (.ref x) s'):wpAny (model PR G.w) A (call (.ref 218) [.ref f]) Q E s:=by
 refine cx_open c ?_;clear c;intro ad ag au c
 have hb:∀ a∈f :: frs outer,G.base.get? a=none:=fq ob (fun a ha=>(frs_old c.ff a ha).1)
 have X:=c.inK hb
 have T:=c.top hb
 refine wpAny_call (ent X c.nolimit (by k_is) (by k_is) (by have:=c.dp;dsimp only at this ⊢;exact zq17 this) (BindsTo.of_eq rfl) (locs rfl) ?_)
 intro h₁ F hk
 have hA:∀ q∈[(f,fo)],s.heap.get? q.1=some q.2:=fq o1 fn0
 refine xe1_3 (ledger (fr:=frs outer) (hid:=f :: frs outer) hk hA rfl (fun a ha=>let ⟨_,o,ho,_⟩:=frs_old c.ff a ha;⟨o,ho⟩)) fun rest N rne hr=>?_
 simp only [List.cons_append,List.nil_append] at N
 have r1:=rne f zp0
 dsimp only
 k_steps
 refine bcallable (T:="function") ⟨_,News.get N (by k_mem),hc1⟩ call_function_ ?_
 k_steps
 rename Fr _ _ _ _=>F1
 rename News _ _ _ _=>N1
 obtain ⟨ci,old⟩:=here (d:=d+2) (u:=u+1) c hb hr (fun a ha=>by simp [ha]) hA F1 N1 (fq (by k_mem) fn0) (fun q hq=>by k_mem)
 have kA:=all_kept hr hA F1 N1 (fq (by k_mem) fn0) (fun q hq=>by k_mem)
 refine mk_fac (G:=G) (d:=d) (u:=u) (ci _ rfl rfl) fun s₂ x dx y fx fd ne it=>?_
 exact post s₂ x dx ((ext_all (tk:=_) kA (GE.refl [] s)).trans y fn0 fn0) (old _ fx) (old _ fd) ne it
theorem biv_seq {G:Gr}{A:Around}{outer:List Env}{d u:Nat}{s:Shared}{l n:Nat}{its:Array Value}{Q E:Value→Shared→Prop}
  (c:Cx G A outer (d+3) (u+4) s.heap) (o1:s.heap.get? l=some (W.listOf its n)) (ob:G.base.get? l=none)
  (post:∀ s' x dx,Ext [] [] [] s s'→s.heap.get? x=none→s.heap.get? dx=none→@Ne Nat x dx→IsSeqV s'.heap x dx l→Q (.ref x) s'):wpAny (model PR G.w) A (call (.ref 218) [.ref l]) Q E s:=by
 refine cx_open c ?_;clear c;intro ad ag au c
 have hb:∀ a∈l :: frs outer,G.base.get? a=none:=fq ob (fun a ha=>(frs_old c.ff a ha).1)
 have X:=c.inK hb
 have T:=c.top hb
 refine wpAny_call (ent X c.nolimit (by k_is) (by k_is) (by have:=c.dp;dsimp only at this ⊢;exact zq17 this) (BindsTo.of_eq rfl) (locs rfl) ?_)
 intro h₁ F hk
 have hA:∀ q∈[(l,W.listOf its n)],s.heap.get? q.1=some q.2:=fq o1 fn0
 refine xe1_3 (ledger (fr:=frs outer) (hid:=l :: frs outer) hk hA rfl (fun a ha=>let ⟨_,o,ho,_⟩:=frs_old c.ff a ha;⟨o,ho⟩)) fun rest N rne hr=>?_
 simp only [List.cons_append,List.nil_append] at N
 have r1:=rne l zp0
 dsimp only
 k_steps
 refine bcallable (T:="list") ⟨_,News.get N (by k_mem),rfl⟩ call_list_ ?_
 k_steps
 rename Fr _ _ _ _=>F1
 rename News _ _ _ _=>N1
 obtain ⟨ci,old⟩:=here (d:=d+2) (u:=u+1) c hb hr (fun a ha=>by simp [ha]) hA F1 N1 (fq (by k_mem) fn0) (fun q hq=>by k_mem)
 have kA:=all_kept hr hA F1 N1 (fq (by k_mem) fn0) (fun q hq=>by k_mem)
 refine mk_seq (G:=G) (d:=d) (u:=u) (ci _ rfl rfl) fun s₂ x dx y fx fd ne it=>?_
 exact post s₂ x dx ((ext_all (tk:=_) kA (GE.refl [] s)).trans y fn0 fn0) (old _ fx) (old _ fd) ne it
theorem biv_tup {G:Gr}{A:Around}{outer:List Env}{d u:Nat}{s:Shared}{l n:Nat}{its:Array Value}{Q E:Value→Shared→Prop}
  (c:Cx G A outer (d+3) (u+4) s.heap) (o1:s.heap.get? l=some (({ cls:=.type "tuple",data:=.seq its n }:Obj))) (ob:G.base.get? l=none)
  (post:∀ s' x dx,Ext [] [] [] s s'→s.heap.get? x=none→s.heap.get? dx=none→@Ne Nat x dx→IsSeqV s'.heap x dx l→Q (.ref x) s'):wpAny (model PR G.w) A (call (.ref 218) [.ref l]) Q E s:=by
 refine cx_open c ?_;clear c;intro ad ag au c
 have hb:∀ a∈l :: frs outer,G.base.get? a=none:=fq ob (fun a ha=>(frs_old c.ff a ha).1)
 have X:=c.inK hb
 have T:=c.top hb
 refine wpAny_call (ent X c.nolimit (by k_is) (by k_is) (by have:=c.dp;dsimp only at this ⊢;exact zq17 this) (BindsTo.of_eq rfl) (locs rfl) ?_)
 intro h₁ F hk
 have hA:∀ q∈[(l,({ cls:=.type "tuple",data:=.seq its n }:Obj))],s.heap.get? q.1=some q.2:=fq o1 fn0
 refine xe1_3 (ledger (fr:=frs outer) (hid:=l :: frs outer) hk hA rfl (fun a ha=>let ⟨_,o,ho,_⟩:=frs_old c.ff a ha;⟨o,ho⟩)) fun rest N rne hr=>?_
 simp only [List.cons_append,List.nil_append] at N
 have r1:=rne l zp0
 dsimp only
 k_steps
 refine bcallable (T:="tuple") ⟨_,News.get N (by k_mem),rfl⟩ call_tuple_ ?_
 k_steps
 rename Fr _ _ _ _=>F1
 rename News _ _ _ _=>N1
 obtain ⟨ci,old⟩:=here (d:=d+2) (u:=u+1) c hb hr (fun a ha=>by simp [ha]) hA F1 N1 (fq (by k_mem) fn0) (fun q hq=>by k_mem)
 have kA:=all_kept hr hA F1 N1 (fq (by k_mem) fn0) (fun q hq=>by k_mem)
 refine mk_seq (G:=G) (d:=d) (u:=u) (ci _ rfl rfl) fun s₂ x dx y fx fd ne it=>?_
 exact post s₂ x dx ((ext_all (tk:=_) kA (GE.refl [] s)).trans y fn0 fn0) (old _ fx) (old _ fd) ne it
theorem inst_at {h:Heap}{x dx C:Nat}{od:Obj}(e:h.get? x=some (instObj C dx)) (e':h.get? dx=some od):InstAt h x (instObj C dx) C (some od):=⟨e,rfl,rfl,e'⟩
section
variable {G:Gr}{A:Around}{outer:List Env}{d u:Nat}{s:Shared}
theorem tee_nextIs {x dx S:Nat}{R:Value}{p:Int}{Q E:Value→Shared→Prop}(c:Cx G A outer d u s.heap) (tee:IsTee s.heap x dx R S p) (h:wpAny (model PR G.w) A (call (.ref 49) [.ref x]) Q E s):NextIs PR G.w A (.ref x) Q E s:=by
 apply hide;intro _ kι;obtain ⟨o1,h1,h2,h3,t1,t2,t3,t4,o2⟩:=tee;apply kι
 exact special_fn (name:=Str.ofString "__next__") (args:=[]) (G.X.keeps c.st) (inst_at o1 o2) (by k_is) (by k_is) (wpAny_mono h (fun v s' q=>(wi1_2 v rfl q)) fun _ _ z=>z)
theorem inst_iter {x dx C f:Nat}{od:Obj}{Q E:Value→Shared→Prop}(X:(hd.heap_1 G.w.params).In s.heap) (o1:s.heap.get? x=some (instObj C dx)) (o2:s.heap.get? dx=some od) (hs:findIn (hd.heap_1 G.w.params) (.ref C) (Str.ofString "__iter__")=some (some (.ref f))) (hf:isFn (hd.heap_1 G.w.params) (.ref f)=true)
  (h:wpAny (model PR G.w) A (call (.ref f) [.ref x]) (fun v s'=>wpAny (model PR G.w) A (specialOf v (Str.ofString "__next__")) (fun r s₂=>r.isSome=true∧Q v s₂) E s') E s):wpAny (model PR G.w) A (pyIter (.ref x)) Q E s:=by
 have I:=inst_at o1 o2
 have look:∀ {α:Type}{k:Option Value→Sem α}{Q':α→Shared→Prop},wpAny (model PR G.w) A (k (some (.ref f))) Q' E s→wpAny (model PR G.w) A ((specialOf (.ref x) (Str.ofString "__iter__")) >>= k) Q' E s:=fun z =>
  wpAny_bind (wpAny_bind (I.type.here ((looks_findIn X hs).here z)))
 have body:∀ refuse:Sem Value,wpAny (model PR G.w) A (if (Value.ref f == Value.none)=true then (refuse >>= fun v=>pure (some v)) else (call (.ref f) [.ref x] >>= fun v=>pure (some v))) (fun r s'=>∃ v,r=some v∧wpAny (model PR G.w) A (specialOf v (Str.ofString "__next__")) (fun r s₂=>r.isSome=true∧Q v s₂) E s') E s:=fun refuse=>by
  rw [if_neg (show ¬ ((Value.ref f == Value.none)=true) from Bool.false_ne_true)]
  exact wpAny_bind (wpAny_mono h (fun v s' h'=>wpAny_pure (wi1_2 v rfl h')) fun _ _ z=>z)
 unfold pyIter
 refine look ?_
 refine wpAny_bind (Q:=_) (wpAny_mono (Q:=fun r s'=>∃ v,r=some v∧wpAny (model PR G.w) A (specialOf v (Str.ofString "__next__")) (fun r s₂=>r.isSome=true∧Q v s₂) E s') (E:=E) ?_ (fun r s' hr=>?_) fun _ _ z=>z)
 ·simp only [callSpecialIfBoundUnlessNone?,bindSpecialIfBound?]
  refine wpAny_holding (wpAny_bind (look (wpAny_bind (wpAny_askSetting (wpAny_ite ?_)))))
  split
  ·exact wpAny_bind ((bind_fn X _ (beq_iff_eq.mp hf)).here (wpAny_pure (by exact body _)))
  ·exact wpAny_tryCatch (wpAny_bind ((bind_fn X _ (beq_iff_eq.mp hf)).here (wpAny_pure (by exact body _))))
 ·(refine xe1_2 hr ?_;rintro v rfl hv)
  refine wpAny_bind (wpAny_mono hv (fun r s₂ hr=>?_) fun _ _ z=>z)
  cases r with
  | none=>cases hr.1
  | some g=>exact wpAny_pure hr.2
theorem tee_has {x dx S:Nat}{R:Value}{p:Int}{Q:Option Value→Shared→Prop}{E:Value→Shared→Prop}(X:(hd.heap_1 G.w.params).In s.heap) (tee:IsTee s.heap x dx R S p) (h:∀ v,Q (some v) s):wpAny (model PR G.w) A (specialOf (.ref x) (Str.ofString "__next__")) Q E s:=by
 apply hide;intro _ kι;obtain ⟨o1,h1,h2,h3,t1,t2,t3,t4,o2⟩:=tee;apply kι
 have hs:findIn (hd.heap_1 G.w.params) (.ref 52) (Str.ofString "__next__")=some (some (.ref 49)):=by k_is
 exact wpAny_bind ((inst_at o1 o2).type.here ((looks_findIn X hs).here (h _)))
end
structure Own where
 a:Nat→Nat
 g:Nat→Nat
noncomputable def Agree (o o':Own) (s:Shared):Prop:=(∀ b ob,s.heap.get? b=some ob→o'.a b=o.a b)∧∀ g x,s.gens[g]?=some x→o'.g g=o.g g
noncomputable def OwnOk (G:Gr) (o:Own):Prop:=∀ a,o.a a≠0→G.base.get? a=none
structure Kept (o o':Own) (lv:Nat) (s s':Shared):Prop where
 k:∀ b ob,s.heap.get? b=some ob→lv≤o.a b∨o.a b=1→s'.heap.get? b=some ob∧o'.a b=o.a b
 g:∀ g x,s.gens[g]?=some x→lv≤o.g g→s'.gens[g]?=some x∧o'.g g=o.g g
theorem Kept.up {o o':Own}{lv lv':Nat}{s s':Shared}(k:Kept o o' lv s s') (h:lv≤lv'):Kept o o' lv' s s':=⟨fun b ob e l=>k.k b ob e (l.imp_left (Nat.le_trans h)),fun g x e l=>k.g g x e (Nat.le_trans h l)⟩
theorem Ext.kept {o o':Own}{lv:Nat}{s s':Shared}{fr fp:List Addr}{gp:List Nat}(x:Ext fr fp gp s s') (h1:∀ b∈fp,(o.a b < lv∧o.a b≠1)∨s.heap.get? b=none) (h2:∀ b∈fr,o.a b < lv∧o.a b≠1) (h3:∀ g∈gp,o.g g < lv∨s.gens.size≤g) (ag:Agree o o' s):Kept o o' lv s s' :=
 ⟨fun b ob e l=>⟨x.keep b ob e (fun q=>(h1 b q).elim (fun z=>l.elim (Nat.not_le.mpr z.1) z.2) fun z=>by rw [z] at e;exact nsf e) fun q=>l.elim (Nat.not_le.mpr (h2 b q).1) (h2 b q).2,ag.1 b ob e⟩,
  fun g v e l=>⟨x.gkeep g v e fun q=>(h3 g q).elim (fun z=>Nat.not_le.mpr z l) fun z=>Nat.not_lt.mpr z (Array.getElem?_eq_some_iff.mp e).1,ag.2 g v e⟩⟩
theorem IsFac.kept {h h':Heap}{v dv:Nat}{f it:Value}(x:IsFac h v dv f it) (k1:∀ ob,h.get? v=some ob→h'.get? v=some ob) (k2:∀ ob,h.get? dv=some ob→h'.get? dv=some ob):IsFac h' v dv f it:=by
 apply hide;intro _ kι;obtain ⟨o1,h1,h2,t1,t2,o2⟩:=x;apply kι
 exact ⟨k1 _ o1,h1,h2,t1,t2,k2 _ o2⟩
theorem IsTee.kept {h h':Heap}{x dx S:Nat}{R:Value}{p:Int}(y:IsTee h x dx R S p) (k1:∀ ob,h.get? x=some ob→h'.get? x=some ob) (k2:∀ ob,h.get? dx=some ob→h'.get? dx=some ob):IsTee h' x dx R S p:=by
 apply hide;intro _ kι;obtain ⟨o1,h1,h2,h3,t1,t2,t3,t4,o2⟩:=y;apply kι
 exact ⟨k1 _ o1,h1,h2,h3,t1,t2,t3,t4,k2 _ o2⟩
theorem IsLam.kept {G:Gr}{h h':Heap}{fa i f c':Nat}{cl:List (Str × Addr)}(x:IsLam G h fa i f cl c') (k1:∀ ob,h.get? f=some ob→h'.get? f=some ob) (k2:∀ ob,h.get? c'=some ob→h'.get? c'=some ob):IsLam G h' fa i f cl c':=by
 apply hide;intro _ kι;obtain ⟨qn,ps,b,sc,pos,name,qual,pm,ctv,e0,o2,c2,oc,vs,tq,e1,q1,q2,q3⟩:=x;apply kι
 cases e1
 exact ⟨qn,ps,b,sc,pos,name,qual,pm,ctv,e0,k1 _ o2,_,oc,vs,tq,rfl,k2 _ q1,q2,q3⟩
theorem isCell_kept {h h':Heap}{c:Nat}{v:Option Value}(x:h.IsCell c v) (k:∀ ob,h.get? c=some ob→h'.get? c=some ob):h'.IsCell c v:=let ⟨o,e,z⟩:=x;⟨o,k o e,z⟩
theorem ns_kept {h h':Heap}{L:Nat}{m:Str→Option Value}(x:h.Ns L m) (k:∀ ob,h.get? L=some ob→h'.get? L=some ob):h'.Ns L m:=by
 refine xe3_2 x fun o es ep ho r=>?_
 exact ⟨o,es,ep,k _ ho,r⟩
inductive FChain (G:Gr) (o:Own) (mm:Nat) (s:Shared):Nat→List Nat→Nat→Prop
 | nil {lv l n:Nat}:s.heap.get? l=some (W.listOf #[] n)→o.a l=lv→FChain G o mm s lv [] l
 | cons {lv t a g:Nat}{rest:List Nat}{nm qn:Value}{L v dv f ci cm nx c':Nat}{m:Str→Option Value}:s.heap.get? a=some (genObj g nm qn)→s.gens[g]?=some (.fresh (fc L))→s.heap.Ns L m→m nOne=some (.ref v)→m nTwo=some (.ref nx) →
   IsFac s.heap v dv (.ref f) .none→IsLam G s.heap 254 0 f [(nMade,cm),(nItem,ci)] c'→s.heap.IsCell ci (some (.ref t))→s.heap.IsCell cm (some (.ref mm))→@Ne Nat ci cm→@Ne Nat dv L→(∀ b∈[a,L,v,dv,f,ci,cm],o.a b=lv)→o.a c'=1→o.g g=lv→lv≤160→FChain G o mm s (lv+1) rest nx→FChain G o mm s lv (t :: rest) a
inductive RChain (G:Gr) (o:Own) (mm:Nat) (s:Shared):Nat→List Nat→Nat→Prop
 | done {lv a g:Nat}{nm qn:Value}:s.heap.get? a=some (genObj g nm qn)→s.gens[g]?=some .finished→o.a a=lv→o.g g=lv→RChain G o mm s lv [] a
 | one {lv a g:Nat}{rest:List Nat}{nm qn:Value}{L x dx S r l nx n k:Nat}{m:Str→Option Value}{gs:GenState}{tv:Value}:s.heap.get? a=some (genObj g nm qn)→s.gens[g]?=some gs→In1 PR G.w gs L (.ref x)→s.heap.Ns L m→m nTwo=some (.ref nx) →
   IsTee s.heap x dx (.ref r) S 1→s.heap.get? S=some (W.listOf #[tv] n)→s.heap.get? r=some (itObj "list_iterator" (.ref l) 1)→s.heap.get? l=some (W.listOf #[tv] k)→(∀ b∈[a,L,x,dx,S,r,l],o.a b=lv)→o.g g=lv→lv≤160→FChain G o mm s (lv+1) rest nx→RChain G o mm s lv rest a
 | two {lv a g:Nat}{rest:List Nat}{nm qn:Value}{L nx:Nat}{m:Str→Option Value}{gs:GenState}:s.heap.get? a=some (genObj g nm qn)→s.gens[g]?=some gs→In2 PR G.w gs L (.ref nx)→s.heap.Ns L m→o.a a=lv→o.a L=lv→o.g g=lv→lv≤160→RChain G o mm s (lv+1) rest nx→RChain G o mm s lv rest a
theorem FChain.mono {G:Gr}{o o':Own}{mm:Nat}{s s':Shared}{lv a:Nat}{its:List Nat}(x:FChain G o mm s lv its a):Kept o o' lv s s'→FChain G o' mm s' lv its a:=by
 induction x with
 | nil h1 h2=>exact fun k=>.nil (k.k _ _ h1 (.inl (Nat.le_of_eq h2.symm))).1 ((k.k _ _ h1 (.inl (Nat.le_of_eq h2.symm))).2.trans h2)
 | @cons lv t a g rest nm qn L v dv f ci cm nx c' m h1 h2 h3 h4 h5 h6 h7 h8 h9 hn hn2 h10 h11 h12 hb60 _ ih =>
  intro k
  have kk:∀ b∈[a,L,v,dv,f,ci,cm],∀ ob,s.heap.get? b=some ob→s'.heap.get? b=some ob∧o'.a b=o.a b:=fun b hb ob e=>k.k b ob e (.inl (Nat.le_of_eq (h10 b hb).symm))
  have kc:∀ ob,s.heap.get? c'=some ob→s'.heap.get? c'=some ob∧o'.a c'=o.a c':=fun ob e=>k.k _ ob e (.inr h11)
  refine .cons (kk a zm0 _ h1).1 (k.g _ _ h2 (Nat.le_of_eq h12.symm)).1 (ns_kept h3 fun ob e=>(kk L zm1 ob e).1) h4 h5 (h6.kept (fun ob e=>(kk v zm2 ob e).1) fun ob e=>(kk dv zm3 ob e).1) (h7.kept (fun ob e=>(kk f zm4 ob e).1) fun ob e=>(kc ob e).1) (isCell_kept h8 fun ob e=>(kk ci zm5 ob e).1) (isCell_kept h9 fun ob e=>(kk cm zm6 ob e).1) hn hn2 (fun b hb=>?_) ?_ ((k.g _ _ h2 (Nat.le_of_eq h12.symm)).2.trans h12) hb60 (ih (k.up (Nat.le_succ _)))
  ·have ex:∃ ob,s.heap.get? b=some ob:=by
    refine xe3_2 h3 fun oL _ _ e3 _=>?_
    apply hide;intro _ kι;obtain ⟨_,_,_,_,_,_,_,_,_,_,e7,_⟩:=h7;apply kι
    refine xe1_2 h8 fun _ e8 _=>?_
    refine xe1_2 h9 fun _ e9 _=>?_
    apply hide;intro _ kι;obtain ⟨e6,_,_,_,_,e6'⟩:=h6;apply kι
    simp only [List.mem_cons,List.not_mem_nil,or_false] at hb
    rcases hb with hb | hb | hb | hb | hb | hb | hb <;> replace hb:=hb.symm <;> subst hb
    ·exact ⟨_,h1⟩
    ·exact ⟨_,e3⟩
    ·exact ⟨_,e6⟩
    ·exact ⟨_,e6'⟩
    ·exact ⟨_,e7⟩
    ·exact ⟨_,e8⟩
    ·exact ⟨_,e9⟩
   obtain ⟨ob,e⟩:=ex
   exact (kk b hb ob e).2.trans (h10 b hb)
  ·apply hide;intro _ kι;obtain ⟨_,_,_,_,_,_,_,_,_,_,_,c2,oc,_,_,e1,q1,_⟩:=h7;apply kι
   cases e1
   exact (kc _ q1).2.trans h11
theorem RChain.mono {G:Gr}{o o':Own}{mm:Nat}{s s':Shared}{lv a:Nat}{its:List Nat}(x:RChain G o mm s lv its a):Kept o o' lv s s'→RChain G o' mm s' lv its a:=by
 induction x with
 | done h1 h2 h3 h4=>exact fun k=>.done (k.k _ _ h1 (.inl (Nat.le_of_eq h3.symm))).1 (k.g _ _ h2 (Nat.le_of_eq h4.symm)).1 ((k.k _ _ h1 (.inl (Nat.le_of_eq h3.symm))).2.trans h3) ((k.g _ _ h2 (Nat.le_of_eq h4.symm)).2.trans h4)
 | @one lv a g rest nm qn L x dx S r l nx n k m gs tv h1 h2 h3 h4 h5 h6 h7 h8 h9 h10 h11 hb60 h12 =>
  intro K
  have kk:∀ b∈[a,L,x,dx,S,r,l],∀ ob,s.heap.get? b=some ob→s'.heap.get? b=some ob∧o'.a b=o.a b:=fun b hb ob e=>K.k b ob e (.inl (Nat.le_of_eq (h10 b hb).symm))
  refine .one (kk a zm0 _ h1).1 (K.g _ _ h2 (Nat.le_of_eq h11.symm)).1 h3 (ns_kept h4 fun ob e=>(kk L zm1 ob e).1) h5 (h6.kept (fun ob e=>(kk x zm2 ob e).1) fun ob e=>(kk dx zm3 ob e).1) (kk S zm4 _ h7).1 (kk r zm5 _ h8).1 (kk l zm6 _ h9).1 (fun b hb=>?_) ((K.g _ _ h2 (Nat.le_of_eq h11.symm)).2.trans h11) hb60 (h12.mono (K.up (Nat.le_succ _)))
  have ex:∃ ob,s.heap.get? b=some ob:=by
   refine xe3_2 h4 fun oL _ _ e3 _=>?_
   apply hide;intro _ kι;obtain ⟨e6,_,_,_,_,_,_,_,e6'⟩:=h6;apply kι
   simp only [List.mem_cons,List.not_mem_nil,or_false] at hb
   rcases hb with hb | hb | hb | hb | hb | hb | hb <;> replace hb:=hb.symm <;> subst hb
   ·exact ⟨_,h1⟩
   ·exact ⟨_,e3⟩
   ·exact ⟨_,e6⟩
   ·exact ⟨_,e6'⟩
   ·exact ⟨_,h7⟩
   ·exact ⟨_,h8⟩
   ·exact ⟨_,h9⟩
  obtain ⟨ob,e⟩:=ex
  exact (kk b hb ob e).2.trans (h10 b hb)
 | @two lv a g rest nm qn L nx m gs h1 h2 h3 h4 h5 h6 h7 hb60 _ ih =>
  intro K
  refine xe3_2 h4 fun oL es ep e3 rr=>?_
  have kL:=K.k _ _ e3 (.inl (Nat.le_of_eq h6.symm))
  have ka:=K.k _ _ h1 (.inl (Nat.le_of_eq h5.symm))
  have kg:=K.g _ _ h2 (Nat.le_of_eq h7.symm)
  exact .two ka.1 kg.1 h3 ⟨oL,es,ep,kL.1,rr⟩ (ka.2.trans h5) (kL.2.trans h6) (kg.2.trans h7) hb60 (ih (K.up (Nat.le_succ _)))
section
variable {prog:Program}{w:World}{A:Around}{s:Shared}{Q E:Value→Shared→Prop}
theorem draw_item {it l i n:Nat}{items:Array Value}{x:Value}(ho:s.heap.get? it=some (itObj "list_iterator" (.ref l) i)) (hol:s.heap.get? l=some (W.listOf items n)) (hx:items[i]?=some x)
  (hQ:∀ h',h'.get? it=some (itObj "list_iterator" (.ref l) (i+1))→Heap.SameBut it s.heap h'→Q x { s with heap:=h' }):wpAny (model prog w) A (call (.builtin "next") [.ref it]) Q E s :=
 bnext_of (fun hv=>wpAny_specialOf (T:="list_iterator") ⟨_,ho,rfl⟩ slot_listiter_next.lookup (hv _)) (next_item (.inl rfl) ho hol rfl hx hQ)
theorem draw_end {it l i n:Nat}{items:Array Value}(hh:A.handled=none) (ho:s.heap.get? it=some (itObj "list_iterator" (.ref l) i)) (hol:s.heap.get? l=some (W.listOf items n)) (hx:items[i]?=none)
  (hE:∀ h₁ h' e,h₁.get? it=some (itObj "list_iterator" .none i)→Heap.SameBut it s.heap h₁→Heap.NewExc h₁ h' e "StopIteration"→h₁.objs.size≤h'.objs.size→E (.ref e) { s with heap:=h' }):wpAny (model prog w) A (call (.builtin "next") [.ref it]) Q E s :=
 bnext_of (fun hv=>wpAny_specialOf (T:="list_iterator") ⟨_,ho,rfl⟩ slot_listiter_next.lookup (hv _)) (next_end (A:=A.in1) (.inl rfl) hh ho hol rfl hx hE)
theorem draw_gen {a g:Nat}(hg:s.heap.IsGen a g) (h:NextIs prog w A.in1 (.ref a) Q E s):wpAny (model prog w) A (call (.builtin "next") [.ref a]) Q E s :=
 bnext_of (fun hv=>wpAny_specialOf (T:="generator") hg.typeIs slot_gen_next.lookup (hv _)) h
end
theorem in1_bare {prog:Program}{w:World}{gs:GenState}{L:Addr}{it:Value}(h:In1 prog w gs L it):gs.bare=true:=by
 (refine xe4_2 h ?_;rintro k l p q rfl _)
 rfl
theorem in2_bare {prog:Program}{w:World}{gs:GenState}{L:Addr}{it:Value}(h:In2 prog w gs L it):gs.bare=true:=by
 (refine xe4_2 h ?_;rintro k l p q rfl _)
 rfl
theorem isGen_of {h:Heap}{a g:Nat}{nm qn:Value}(e:h.get? a=some (genObj g nm qn)):h.IsGen a g:=⟨_,nm,qn,e,rfl,rfl,rfl⟩
section
variable {G:Gr}{A:Around}{outer:List Env}{d u:Nat}{s:Shared}{Q E:Value→Shared→Prop}
noncomputable def Own.with (o:Own) (s:Shared) (na:Nat→Nat) (ng:Nat→Nat):Own:=⟨fun b=>match s.heap.get? b with | some _=>o.a b | none=>na b,fun g=>match s.gens[g]? with | some _=>o.g g | none=>ng g⟩
theorem Own.with_agree (o:Own) (s:Shared) (na ng):Agree o (o.with s na ng) s:=⟨fun b ob e=>by simp [Own.with,e],fun g x e=>by simp [Own.with,e]⟩
theorem Own.with_new (o:Own) {s:Shared}{na ng} {b:Nat}(e:s.heap.get? b=none):(o.with s na ng).a b=na b:=by simp [Own.with,e]
theorem Own.with_ok {o:Own}{s:Shared}{na ng} (ok:OwnOk G o) (st:G.base.StaysIn s.heap):OwnOk G (o.with s na ng):=fun a h=>by
 cases e:s.heap.get? a with
 | some ob=>exact ok a (by simpa [Own.with,e] using h)
 | none=>exact none_st st e
theorem ne_cls {h:Heap}{a b:Nat}{o1 o2:Obj}(e1:h.get? a=some o1) (e2:h.get? b=some o2) (hc:o1.cls≠o2.cls):@Ne Nat a b:=fun q=>by rw [q,e2] at e1;(replace e1:=Eq.symm e1;cases e1);exact hc rfl
theorem setGen_get {g:Nat}{gs x:GenState}(e:s.gens[g]?=some x):(s.setGen g gs).gens[g]?=some gs:=by
 have:=(Array.getElem?_eq_some_iff.mp e).1
 simp [Shared.setGen,Array.getElem?_setIfInBounds,this]
theorem fchain_next {o:Own}{lv mm t a n:Nat}{rest:List Nat}{ms:List Value}
  (c:Cx G A outer (d+12) (u+40) s.heap) (ok:OwnOk G o) (fo:∀ b∈frs outer,o.a b < lv∧o.a b≠1) (lp:1 < lv)
  (ch:FChain G o mm s lv (t :: rest) a) (om:s.heap.get? mm=some (W.listOf ms.toArray n)) (tm:o.a mm < lv∧1 < o.a mm) (mf:mm ∉ frs outer) (hl:ms.length < 900)
  (post:∀ s' o' n' fp gp,Ext (frs outer) fp gp s s'→(∀ b∈fp,lv≤o.a b∨b=mm)→(∀ g∈gp,lv≤o.g g)→Agree o o' s→OwnOk G o'→RChain G o' mm s' lv rest a→s'.heap.get? mm=some (W.listOf (ms++[Value.ref t]).toArray n')→Q (.ref t) s') :
  NextIs PR G.w A (.ref a) Q E s:=by
 cases ch with
 | @cons _ _ _ g _ nm qn L v dv f ci cm nx c' m h1 h2 h3 h4 h5 h6 h7 h8 h9 hn hn2 h10 h11 h12 hb60 h13 =>
 have tg:∀ b∈[a,L,v,dv,f,ci,cm],b≠mm:=fun b hb q=>by have:=h10 b hb;rw [q] at this;exact zq151 tm this
 have bs:∀ b∈[a,L,v,dv,f,ci,cm],G.base.get? b=none:=fun b hb=>ok b (by rw [h10 b hb];exact zq152 lp)
 have bm:G.base.get? mm=none:=ok mm (by exact Nat.ne_of_gt (Nat.lt_of_succ_lt tm.2))
 have nfr:∀ b∈[a,L,v,dv,f,ci,cm],b ∉ frs outer:=fun b hb q=>by have:=(fo b q).1;rw [h10 b hb] at this;exact zq85 this
 refine gen_goes c.hd c.nolimit (by have:=c.dp;exact zq298 this) (isGen_of h1) h2 (.inl (yi3 rfl rfl rfl)) ?_
 refine into1 (s:=s.setGen g .running) h3 h4 ?_
 have c1:Cx G (gA A.in1 L 3) (cenv L :: outer) (d+11) (u+36) s.heap:=Cx.gen (d:=d+11) (u:=u+36) c.in1 h3 (bs L zm1)
 have fcn:∀ b∈frs (cenv L :: outer),b=L∨b∈frs outer:=fun b hb=>frs_cons rfl b hb
 have fex:∀ b∈frs (cenv L :: outer),∃ ob,s.heap.get? b=some ob:=fun b hb=>let ⟨_,ob,e,_⟩:=frs_old c1.ff b hb;⟨ob,e⟩
 have fnew:∀ b,s.heap.get? b=none→b ∉ frs (cenv L :: outer):=fun b e q=>by obtain ⟨ob,e'⟩:=fex b q;rw [e] at e';exact nsf e'
 have mf':mm ∉ frs (cenv L :: outer):=fun q=>(fcn _ q).elim (fun z=>tg L zm1 z.symm) mf
 apply hide;intro _ kι;obtain ⟨f1,i1,i2,j1,j2,f2⟩:=id h6;apply kι
 apply hide;intro _ kι;obtain ⟨lq,lps,lb,lsc,lpos,lname,lqual,lpm,lctv,le0,lo2,lcr⟩:=id h7;apply kι
 refine inst_iter (C:=165) (f:=162) (G.X.keeps c.st) f1 f2 (by k_is) (by k_is) ?_
 have nvd:@Ne Nat v dv:=fun q=>by rw [q,f2] at f1;(replace f1:=Eq.symm f1;cases f1)
 refine fac_open (G:=G) (d:=d+10) (u:=u+33) (s:=s.setGen g .running) (fpF:=[mm])
  (J:=fun s₁ s₂ ya=>s.heap.get? ya=none∧s₁.heap.get? ya=none∧∃ k' n',s₂.heap.get? ya=some (W.listOf #[.ref t] k')∧s₂.heap.get? mm=some (W.listOf (ms++[Value.ref t]).toArray n'))
  (J':=fun s₃ s₄ x1 x2=>∃ d1 d2 S r l k' n'' n',(∀ b∈[x1,d1,x2,d2,S,r],s₃.heap.get? b=none)∧@Ne Nat x2 d2∧IsTee s₄.heap x2 d2 (.ref r) S 0∧s₄.heap.get? S=some (W.listOf #[] n'')∧s₄.heap.get? r=some (itObj "list_iterator" (.ref l) 0)∧s₃.heap.get? l=some (W.listOf #[.ref t] k')∧s.heap.get? l=none∧@Ne Nat l s.heap.objs.size∧s₃.heap.get? mm=some (W.listOf (ms++[Value.ref t]).toArray n'))
  c1 h6 nvd (fq (bs v zm2) (fq (bs dv zm3) fn0)) ⟨_,_,_,_,lo2⟩
  (fq (yi5 (fun q=>tg v zm2 q.symm) (fun q=>tg dv zm3 q.symm) mf' bm ⟨_,om⟩) fn0) ?fcall ?tcall ?fin
 case fcall =>
  intro A' env s₁ cc e1 x1
  have kp:∀ b ob,s.heap.get? b=some ob→s₁.heap.get? b=some ob:=fun b ob e=>x1.keep b ob e fnm fnm
  refine told_call (G:=G) (d:=d+8) (u:=u+27) cc (h7.kept (kp f) (kp c')) (isCell_kept h8 (kp ci)) (isCell_kept h9 (kp cm)) (kp _ _ om) (fq (bs ci zm5) (fq (bs cm zm6) (fq bm fn0))) (by exact Nat.lt_of_lt_of_le hl (by decide)) ?_ hn ?_
  ·intro q
   rcases frs_cons e1 _ q with z | z
   ·have:=Heap.lt_size om;rw [z] at this;exact absurd this (Nat.lt_irrefl _)
   ·exact mf' z
  ·intro s₂ l' n' k' y fl om' ol'
   exact (wi1_5 l' rfl y (x1.fresh fl) fl ⟨k',n',ol',om'⟩)
 case tcall =>
  intro A' env s₁ s₂ s₃ ya hJ x23 c3 hL
  apply hide;intro _ kι;obtain ⟨q1,q2,k',n',q3,q4⟩:=hJ;apply kι
  obtain ⟨oL,hoL⟩:=hL
  have nyL:@Ne Nat ya s.heap.objs.size:=fun q=>by rw [q] at q2;exact absurd (q2.symm.trans hoL) (by simp)
  have mmL:@Ne Nat mm s.heap.objs.size:=Nat.ne_of_lt (Heap.lt_size om)
  have e3:=x23.keep _ _ q3 (fun q=>nyL (List.mem_singleton.mp q)) fnm
  have m3:=x23.keep _ _ q4 (fun q=>mmL (List.mem_singleton.mp q)) fnm
  refine tee_list (G:=G) (d:=d+7) (u:=u+29) (its:=[.ref t]) c3 e3 (none_st c.st q1) ?_
  intro s₄ ta x1 d1 x2 d2 S r na nb y fr dd n1 n2 t1 t2 oS or ot
  refine (xi4 ta x1 x2 na (yi5 rfl y (fr ta zm0) ot ⟨d1,d2,S,r,ya,k',nb,n',fun b hb=>fr b (by simp at hb;rcases hb with hb | hb | hb | hb | hb | hb <;> replace hb:=hb.symm <;> subst hb <;> simp),n2,t2,oS,or,e3,q1,nyL,m3⟩))
 case fin =>
  intro s₃ s₄ s₅ x1 x2 hJ hL y34 y45 y05 y03 fac5
  apply hide;intro _ kι;obtain ⟨d1,d2,S,r,l,k',n'',n',fr,nxd,tee4,oS4,or4,ol3,fl,nlL,om3⟩:=hJ;apply kι
  obtain ⟨oL',hoL'⟩:=hL
  have ex3:∀ b ob,s.heap.get? b=some ob→∃ ob',s₃.heap.get? b=some ob':=fun b ob e=>y03.there b ob e
  have new3:∀ b,s₃.heap.get? b=none→s.heap.get? b=none:=fun b e=>by
   cases q:s.heap.get? b with
   | none=>rfl
   | some ob=>obtain ⟨ob',e'⟩:=ex3 b ob q;rw [e] at e';exact nsf e'
  have off:∀ b,s₃.heap.get? b=none→b ∉ [s.heap.objs.size,dv]:=fun b e q=>by
   simp only [List.mem_cons,List.not_mem_nil,or_false] at q
   rcases q with q | q
   ·rw [q] at e;exact absurd (e.symm.trans hoL') (by simp)
   ·obtain ⟨ob',e'⟩:=ex3 dv _ f2;rw [q,e'] at e;exact nsf e.symm
  have k45:∀ b ob,s₃.heap.get? b=none→s₄.heap.get? b=some ob→s₅.heap.get? b=some ob:=fun b ob e e'=>y45.keep b ob e' (off b e) fnm
  have fS:=fr S zm4;have fr':=fr r zm5;have fx2:=fr x2 zm2;have fd2:=fr d2 zm3
  have tee5:IsTee s₅.heap x2 d2 (.ref r) S 0:=tee4.kept (fun ob e=>k45 _ ob fx2 e) (fun ob e=>k45 _ ob fd2 e)
  have oS5:=k45 _ _ fS oS4
  have or5:=k45 _ _ fr' or4
  have ndl:@Ne Nat l dv:=fun q=>by rw [q,f2] at fl;exact nsf fl.symm
  have ol5:s₅.heap.get? l=some (W.listOf #[.ref t] k'):=y45.keep _ _ (y34.keep _ _ ol3 fnm fnm) (fun q=>by simp only [List.mem_cons,List.not_mem_nil,or_false] at q;exact q.elim nlL ndl) fnm
  have om5:s₅.heap.get? mm=some (W.listOf (ms++[Value.ref t]).toArray n'):=y45.keep _ _ (y34.keep _ _ om3 fnm fnm) (fun q=>by simp only [List.mem_cons,List.not_mem_nil,or_false] at q;exact q.elim (Nat.ne_of_lt (Heap.lt_size om)) fun z=>tg dv zm3 z.symm) fnm
  have c5:Cx G (gA A.in1 L 3) (cenv L :: outer) (d+11) (u+36) s₅.heap:=Cx.next (s:=s.setGen g .running) (gp:=[]) c1 (y05.weak (fun b hb=>.inl hb) fn0 fn0) (fq (bs dv zm3) (fq bm fn0))
   (fq (fun q=>(fcn _ q).elim hn2 (nfr dv zm3)) (fq mf' fn0))
  refine tee_has (G.X.keeps c5.st) tee5 fun _=>⟨rfl,fun q=>?_⟩
  apply hide;intro _ kι;obtain ⟨t51,_,_,_,_,_,_,_,t52⟩:=id tee5;apply kι
  have nxS:@Ne Nat x2 S:=ne_cls t51 oS5 (by simp)
  have ndS:@Ne Nat d2 S:=ne_cls t52 oS5 (by simp)
  have nrx:@Ne Nat r x2:=ne_cls or5 t51 (by simp)
  have nrd:@Ne Nat r d2:=ne_cls or5 t52 (by simp)
  have nrS:@Ne Nat r S:=ne_cls or5 oS5 (by simp)
  have nls:∀ b,s₃.heap.get? b=none→@Ne Nat l b:=fun b e q=>by rw [q,e] at ol3;exact nsf ol3
  have nbs:∀ b,s₃.heap.get? b=none→G.base.get? b=none:=fun b e=>none_st c.st (new3 b e)
  have nLs:∀ b,s₃.heap.get? b=none→@Ne Nat L b:=fun b e q=>by refine xe3_2 h3 fun oo _ _ eo _=>?_;rw [← q] at e;rw [new3 _ e] at eo;exact nsf eo
  refine turn1 (pyNext_of (tee_nextIs c5 tee5 (tee_draw (G:=G) (d:=d+10) (u:=u+33) (its:=[]) (fpS:=[r]) (gpS:=[]) (J:=fun _ v s₂=>v=.ref t∧s₂.heap.get? r=some (itObj "list_iterator" (.ref l) 1)) c5 (by simpa using tee5) oS5 nxd nxS ndS
   (fq (nbs _ fx2) (fq (nbs _ fd2) (fq (nbs _ fS) fn0))) (fq (fnew _ (new3 _ fx2)) (fq (fnew _ (new3 _ fd2)) (fq (fnew _ (new3 _ fS)) fn0))) (by simp)
   (fq (yi5 nrx nrd nrS (nbs _ fr') ⟨_,or5⟩) fn0) ?src ?draw)))
  case src =>
   intro A' env s₁ cc e1 x1
   refine draw_item (x1.keep _ _ or5 fnm (fnew _ (new3 _ fr'))) (x1.keep _ _ ol5 fnm (fnew _ fl)) rfl ?_
   intro h' q1 q2
   exact (yi3 (Ext.one q2 (.head _) ⟨_,q1⟩) rfl q1)
  case draw =>
   intro v' s₁ s₂ s₆ n6 l6 hJ e51 hl6 fl6 e26 tot tee6 seen6
   obtain ⟨rfl,or2⟩:=hJ
   obtain ⟨ol6,hol6⟩:=hl6
   have nrl6:@Ne Nat r l6:=fun q=>by rw [q,fl6] at or5;exact nsf or5
   have or6:=e26.keep _ _ or2 (fun q=>by simp only [List.mem_cons,List.not_mem_nil,or_false] at q;rcases q with q | q | q;exact nrl6 q;exact nrS q;exact nrd q) (fnew _ (new3 _ fr'))
   have offt:∀ b,b≠S→b≠d2→b≠r→b ∉ [S,d2,r]:=fun b q1 q2 q3 q=>by simp only [List.mem_cons,List.not_mem_nil,or_false] at q;rcases q with q | q | q;exact q1 q;exact q2 q;exact q3 q
   have ol6':=tot.keep _ _ ol5 (offt l (nls _ fS) (nls _ fd2) (nls _ fr')) (fnew _ fl)
   have om6:=tot.keep _ _ om5 (offt mm (fun q=>by rw [← q,om3] at fS;cases fS) (fun q=>by rw [← q,om3] at fd2;cases fd2) (fun q=>by rw [← q,om3] at fr';cases fr')) mf'
   have ns5:s₅.heap.Ns L m:=y05.ns (s:=s.setGen g .running) h3 (fun q=>by simp only [List.mem_cons,List.not_mem_nil,or_false] at q;exact q.elim (fun z=>hn2 z.symm) (tg L zm1))
   have ns6:=tot.ns ns5 (offt L (nLs _ fS) (nLs _ fd2) (nLs _ fr'))
   refine (wi1_2 m ns6 (fun h' gs' hns hsb hin=>?_))
   refine xe3_2 (id hns) fun oL7 _ _ hoL7 _=>?_
   have E1:Ext (frs outer) [dv,mm,L] [g] s (s.setGen g .running):=Ext.setGen zm0 rfl
   have E2:Ext (frs outer) [dv,mm,L] [g] s s₅:=E1.trans (y05.weak (fr':=frs outer) (fp'':=[dv,mm]) (gp'':=[]) (fun b hb=>.inl hb) fn0 fn0) (fun b hb=>.inl (by simp only [List.mem_cons,List.not_mem_nil,or_false] at hb;rcases hb with hb | hb <;> replace hb:=hb.symm <;> subst hb <;> simp)) fn0
   have E3:Ext (frs outer) [dv,mm,L] [g] s s₆:=E2.trans (tot.weak (fr':=frs outer) (fp'':=[L,S,d2,r]) (gp'':=[]) (fun b hb=>.inl (.tail _ hb)) fn0 (fun b hb=>(fcn b hb).elim (fun z=>.inr (.inl (z▸.head _))) .inl)) (fq (.inl zm2) (fq (.inr (new3 _ fS)) (fq (.inr (new3 _ fd2)) (fq (.inr (new3 _ fr')) fn0)))) fn0
   have E4:Ext (frs outer) [dv,mm,L] [g] s { s₆ with heap:=h',toks:=s₆.toks+1 }:=E3.trans (Ext.one (fr:=frs outer) (fp:=[L]) (gp:=[]) hsb zm0 ⟨_,hoL7⟩) (fun b hb=>.inl (by simp at hb;simp [hb])) fn0
   have E5:=E4.trans (Ext.setGen (fr:=frs outer) (fp:=[]) (gp:=[g]) (g:=g) (gs:=gs') zm0 (in1_bare hin)) fn0 (fun g hg=>.inl hg)
   have kl:∀ b,@Ne Nat b L→∀ ob,s₆.heap.get? b=some ob→h'.get? b=some ob:=fun b nb ob e=>(hsb.2 b nb).trans e
   refine post _ (o.with s (fun b=>if b∈[x2,d2,S,r,l] then lv else 0) (fun _=>0)) n' [dv,mm,L] [g] E5 ?_ (fq (zq11 h12) fn0) (Own.with_agree ..) (Own.with_ok ok c.st) ?_ (kl mm (fun q=>tg L zm1 q.symm) _ om6)
   ·exact fq (.inl (Nat.le_of_eq (h10 _ zm3).symm)) (fq (.inr rfl) (fq (.inl (Nat.le_of_eq (h10 _ zm1).symm)) fn0))
   ·have ag:=Own.with_agree o s (fun b=>if b∈[x2,d2,S,r,l] then lv else 0) (fun _=>0)
    refine .one (g:=g) (nm:=nm) (qn:=qn) (E5.keep _ _ h1 ?_ ?_) (setGen_get (x:=.running) ?_) hin hns ((if_neg (show ¬ (nTwo=nX) by decide)).trans h5) (tee6.kept (kl x2 (fun q=>nLs _ fx2 q.symm)) (kl d2 (fun q=>nLs _ fd2 q.symm))) (kl S (fun q=>nLs _ fS q.symm) _ seen6) (kl r (fun q=>nLs _ fr' q.symm) _ or6) (kl l (fun q=>by rw [q] at fl;refine xe3_2 h3 fun oo _ _ eo _=>?_;rw [fl] at eo;exact nsf eo) _ ol6') ?_ ?_ hb60 (h13.mono (E5.kept (fun b hb=>?_) (fun b hb=>?_) (fun g' hg=>?_) ag))
    ·intro q
     simp only [List.mem_cons,List.not_mem_nil,or_false] at q
     rcases q with q | q | q
     ·exact ne_cls h1 f2 (by simp) q
     ·exact tg a zm0 q
     ·refine xe3_3 h3 fun oo es ep eo ed _=>?_
      rw [← q,h1] at eo;(replace eo:=Eq.symm eo;cases eo);cases ed
    ·exact nfr a zm0
    ·exact tot.gkeep _ _ (y05.gkeep g _ (setGen_get h2) fnm) fnm
    ·intro b hb
     simp only [List.mem_cons,List.not_mem_nil,or_false] at hb
     refine xe3_2 h3 fun oo _ _ eo _=>?_
     rcases hb with hb | hb | hb | hb | hb | hb | hb <;> replace hb:=hb.symm <;> subst hb
     ·exact (ag.1 _ _ h1).trans (h10 _ zm0)
     ·exact (ag.1 _ _ eo).trans (h10 _ zm1)
     ·exact (Own.with_new o (new3 _ fx2)).trans (by simp)
     ·exact (Own.with_new o (new3 _ fd2)).trans (by simp)
     ·exact (Own.with_new o (new3 _ fS)).trans (by simp)
     ·exact (Own.with_new o (new3 _ fr')).trans (by simp)
     ·exact (Own.with_new o fl).trans (by simp)
    ·exact (ag.2 _ _ h2).trans h12
    ·simp only [List.mem_cons,List.not_mem_nil,or_false] at hb
     rcases hb with hb | hb | hb <;> replace hb:=hb.symm <;> subst hb
     ·have:=h10 _ zm3;exact .inl (by exact zq153 lp this)
     ·exact .inl (by exact ⟨Nat.lt_succ_of_lt tm.1,Nat.ne_of_gt tm.2⟩)
     ·have:=h10 _ zm1;exact .inl (by exact zq153 lp this)
    ·have:=fo b hb;exact ⟨by exact Nat.lt_succ_of_lt this.1,this.2⟩
    ·simp at hg;(replace hg:=Eq.symm hg;subst hg);exact .inl (by exact zq15 h12)
end
section
variable {G:Gr}{d u:Nat}
structure StepOk (G:Gr) (o:Own) (mm lv a:Nat) (fr:List Addr) (s:Shared) (o':Own) (s':Shared) (rest:List Nat) (fp:List Addr) (gp:List Nat):Prop where
 ext:Ext fr fp gp s s'
 fp:∀ b∈fp,lv≤o.a b∨b=mm
 gp:∀ g∈gp,lv≤o.g g
 ag:Agree o o' s
 ok:OwnOk G o'
 ch:RChain G o' mm s' lv rest a
theorem raw_new {h h':Heap}{e:Nat}(x:Heap.NewExc h h' e "StopIteration"):h.get? e=none:=by
 exact x.new
theorem wrap_ext {outer:List Env}{s s':Shared}{L g:Nat}{fp:List Addr}{gp:List Nat}(x:Ext (frs (cenv L :: outer)) fp gp (s.setGen g .running) s'):Ext (frs outer) (L :: fp) (g :: gp) s s' :=
 (Ext.setGen (fr:=frs outer) (fp:=L :: fp) (gp:=g :: gp) (g:=g) (gs:=.running) zm0 rfl).trans (x.weak (fr':=frs outer) (fp'':=L :: fp) (gp'':=gp) (fun b hb=>.inl (.tail _ hb)) (fun _ h=>.inl h) (fun b hb=>(frs_cons rfl b hb).elim (fun z=>.inr (.inl (z▸.head _))) .inl)) (fun b hb=>.inl hb) (fun g hg=>.inl (.tail _ hg))
theorem agree_setGen {o o':Own}{s:Shared}{g:Nat}{gs:GenState}(x:Agree o o' (s.setGen g gs)):Agree o o' s:=by
 refine ⟨x.1,fun g' v e=>?_⟩
 by_cases q:g=g'
 ·subst q;exact x.2 _ _ (setGen_get e)
 ·exact x.2 g' v (by simp [Shared.setGen,Array.getElem?_setIfInBounds,q,e])
theorem raw_stops {e:Nat}{s:Shared}(r:Raw e s.heap):Stops (.ref e) s:=let ⟨ob,_,h1,h2,_⟩:=r;⟨ob,h1,h2⟩
theorem two_fin {outer:List Env}{s s':Shared}{o o':Own}{lv mm a g L nx:Nat}{fp:List Addr}{gp:List Nat}{nm qn:Value}{m:Str→Option Value}{rest:List Nat}{h':Heap}{gs' gr g0:GenState}{X:Obj}
  (h1:s.heap.get? a=some (genObj g nm qn)) (h2:s.gens[g]?=some g0) (hL:∃ oL,s.heap.get? L=some oL) (t1:o.a a=lv) (t2:o.a L=lv) (t3:o.g g=lv) (hb:lv≤160) (lp:1 < lv) (nao:a ∉ frs outer) (naL:@Ne Nat a L) (naf:a ∉ fp) (nLm:@Ne Nat L mm)
  (E:Ext (frs outer) (L :: fp) (g :: gp) s s') (hfp:∀ b∈fp,lv≤o.a b∨b=mm) (hgp:∀ g∈gp,lv≤o.g g) (ag:Agree o o' s) (okk:OwnOk G o') (ch:RChain G o' mm s' (lv+1) rest nx) (gg:s'.gens[g]?=some gr) (om':s'.heap.get? mm=some X)
  (hns:h'.Ns L m) (hsb:Heap.SameBut L s'.heap h') (hin:In2 PR G.w gs' L (.ref nx)) :
  StepOk G o mm lv a (frs outer) s o' ({ s' with heap:=h',toks:=s'.toks+1 }.setGen g gs') rest (L :: fp) (g :: gp)∧h'.get? mm=some X:=by
 refine xe3_2 (id hns) fun oL7 _ _ hoL7 _=>?_
 obtain ⟨oL0,hoL0⟩:=hL
 have E5:Ext (frs outer) (L :: fp) (g :: gp) s ({ s' with heap:=h',toks:=s'.toks+1 }.setGen g gs'):=(E.trans (Ext.one (fr:=frs outer) (fp:=[L]) (gp:=[]) hsb zm0 ⟨_,hoL7⟩) (fun b hb=>.inl (by simp at hb;simp [hb])) fn0).trans (Ext.setGen (fr:=frs outer) (fp:=[]) (gp:=[g]) (g:=g) (gs:=gs') zm0 (in2_bare hin)) fn0 (fun g' hg=>.inl (by simp at hg;simp [hg]))
 have tL:o'.a L=lv:=(ag.1 _ _ hoL0).trans t2
 have tg:o'.g g=lv:=(ag.2 _ _ h2).trans t3
 have K1:Kept o' o' (lv+1) s' ({ s' with heap:=h',toks:=s'.toks+1 }.setGen g gs'):=Ext.kept (fr:=[]) (fp:=[L]) (gp:=[g]) ((Ext.one (fr:=[]) (fp:=[L]) (gp:=[g]) hsb zm0 ⟨_,hoL7⟩).trans (Ext.setGen (fr:=[]) (fp:=[]) (gp:=[g]) (g:=g) (gs:=gs') zm0 (in2_bare hin)) fn0 (fun g' hg=>.inl hg)) (fq (.inl ⟨by exact zq15 tL,by exact zq27 lp tL⟩) fn0) fn0 (fq (.inl (by exact zq15 tg)) fn0) ⟨fun _ _ _=>rfl,fun _ _ _=>rfl⟩
 refine ⟨⟨E5,?_,?_,ag,okk,.two (E5.keep _ _ h1 ?_ nao) (setGen_get gg) hin hns ((ag.1 _ _ h1).trans t1) tL tg hb (ch.mono K1)⟩,(hsb.2 mm (fun q=>nLm q.symm)).trans om'⟩
 ·exact fq (.inl (by exact zq11 t2)) (fun b hb=>hfp b hb)
 ·exact fq (zq11 t3) (fun g' hg=>hgp g' hg)
 ·intro q
  rcases List.mem_cons.mp q with q | q
  ·exact naL q
  ·exact naf q
theorem rchain_next:∀ (k:Nat) {A:Around}{outer:List Env}{s:Shared}{o:Own}{lv mm a n:Nat}{its:List Nat}{ms:List Value}{Q E:Value→Shared→Prop},lv+k=161→RChain G o mm s lv its a →
  Cx G A outer (d+14+2 * k) (u+50+6 * k) s.heap→OwnOk G o→(∀ b∈frs outer,o.a b < lv∧o.a b≠1)→1 < lv→s.heap.get? mm=some (W.listOf ms.toArray n)→(o.a mm < lv∧1 < o.a mm)→mm ∉ frs outer→ms.length < 900 →
  (∀ t rest s' o' n' fp gp,its=t :: rest→StepOk G o mm lv a (frs outer) s o' s' rest fp gp→s'.heap.get? mm=some (W.listOf (ms++[Value.ref t]).toArray n')→Q (.ref t) s') →
  (∀ e s' o' fp gp,its=[]→StepOk G o mm lv a (frs outer) s o' s' [] fp gp→s'.heap.get? mm=some (W.listOf ms.toArray n)→Raw e s'.heap→s.heap.get? e=none→(∀ b,s.heap.get? b=none→o'.a b=o.a b)→E (.ref e) s')→NextIs PR G.w A (.ref a) Q E s:=by
 intro k
 induction k with
 | zero =>
  intro A outer s o lv mm a n its ms Q E hk ch
  cases ch with
  | done h1 h2 h3 h4 =>
   intro c ok fo lp om tm mf hl post pend
   refine gen_ended c.hd (isGen_of h1) h2 fun h' e x hz=>?_
   have E1:Ext (frs outer) [] [] s { s with heap:=h' }:=Ext.more (tk:=s.toks) x.keeps
   exact pend e _ o [] [] rfl ⟨E1,fn0,fn0,⟨fun _ _ _=>rfl,fun _ _ _=>rfl⟩,ok,.done (x.keeps _ _ h1) h2 h3 h4⟩ (x.keeps _ _ om) (raw_of x) (raw_new x) (fun _ _=>rfl)
  | one _ _ _ _ _ _ _ _ _ _ _ hb=>omega
  | two _ _ _ _ _ _ _ hb=>omega
 | succ k ih =>
  intro A outer s o lv mm a n its ms Q E hk ch
  cases ch with
  | done h1 h2 h3 h4 =>
   intro c ok fo lp om tm mf hl post pend
   refine gen_ended c.hd (isGen_of h1) h2 fun h' e x hz=>?_
   have E1:Ext (frs outer) [] [] s { s with heap:=h' }:=Ext.more (tk:=s.toks) x.keeps
   exact pend e _ o [] [] rfl ⟨E1,fn0,fn0,⟨fun _ _ _=>rfl,fun _ _ _=>rfl⟩,ok,.done (x.keeps _ _ h1) h2 h3 h4⟩ (x.keeps _ _ om) (raw_of x) (raw_new x) (fun _ _=>rfl)
  | @one _ _ g _ nm qn L x dx S r l nx n1 k1 m gs tv h1 h2 h3 h4 h5 h6 h7 h8 h9 h10 h11 hb h12 =>
   intro c ok fo lp om tm mf hl post pend
   (refine xe4_2 (id h3) ?_;rintro kk l0 p q rfl hkk)
   have tg:∀ b∈[a,L,x,dx,S,r,l],b≠mm:=fun b hb q=>by have:=h10 b hb;rw [q] at this;exact zq151 tm this
   have bs:∀ b∈[a,L,x,dx,S,r,l],G.base.get? b=none:=fun b hb=>ok b (by rw [h10 b hb];exact zq152 lp)
   have nfr:∀ b∈[a,L,x,dx,S,r,l],b ∉ frs outer:=fun b hb q=>by have:=(fo b q).1;rw [h10 b hb] at this;exact zq85 this
   obtain ⟨oL0,hoL0⟩:∃ oL,s.heap.get? L=some oL:=let ⟨oo,_,_,eo,_⟩:=h4;⟨oo,eo⟩
   have dL:∀ b ob,s.heap.get? b=some ob→(∀ es ep,ob.data≠.dict es ep)→@Ne Nat b L:=fun b ob e hd q=>by
    refine xe3_3 h4 fun oo es ep eo ed _=>?_
    rw [← q,e] at eo;(replace eo:=Eq.symm eo;cases eo);exact hd _ _ ed
   have naL:=dL a _ h1 (fun _ _ h=>by cases h)
   have nrL:=dL r _ h8 (fun _ _ h=>by cases h)
   have nlL:=dL l _ h9 (fun _ _ h=>by cases h)
   apply hide;intro _ kι;obtain ⟨t1,_,_,_,_,_,_,_,t2⟩:=id h6;apply kι
   have nxd:=ne_cls t1 t2 (by simp)
   have nxS:=ne_cls t1 h7 (by simp)
   have ndS:=ne_cls t2 h7 (by simp)
   have nra:=ne_cls h8 h1 (by simp)
   have nrl:=ne_cls h8 h9 (by simp)
   refine gen_goes c.hd c.nolimit (by have:=c.dp;exact zq154 this) (isGen_of h1) h2 (.inr (xi4 kk l0 p false ⟨rfl,rfl⟩)) (hkk _ _ _ (turn1 (pyNext_of ?_)))
   have c1:Cx G (gA A.in1 L 3) (cenv L :: outer) (d+12+1) (u+40+3) s.heap:=(Cx.gen (d:=d+12+1) (u:=u+40+3) ((c.less (by exact Nat.le_add_right (_+12+1+1) (2 * (_+1))) (by exact zq303):Cx G A outer (d+12+1+1) (u+40+3+3+1) s.heap).in1) h4 (bs L zm1))
   have nfr':∀ b∈[r,l],b ∉ frs (cenv L :: outer):=fun b hb q=>by
    simp only [List.mem_cons,List.not_mem_nil,or_false] at hb
    rcases hb with hb | hb <;> replace hb:=hb.symm <;> subst hb
    ·exact (frs_cons rfl _ q).elim nrL (nfr _ zm5)
    ·exact (frs_cons rfl _ q).elim nlL (nfr _ zm6)
   refine tee_nextIs (s:=s.setGen g .running) c1 h6 (tee_stop (G:=G) (d:=d+12) (u:=u+40) (s:=s.setGen g .running) (its:=[tv]) (fpS:=[r]) (gpS:=[]) (J:=fun _ _=>True) c1 h6 h7 nxd nxS ndS
    (fq (bs x zm2) (fq (bs dx zm3) (fq (bs S zm4) fn0))) (by simp) (fq (yi3 (nfr' r zm0) (bs r zm5) ⟨_,h8⟩) fn0) ?src ?stop)
   case src =>
    intro A' env s₁ cc e1 x1
    refine draw_end cc.hd (x1.keep _ _ h8 fnm (nfr' r zm0)) (x1.keep _ _ h9 fnm (nfr' l zm1)) rfl ?_
    intro h₁ h' e q1 q2 nx2 hz
    refine (wi1_5 e rfl ((Ext.one (fr:=frs (env :: cenv L :: outer)) (fp:=[r]) (gp:=[]) (tk:=s₁.toks) q2 zm0 ⟨_,q1⟩).trans (Ext.more (fr:=frs (env :: cenv L :: outer)) (fp:=[]) (gp:=[]) (s:={ s₁ with heap:=h₁ }) (tk:=s₁.toks) nx2.keeps) fn0 fn0) (raw_of nx2) ?_ trivial)
    by_cases q:e=r
    ·have:=nx2.new;rw [q,q1] at this;(replace this:=Eq.symm this;cases this)
    ·exact (q2.2 e q).symm.trans nx2.new
   case stop =>
    intro e s₁ s₂ s₃ l9 _ x01 _ fl9 fe x23 tot stops _
    have W3:=wrap_ext tot
    have ns3:=tot.ns (s:=s.setGen g .running) h4 (fun q=>nrL (List.mem_singleton.mp q).symm)
    refine ⟨stops,into2 ns3 h5 ?_⟩
    have c3:Cx G (gA A.in1 L 3) (cenv L :: outer) (d+12+1) (u+40+3) s₃.heap:=Cx.next (s:=s.setGen g .running) c1 tot (fq (bs r zm5) fn0) (fq (nfr' r zm0) fn0)
    have K3:Kept o o (lv+1) s s₃:=W3.kept (fun b hb=>by
     have:b=L∨b=r:=by simpa using hb
     rcases this with this | this <;> replace this:=this.symm <;> subst this
     ·exact .inl ⟨by have:=h10 _ zm1;exact zq15 this,by have:=h10 _ zm1;exact zq27 lp this⟩
     ·exact .inl ⟨by have:=h10 _ zm5;exact zq15 this,by have:=h10 _ zm5;exact zq27 lp this⟩) (fun b hb=>⟨by have:=(fo b hb).1;exact zq47 this,(fo b hb).2⟩) (fq (.inl (by exact zq15 h11)) fn0) ⟨fun _ _ _=>rfl,fun _ _ _=>rfl⟩
    have g3:s₃.gens[g]?=some .running:=tot.gkeep _ _ (setGen_get h2) fnm
    have mL:@Ne Nat L mm:=tg L zm1
    have om3:s₃.heap.get? mm=some (W.listOf ms.toArray n):=W3.keep _ _ om (fun q=>by
     have:mm=L∨mm=r:=by simpa using q
     rcases this with h | h
     ·exact mL h.symm
     ·exact tg r zm5 h.symm) mf
    have hfp3:∀ b∈[L,r],lv≤o.a b∨b=mm:=fun b hb=>.inl (by
     have:b=L∨b=r:=by simpa using hb
     rcases this with this | this <;> replace this:=this.symm <;> subst this
     ·exact Nat.le_of_eq (h10 _ zm1).symm
     ·exact Nat.le_of_eq (h10 _ zm5).symm)
    have naf3:a ∉ [L,r]:=fun q=>by
     have:a=L∨a=r:=by simpa using q
     exact this.elim naL (fun z=>nra z.symm)
    cases h12.mono K3 with
    | @nil _ _ n2 e1 e2 =>
     refine wpAny_pyIter_list ⟨_,e1,rfl,_,rfl⟩ fun q=>turn2 (pyNext_of ?_)
     have fit:s₃.heap.get? s₃.heap.objs.size=none:=Heap.get?_none_of_le (Nat.le_refl _)
     refine next_end (.inl rfl) c3.hd (Heap.get?_push_size _ rfl) (Heap.get?_push_of_some _ e1) rfl rfl ?_
     intro h₁ h' e9 q1 q2 nx2 hz
     refine ⟨raw_stops (s:={ s₃ with heap:=h' }) (raw_of nx2),fun h'' x9 hx hz'=>?_⟩
     have P1:Ext (frs outer) [L,r] [g] s { s₃ with heap:=s₃.heap.push (itObj "list_iterator" (.ref nx) 0),toks:=s₃.toks }:=W3.trans (Ext.more (fr:=frs outer) (fp:=[]) (gp:=[]) fun b o e=>Heap.get?_push_of_some _ e) fn0 fn0
     have P2:Ext (frs outer) [L,r] [g] s { s₃ with heap:=h₁,toks:=s₃.toks }:=P1.trans (Ext.one (fr:=frs outer) (fp:=[s₃.heap.objs.size]) (gp:=[]) (s:={ s₃ with heap:=s₃.heap.push (itObj "list_iterator" (.ref nx) 0),toks:=s₃.toks }) q2 zm0 ⟨_,q1⟩) (fq (.inr (W3.fresh fit)) fn0) fn0
     have P3:Ext (frs outer) [L,r] [g] s { s₃ with heap:=h',toks:=s₃.toks }:=P2.trans (Ext.more (fr:=frs outer) (fp:=[]) (gp:=[]) (s:={ s₃ with heap:=h₁,toks:=s₃.toks }) nx2.keeps) fn0 fn0
     have P4:=P3.trans (Ext.setGen (fr:=frs outer) (fp:=[]) (gp:=[g]) (g:=g) (gs:=.finished) zm0 rfl) fn0 (fun g' hg=>.inl hg)
     have P5:Ext (frs outer) [L,r] [g] s { ({ s₃ with heap:=h',toks:=s₃.toks }:Shared).setGen g .finished with heap:=h'' }:=P4.trans (Ext.more (fr:=frs outer) (fp:=[]) (gp:=[]) (tk:=s₃.toks) hx.keeps) fn0 fn0
     exact pend x9 _ o [L,r] [g] rfl ⟨P5,hfp3,(fq (zq11 h11) fn0),⟨fun _ _ _=>rfl,fun _ _ _=>rfl⟩,ok,.done (P5.keep _ _ h1 naf3 (nfr a zm0)) (setGen_get g3) (h10 a zm0) h11⟩ (hx.keeps _ _ (P3.keep _ _ om (fun q=>by
      have:mm=L∨mm=r:=by simpa using q
      rcases this with h | h
      ·exact mL h.symm
      ·exact tg r zm5 h.symm) mf)) (raw_of hx) (P3.fresh hx.new) (fun _ _=>rfl)
    | @cons _ t9 _ g9 rest9 nm9 qn9 L9 v9 dv9 f9 ci9 cm9 nx9 c9 m9 i1 i2 i3 i4 i5 i6 i7 i8 i9 jn jn2 i10 i11 i12 i13 i14 =>
     have F9:FChain G o mm s₃ (lv+1) (t9 :: rest9) nx:=.cons i1 i2 i3 i4 i5 i6 i7 i8 i9 jn jn2 i10 i11 i12 i13 i14
     refine wpAny_pyIter_gen (isGen_of i1) fun q=>turn2 (pyNext_of ?_)
     refine fchain_next (G:=G) (d:=d) (u:=u) (c3.less (by exact zq304) (by exact Nat.le_add_right (_+40) 3)) ok ?_ (by exact zq155 lp) F9 om3 ⟨by exact zq156 tm,tm.2⟩ ?_ hl ?_
     ·intro b hb
      rcases (frs_cons rfl b hb).imp_left Eq.symm with rfl | z
      ·have:=h10 _ zm1;exact ⟨by exact zq15 this,by exact zq27 lp this⟩
      ·exact ⟨by have:=(fo b z).1;exact zq47 this,(fo b z).2⟩
     ·exact fun q=>(frs_cons rfl _ q).elim (fun z=>mL z.symm) mf
     ·intro s' o' n' fp gp y hfp hgp ag okk ch om'
      have nLf:L ∉ fp:=fun q=>(hfp L q).elim (fun z=>by have:=h10 L zm1;exact zq157 z this) mL
      have ngf:g ∉ gp:=fun q=>by have:=hgp g q;exact zq23 h11 this
      refine (wi1_2 m (y.ns ns3 nLf) (fun h' gs' hns hsb hin=>?_))
      have ET:Ext (frs outer) (L :: r :: fp) (g :: gp) s s':=(W3.weak (fr':=frs outer) (fp'':=L :: r :: fp) (gp'':=g :: gp) (fun b hb=>.inl (by simp at hb;simp;rcases hb with h | h <;> simp [h])) (fun g' hg=>.inl (by simp at hg;simp [hg])) (fun b hb=>.inl hb)).trans (y.weak (fr':=frs outer) (fp'':=L :: fp) (gp'':=gp) (fun b hb=>.inl (.tail _ hb)) (fun g hg=>.inl hg) (fun b hb=>(frs_cons rfl b hb).elim (fun z=>.inr (.inl (z▸.head _))) .inl)) (fun b hb=>.inl (by rcases List.mem_cons.mp hb with h | h;exact h▸.head _;exact .tail _ (.tail _ h))) (fun g hg=>.inl (.tail _ hg))
      have ag':Agree o o' s:=⟨fun b ob e=>by obtain ⟨ob',e'⟩:=W3.there b ob e;exact ag.1 b ob' e',fun g' v e=>by
       by_cases q:g'=g
       ·(replace q:=Eq.symm q;subst q);exact ag.2 _ _ g3
       ·exact ag.2 _ _ (W3.gkeep g' v e (by simpa using q))⟩
      obtain ⟨st,om''⟩:=two_fin (fp:=r :: fp) (gp:=gp) h1 h2 ⟨_,hoL0⟩ (h10 a zm0) (h10 L zm1) h11 hb lp (nfr a zm0) naL (fun q=>(List.mem_cons.mp q).elim (fun z=>nra z.symm) fun z=>(hfp a z).elim (fun z=>by have:=h10 a zm0;exact zq157 z this) (tg a zm0)) mL ET (fun b hb=>(List.mem_cons.mp hb).elim (fun z=>hfp3 b (by simp [z])) fun z=>(hfp b z).imp (fun w=>by exact zq28 w) id) (fun g' hg=>by have:=hgp g' hg;exact zq28 this) ag' okk ch (y.gkeep _ _ g3 ngf) om' hns hsb hin
      exact post t9 rest9 _ o' n' _ _ rfl st om''
  | @two _ _ g _ nm qn L nx m gs h1 h2 h3 h4 h5 h6 h7 hb inner =>
   intro c ok fo lp om tm mf hl post pend
   (refine xe4_2 (id h3) ?_;rintro kk l p q rfl hkk)
   have bL:G.base.get? L=none:=ok L (by exact fun e=>zc lp rfl (h6.symm.trans e))
   have nLm:@Ne Nat L mm:=fun q=>by rw [q] at h6;exact zq158 h6 tm
   have nLo:L ∉ frs outer:=fun q=>by have:=(fo L q).1;exact zq159 h6 this
   have nam:@Ne Nat a mm:=fun q=>by rw [q] at h5;exact zq158 h5 tm
   have naL:@Ne Nat a L:=fun q=>by
    refine xe3_3 h4 fun oo es ep eo ed _=>?_
    rw [← q,h1] at eo;(replace eo:=Eq.symm eo;cases eo);cases ed
   have nao:a ∉ frs outer:=fun q=>by have:=(fo a q).1;exact zq159 h5 this
   refine gen_goes c.hd c.nolimit (by have:=c.dp;exact zq154 this) (isGen_of h1) h2 (.inr (xi4 kk l p false ⟨rfl,rfl⟩)) (hkk _ _ _ (turn2 (pyNext_of ?_)))
   have c1:Cx G (gA A.in1 L 3) (cenv L :: outer) (d+14+2 * k) (u+50+6 * k) s.heap:=(Cx.gen (d:=d+14+2 * k+1) (u:=u+50+6 * k+2) ((c.less (by exact zq307) (by exact Nat.le_refl (_+50+6 * _+2+3+1)):Cx G A outer (d+14+2 * k+1+1) (u+50+6 * k+2+3+1) s.heap).in1) h4 bL).less (by exact Nat.le_add_right (_+14+2 * _) 1) (by exact Nat.le_add_right (_+50+6 * _) 2)
   have E0:Ext (frs outer) [] [g] s (s.setGen g .running):=Ext.setGen zm0 rfl
   have K0:Kept o o (lv+1) s (s.setGen g .running):=E0.kept fn0 (fun b hb=>⟨by have:=(fo b hb).1;exact zq47 this,(fo b hb).2⟩) (fq (.inl (by exact zq15 h7)) fn0) ⟨fun _ _ _=>rfl,fun _ _ _=>rfl⟩
   refine ih (s:=s.setGen g .running) (by exact (Nat.add_right_comm _ 1 _).trans hk) (inner.mono K0) c1 ok ?_ (by exact zq155 lp) om ⟨by exact zq156 tm,tm.2⟩ ?_ hl ?_ ?_
   ·intro b hb
    rcases (frs_cons rfl b hb).imp_left Eq.symm with rfl | z
    ·exact ⟨by exact zq15 h6,by exact zq27 lp h6⟩
    ·exact ⟨by have:=(fo b z).1;exact zq47 this,(fo b z).2⟩
   ·exact fun q=>(frs_cons rfl _ q).elim (fun z=>nLm z.symm) mf
   ·intro t rest s' o' n' fp gp e st om'
    have nLf:L ∉ fp:=fun q=>(st.fp L q).elim (fun z=>by exact zq23 h6 z) nLm
    have naf:a ∉ fp:=fun q=>(st.fp a q).elim (fun z=>by exact zq23 h5 z) nam
    have ngf:g ∉ gp:=fun q=>by have:=st.gp g q;exact zq23 h7 this
    refine (wi1_2 m (st.ext.ns (s:=s.setGen g .running) h4 nLf) (fun h' gs' hns hsb hin=>?_))
    refine xe3_2 (id hns) fun oL7 _ _ hoL7 _=>?_
    have E5:Ext (frs outer) (L :: fp) (g :: gp) s ({ s' with heap:=h',toks:=s'.toks+1 }.setGen g gs'):=((wrap_ext st.ext).trans (Ext.one (fr:=frs outer) (fp:=[L]) (gp:=[]) hsb zm0 ⟨_,hoL7⟩) (fun b hb=>.inl (by simp at hb;simp [hb])) fn0).trans (Ext.setGen (fr:=frs outer) (fp:=[]) (gp:=[g]) (g:=g) (gs:=gs') zm0 (in2_bare hin)) fn0 (fun g' hg=>.inl (by simp at hg;simp [hg]))
    have ag:=agree_setGen st.ag
    refine xe3_2 (id h4) fun oL0 _ _ hoL0 _=>?_
    have tL:o'.a L=lv:=(ag.1 _ _ hoL0).trans h6
    have tg:o'.g g=lv:=(ag.2 _ _ h2).trans h7
    have K1:Kept o' o' (lv+1) s' ({ s' with heap:=h',toks:=s'.toks+1 }.setGen g gs'):=Ext.kept (fr:=[]) (fp:=[L]) (gp:=[g]) ((Ext.one (fr:=[]) (fp:=[L]) (gp:=[g]) hsb zm0 ⟨_,hoL7⟩).trans (Ext.setGen (fr:=[]) (fp:=[]) (gp:=[g]) (g:=g) (gs:=gs') zm0 (in2_bare hin)) fn0 (fun g' hg=>.inl hg)) (fq (.inl ⟨by exact zq15 tL,by exact zq27 lp tL⟩) fn0) fn0 (fq (.inl (by exact zq15 tg)) fn0) ⟨fun _ _ _=>rfl,fun _ _ _=>rfl⟩
    refine post t rest _ o' n' (L :: fp) (g :: gp) e ⟨E5,?_,?_,ag,st.ok,.two (E5.keep _ _ h1 ?_ nao) (setGen_get (x:=.running) (st.ext.gkeep _ _ (setGen_get h2) ngf)) hin hns ((ag.1 _ _ h1).trans h5) tL tg hb (st.ch.mono K1)⟩ ((hsb.2 mm (fun q=>nLm q.symm)).trans om')
    ·exact fq (.inl (by exact zq11 h6)) (fun b hb=>(st.fp b hb).imp (fun z=>by exact zq28 z) id)
    ·intro g' hg
     rcases (List.mem_cons.mp hg).imp_left Eq.symm with rfl | hg
     ·exact zq11 h7
     ·have:=st.gp g' hg;exact zq28 this
    ·intro q
     rcases List.mem_cons.mp q with q | q
     ·exact naL q
     ·exact naf q
   ·intro e s' o' fp gp e0 st om' raw fe nmk
    have nLf:L ∉ fp:=fun q=>(st.fp L q).elim (fun z=>by exact zq23 h6 z) nLm
    have naf:a ∉ fp:=fun q=>(st.fp a q).elim (fun z=>by exact zq23 h5 z) nam
    have ngf:g ∉ gp:=fun q=>by have:=st.gp g q;exact zq23 h7 this
    refine ⟨raw_stops raw,fun h' x hx hz=>?_⟩
    have ag:=agree_setGen st.ag
    have E5:Ext (frs outer) (L :: fp) (g :: gp) s { s'.setGen g .finished with heap:=h' }:=((wrap_ext st.ext).trans (Ext.setGen (fr:=frs outer) (fp:=[]) (gp:=[g]) (g:=g) (gs:=.finished) zm0 rfl) fn0 (fun g' hg=>.inl (by simp at hg;simp [hg]))).trans (Ext.more (fr:=frs outer) (fp:=[]) (gp:=[]) (s:=s'.setGen g .finished) (tk:=s'.toks) hx.keeps) fn0 fn0
    refine pend x _ o' (L :: fp) (g :: gp) e0 ⟨E5,?_,?_,ag,st.ok,.done (E5.keep _ _ h1 ?_ nao) (setGen_get (x:=.running) (st.ext.gkeep _ _ (setGen_get h2) ngf)) ((ag.1 _ _ h1).trans h5) ((ag.2 _ _ h2).trans h7)⟩ (hx.keeps _ _ om') (raw_of hx) ((wrap_ext st.ext).fresh hx.new) nmk
    ·exact fq (.inl (by exact zq11 h6)) (fun b hb=>(st.fp b hb).imp (fun z=>by exact zq28 z) id)
    ·intro g' hg
     rcases (List.mem_cons.mp hg).imp_left Eq.symm with rfl | hg
     ·exact zq11 h7
     ·have:=st.gp g' hg;exact zq28 this
    ·intro q
     rcases List.mem_cons.mp q with q | q
     ·exact naL q
     ·exact naf q
end
section
open Classical
noncomputable def fpOf (P:Nat→Prop) (o:Own) (s:Shared) (fr:List Addr):List Addr:=(List.range s.heap.objs.size).filter fun b=>decide ((∃ ob,s.heap.get? b=some ob)∧P (o.a b)∧b ∉ fr)
noncomputable def gpOf (P:Nat→Prop) (o:Own) (s:Shared):List Nat:=(List.range s.gens.size).filter fun g=>decide (P (o.g g))
theorem mem_fpOf {P:Nat→Prop}{o:Own}{s:Shared}{fr:List Addr}{b:Nat}:b∈fpOf P o s fr ↔ (∃ ob,s.heap.get? b=some ob)∧P (o.a b)∧b ∉ fr:=by
 unfold fpOf
 rw [List.mem_filter,decide_eq_true_iff]
 constructor
 ·exact fun h=>h.2
 ·intro h
  obtain ⟨ob,e⟩:=h.1
  exact ⟨List.mem_range.mpr (Heap.lt_size e),h⟩
theorem mem_gpOf {P:Nat→Prop}{o:Own}{s:Shared}{g:Nat}:g∈gpOf P o s ↔ g < s.gens.size∧P (o.g g):=by
 unfold gpOf
 rw [List.mem_filter,decide_eq_true_iff,List.mem_range]
end
structure Mv (G:Gr) (P:Nat→Prop) (fr:List Addr) (o:Own) (s:Shared) (o':Own) (s':Shared):Prop where
 ext:Ext fr (fpOf P o s fr) (gpOf P o s) s s'
 ag:Agree o o' s
 ok:OwnOk G o'
theorem gens_lt {s:Shared}{g:Nat}{x:GenState}(e:s.gens[g]?=some x):g < s.gens.size:=(Array.getElem?_eq_some_iff.mp e).1
namespace Mv
variable {G:Gr}{P P':Nat→Prop}{fr fr':List Addr}{o o' o'':Own}{s s' s'':Shared}
theorem of {fp:List Addr}{gp:List Nat}(x:Ext fr fp gp s s') (h:∀ b∈fp,(P (o.a b)∧b ∉ fr)∨s.heap.get? b=none) (hg:∀ g∈gp,P (o.g g)∨s.gens.size≤g) (ag:Agree o o' s) (ok:OwnOk G o'):Mv G P fr o s o' s':=by
 refine ⟨x.weak (fun b hb=>?_) (fun g hgg=>?_) (fun b hb=>.inl hb),ag,ok⟩
 ·rcases h b hb with h | h
  ·cases e:s.heap.get? b with
   | none=>exact .inr rfl
   | some ob=>exact .inl (mem_fpOf.mpr ⟨⟨ob,e⟩,h⟩)
  ·exact .inr h
 ·rcases hg g hgg with h | h
  ·by_cases q:g < s.gens.size
   ·exact .inl (mem_gpOf.mpr ⟨q,h⟩)
   ·exact .inr (Nat.not_lt.mp q)
  ·exact .inr h
theorem refl (ok:OwnOk G o):Mv G P fr o s o s:=⟨Ext.refl _ _ _ _,⟨fun _ _ _=>rfl,fun _ _ _=>rfl⟩,ok⟩
theorem agree_trans {fp:List Addr}{gp:List Nat}(x:Ext fr fp gp s s') (ag:Agree o o' s) (ag':Agree o' o'' s'):Agree o o'' s:=by
 refine ⟨fun b ob e=>?_,fun g v e=>?_⟩
 ·obtain ⟨ob',e'⟩:=x.there b ob e
  exact (ag'.1 b ob' e').trans (ag.1 b ob e)
 ·have:g < s'.gens.size:=Nat.lt_of_lt_of_le (gens_lt e) x.gsize
  exact (ag'.2 g _ (Array.getElem?_eq_getElem this)).trans (ag.2 g v e)
theorem trans (x:Mv G P fr o s o' s') (y:Mv G P fr o' s' o'' s''):Mv G P fr o s o'' s'':=by
 refine ⟨x.ext.trans y.ext (fun b hb=>?_) (fun g hg=>?_),agree_trans x.ext x.ag y.ag,y.ok⟩
 ·refine xe0_3 (mem_fpOf.mp hb) fun _ h2 h3=>?_
  cases e:s.heap.get? b with
  | none=>exact .inr rfl
  | some ob=>exact .inl (mem_fpOf.mpr (yi3 ⟨ob,e⟩ (by rw [← x.ag.1 b ob e];exact h2) h3))
 ·obtain ⟨h1,h2⟩:=mem_gpOf.mp hg
  by_cases q:g < s.gens.size
  ·exact .inl (mem_gpOf.mpr ⟨q,by rw [← x.ag.2 g _ (Array.getElem?_eq_getElem q)];exact h2⟩)
  ·exact .inr (Nat.not_lt.mp q)
theorem up (x:Mv G P fr o s o' s') (h:∀ t,P t→P' t):Mv G P' fr o s o' s' :=
 ⟨x.ext.weak (fun _ hb=>.inl (let ⟨a,b,c⟩:=mem_fpOf.mp hb;mem_fpOf.mpr ⟨a,h _ b,c⟩)) (fun _ hg=>.inl (let ⟨a,b⟩:=mem_gpOf.mp hg;mem_gpOf.mpr ⟨a,h _ b⟩)) (fun _ hb=>.inl hb),x.ag,x.ok⟩
theorem keep (x:Mv G P fr o s o' s') {b:Nat}{ob:Obj}(e:s.heap.get? b=some ob) (h:¬ P (o.a b)) (hf:b ∉ fr):s'.heap.get? b=some ob∧o'.a b=o.a b :=
 ⟨x.ext.keep b ob e (fun q=>h (mem_fpOf.mp q).2.1) hf,x.ag.1 b ob e⟩
theorem gkeep (x:Mv G P fr o s o' s') {g:Nat}{v:GenState}(e:s.gens[g]?=some v) (h:¬ P (o.g g)):s'.gens[g]?=some v∧o'.g g=o.g g :=
 ⟨x.ext.gkeep g v e (fun q=>h (mem_gpOf.mp q).2),x.ag.2 g v e⟩
theorem remark (x:Mv G P fr o s o' s') (ag:Agree o' o'' s') (ok:OwnOk G o''):Mv G P fr o s o'' s':=⟨x.ext,agree_trans x.ext x.ag ag,ok⟩
theorem pop {env:Env}{outer:List Env}{L:Nat}(x:Mv G P (frs (env :: outer)) o s o' s') (he:env.frame=some L) (hL:(P (o.a L)∧L ∉ frs outer)∨s.heap.get? L=none):Mv G P (frs outer) o s o' s':=by
 refine of (fp:=L :: fpOf P o s (frs (env :: outer))) (gp:=gpOf P o s) (x.ext.weak (fun b hb=>.inl (.tail _ hb)) (fun _ hg=>.inl hg) (fun b hb=>(frs_cons he b hb).elim (fun q=>.inr (.inl (q▸.head _))) .inl)) (fun b hb=>?_) (fun g hg=>.inl (mem_gpOf.mp hg).2) x.ag x.ok
 rcases (List.mem_cons.mp hb).imp_left Eq.symm with rfl | hb
 ·exact hL
 ·refine xe0_3 (mem_fpOf.mp hb) fun _ h2 h3=>?_
  refine .inl ⟨h2,fun q=>h3 ?_⟩
  simp only [frs,List.filterMap_cons,he]
  exact .tail _ q
theorem cx {A:Around}{outer:List Env}{d u:Nat}(x:Mv G P (frs outer) o s o' s') (c:Cx G A outer d u s.heap) (ok:OwnOk G o) (h0:¬ P 0):Cx G A outer d u s'.heap :=
 c.next x.ext (fun a ha=>ok a fun q=>h0 (q▸(mem_fpOf.mp ha).2.1)) (fun a ha=>(mem_fpOf.mp ha).2.2)
theorem kept (x:Mv G P fr o s o' s') {lv:Nat}(h:∀ t,P t→t < lv∧t≠1) (hf:∀ b∈fr,o.a b < lv∧o.a b≠1):Kept o o' lv s s' :=
 x.ext.kept (fun b hb=>.inl (h _ (mem_fpOf.mp hb).2.1)) hf (fun g hg=>.inl (h _ (mem_gpOf.mp hg).2).1) x.ag
end Mv
noncomputable def Own.reset (o:Own) (s:Shared):Own:=o.with s (fun _=>0) (fun _=>0)
theorem Own.reset_agree (o:Own) (s:Shared):Agree o (o.reset s) s:=Own.with_agree ..
theorem Own.reset_new (o:Own) {s:Shared}{b:Nat}(e:s.heap.get? b=none):(o.reset s).a b=0:=Own.with_new o e
noncomputable def FO (o:Own) (fr:List Addr):Prop:=∀ b∈fr,o.a b=0∨(5≤o.a b∧o.a b < 100)
noncomputable def LIt (o:Own) (lv:Nat) (s:Shared) (V:List Value) (r m:Nat):Prop :=
 o.a r=lv∧((∃ l n,s.heap.get? r=some (itObj "list_iterator" (.ref l) m)∧s.heap.get? l=some (W.listOf V.toArray n)∧o.a l=lv∧m≤V.length)∨∃ i,s.heap.get? r=some (itObj "list_iterator" .none i)∧m=V.length)
noncomputable def Src (G:Gr) (k:Nat) (o:Own) (s:Shared) (V:List Value) (mm r m:Nat):Prop :=
 if k=0 then (∃ its:List Nat,V=its.map Value.ref∧((FChain G o mm s 150 (its.drop m) r∧m < its.length)∨(RChain G o mm s 150 (its.drop m) r∧m≤its.length)))∨(V=[]∧m=0∧LIt o 150 s [] r 0)
 else LIt o 102 s V r m
noncomputable def madeOf (k:Nat) (V:List Value) (m:Nat):List Value:=if k=0 then V.take m else V
noncomputable def SP (k t:Nat):Prop:=if k=0 then 150≤t∨t=2 else t=102
section
variable {G:Gr}{A:Around}{outer:List Env}{d u:Nat}{s:Shared}
theorem lit_next {o:Own}{lv r m:Nat}{V:List Value}{Q E:Value→Shared→Prop}(c:Cx G A outer d u s.heap) (ok:OwnOk G o) (hf:∀ b,o.a b=lv→b ∉ frs outer) (x:LIt o lv s V r m)
  (item:∀ v s',V[m]?=some v→Mv G (·=lv) (frs outer) o s o s'→LIt o lv s' V r (m+1)→Q v s')
  (stop:m=V.length→∀ e s',Mv G (·=lv) (frs outer) o s o s'→LIt o lv s' V r m→Raw e s'.heap→s.heap.get? e=none→E (.ref e) s') :
  NextIs PR G.w A (.ref r) Q E s:=by
 obtain ⟨t,h⟩:=x
 have ag:Agree o o s:=⟨fun _ _ _=>rfl,fun _ _ _=>rfl⟩
 rcases h with ⟨l,n,h1,h2,h3,h4⟩ | ⟨i,h1,h2⟩
 ·have nlr:@Ne Nat l r:=ne_cls h2 h1 (by simp)
  rcases Nat.lt_or_ge m V.length with hlt | hge
  ·refine next_item (.inl rfl) h1 h2 rfl (x:=V[m]) (by simp [hlt]) fun h' q1 q2=>?_
   refine item _ _ (List.getElem?_eq_getElem hlt) (Mv.of (fp:=[r]) (gp:=[]) (Ext.one (tk:=s.toks) q2 zm0 ⟨_,q1⟩) (fun b hb=>by simp at hb;subst hb;exact .inl ⟨t,hf b t⟩) fn0 ag ok) ⟨t,.inl (wi2_4 l n q1 ((q2.2 l nlr).trans h2) h3 hlt)⟩
  ·have he:m=V.length:=Nat.le_antisymm h4 hge
   refine next_end (.inl rfl) c.hd h1 h2 rfl (by simp [he]) fun h₁ h' e q1 q2 nx hz=>?_
   have E1:Ext (frs outer) [r] [] s { s with heap:=h₁,toks:=s.toks }:=Ext.one q2 zm0 ⟨_,q1⟩
   have E2:Ext (frs outer) [r] [] s { s with heap:=h',toks:=s.toks }:=E1.trans (Ext.more (fr:=frs outer) (fp:=[]) (gp:=[]) (s:={ s with heap:=h₁,toks:=s.toks }) nx.keeps) fn0 fn0
   exact stop he e _ (Mv.of (fp:=[r]) (gp:=[]) E2 (fun b hb=>by simp at hb;subst hb;exact .inl ⟨t,hf b t⟩) fn0 ag ok) ⟨t,.inr (wi1_2 m (nx.keeps _ _ q1) he)⟩ (raw_of nx) (E1.fresh nx.new)
 ·refine next_ended (.inl rfl) c.hd h1 fun h' e nx hz=>?_
  exact stop h2 e _ (Mv.of (fp:=[]) (gp:=[]) (Ext.more (tk:=s.toks) nx.keeps) fn0 fn0 ag ok) ⟨t,.inr (wi1_2 i (nx.keeps _ _ h1) h2)⟩ (raw_of nx) nx.new
theorem rchain_gen {o:Own}{mm lv a:Nat}{its:List Nat}(ch:RChain G o mm s lv its a):∃ g nm qn,s.heap.get? a=some (genObj g nm qn):=by
 cases ch with
 | done h1=>exact (xi3 _ _ _ h1)
 | one h1=>exact (xi3 _ _ _ h1)
 | two h1=>exact (xi3 _ _ _ h1)
theorem src_next {k:Nat}(hk:k=0∨k=1) {o:Own}{V:List Value}{mm r m n:Nat}{Q E:Value→Shared→Prop}
  (c:Cx G A outer (d+40) (u+120) s.heap) (ok:OwnOk G o) (fo:FO o (frs outer)) (src:Src G k o s V mm r m) (om:s.heap.get? mm=some (W.listOf (madeOf k V m).toArray n)) (tm:o.a mm=2+k) (hV:V.length≤4)
  (item:∀ v s' o' n',V[m]?=some v→Mv G (SP k) (frs outer) o s o' s'→Src G k o' s' V mm r (m+1)→s'.heap.get? mm=some (W.listOf (madeOf k V (m+1)).toArray n')→Q v s')
  (stop:m=V.length→∀ e s' o',Mv G (SP k) (frs outer) o s o' s'→Src G k o' s' V mm r m→s'.heap.get? mm=some (W.listOf (madeOf k V m).toArray n)→Raw e s'.heap→s.heap.get? e=none→(∀ b,s.heap.get? b=none→o'.a b=o.a b)→E (.ref e) s') :
  wpAny (model PR G.w) A (call (.builtin "next") [.ref r]) Q E s:=by
 have c1:Cx G A.in1 outer (d+40) (u+119) s.heap:=Cx.in1 (u:=u+119) c
 have mf:mm ∉ frs outer:=fun q=>by have:=fo mm q;exact zq232 hk tm this
 have big:∀ b,102≤o.a b→b ∉ frs outer:=fun b h q=>by have:=fo b q;exact zq233 h this
 rcases hk with hk | hk <;> replace hk:=hk.symm <;> subst hk
 ·have tm2:o.a mm=2:=tm
  have fo50:∀ b∈frs outer,o.a b < 150∧o.a b≠1:=fun b hb=>by have:=fo b hb;exact ⟨this.elim (fun e=>e▸Nat.le_of_ble_eq_true rfl) fun h=>za h.2 rfl,this.elim (fun e=>zd (Nat.le_of_eq e) rfl) fun h=>zc h.1 rfl⟩
  have mv:∀ {o':Own}{s':Shared}{fp:List Addr}{gp:List Nat},Ext (frs outer) fp gp s s'→(∀ b∈fp,150≤o.a b∨b=mm)→(∀ g∈gp,150≤o.g g)→Agree o o' s→OwnOk G o'→Mv G (SP 0) (frs outer) o s o' s':=fun x h1 h2 ag okk =>
   Mv.of x (fun b hb=>(h1 b hb).elim (fun z=>.inl ⟨.inl z,big b (by exact Nat.le_of_add_left_le z)⟩) fun z=>.inl ⟨by (replace z:=Eq.symm z;subst z);exact .inr tm2,z▸mf⟩) (fun g hg=>.inl (.inl (h2 g hg))) ag okk
  have hm:madeOf 0 V m=V.take m:=rfl
  rw [hm] at om
  have hlt9:(V.take m).length < 900:=by rw [List.length_take];exact zb (Nat.le_trans (Nat.min_le_right _ _) hV) rfl
  rcases src with ⟨its,rfl,⟨ch,hlt⟩ | ⟨ch,hle⟩⟩ | ⟨rfl,rfl,x⟩
  ·obtain ⟨t,rest,e⟩:∃ t rest,its.drop m=t :: rest:=(xi2 (its[m]) (its.drop (m+1)) (List.drop_eq_getElem_cons hlt))
   have et:its[m]?=some t:=by have:=congrArg (·[0]?) e;simpa using this
   have er:its.drop (m+1)=rest:=by rw [← List.drop_drop,e];rfl
   rw [e] at ch
   have ev:(its.map Value.ref).take m++[Value.ref t]=(its.map Value.ref).take (m+1):=by
    rw [List.take_add_one,List.getElem?_map,et];rfl
   obtain ⟨g,nm,qn,h1⟩:∃ g nm qn,s.heap.get? r=some (genObj g nm qn):=by cases ch with | cons h1=>exact (xi3 _ _ _ h1)
   refine draw_gen (isGen_of h1) (fchain_next (d:=d+28) (u:=u+79) (c1.less (by exact zq237) (by exact Nat.le_refl (_+79+40))) ok fo50 (by exact zq127) ch om ⟨by exact zq128 tm,by exact zq129 tm⟩ mf hlt9 ?_)
   intro s' o' n' fp gp x hfp hgp ag okk ch' om'
   exact item _ s' o' n' (by rw [List.getElem?_map,et];rfl) (mv x hfp hgp ag okk) (.inl (wi1_2 its rfl (.inr ⟨er▸ch',hlt⟩))) (by rw [ev] at om';exact om')
  ·obtain ⟨g,nm,qn,h1⟩:∃ g nm qn,s.heap.get? r=some (genObj g nm qn):=rchain_gen ch
   refine draw_gen (isGen_of h1) (rchain_next (d:=d) (u:=u) 11 (by exact Nat.succ_add 149 11) ch (c1.less (by exact zq240) (by exact zq241)) ok fo50 (by exact zq127) om ⟨by exact zq128 tm,by exact zq129 tm⟩ mf hlt9 ?_ ?_)
   ·intro t rest s' o' n' fp gp e st om'
    have hlt:m < its.length:=by
     rcases Nat.lt_or_ge m its.length with h | h
     ·exact h
     ·rw [List.drop_of_length_le h] at e;(replace e:=Eq.symm e;cases e)
    have et:its[m]?=some t:=by have:=congrArg (·[0]?) e;simpa using this
    have er:its.drop (m+1)=rest:=by rw [← List.drop_drop,e];rfl
    have ev:(its.map Value.ref).take m++[Value.ref t]=(its.map Value.ref).take (m+1):=by
     rw [List.take_add_one,List.getElem?_map,et];rfl
    exact item _ s' o' n' (by rw [List.getElem?_map,et];rfl) (mv st.ext st.fp st.gp st.ag st.ok) (.inl (wi1_2 its rfl (.inr ⟨er▸st.ch,hlt⟩))) (by rw [ev] at om';exact om')
   ·intro e s' o' fp gp he st om' raw fe nmk
    have hml:m=its.length:=by
     rcases Nat.lt_or_ge m its.length with h | h
     ·rw [List.drop_eq_getElem_cons h] at he;(replace he:=Eq.symm he;cases he)
     ·exact zq74 hle h
    exact stop (by rw [List.length_map];exact hml) e s' o' (mv st.ext st.fp st.gp st.ag st.ok) (.inl (wi1_2 its rfl (.inr ⟨he▸st.ch,hle⟩))) om' raw fe nmk
  ·have tI:s.TypeIs (.ref r) "list_iterator":=by
    apply hide;intro _ kι;obtain ⟨_,⟨l,n',h1,_⟩ | ⟨i,h1,_⟩⟩:=id x <;> apply kι
    ·exact ⟨_,h1,rfl⟩
    ·exact ⟨_,h1,rfl⟩
   refine bnext_of (fun hv=>wpAny_specialOf tI slot_listiter_next.lookup (hv _)) (lit_next c1 ok (fun b hb=>big b (by exact zk hb rfl)) x ?_ ?_)
   ·intro v s' hv _ _;cases hv
   ·intro _ e s' y z raw fe
    have y':Mv G (SP 0) (frs outer) o s o s':=y.up fun t h=>.inl (by exact zq130 h)
    exact stop rfl e s' o y' (.inr (yi3 rfl rfl z)) (y.keep om (by show ¬ (_=150);exact zn tm rfl) mf).1 raw fe (fun _ _=>rfl)
 ·have tm3:o.a mm=3:=tm
  have x:LIt o 102 s V r m:=src
  have tI:s.TypeIs (.ref r) "list_iterator":=by
   apply hide;intro _ kι;obtain ⟨_,⟨l,n',h1,_⟩ | ⟨i,h1,_⟩⟩:=id x <;> apply kι
   ·exact ⟨_,h1,rfl⟩
   ·exact ⟨_,h1,rfl⟩
  refine bnext_of (fun hv=>wpAny_specialOf tI slot_listiter_next.lookup (hv _)) (lit_next c1 ok (fun b hb=>big b (by exact zk hb rfl)) x ?_ ?_)
  ·intro v s' hv y z
   exact item v s' o n hv (y.up fun t h=>h) z (y.keep om (by show ¬ (_=102);exact zq131 tm) mf).1
  ·intro hm e s' y z raw fe
   exact stop hm e s' o (y.up fun t h=>h) z (y.keep om (by show ¬ (_=102);exact zq131 tm) mf).1 raw fe (fun _ _=>rfl)
end
noncomputable def Hold (p:Prop):Prop:=p
section
variable {prog:Program}{w:World}{A:Around}{E:Value→Shared→Prop}{s:Shared}{env:Env}
theorem for_hold {Q:Flow→Shared→Prop}{target iter body orelse pos} (hs:∀ x,foldedSetIterable iter env x=pure x)
  (h:wpAny (model prog w) A (eval iter env) (fun x s₁=>Hold (wpAny (model prog w) A (pyIter x) (fun it s₂ =>
   codeAny (model prog w) A (.forLoop target it body orelse env) (fun r s'=>match r with | .ok f=>Q f s' | .error _=>False) s₂) (fun _ _=>False) s₁)) E s) :
  wpAny (model prog w) A (exec (.For target iter body orelse pos) env) Q E s :=
 wpAny_For (wpAny_mono h (fun _ _ h'=>wpAny_mono (h':wpAny _ _ _ _ _ _) (fun _ _ c=>codeAny_mono c fun r _ hr=>by cases r with | ok f=>exact hr | error e=>exact hr.elim) fun _ _ z=>z.elim) fun _ _ z=>z) hs
theorem for_rule {target it body} {R:Result→Shared→Prop}(J:Nat→Shared→Prop) (n:Nat) (ht:∀ v,letOwnedTupleGo target it v=pure ())
  (item:∀ i s,i < n→J i s→wpAny (model prog w) A (pyNext it) (fun r s₁=>∃ v,r=some v∧wpAny (model prog w) A (assign target env v) (fun _ s₂=>wpAny (model prog w) A (execs body env) (fun f s₃=>match f with
   | .next | .cont=>J (i+1) s₃
   | .brk=>R (.ok .next) s₃
   | .ret v=>R (.ok (.ret v)) s₃) (fun _ _=>False) s₂) (fun _ _=>False) s₁) (fun _ _=>False) s)
  (done:∀ s,J n s→wpAny (model prog w) A (pyNext it) (fun r s₁=>r=none∧R (.ok .next) s₁) (fun _ _=>False) s)
  (h:J 0 s):codeAny (model prog w) A (.forLoop target it body [] env) R s:=by
 refine codeAny_forLoop (I:=fun k s=>∃ i,i≤n∧k=n - i∧J i s) (fun k s hI=>?_) n (wi1_3 0 (Nat.zero_le _) rfl h) ht
 (refine xe1_3 hI ?_;rintro i hi rfl hJ)
 rcases Nat.lt_or_ge i n with hlt | hge
 ·refine wpAny_mono (item i s hlt hJ) (fun r s₁ hr=>?_) fun _ _ z=>z.elim
  (refine xe1_2 hr ?_;rintro v rfl h1)
  refine wpAny_mono h1 (fun _ s₂ h2=>wpAny_mono h2 (fun f s₃ h3=>?_) fun _ _ z=>z.elim) fun _ _ z=>z.elim
  cases f with
  | next=>exact (wi1_2 (n - (i+1)) (by exact zq33 hlt) ⟨i+1,hlt,rfl,h3⟩)
  | cont=>exact (wi1_2 (n - (i+1)) (by exact zq33 hlt) ⟨i+1,hlt,rfl,h3⟩)
  | brk=>exact h3
  | ret v=>exact h3
 ·rcases Eq.symm (Nat.le_antisymm hi hge:i=n) with rfl
  refine wpAny_mono (done s hJ) (fun r s₁ hr=>?_) fun _ _ z=>z.elim
  obtain ⟨rfl,h1⟩:=hr
  exact wpAny_execs_nil h1
noncomputable abbrev rngObj (i n:Nat):Obj:={ cls:=.type "range_iterator",dict:=none,data:=.fields #[rawInt (i:Int),rawInt ((n:Int) - (i:Int)),rawInt 1],slots:=#[] }
noncomputable def TurnEnd (g:Heap) (L:Addr) (m:Str→Option Value) (x y:Str) (k:Int) (news:List (Addr × Obj)) (s s':Shared):Prop :=
 ∃ h' tk t wv,s'={ s with heap:=h',toks:=tk }∧Fr g L h' (fun z=>if z=y then some (.int k t) else if z=x then wv else m z)∧News g L h' news
theorem range_loop {x y:Str}{xp:Pos}{body:List Stmt}{g:Heap}{L r:Addr}{n:Nat}{t1 t2 t3:Tok}{m:Str→Option Value}{news:List (Addr × Obj)}{M0:Int}{t0:Nat}{Q:Flow→Shared→Prop}
  (hh:A.handled=none) (F:Fr g L s.heap m) (N:News g L s.heap news) (rg:IsRange s.heap r 0 (n:Int) 1 t1 t2 t3) (hn:n < 1000000) (hy:m y=some (.int M0 t0)) (hxy:x≠y) (f:Nat→Int) (hf:f 0=M0)
  (turn:∀ i h tk t wt wv it,i < n→s.heap.get? it=none→Fr g L h (fun z=>if z=y then some (.int (f i) t) else if z=x then wv else m z)→News g L h ((it,rngObj (i+1) n) :: news) →
   wpAny (model prog w) A (storeName env x (.int (i:Int) wt)) (fun _ s₂=>wpAny (model prog w) A (execs body env) (fun fl s₃=>fl=.next∧TurnEnd g L m x y (f (i+1)) ((it,rngObj (i+1) n) :: news) s s₃) (fun _ _=>False) s₂) (fun _ _=>False) { s with heap:=h,toks:=tk })
  (done:∀ h tk t wv,Fr g L h (fun z=>if z=y then some (.int (f n) t) else if z=x then wv else m z)→News g L h news→Q .next { s with heap:=h,toks:=tk }) :
  wpAny (model prog w) A (pyIter (.ref r)) (fun it s₂=>codeAny (model prog w) A (.forLoop (.Name x xp) it body [] env) (fun r s'=>match r with | .ok f=>Q f s' | .error _=>False) s₂) (fun _ _=>False) s:=by
 refine wpAny_pyIter_range rg (small_one (by exact zq57) (by decide) (Int.le_trans (by decide) (Int.natCast_nonneg n)) (Int.ofNat_lt.2 (Nat.lt_trans hn (Nat.le_of_ble_eq_true rfl)))) ?_
 have sz:Builtin.Range.rangeSize 0 (n:Int) 1=(n:Int):=by rw [rangeSize_nat];simp
 rw [sz]
 have fresh:s.heap.get? s.heap.objs.size=none:=Heap.get?_none_of_le (Nat.le_refl _)
 have neL:s.heap.objs.size≠L:=fun q=>by refine xe3_2 F.ns fun oL _ _ hL _=>?_;rw [← q,fresh] at hL;exact nsf hL
 have gn:g.get? s.heap.objs.size=none:=by
  cases q:g.get? s.heap.objs.size with
  | none=>rfl
  | some o=>rw [F.keep _ _ q] at fresh;exact nsf fresh.symm
 have nne:∀ p∈news,p.1≠s.heap.objs.size:=fun p hp q=>by have:=(N p hp).1;rw [q,fresh] at this;exact nsf this
 refine for_rule (J:=fun i s'=>TurnEnd g L m x y (f i) ((s.heap.objs.size,rngObj i n) :: news) s s') n (fun _=>rfl) (fun i s' hi hJ=>?_) (fun s' hJ=>?_) ?_
 ·(refine xe4_3 hJ ?_;rintro h tk t wv rfl F1 N1)
  refine wpAny_pyNext_range_item (x:=(i:Int)) (left:=(n:Int) - (i:Int)) (step:=1) (N1 _ (.head _)).1 (Int.sub_pos_of_lt (Int.ofNat_lt.2 hi)) fun h' hit hs=>?_
  refine (wi1_2 _ rfl (wpAny_assign_Name ?_))
  have k:∀ b,b≠s.heap.objs.size→∀ o,h.get? b=some o→h'.get? b=some o:=fun b hb o e=>(hs.2 b hb).trans e
  have F2:Fr g L h' (fun z=>if z=y then some (.int (f i) t) else if z=x then wv else m z):=⟨F1.ns.at' fun o e=>k L (fun q=>neL q.symm) o e,fun b o e=>k b (fun q=>by rw [q,gn] at e;exact nsf e) o (F1.keep b o e),F1.above⟩
  have N2:News g L h' ((s.heap.objs.size,rngObj (i+1) n) :: news):=fun p hp=>by
   rcases (List.mem_cons.mp hp).imp_left Eq.symm with rfl | hp
   ·refine (yi3 ?_ neL gn)
    rw [hit]
    have e1:((n:Int) - (i:Int) - 1)=(n:Int) - ((i+1:Nat):Int):=Int.sub_sub _ _ _
    have e2:((i:Int)+1)=((i+1:Nat):Int):=rfl
    rw [e1,e2]
   ·exact ⟨k _ (nne p hp) _ (N1 p (.tail _ hp)).1,(N1 p (.tail _ hp)).2⟩
  refine wpAny_mono (turn i h' _ t _ wv _ hi fresh F2 N2) (fun _ s₂ h2=>wpAny_mono h2 (fun fl s₃ h3=>?_) fun _ _ z=>z) fun _ _ z=>z
  obtain ⟨rfl,h3⟩:=h3
  exact h3
 ·(refine xe4_3 hJ ?_;rintro h tk t wv rfl F1 N1)
  refine wpAny_pyNext_range_end (x:=(n:Int)) (left:=(n:Int) - (n:Int)) (step:=1) hh (N1 _ (.head _)).1 (Int.le_of_eq (Int.sub_self _)) fun h' he=>⟨rfl,?_⟩
  have k:∀ b,b≠s.heap.objs.size→∀ o,h.get? b=some o→h'.get? b=some o:=fun b hb o e=>he b o hb e
  exact done h' _ t wv ⟨F1.ns.at' fun o e=>k L (fun q=>neL q.symm) o e,fun b o e=>k b (fun q=>by rw [q,gn] at e;exact nsf e) o (F1.keep b o e),F1.above⟩ fun p hp=>⟨k _ (nne p hp) _ (N1 p (.tail _ hp)).1,(N1 p (.tail _ hp)).2⟩
 ·refine ⟨_,_,t0,m x,rfl,?_,?_⟩
  ·have:(fun z=>if z=y then some (Value.int (f 0) t0) else if z=x then m x else m z)=m:=by
    funext z
    by_cases q:z=y
    ·rw [if_pos q,q,hy,hf]
    ·rw [if_neg q]
     by_cases q':z=x
     ·rw [if_pos q',q']
     ·rw [if_neg q']
   rw [this]
   exact F.push _
  ·have:=N.push F (rngObj 0 n)
   have e:rngObj 0 n={ cls:=.type "range_iterator",data:=.fields #[rawInt 0,rawInt (n:Int),rawInt 1] }:=by simp [rngObj]
   rw [e] at this ⊢
   exact this
end
noncomputable abbrev tb0 (c:Nat):Array Value:=#[]++#[rawInt ((112:Nat):Int),rawInt ((15:Nat):Int),Value.ref c]
theorem given0_ {G:Gr}{A:Around}{outer:List Env}{d u:Nat}{s:Shared}{R mm tn:Nat}{Q E:Value→Shared→Prop}
  (c:Cx G A outer (d+1) u s.heap) (o1:s.heap.get? 263=some (tabObj (#[])))
  (post:∀ s' f ci cm c' tb',Ext [] [263] [] s s'→s.heap.get? f=none→s.heap.get? ci=none→s.heap.get? cm=none→s.heap.get? c'=none→IsLam G s'.heap 268 0 f [(nMade,cm),(nItems,ci)] c'→s'.heap.IsCell ci (some (.ref R))→s'.heap.IsCell cm (some (.ref mm))→s'.heap.get? 263=some (tabObj tb')→tb'=tb0 c'→s'.gens=s.gens→@Ne Nat ci cm→Q (.ref f) s') :
  wpAny (model PR G.w) A (call (.ref 268) [.int 0 tn,.ref R,.ref mm]) Q E s:=by
 refine cx_open c ?_;clear c;intro ad ag au c
 have hb:∀ a∈263 :: frs outer,G.base.get? a=none:=fq G.n2 (fun a ha=>(frs_old c.ff a ha).1)
 have X:=c.inK hb
 have T:=c.top hb
 have C:=G.C2.keeps fun b o e=>hideAll_get (h:=s.heap) (263 :: frs outer) (c.st b o e) fun q=>by rw [hb b q] at e;cases e
 refine wpAny_call (entC X c.nolimit (by k_is) (by k_is) (by have:=c.dp;dsimp only at this ⊢;exact zq2 this) (BindsTo.of_eq rfl) (kindsX rfl) (by decide) ?_)
 intro h₁ tk cells F NC CA fc hk
 (refine xe2_3 (CellsAre.two CA) ?_;rintro oc1 oc2 rfl hc1 hc2)
 have hc1':oc1.data=.cell (some (.ref mm)):=hc1
 have hc2':oc2.data=.cell (some (.ref R)):=hc2
 clear hc1 hc2 CA
 have f1:=fc _ (.head _)
 have f2:=fc _ (.tail _ (.head _))
 dsimp only at f1 f2
 have hA:∀ q∈[((263:Nat),tabObj (#[]))],s.heap.get? q.1=some q.2:=fq o1 fn0
 refine xe1_3 (ledger (fr:=frs outer) (hid:=263 :: frs outer) hk hA rfl (fun a ha=>let ⟨_,o,ho,_⟩:=frs_old c.ff a ha;⟨o,ho⟩)) fun rest N₀ rne hr=>?_
 have N:News (hideAll s.heap (263 :: frs outer)) s.heap.objs.size h₁ ([(s.heap.objs.size+1+1,oc1),(s.heap.objs.size+1,oc2)]++([((263:Nat),tabObj (#[]))]++rest)):=fun p hp=>(List.mem_append.mp hp).elim (NC p) (N₀ p)
 clear N₀ NC
 simp only [List.cons_append,List.nil_append] at N
 have r1:=rne 263 zp0
 have n1:@Ne Nat (s.heap.objs.size+1+1) 263:=fun q=>by rw [q] at f1;rw [f1] at o1;exact nsf o1
 have n2:@Ne Nat (s.heap.objs.size+1) 263:=fun q=>by rw [q] at f2;rw [f2] at o1;exact nsf o1
 have n3:@Ne Nat (s.heap.objs.size+1) (s.heap.objs.size+1+1):=by exact zq14
 clear rne
 have ext:∀ {m:Str→Option Value}{h':Heap}{tk:Nat}{news:List (Addr × Obj)}{o':Obj},Fr (hideAll s.heap (263 :: frs outer)) s.heap.objs.size h' m→News (hideAll s.heap (263 :: frs outer)) s.heap.objs.size h' news→((263:Nat),o')∈news→(∀ q∈rest,q∈news)→Ext [] [263] [] s { s with heap:=h',toks:=tk }:=fun F N h1 h2 =>
  ext_fr F N fun a o ha hm=>(hr a o ha hm).elim (fun h=>by simp at h;exact .inr ⟨by simp [h],_,h▸h1⟩) fun h=>.inl (h2 _ h)
 dsimp only
 k_steps
 rename Fr _ _ _ _=>F1
 rename News _ _ _ _=>N1
 rename _ < _∧_=>l1
 rename _ < _=>l2
 rename _[1]?=_=>g1
 rename _=Data.fields _=>g2
 refine post _ _ (s.heap.objs.size+1) (s.heap.objs.size+1+1) _ _ (ext F1 N1 (by k_mem) (fun q hq=>by k_mem)) (Heap.get?_none_of_le (by exact zq107 l1 l2)) f2 f1 ?_ ⟨_,_,_,_,_,_,_,_,_,by_look (P:=fun o=>lamIn o 0=some _) (by k_is) rfl,News.get N1 (by k_mem),⟨_,_,_,_,rfl,News.get N1 (by k_mem),g2,g1⟩⟩ ⟨oc2,News.get N1 (by k_mem),hc2'⟩ ⟨oc1,News.get N1 (by k_mem),hc1'⟩ (News.get N1 (by k_mem)) rfl rfl n3
 exact Heap.get?_none_of_le (by exact zq108 l1)
theorem given1_ {G:Gr}{A:Around}{outer:List Env}{d u:Nat}{s:Shared}{R mm tn c0:Nat}{Q E:Value→Shared→Prop}
  (c:Cx G A outer (d+1) u s.heap) (o1:s.heap.get? 263=some (tabObj (tb0 c0)))
  (post:∀ s' f ci cm c' tb',Ext [] [263] [] s s'→s.heap.get? f=none→s.heap.get? ci=none→s.heap.get? cm=none→s.heap.get? c'=none→IsLam G s'.heap 268 1 f [(nMade,cm),(nItems,ci)] c'→s'.heap.IsCell ci (some (.ref R))→s'.heap.IsCell cm (some (.ref mm))→s'.heap.get? 263=some (tabObj tb')→True→s'.gens=s.gens→@Ne Nat ci cm→Q (.ref f) s') :
  wpAny (model PR G.w) A (call (.ref 268) [.int 1 tn,.ref R,.ref mm]) Q E s:=by
 refine cx_open c ?_;clear c;intro ad ag au c
 have hb:∀ a∈263 :: frs outer,G.base.get? a=none:=fq G.n2 (fun a ha=>(frs_old c.ff a ha).1)
 have X:=c.inK hb
 have T:=c.top hb
 have C:=G.C2.keeps fun b o e=>hideAll_get (h:=s.heap) (263 :: frs outer) (c.st b o e) fun q=>by rw [hb b q] at e;cases e
 refine wpAny_call (entC X c.nolimit (by k_is) (by k_is) (by have:=c.dp;dsimp only at this ⊢;exact zq2 this) (BindsTo.of_eq rfl) (kindsX rfl) (by decide) ?_)
 intro h₁ tk cells F NC CA fc hk
 (refine xe2_3 (CellsAre.two CA) ?_;rintro oc1 oc2 rfl hc1 hc2)
 have hc1':oc1.data=.cell (some (.ref mm)):=hc1
 have hc2':oc2.data=.cell (some (.ref R)):=hc2
 clear hc1 hc2 CA
 have f1:=fc _ (.head _)
 have f2:=fc _ (.tail _ (.head _))
 dsimp only at f1 f2
 have hA:∀ q∈[((263:Nat),tabObj (tb0 c0))],s.heap.get? q.1=some q.2:=fq o1 fn0
 refine xe1_3 (ledger (fr:=frs outer) (hid:=263 :: frs outer) hk hA rfl (fun a ha=>let ⟨_,o,ho,_⟩:=frs_old c.ff a ha;⟨o,ho⟩)) fun rest N₀ rne hr=>?_
 have N:News (hideAll s.heap (263 :: frs outer)) s.heap.objs.size h₁ ([(s.heap.objs.size+1+1,oc1),(s.heap.objs.size+1,oc2)]++([((263:Nat),tabObj (tb0 c0))]++rest)):=fun p hp=>(List.mem_append.mp hp).elim (NC p) (N₀ p)
 clear N₀ NC
 simp only [List.cons_append,List.nil_append] at N
 have r1:=rne 263 zp0
 have n1:@Ne Nat (s.heap.objs.size+1+1) 263:=fun q=>by rw [q] at f1;rw [f1] at o1;exact nsf o1
 have n2:@Ne Nat (s.heap.objs.size+1) 263:=fun q=>by rw [q] at f2;rw [f2] at o1;exact nsf o1
 have n3:@Ne Nat (s.heap.objs.size+1) (s.heap.objs.size+1+1):=by exact zq14
 clear rne
 have ext:∀ {m:Str→Option Value}{h':Heap}{tk:Nat}{news:List (Addr × Obj)}{o':Obj},Fr (hideAll s.heap (263 :: frs outer)) s.heap.objs.size h' m→News (hideAll s.heap (263 :: frs outer)) s.heap.objs.size h' news→((263:Nat),o')∈news→(∀ q∈rest,q∈news)→Ext [] [263] [] s { s with heap:=h',toks:=tk }:=fun F N h1 h2 =>
  ext_fr F N fun a o ha hm=>(hr a o ha hm).elim (fun h=>by simp at h;exact .inr ⟨by simp [h],_,h▸h1⟩) fun h=>.inl (h2 _ h)
 dsimp only
 k_steps
 rename Fr _ _ _ _=>F1
 rename News _ _ _ _=>N1
 rename _ < _∧_=>l1
 rename _ < _=>l2
 rename _[1]?=_=>g1
 rename _=Data.fields _=>g2
 refine post _ _ (s.heap.objs.size+1) (s.heap.objs.size+1+1) _ _ (ext F1 N1 (by k_mem) (fun q hq=>by k_mem)) (Heap.get?_none_of_le (by exact zq107 l1 l2)) f2 f1 ?_ ⟨_,_,_,_,_,_,_,_,_,by_look (P:=fun o=>lamIn o 1=some _) (by k_is) rfl,News.get N1 (by k_mem),⟨_,_,_,_,rfl,News.get N1 (by k_mem),g2,g1⟩⟩ ⟨oc2,News.get N1 (by k_mem),hc2'⟩ ⟨oc1,News.get N1 (by k_mem),hc1'⟩ (News.get N1 (by k_mem)) trivial rfl n3
 exact Heap.get?_none_of_le (by exact zq108 l1)
end Mine
end
section
open PySem PySem.W PySem.W.X PyProof.Rows PySem.Calls PySem.Spec
namespace Mine
local macro_rules | `(tactic| walk_at "exec For Name Subscript cons nil")=>`(tactic| apply for_hold (fun _=>rfl))
theorem with_newg {o:Own}{s:Shared}{na ng:Nat→Nat}{g:Nat}(e:s.gens[g]?=none):(o.with s na ng).g g=ng g:=by simp [Own.with,e]
theorem map_a {x y:Str}{a b o w0:Option Value}{m:Str→Option Value}:(fun z=>if z=y then b else if z=x then a else if z=y then o else if z=x then w0 else m z)=(fun z=>if z=y then b else if z=x then a else m z):=by
 funext z
 by_cases q:z=y
 ·simp only [q,if_true]
 ·by_cases q':z=x
  ·simp only [q',if_true]
  ·simp only [q,q',if_false]
theorem codeRec_kept {h h':Heap}{c':Nat}{q:Str}(x:h.CodeRec (.ref c') q) (k:∀ ob,h.get? c'=some ob→h'.get? c'=some ob):h'.CodeRec (.ref c') q:=by
 refine xe4_4 x fun c2 oc vs tq e1 q1 q2 q3=>?_
 cases e1
 exact ⟨_,oc,vs,tq,rfl,k _ q1,q2,q3⟩
theorem TabT.kept {G:Gr}{h h':Heap}{oc:Option Nat}(x:TabT G h oc) (k9:∀ ob,h.get? 249=some ob→h'.get? 249=some ob) (kc:∀ c',oc=some c'→∀ ob,h.get? c'=some ob→h'.get? c'=some ob):TabT G h' oc:=by
 refine xe6_3 x fun qn ps b sc pos tb e0 o1 h2=>?_
 refine ⟨qn,ps,b,sc,pos,tb,e0,k9 _ o1,?_⟩
 rcases h2 with h2 | ⟨c',e,cr,e'⟩
 ·exact .inl h2
 ·exact .inr (wi1_3 c' e (codeRec_kept cr (kc c' e')) e')
theorem TabT.code {G:Gr}{h:Heap}{c':Nat}(x:TabT G h (some c')):∃ ob vs,h.get? c'=some ob∧ob.data=.fields vs:=by
 (refine hide fun Zq kZ=>?_;refine xe6_3 x ?_;rintro qn ps b sc pos tb e0 o1 (⟨_,e⟩ | ⟨c2,e,⟨c3,oc,vs,tq,e1,q1,q2,q3⟩,e'⟩);all_goals (refine kZ ?_;clear kZ Zq))
 ·cases e
 ·(replace e':=Eq.symm e';cases e');cases e1;exact (wi2_2 oc vs q1 q2)
theorem lam_code {G:Gr}{h:Heap}{fa i f c':Nat}{cl:List (Str × Addr)}(x:IsLam G h fa i f cl c'):(∃ ob vs,h.get? c'=some ob∧ob.data=.fields vs)∧∃ fo fd,h.get? f=some fo∧fo.data=.func fd∧fo.cls=.type "function":=by
 apply hide;intro _ kι;obtain ⟨qn,ps,b,sc,pos,name,qual,pm,ctv,e0,o2,c3,oc,vs,tq,e1,q1,q2,q3⟩:=x;apply kι
 cases e1;exact ⟨(wi2_2 oc vs q1 q2),_,_,o2,rfl,rfl⟩
theorem chain_ {G:Gr}{A:Around}{outer:List Env}{d u:Nat}{s:Shared}{R mm n:Nat}{its:List Nat}{o:Own}{oc:Option Nat}{Q E:Value→Shared→Prop}
  (c:Cx G A outer (d+5) (u+20) s.heap) (o1:s.heap.get? R=some (W.listOf (its.map Value.ref).toArray n)) (tb:TabT G s.heap oc) (hl:its.length≤4) (ok:OwnOk G o) (ob:G.base.get? R=none) (hoc:∀ c',oc=some c'→o.a c'=1) (h249:o.a 249 < 150∧o.a 249≠1)
  (post:∀ s' o' a,Ext [] [249] [] s s'→Agree o o' s→OwnOk G o'→FChain G o' mm s' 150 its a→s.heap.get? a=none→(∃ tb,s'.heap.get? 249=some (tabObj tb))→Q (.ref a) s') :
  wpAny (model PR G.w) A (call (.ref 261) [.ref mm,.ref R]) Q E s:=by
 have:=@on "subscriptTail Name Slice ref ref"
 refine cx_open c ?_;clear c;intro ad ag au c
 have hb:∀ a∈R :: 249 :: frs outer,G.base.get? a=none:=fq ob (fq G.n1 (fun a ha=>(frs_old c.ff a ha).1))
 obtain ⟨tb9,o249⟩:∃ tb,s.heap.get? 249=some (tabObj tb):=by refine xe6_3 tb fun _ _ _ _ _ _ _ h _=>?_;exact ⟨_,h⟩
 have nf249:249 ∉ frs outer:=fun q=>by apply hide;intro _ kι;obtain ⟨_,oo,e,h⟩:=frs_old c.ff _ q;apply kι;rw [o249] at e;(replace e:=Eq.symm e;cases e);exact h _ rfl
 have X:=c.inK hb
 have T:=c.top hb
 have nL:∀ a o,s.heap.get? a=some o→a≠s.heap.objs.size:=fun a o e=>Nat.ne_of_lt (Heap.lt_size e)
 have fL:s.heap.get? s.heap.objs.size=none:=Heap.get?_none_of_le (Nat.le_refl _)
 refine wpAny_call (ent X c.nolimit (by k_is) (by k_is) (by have:=c.dp;dsimp only at this ⊢;exact Nat.lt_of_add_right_lt this) (BindsTo.of_eq rfl) (locs rfl) ?_)
 intro h₁ F hk
 have hA:∀ q∈[(R,W.listOf (its.map Value.ref).toArray n)],s.heap.get? q.1=some q.2:=fq o1 fn0
 refine xe1_3 (ledger (fr:=249 :: frs outer) (hid:=R :: 249 :: frs outer) hk hA rfl (fun a ha=>(List.mem_cons.mp ha).elim (fun h=>h▸⟨_,o249⟩) fun h=>let ⟨_,o,ho,_⟩:=frs_old c.ff a h;⟨o,ho⟩)) fun rest N rne hr=>?_
 simp only [List.cons_append,List.nil_append] at N
 have r1:=rne R zp0
 have hlm:(its.map Value.ref).length≤4:=by rw [List.length_map];exact hl
 dsimp only
 k_steps
 refine krv_lit (by k_asm) (by k_asm) (News.isList (by k_asm) (by k_dflt k_mem)) (IsPart.int _ _) rfl ?_ (by with_unfolding_all rfl) (by kmk_pure) (by simp only [List.size_toArray,sizeLine];omega);intro _ _ _ _ l1;(try k_lt l1);(try k_sweep);k_steps
 rename Fr _ _ _ _=>F1
 rename News _ _ _ _=>N1
 rename _ < _∧_=>l1
 have kA:=all_kept hr hA F1 N1 (fq (by k_mem) fn0) (fun q hq=>by k_mem)
 rename_i lr hx l1a h1a D hD
 have e1:∀ tk,Ext [] [249] [] s { s with heap:=hD,toks:=tk }:=fun tk=>(ext_all (tk:=tk) kA (GE.refl [] s)).weak fn0 fn0 fn0
 refine xe1_2 ((wi1_2 _ rfl F1):∃ m0,m0=_∧Fr _ _ hD m0) fun m0 hm0 F1=>?_
 have hrow:m0 (Str.ofString "row")=some (.ref lr):=by rw [hm0];rfl
 have fD:s.heap.get? D=none:=new_in N1 (by k_mem) hr (fq l1.2.1 fn0) l1.2.2
 have flr:s.heap.get? lr=none:=new_in N1 (by k_mem) hr (fq l1a.1 fn0) l1a.2
 generalize hrv:((its.map Value.ref).toArray.toList).reverse=rev at N1
 have hrev:rev=(its.map Value.ref).reverse:=by rw [← hrv]
 have oD:hD.get? D=some (W.listOf rev.toArray 0):=News.get N1 (by k_mem)
 have olr:hD.get? lr=some (W.listOf #[] 0):=News.get N1 (by k_mem)
 have neDL:D≠s.heap.objs.size:=(N1 _ (.head _)).2.1
 have nelL:lr≠s.heap.objs.size:=(N1 _ (.tail _ (.head _))).2.1
 have kD:∀ b ob,s.heap.get? b=some ob→hD.get? b=some ob:=kA
 clear hr rne r1 l1 l1a kA hA N1
 refine wpAny_pyIter_list ⟨_,oD,rfl,_,rfl⟩ ?_
 have fit:hD.get? hD.objs.size=none:=Heap.get?_none_of_le (Nat.le_refl _)
 have fits:s.heap.get? hD.objs.size=none:=(e1 0).fresh fit
 refine xe3_2 (id F1.ns) fun oL1 _ _ hoL1 _=>?_
 have nitL:hD.objs.size≠s.heap.objs.size:=fun q=>by rw [← q] at hoL1;rw [fit] at hoL1;exact nsf hoL1
 have nitD:D≠hD.objs.size:=fun q=>by rw [q,fit] at oD;exact nsf oD
 have nitlr:lr≠hD.objs.size:=fun q=>by rw [q,fit] at olr;exact nsf olr
 have nrl:its.length=rev.length:=by rw [hrev];simp
 have h249L:(249:Nat)≠s.heap.objs.size:=nL _ _ o249
 have g249:(hideAll s.heap (R :: 249 :: frs outer)).get? 249=none:=hideAll_none _ zm1
 have git:(hideAll s.heap (R :: 249 :: frs outer)).get? hD.objs.size=none:=by
  cases q:(hideAll s.heap (R :: 249 :: frs outer)).get? hD.objs.size with
  | none=>rfl
  | some oo=>rw [of_hideAll _ q] at fits;exact nsf fits.symm
 have cin:∀ {h:Heap}{m:Str→Option Value}(env:Env),Fr (hideAll s.heap (R :: 249 :: frs outer)) s.heap.objs.size h m→(∀ b ob,s.heap.get? b=some ob→b≠249→h.get? b=some ob)→env.frame=some s.heap.objs.size→env.scope.kind=.function →
   Cx G (Around.deeper { handled:=none,depth:=ad,frames:=some outer,guards:=ag,units:=au } env) (env :: outer) (d+4) (u+17) h:=fun env F k q1 q2=>Cx.inner (d:=d+4) (u:=u+17) c F hb (fun a ha=>by
  apply hide;intro _ kι;obtain ⟨_,oo,ho,_⟩:=frs_old c.ff a ha;apply kι
  exact (wi1_2 oo ho ⟨oo.slots,k _ _ ho (fun q=>nf249 (q▸ha))⟩)) q1 q2
 refine for_rule (J:=fun j s'=>Hold (∃ a oj ocj iv,Fr (hideAll s.heap (R :: 249 :: frs outer)) s.heap.objs.size s'.heap (fun z=>if z=Str.ofString "row" then some (.ref a) else if z=Str.ofString "item" then iv else m0 z)∧s'.heap.get? hD.objs.size=some (itObj "list_iterator" (.ref D) j)∧s'.heap.get? D=some (W.listOf rev.toArray 0)∧Ext [] [249] [] s s'∧Agree o oj s∧OwnOk G oj∧FChain G oj mm s' (150+(its.length - j)) (its.drop (its.length - j)) a∧s.heap.get? a=none∧TabT G s'.heap ocj∧(∀ c',ocj=some c'→oj.a c'=1)∧oj.a hD.objs.size=0∧oj.a s.heap.objs.size=0)) its.length (fun _=>rfl) ?item ?done ?start
 case start =>
  unfold Hold
  have kp:∀ b ob,hD.get? b=some ob→(hD.push (itObj "list_iterator" (.ref D) 0)).get? b=some ob:=fun b ob e=>Heap.get?_push_of_some _ e
  refine (xi4 lr (o.with s (fun b=>if b=lr then 150+its.length else 0) (fun _=>0)) oc (m0 (Str.ofString "item")) (yi12 ?_ (Heap.get?_push_size _ rfl) (kp _ _ oD) ((e1 _).trans (Ext.more (fr:=[]) (fp:=[]) (gp:=[]) kp) fn0 fn0) (Own.with_agree ..) (Own.with_ok ok c.st) ?_ flr ?_ ?_ ?_ ?_))
  ·have:(fun z=>if z=Str.ofString "row" then some (Value.ref lr) else if z=Str.ofString "item" then m0 (Str.ofString "item") else m0 z)=m0:=by
    funext z
    by_cases q:z=Str.ofString "row"
    ·rw [if_pos q,q,hrow]
    ·rw [if_neg q]
     by_cases q':z=Str.ofString "item"
     ·rw [if_pos q',q']
     ·rw [if_neg q']
   rw [this]
   exact F1.push _
  ·rw [Nat.sub_zero,List.drop_length]
   exact .nil (kp _ _ olr) ((Own.with_new o flr).trans (by simp))
  ·exact tb.kept (fun ob e=>kp _ _ (kD _ _ e)) (fun c' _ ob e=>kp _ _ (kD _ _ e))
  ·intro c' e
   subst e
   refine xe2_2 tb.code fun ob _ e' _=>?_
   exact ((Own.with_agree o s _ _).1 _ _ e').trans (hoc c' rfl)
  ·exact (Own.with_new o fits).trans (if_neg (fun q=>nitlr q.symm))
  ·exact (Own.with_new o fL).trans (if_neg (fun q=>nelL q.symm))
 case done =>
  (intro s' q1;apply hide;intro _ kι;obtain ⟨a,oj,ocj,iv,F2,oit,orl,X2,ag2,ok2,ch2,fa2,tb2,hoc2,tit,tL⟩:=q1;apply kι)
  refine pyNext_of (next_end (.inl rfl) rfl oit orl rfl (by simp [nrl]) ?_)
  intro h₁' h' e q1 q2 nx hz
  refine (yi3 (raw_stops (s:={ s' with heap:=h' }) (raw_of nx)) rfl ?_)
  have k':∀ b,b≠hD.objs.size→∀ ob,s'.heap.get? b=some ob→h'.get? b=some ob:=fun b hb' ob e=>nx.keeps _ _ ((q2.2 b hb').trans e)
  have F3:Fr (hideAll s.heap (R :: 249 :: frs outer)) s.heap.objs.size h' _:=⟨F2.ns.at' fun ob e=>k' _ (fun q=>nitL q.symm) ob e,fun b ob e=>k' b (fun q=>by rw [q,git] at e;cases e) ob (F2.keep b ob e),F2.above⟩
  have X3:Ext [] [249] [] s { s' with heap:=h',toks:=s'.toks }:=(X2.trans (Ext.one (fr:=[]) (fp:=[hD.objs.size]) (gp:=[]) q2 zm0 ⟨_,q1⟩) (fq (.inr fits) fn0) fn0).trans (Ext.more (fr:=[]) (fp:=[]) (gp:=[]) (s:={ s' with heap:=h₁',toks:=s'.toks }) nx.keeps) fn0 fn0
  refine xe1_3 (ledger2 (g:=hideAll s.heap (R :: 249 :: frs outer)) (L:=s.heap.objs.size) (h:=h') (ex:=[]) fn0) fun rest3 N3 _ hr3=>?_
  simp only [List.nil_append] at N3
  have KK:∀ tk,Kept oj oj 150 s' { s' with heap:=h',toks:=tk }:=fun tk=>Ext.kept (fr:=[]) (fp:=[hD.objs.size]) (gp:=[]) ((Ext.one (fr:=[]) (fp:=[hD.objs.size]) (gp:=[]) (tk:=s'.toks) q2 zm0 ⟨_,q1⟩).trans (Ext.more (fr:=[]) (fp:=[]) (gp:=[]) (s:={ s' with heap:=h₁',toks:=s'.toks }) (tk:=tk) nx.keeps) fn0 fn0) (fun b hb'=>by simp at hb';subst hb';rw [tit];exact .inl ⟨by exact zq110,by exact zq25⟩) fn0 fn0 ⟨fun _ _ _=>rfl,fun _ _ _=>rfl⟩
  rw [Nat.sub_self,List.drop_zero] at ch2
  subst hm0
  k_steps
  obtain ⟨tb9',g9⟩:∃ tb,s'.heap.get? 249=some (tabObj tb):=by refine xe6_3 tb2 fun _ _ _ _ _ tb _ h _=>?_;exact ⟨_,h⟩
  exact post _ oj a X3 ag2 ok2 (ch2.mono (KK _)) fa2 ⟨tb9',k' 249 (fun q=>by rw [← q,o249] at fits;exact nsf fits.symm) _ g9⟩
 case item =>
  (intro j s' hj q3;apply hide;intro _ kι;obtain ⟨a,oj,ocj,iv,F2,oit,orl,X2,ag2,ok2,ch2,fa2,tb2,hoc2,tit,tL⟩:=q3;apply kι)
  have hrj:j < rev.length:=by exact Nat.lt_of_lt_of_eq hj nrl
  refine pyNext_of (next_item (.inl rfl) oit orl rfl (x:=rev[j]) (by simp [hrj]) fun h' q1 q2=>(wi1_2 _ rfl (wpAny_assign_Name ?_)))
  have hit:rev[j]=Value.ref (its[its.length - 1 - j]'(by exact zq61 hj)):=by simp [hrev]
  rw [hit]
  have k':∀ b,b≠hD.objs.size→∀ ob,s'.heap.get? b=some ob→h'.get? b=some ob:=fun b hb' ob e=>(q2.2 b hb').trans e
  have F3:Fr (hideAll s.heap (R :: 249 :: frs outer)) s.heap.objs.size h' _:=⟨F2.ns.at' fun ob e=>k' _ (fun q=>nitL q.symm) ob e,fun b ob e=>k' b (fun q=>by rw [q,git] at e;cases e) ob (F2.keep b ob e),F2.above⟩
  have X3:Ext [] [249] [] s { s' with heap:=h',toks:=s'.toks }:=X2.trans (Ext.one (fr:=[]) (fp:=[hD.objs.size]) (gp:=[]) q2 zm0 ⟨_,q1⟩) (fq (.inr fits) fn0) fn0
  refine xe1_3 (ledger2 (g:=hideAll s.heap (R :: 249 :: frs outer)) (L:=s.heap.objs.size) (h:=h') (ex:=[]) fn0) fun rest3 N3 _ hr3=>?_
  simp only [List.nil_append] at N3
  have F3k:True→_:=fun _=>F3
  subst hm0
  have g0:∀ {h:Heap}{m:Str→Option Value},Fr (hideAll s.heap (R :: 249 :: frs outer)) s.heap.objs.size h m→∃ ob,h.get? s.heap.objs.size=some ob:=fun F=>let ⟨ob,_,_,e,_⟩:=F.ns;⟨ob,e⟩
  have hLs:=g0 F2
  have lnew:∀ {h:Heap}{m:Str→Option Value}{b:Nat},Fr (hideAll s.heap (R :: 249 :: frs outer)) s.heap.objs.size h m→h.get? b=none→b≠s.heap.objs.size:=fun F e q=>by obtain ⟨ob,e'⟩:=g0 F;rw [q] at e;rw [e] at e';exact nsf e'
  have tbk:∀ c',ocj=some c'→c'≠hD.objs.size∧c'≠s.heap.objs.size:=fun c' e=>⟨(fun q=>by have:=hoc2 c' e;rw [q,tit] at this;exact absurd this (by decide)),(fun q=>by have:=hoc2 c' e;rw [q,tL] at this;exact absurd this (by decide))⟩
  k_steps
  rename Fr _ _ _ _=>F4
  rename News _ _ _ _=>N4
  rename Obj.IsDictOf (intKind PR G.w) _ []=>hd1
  rename_i D1 h4 od1 l1b lo1
  have x34:=fun tk=>ext_led (fr:=[]) (fp:=[]) (tk:=tk) (s₂:={ s' with heap:=h',toks:=s'.toks }) (F3k trivial) F4 N4 hr3 fn0 (fun q hq=>by k_mem)
  have X4:=fun tk=>X3.trans (x34 tk) (fq (.inr fL) fn0) fn0
  have h249':∃ ob,h'.get? 249=some ob:=X3.there _ _ o249
  have n249D:(249:Nat)≠D1:=by
   obtain ⟨ob,e⟩:=h249'
   rcases hr3 _ _ e g249 with h | h | h
   ·exact absurd h h249L
   ·exact nomatch h
   ·exact Nat.ne_of_lt (l1b _ h)
  have nD1:D1≠s.heap.objs.size∧(hideAll s.heap (R :: 249 :: frs outer)).get? D1=none:=(N4 _ (.head _)).2
  have oD1:h4.get? D1=some od1:=(N4 _ (.head _)).1
  have tb4:=(tb2.kept (h':=h') (fun ob e=>k' _ (fun q=>by rw [← q,o249] at fits;exact nsf fits.symm) ob e) (fun c' e ob e'=>k' _ (tbk c' e).1 ob e')).kept (fun ob e=>(x34 0).keep _ _ e (by simpa using h249L) fnm) (fun c' e ob e'=>(x34 0).keep _ _ e' (by simpa using (tbk c' e).2) fnm)
  refine told_ (G:=G) (d:=d+3) (cin _ F4 (fun b ob e ne=>(X4 0).keep b ob e (by simpa using ne) fnm) rfl rfl) tb4 ?_
  intro s₅ f ci cm c2 hoc5 x45 ff fci fcm lam5 hci hcm tb5 hg5 nec
  have F5:=fr_next (s₁:={ s' with heap:=_,toks:=_ }) F4 x45 (fun q=>h249L (List.mem_singleton.mp q).symm) (fun b hb'=>by rw [List.mem_singleton.mp hb'];exact g249) fn0
  have oD5:s₅.heap.get? D1=some od1:=x45.keep _ _ oD1 (fun q=>n249D (List.mem_singleton.mp q).symm) fnm
  refine xe1_3 (ledger2 (g:=hideAll s.heap (R :: 249 :: frs outer)) (L:=s.heap.objs.size) (h:=s₅.heap) (ex:=[(D1,od1)]) (fq ⟨oD5,nD1⟩ fn0)) fun rest5 N5 rne5 hr5=>?_
  simp only [List.nil_append,List.cons_append] at N5
  have F5k:True→_:=fun _=>F5
  have F4k:True→_:=fun _=>F4
  clear F4 N4
  k_steps
  rename Fr _ _ _ _=>F6
  rename News _ _ _ _=>N6
  have x56:=fun tk=>ext_led (fr:=[]) (fp:=[]) (tk:=tk) (s₂:=s₅) (F5k trivial) F6 N6 hr5 (fq ⟨oD5,.inl (by k_mem)⟩ fn0) (fun q hq=>by k_mem)
  have X5:=(X4 _).trans (gp':=[]) x45 (fun b hb'=>.inl hb') fn0
  have X6:=fun tk=>X5.trans (x56 tk) (fq (.inr fL) fn0) fn0
  have nfL:=lnew (F4k trivial) ff
  have nciL:=lnew (F4k trivial) fci
  have ncmL:=lnew (F4k trivial) fcm
  have nc2L:c2≠s.heap.objs.size:=hoc5.elim (fun h=>(tbk c2 h).2) fun h=>lnew (F4k trivial) h.2
  have k56:∀ b ob,b≠s.heap.objs.size→s₅.heap.get? b=some ob→_:=fun b ob nb e=>(x56 0).keep b ob e (by simpa using nb) fnm
  have lam6:=lam5.kept (fun ob e=>k56 _ ob nfL e) (fun ob e=>k56 _ ob nc2L e)
  apply hide;intro _ kι;obtain ⟨_,fo,fd,of6,hfd,hfc⟩:=lam_code lam6;apply kι
  have oD6:=News.get N6 (by k_mem:(D1,od1)∈_)
  refine biv_fn (G:=G) (d:=d+1) (u:=u+13) (cin _ F6 (fun b ob e ne=>(X6 0).keep b ob e (by simpa using ne) fnm) rfl rfl) of6 hfd hfc (none_st c.st ((X4 0).fresh ff)) ?_
  intro s₇ x dx x67 fx fdx nexd isfac
  have F7:=fr_next (s₁:={ s₅ with heap:=_,toks:=_ }) F6 x67 fnm fn0 fn0
  have oD7:s₇.heap.get? D1=some od1:=x67.keep _ _ oD6 fnm fnm
  refine xe1_3 (ledger2 (g:=hideAll s.heap (R :: 249 :: frs outer)) (L:=s.heap.objs.size) (h:=s₇.heap) (ex:=[(D1,od1)]) (fq ⟨oD7,nD1⟩ fn0)) fun rest7 N7 rne7 hr7=>?_
  simp only [List.nil_append,List.cons_append] at N7
  have r7:=rne7 D1 zp0
  have F7k:True→_:=fun _=>F7
  have F6k:True→_:=fun _=>F6
  clear F6 N6 rne7 rne5
  k_steps
  rename Fr _ _ _ _=>F8
  rename News _ _ _ _=>N8
  rename_i h8a od2 F8a N8a hd2 a8 h8 od3 lo3 hd3 l1c
  have x78:=fun tk=>ext_led (fr:=[]) (fp:=[D1]) (tk:=tk) (s₂:=s₇) (F7k trivial) F8 N8 hr7 (fq ⟨oD7,.inr ⟨zm0,_,by k_mem⟩⟩ fn0) (fun q hq=>by k_mem)
  have X7:=(X6 _).trans (gp':=[]) x67 (fun b hb'=>nomatch hb') fn0
  have fsD1:s.heap.get? D1=none:=by
   cases q:s.heap.get? D1 with
   | none=>rfl
   | some ob =>
    obtain ⟨ob',e'⟩:=X3.there _ _ q
    rcases hr3 _ _ e' nD1.2 with h | h | h
    ·exact absurd h nD1.1
    ·exact nomatch h
    ·exact absurd (l1b _ h) (Nat.lt_irrefl _)
  have X8:=fun tk=>X7.trans (x78 tk) (fq (.inr fL) (fq (.inr fsD1) fn0)) fn0
  have oD8:=News.get N8 (by k_mem:(D1,od2)∈_)
  have oE8:=News.get N8 (by k_mem:(h8a.objs.size,od3)∈_)
  have nEL:h8a.objs.size≠s.heap.objs.size:=(N8 _ (by k_mem:(h8a.objs.size,od3)∈_)).2.1
  have c8:=fun env q1 q2=>cin (h:=h8) env F8 (fun b ob e ne=>(X8 0).keep b ob e (by simpa using ne) fnm) q1 q2
  have F8k:True→_:=fun _=>F8
  refine mk_map (G:=G) (d:=d+2) (u:=u+16) (c8 _ rfl rfl) oE8 hd3 (by simp [intKeyPairs]) (by simp [intKeyPairs]) lo3 ?_
  intro s₉ M dM x89 fM fdM neM isMap
  have F9:=fr_next (s₁:={ s₇ with heap:=_,toks:=_ }) F8 x89 fnm fn0 fn0
  have isMap':=isMap
  apply hide;intro _ kι;obtain ⟨oM,hh1,hh2,hh3,tt1,tt2,tt3,odM⟩:=isMap;apply kι
  have gnew:∀ {h:Heap}{m:Str→Option Value}{b:Nat},Fr (hideAll s.heap (R :: 249 :: frs outer)) s.heap.objs.size h m→h.get? b=none→(hideAll s.heap (R :: 249 :: frs outer)).get? b=none:=fun {h m b} F e=>by
   cases q:(hideAll s.heap (R :: 249 :: frs outer)).get? b with
   | none=>rfl
   | some ob=>rw [F.keep _ _ q] at e;exact nsf e.symm
  refine xe1_3 (ledger2 (g:=hideAll s.heap (R :: 249 :: frs outer)) (L:=s.heap.objs.size) (h:=s₉.heap) (ex:=[(M,instObj 123 dM),(dM,mapObj (.ref D1) (.ref 240) (.ref h8a.objs.size) hh1 hh2 hh3 tt1 tt2 tt3)])
   (fq (yi3 oM (lnew F8 fM) (gnew F8 fM)) (fq (yi3 odM (lnew F8 fdM) (gnew F8 fdM)) fn0))) fun rest9 N9 rne9 hr9=>?_
  simp only [List.nil_append,List.cons_append] at N9
  have F9k:True→_:=fun _=>F9
  clear F8 N8 F8a N8a
  k_steps
  rename Fr _ _ _ _=>FA
  rename News _ _ _ _=>NA
  have x9A:=fun tk=>ext_led (fr:=[]) (fp:=[]) (tk:=tk) (s₂:=s₉) (F9k trivial) FA NA hr9 (fq ⟨oM,.inl (by k_mem)⟩ (fq ⟨odM,.inl (by k_mem)⟩ fn0)) (fun q hq=>by k_mem)
  have X9:=(X8 _).trans (gp':=[]) x89 (fun b hb'=>nomatch hb') fn0
  have XA:=fun tk=>X9.trans (x9A tk) (fq (.inr fL) fn0) fn0
  have k9A:∀ b ob,b≠s.heap.objs.size→s₉.heap.get? b=some ob→_:=fun b ob nb e=>(x9A 0).keep b ob e (by simpa using nb) fnm
  have nML:=lnew (F8k trivial) fM
  have ndML:=lnew (F8k trivial) fdM
  have oD9:s₉.heap.get? D1=some od2:=x89.keep _ _ oD8 fnm fnm
  have oE9:s₉.heap.get? h8a.objs.size=some od3:=x89.keep _ _ oE8 fnm fnm
  have nMD:@Ne Nat M D1:=fun q=>by rw [q,oD8] at fM;exact nsf fM.symm
  have ndMD:@Ne Nat dM D1:=fun q=>by rw [q,oD8] at fdM;exact nsf fdM.symm
  refine getitem_ok (G:=G) (d:=d+1) (u:=u+10) (v:=x) (Cx.in1 (u:=u+16) (cin _ FA (fun b ob e ne=>(XA 0).keep b ob e (by simpa using ne) fnm) rfl rfl)) ⟨k9A _ _ nML oM,hh1,hh2,hh3,tt1,tt2,tt3,k9A _ _ ndML odM⟩ (k9A _ _ nD1.1 oD9) hd2 rfl (k9A _ _ nEL oE9) hd3
   (fq (none_st c.st ((X8 0).fresh fM)) (fq (none_st c.st ((X8 0).fresh fdM)) (fq (none_st c.st fsD1) fn0))) lo1 lo3 neM nMD ndMD ?_
  intro sB a' L' e' n' nm qn m' xAB fa' fL' fe' neaL oa' og gsz nsL m1 m2 oe'
  have FB:=fr_next (s₁:={ s₉ with heap:=s₉.heap,toks:=s₉.toks+1 }) FA xAB fnm fn0 fn0
  refine xe1_3 (ledger2 (g:=hideAll s.heap (R :: 249 :: frs outer)) (L:=s.heap.objs.size) (h:=sB.heap) (ex:=[]) fn0) fun restB NB rneB hrB=>?_
  simp only [List.nil_append,List.cons_append] at NB
  have FBk:True→_:=fun _=>FB
  have FAk:True→_:=fun _=>FA
  clear FA NA rneB
  k_steps
  rename Fr _ _ _ _=>FC
  rename News _ _ _ _=>NC
  rename_i hC
  have xBC:=fun tk=>ext_led (fr:=[]) (fp:=[]) (tk:=tk) (s₂:=sB) (FBk trivial) FC NC hrB fn0 (fun q hq=>by k_mem)
  have XB:=(XA _).trans (gp':=[]) xAB (fun b hb'=>nomatch hb') fn0
  have XC:=fun tk=>XB.trans (xBC tk) (fq (.inr fL) fn0) fn0
  have T3:Ext [] [hD.objs.size,s.heap.objs.size,249,D1] [] s' { s' with heap:=h',toks:=s'.toks }:=Ext.one q2 zm0 ⟨_,q1⟩
  have T4:=fun tk=>T3.trans (x34 tk) (fun b hb'=>.inl (by simp at hb';simp [hb'])) fn0
  have T5:=(T4 _).trans (gp':=[]) x45 (fun b hb'=>.inl (by simp at hb';simp [hb'])) fn0
  have T6:=fun tk=>T5.trans (x56 tk) (fun b hb'=>.inl (by simp at hb';simp [hb'])) fn0
  have T7:=(T6 _).trans (gp':=[]) x67 (fun b hb'=>nomatch hb') fn0
  have T8:=fun tk=>T7.trans (x78 tk) (fun b hb'=>.inl (by simp at hb';simp;rcases hb' with h | h <;> simp [h])) fn0
  have T9:=(T8 _).trans (gp':=[]) x89 (fun b hb'=>nomatch hb') fn0
  have TA:=fun tk=>T9.trans (x9A tk) (fun b hb'=>.inl (by simp at hb';simp [hb'])) fn0
  have TB:=(TA _).trans (gp':=[]) xAB (fun b hb'=>nomatch hb') fn0
  have TC:=fun tk=>TB.trans (xBC tk) (fun b hb'=>.inl (by simp at hb';simp [hb'])) fn0
  have D1new:h'.get? D1=none:=by
   cases q:h'.get? D1 with
   | none=>rfl
   | some ob =>
    rcases hr3 _ _ q nD1.2 with h | h | h
    ·exact absurd h nD1.1
    ·exact nomatch h
    ·exact absurd (l1b _ h) (Nat.lt_irrefl _)
  have kBC:∀ b ob,sB.heap.get? b=some ob→b≠s.heap.objs.size→hC.get? b=some ob:=fun b ob e n1=>(xBC 0).keep b ob e (by simpa using n1) fnm
  have k9C:∀ b ob,s₉.heap.get? b=some ob→b≠s.heap.objs.size→hC.get? b=some ob:=fun b ob e n1=>kBC b ob (xAB.keep b ob (k9A b ob n1 e) fnm fnm) n1
  have k7C:∀ b ob,s₇.heap.get? b=some ob→b≠s.heap.objs.size→b≠D1→hC.get? b=some ob:=fun b ob e n1 n2=>k9C b ob (x89.keep b ob ((x78 0).keep b ob e (by simp;exact ⟨n1,n2⟩) fnm) fnm fnm) n1
  have k5C:∀ b ob,s₅.heap.get? b=some ob→b≠s.heap.objs.size→b≠D1→hC.get? b=some ob:=fun b ob e n1 n2=>k7C b ob (x67.keep b ob (k56 b ob n1 e) fnm fnm) n1 n2
  have k3C:∀ b ob,h'.get? b=some ob→b≠s.heap.objs.size→b≠249→hC.get? b=some ob:=fun b ob e n1 n2=>k5C b ob (x45.keep b ob ((x34 0).keep b ob e (by simpa using n1) fnm) (by simpa using n2) fnm) n1 (fun q=>by rw [q,D1new] at e;exact nsf e)
  have newD:∀ b,h4.get? b=none→b≠D1:=fun b e q=>by rw [q,oD1] at e;exact nsf e.symm
  apply hide;intro _ kι;obtain ⟨⟨oc2,vc2,oc5,dc5⟩,fo5,fd5,of5,hfd5,_⟩:=lam_code lam5;apply kι
  have nc2D:c2≠D1:=hoc5.elim (fun h q=>by
   subst h
   refine xe2_2 tb2.code fun ob _ e _=>?_
   have:=k' c2 (tbk c2 rfl).1 ob e
   rw [q,D1new] at this;exact nsf this) fun h=>newD _ h.2
  have nfc:f≠c2:=fun q=>by rw [q,oc5] at of5;(replace of5:=Eq.symm of5;cases of5);rw [dc5] at hfd5;(replace hfd5:=Eq.symm hfd5;cases hfd5)
  refine xe1_2 (id hci) fun oci eci dci=>?_
  refine xe1_2 (id hcm) fun ocm ecm dcm=>?_
  have ncic:ci≠c2:=fun q=>by rw [q,oc5] at eci;(replace eci:=Eq.symm eci;cases eci);rw [dc5] at dci;(replace dci:=Eq.symm dci;cases dci)
  have ncmc:cm≠c2:=fun q=>by rw [q,oc5] at ecm;(replace ecm:=Eq.symm ecm;cases ecm);rw [dc5] at dcm;cases dcm
  have nxc:x≠c2:=fun q=>by rw [q,k56 _ _ nc2L oc5] at fx;cases fx
  have ndxc:dx≠c2:=fun q=>by rw [q,k56 _ _ nc2L oc5] at fdx;cases fdx
  have oc9:s₉.heap.get? c2=some oc2:=x89.keep _ _ ((x78 0).keep _ _ (x67.keep _ _ (k56 _ _ nc2L oc5) fnm fnm) (by simp;exact ⟨nc2L,nc2D⟩) fnm) fnm fnm
  have na'c:a'≠c2:=fun q=>by rw [q] at fa';rw [oc9] at fa';cases fa'
  have nL'c:L'≠c2:=fun q=>by rw [q] at fL';rw [oc9] at fL';cases fL'
  have nxL:=lnew (F6k trivial) fx
  have ndxL:=lnew (F6k trivial) fdx
  have na'L:=lnew (FAk trivial) fa'
  have nL'L:=lnew (FAk trivial) fL'
  apply hide;intro _ kι;obtain ⟨odx1,_,_,_,_,odx2⟩:=id isfac;apply kι
  have nxD:x≠D1:=fun q=>by rw [q,oD6] at fx;cases fx
  have ndxD:dx≠D1:=fun q=>by rw [q,oD6] at fdx;cases fdx
  have odx9:s₉.heap.get? dx=_:=x89.keep _ _ ((x78 0).keep _ _ odx2 (by simp;exact ⟨ndxL,ndxD⟩) fnm) fnm fnm
  have ndxL':@Ne Nat dx L':=fun q=>by rw [← q] at fL';rw [odx9] at fL';cases fL'
  have hlv:150+(its.length - j)=150+(its.length - (j+1))+1:=by exact congrArg (150+·) (zx hj)
  generalize hlvv:150+(its.length - (j+1))=lv at hlv
  have tg249:oj.a 249=o.a 249:=ag2.1 _ _ o249
  have snew:∀ b∈[a',L',x,dx,f,ci,cm],s'.heap.get? b=none:=by
   refine fq (TA _ |>.fresh fa') (fq (TA _ |>.fresh fL') (fq (T6 _ |>.fresh fx) (fq (T6 _ |>.fresh fdx) (fq (T4 _ |>.fresh ff) (fq (T4 _ |>.fresh fci) (fq (T4 _ |>.fresh fcm) fn0))))))
  have gnw:s'.gens.size≤s₉.gens.size:=T9.gsize
  have okn:OwnOk G (oj.with s' (fun b=>if b=c2 then 1 else if b∈[a',L',x,dx,f,ci,cm] then lv else 0) (fun g=>if g=s₉.gens.size then lv else 0)):=Own.with_ok ok2 (fun b ob e=>X2.keep b ob (c.st b ob e) (fun q=>by rw [List.mem_singleton.mp q,G.n1] at e;cases e) fnm)
  have agn:=Own.with_agree oj s' (fun b=>if b=c2 then 1 else if b∈[a',L',x,dx,f,ci,cm] then lv else 0) (fun g=>if g=s₉.gens.size then lv else 0)
  have tgs:∀ b∈[a',L',x,dx,f,ci,cm],b≠c2→(oj.with s' (fun b=>if b=c2 then 1 else if b∈[a',L',x,dx,f,ci,cm] then lv else 0) (fun g=>if g=s₉.gens.size then lv else 0)).a b=lv:=fun b hb' nb=>(Own.with_new oj (snew b hb')).trans (by rw [if_neg nb,if_pos hb'])
  have KK:∀ tk,Kept oj (oj.with s' (fun b=>if b=c2 then 1 else if b∈[a',L',x,dx,f,ci,cm] then lv else 0) (fun g=>if g=s₉.gens.size then lv else 0)) (lv+1) s' { sB with heap:=hC,toks:=tk }:=fun tk=>(TC tk).kept (fq (by rw [tit];exact .inl ⟨by exact zq111,by exact zq25⟩) (fq (by rw [tL];exact .inl ⟨by exact zq111,by exact zq25⟩) (fq (by rw [tg249];exact .inl ⟨by exact Nat.lt_of_lt_of_le h249.1 (zl hlv.symm),h249.2⟩) (fq (.inr (T3.fresh D1new)) fn0)))) fn0 fn0 agn
  have tc2:(oj.with s' (fun b=>if b=c2 then 1 else if b∈[a',L',x,dx,f,ci,cm] then lv else 0) (fun g=>if g=s₉.gens.size then lv else 0)).a c2=1:=by
   rcases hoc5 with h | h
   ·subst h
    refine xe2_2 tb2.code fun ob _ e _=>?_
    exact (agn.1 _ _ e).trans (hoc2 c2 rfl)
   ·exact (Own.with_new oj ((T4 0).fresh h.2)).trans (if_pos rfl)
  rw [hlv] at ch2
  have hdrop:its.drop (its.length - (j+1))=its[its.length - 1 - j]'(by exact zq61 hj) :: its.drop (its.length - j):=by
   have e9:its.length - (j+1)=its.length - 1 - j:=by exact zq203
   have e8:its.length - j=its.length - 1 - j+1:=by exact zq204 hlvv hlv
   rw [e9,e8]
   exact List.drop_eq_getElem_cons (by exact zq61 hj)
  rw [map_a] at FC
  unfold Hold
  refine (xi4 a' _ (some c2) _ (yi12 FC ?_ ?_ (XC _) (Mv.agree_trans X2 ag2 agn) okn ?_ ((XA 0).fresh fa') ?_ ?_ ?_ ?_))
  ·exact k3C _ _ q1 nitL (fun q=>by rw [q,o249] at fits;cases fits)
  ·exact k3C _ _ (k' _ nitD _ orl) neDL (fun q=>by rw [q,o249] at fD;cases fD)
  ·rw [hdrop]
   refine .cons (kBC _ _ oa' na'L) ?_ (ns_kept nsL fun ob e=>kBC _ ob e nL'L) m1 m2 (isfac.kept (fun ob e=>k7C _ ob e nxL nxD) (fun ob e=>k7C _ ob e ndxL ndxD)) (lam5.kept (fun ob e=>k5C _ ob e nfL (newD _ ff)) (fun ob e=>k5C _ ob e nc2L nc2D)) (isCell_kept hci fun ob e=>k5C _ ob e nciL (newD _ fci)) (isCell_kept hcm fun ob e=>k5C _ ob e ncmL (newD _ fcm)) nec ndxL' ?_ ?_ ?_ (by exact Nat.le_of_succ_le (za (Nat.le_trans (Nat.le_of_eq hlv.symm) (Nat.add_le_add_left (Nat.le_trans (Nat.sub_le _ _) hl) 150)) rfl)) (ch2.mono (KK _))
   ·exact og
   ·refine fq (tgs _ zm0 na'c) (fq (tgs _ zm1 nL'c) (fq (tgs _ zm2 nxc) (fq (tgs _ zm3 ndxc) (fq (tgs _ zm4 nfc) (fq (tgs _ zm5 ncic) (fq (tgs _ zm6 ncmc) fn0))))))
   ·exact tc2
   ·exact (with_newg (Array.getElem?_eq_none gnw)).trans (if_pos rfl)
  ·exact tb5.kept (fun ob e=>k5C _ ob e h249L n249D) (fun c' e ob e'=>by cases e;exact k5C _ ob e' nc2L nc2D)
  ·intro c' e
   cases e
   exact tc2
  ·exact (agn.1 _ _ oit).trans tit
  ·apply hide;intro _ kι;obtain ⟨ob,e⟩:=hLs;apply kι
   exact (agn.1 _ _ e).trans tL
end Mine
end
section
open PySem PySem.W PySem.W.X PyProof.Rows PySem.Calls PySem.Spec
namespace Mine
theorem glam0_call {G:Gr}{A:Around}{outer:List Env}{d u:Nat}{s:Shared}{f ci cm mm R c' n:Nat}{its:List Nat}{o:Own}{oc:Option Nat}{Q E:Value→Shared→Prop}
  (c:Cx G A outer (d+6) (u+23) s.heap) (d1:@Ne Nat ci cm) (lam:IsLam G s.heap 268 0 f [(nMade,cm),(nItems,ci)] c') (h1:s.heap.IsCell ci (some (.ref R))) (h2:s.heap.IsCell cm (some (.ref mm))) (o1:s.heap.get? R=some (W.listOf (its.map Value.ref).toArray n)) (tb:TabT G s.heap oc) (hl:its.length≤4) (ok:OwnOk G o) (hoc:∀ c',oc=some c'→o.a c'=1) (h249:o.a 249 < 150∧o.a 249≠1) (ob:∀ a∈[ci,cm,R],G.base.get? a=none)
  (post:∀ s' o' a,Ext [] [249] [] s s'→Agree o o' s→OwnOk G o'→FChain G o' mm s' 150 its a→s.heap.get? a=none→(∃ tb,s'.heap.get? 249=some (tabObj tb))→Q (.ref a) s'):wpAny (model PR G.w) A (call (.ref f) []) Q E s:=by
 refine cx_open c ?_;clear c;intro ad ag au c
 apply hide;intro _ kι;obtain ⟨qn,ps,b,sc,pos,name,qual,pm,ctv,e0,o2,cr⟩:=lam;apply kι
 refine xe1_2 h1 fun oc1 o3 hc1=>?_
 refine xe1_2 h2 fun oc2 o4 hc2=>?_
 revert e0
 refine by_look (P:=fun o=>lamIn o 0=some (qn,ps,b,sc,pos)→_) (by k_is) ?_
 dsimp only [lamIn,lamsOf,List.getElem?_cons_zero,List.getElem?_cons_succ,Option.map]
 intro e0
 simp only [Option.some.injEq,Prod.mk.injEq] at e0
 (refine xe0_5 e0 ?_;rintro rfl rfl rfl rfl rfl)
 have hb:∀ a∈ci :: cm :: frs outer,G.base.get? a=none:=fq (ob _ zm0) (fq (ob _ zm1) (fun a ha=>(frs_old c.ff a ha).1))
 have X:=c.inK hb
 have T:=c.top hb
 have C:=G.C2.keeps fun b o e=>hideAll_get (h:=s.heap) (ci :: cm :: frs outer) (c.st b o e) fun q=>by rw [hb b q] at e;cases e
 have hci':oc1.data=.cell (some (.ref R)):=hc1
 have hcm':oc2.data=.cell (some (.ref mm)):=hc2
 refine wpAny_call (entL (fp:=ci :: cm :: frs outer) c.nolimit o2 cr (by have:=c.dp;dsimp only at this ⊢;exact zq112 this) rfl (locs rfl) ?_ rfl rfl rfl (by decide))
 intro h₁ F hk
 have hA:∀ q∈[(ci,oc1),(cm,oc2)],s.heap.get? q.1=some q.2:=fq o3 (fq o4 fn0)
 refine xe1_3 (ledger (fr:=frs outer) (hid:=ci :: cm :: frs outer) hk hA rfl (fun a ha=>let ⟨_,o,ho,_⟩:=frs_old c.ff a ha;⟨o,ho⟩)) fun rest N rne hr=>?_
 simp only [List.cons_append,List.nil_append] at N
 have r1:=rne ci zp0
 have r2:=rne cm zp1
 clear rne
 dsimp only
 k_steps
 rename Fr _ _ _ _=>F1
 rename News _ _ _ _=>N1
 obtain ⟨ci1,old⟩:=here (d:=d+5) (u:=u+20) c hb hr (fun a ha=>by simp [ha]) hA F1 N1 (fq (by k_mem) (fq (by k_mem) fn0)) (fun q hq=>by k_mem)
 have kA:=all_kept hr hA F1 N1 (fq (by k_mem) (fq (by k_mem) fn0)) (fun q hq=>by k_mem)
 have e3:=fun tk=>ext_all (tk:=tk) kA (GE.refl [] s)
 refine chain_ (G:=G) (d:=d) (u:=u) (o:=o) (ci1 _ rfl rfl) (kA _ _ o1) (tb.kept (fun ob e=>kA _ _ e) (fun c' _ ob e=>kA _ _ e)) hl ok (ob _ zm2) hoc h249 ?_
 intro s₂ o' a x ag okk ch fa g9
 exact post s₂ o' a (((e3 _).weak (fr':=[]) (fp'':=[249]) (gp'':=[]) fn0 fn0 fn0).trans x (fun _ h=>.inl h) fn0) (Mv.agree_trans (e3 _) ⟨fun _ _ _=>rfl,fun _ _ _=>rfl⟩ ag) okk ch (old _ fa) g9
theorem glam1_call {G:Gr}{A:Around}{outer:List Env}{d u:Nat}{s:Shared}{f ci cm mm R c' n:Nat}{V ms:List Value}{k:Nat}{Q E:Value→Shared→Prop}
  (c:Cx G A outer (d+6) (u+23) s.heap) (d1:@Ne Nat ci cm) (lam:IsLam G s.heap 268 1 f [(nMade,cm),(nItems,ci)] c') (h1:s.heap.IsCell ci (some (.ref R))) (h2:s.heap.IsCell cm (some (.ref mm))) (o1:s.heap.get? R=some (W.listOf V.toArray n)) (om:s.heap.get? mm=some (W.listOf ms.toArray k)) (hne:@Ne Nat mm R) (hl:V.length≤4) (hl2:ms.length≤4) (ob:∀ a∈[ci,cm,R,mm],G.base.get? a=none)
  (post:∀ s' l' n' k',Ext [] [mm] [] s s'→s.heap.get? l'=none→s'.heap.get? mm=some (W.listOf (ms++V).toArray n')→s'.heap.get? l'=some (W.listOf V.toArray k')→Q (.ref l') s'):wpAny (model PR G.w) A (call (.ref f) []) Q E s:=by
 refine cx_open c ?_;clear c;intro ad ag au c
 apply hide;intro _ kι;obtain ⟨qn,ps,b,sc,pos,name,qual,pm,ctv,e0,o2,cr⟩:=lam;apply kι
 refine xe1_2 h1 fun oc1 o3 hc1=>?_
 refine xe1_2 h2 fun oc2 o4 hc2=>?_
 revert e0
 refine by_look (P:=fun o=>lamIn o 1=some (qn,ps,b,sc,pos)→_) (by k_is) ?_
 dsimp only [lamIn,lamsOf,List.getElem?_cons_zero,List.getElem?_cons_succ,Option.map]
 intro e0
 simp only [Option.some.injEq,Prod.mk.injEq] at e0
 (refine xe0_5 e0 ?_;rintro rfl rfl rfl rfl rfl)
 have hb:∀ a∈ci :: cm :: frs outer,G.base.get? a=none:=fq (ob _ zm0) (fq (ob _ zm1) (fun a ha=>(frs_old c.ff a ha).1))
 have X:=c.inK hb
 have T:=c.top hb
 have C:=G.C2.keeps fun b o e=>hideAll_get (h:=s.heap) (ci :: cm :: frs outer) (c.st b o e) fun q=>by rw [hb b q] at e;cases e
 have hci':oc1.data=.cell (some (.ref R)):=hc1
 have hcm':oc2.data=.cell (some (.ref mm)):=hc2
 refine wpAny_call (entL (fp:=ci :: cm :: frs outer) c.nolimit o2 cr (by have:=c.dp;dsimp only at this ⊢;exact zq112 this) rfl (locs rfl) ?_ rfl rfl rfl (by decide))
 intro h₁ F hk
 have hA:∀ q∈[(ci,oc1),(cm,oc2)],s.heap.get? q.1=some q.2:=fq o3 (fq o4 fn0)
 refine xe1_3 (ledger (fr:=frs outer) (hid:=ci :: cm :: frs outer) hk hA rfl (fun a ha=>let ⟨_,o,ho,_⟩:=frs_old c.ff a ha;⟨o,ho⟩)) fun rest N rne hr=>?_
 simp only [List.cons_append,List.nil_append] at N
 have r1:=rne ci zp0
 have r2:=rne cm zp1
 clear rne
 dsimp only
 k_steps
 rename Fr _ _ _ _=>F1
 rename News _ _ _ _=>N1
 obtain ⟨ci1,old⟩:=here (d:=d+5) (u:=u+20) c hb hr (fun a ha=>by simp [ha]) hA F1 N1 (fq (by k_mem) (fq (by k_mem) fn0)) (fun q hq=>by k_mem)
 have kA:=all_kept hr hA F1 N1 (fq (by k_mem) (fq (by k_mem) fn0)) (fun q hq=>by k_mem)
 have e3:=fun tk=>ext_all (tk:=tk) kA (GE.refl [] s)
 refine make_ (G:=G) (d:=d+4) (u:=u+17) (ci1 _ rfl rfl) (kA _ _ om) (kA _ _ o1) hne (fq (ob _ zm3) (fq (ob _ zm2) fn0)) (by exact zq62 hl) (by exact zq62 hl2) ?_
 intro s₂ l' n' k' x fl om' ol'
 exact post s₂ l' n' k' (((e3 _).weak (fr':=[]) (fp'':=[mm]) (gp'':=[]) fn0 fn0 fn0).trans x (fun _ h=>.inl h) fn0) (old _ fl) om' ol'
structure VS where
 x:Nat
 dx:Nat
 S:Nat
 r:Nat
 m:Nat
noncomputable def FM (k t:Nat):Prop:=t=2+k∨t=100+k∨SP k t∨(k=0∧t=103)
noncomputable def Fn (G:Gr) (k:Nat) (o:Own) (s:Shared) (V:List Value) (f mm:Nat):Prop :=
 ∃ cm ci c' R n,IsLam G s.heap 268 k f [(nMade,cm),(nItems,ci)] c'∧s.heap.IsCell ci (some (.ref R))∧s.heap.IsCell cm (some (.ref mm))∧s.heap.get? R=some (W.listOf V.toArray n)∧(∀ b∈[f,ci,cm,c',R],o.a b=1)∧@Ne Nat ci cm ∧
  (k=0→(∃ its:List Nat,V=its.map Value.ref)∧o.a 249=103∧∃ oc,TabT G s.heap oc∧∀ c'',oc=some c''→o.a c''=1)
structure Fac (G:Gr) (k:Nat) (o:Own) (s:Shared) (V:List Value) (v dv f mm:Nat) (w:Option VS):Prop where
 tv:o.a v=100+k
 td:o.a dv=100+k
 tm:o.a mm=2+k
 len:V.length≤4
 t9:∀ q,w=some q→k=0→o.a 249=103∧∃ tb,s.heap.get? 249=some (tabObj tb)
 shut:w=none→IsFac s.heap v dv (.ref f) .none∧(∃ n,s.heap.get? mm=some (W.listOf #[] n))∧Fn G k o s V f mm
 opn:∀ q,w=some q→IsFac s.heap v dv (.ref f) (.ref q.x)∧IsTee s.heap q.x q.dx (.ref q.r) q.S 0∧(∃ n,s.heap.get? q.S=some (W.listOf (V.take q.m).toArray n))∧Src G k o s V mm q.r q.m∧(∃ n,s.heap.get? mm=some (W.listOf (madeOf k V q.m).toArray n))∧q.m≤V.length∧o.a q.x=100+k∧o.a q.dx=100+k∧o.a q.S=100+k
structure Kp (M:Nat→Prop) (o:Own) (s:Shared) (o':Own) (s':Shared):Prop where
 k:∀ b ob,s.heap.get? b=some ob→M (o.a b)∨o.a b=1→s'.heap.get? b=some ob∧o'.a b=o.a b
 g:∀ g x,s.gens[g]?=some x→M (o.g g)→s'.gens[g]?=some x∧o'.g g=o.g g
theorem Kp.up {M M':Nat→Prop}{o o':Own}{s s':Shared}(K:Kp M o s o' s') (h:∀ t,M' t→M t):Kp M' o s o' s':=⟨fun b ob e t=>K.k b ob e (t.imp_left (h _)),fun g x e t=>K.g g x e (h _ t)⟩
theorem LIt.mono {o o':Own}{s s':Shared}{lv r m:Nat}{V:List Value}(x:LIt o lv s V r m) (K:Kp (·=lv) o s o' s'):LIt o' lv s' V r m:=by
 apply hide;intro _ kι;obtain ⟨t,⟨l,n,h1,h2,h3,h4⟩ | ⟨i,h1,h2⟩⟩:=x <;> apply kι
 ·have a:=K.k _ _ h1 (.inl t)
  have b:=K.k _ _ h2 (.inl h3)
  exact ⟨a.2.trans t,.inl (wi2_4 l n a.1 b.1 (b.2.trans h3) h4)⟩
 ·have a:=K.k _ _ h1 (.inl t)
  exact ⟨a.2.trans t,.inr (wi1_2 i a.1 h2)⟩
theorem Src.mono {G:Gr}{k:Nat}(hk:k=0∨k=1) {o o':Own}{s s':Shared}{V:List Value}{mm r m:Nat}(x:Src G k o s V mm r m) (K:Kp (SP k) o s o' s'):Src G k o' s' V mm r m:=by
 rcases hk with hk | hk <;> replace hk:=hk.symm <;> subst hk
 ·have KK:Kept o o' 150 s s':=⟨fun b ob e l=>K.k b ob e (l.imp_left fun h=>.inl h),fun g x e l=>K.g g x e (.inl l)⟩
  rcases x with ⟨its,e,⟨h,l⟩ | ⟨h,l⟩⟩ | ⟨e1,e2,h⟩
  ·exact .inl (wi1_2 its e (.inl ⟨h.mono KK,l⟩))
  ·exact .inl (wi1_2 its e (.inr ⟨h.mono KK,l⟩))
  ·exact .inr (yi3 e1 e2 (h.mono (K.up fun t h=>.inl (by exact zq130 h))))
 ·exact LIt.mono (show LIt o 102 s V r m from x) K
theorem Fn.mono {G:Gr}{k:Nat}{o o':Own}{s s':Shared}{V:List Value}{f mm:Nat}(x:Fn G k o s V f mm) (K:Kp (FM k) o s o' s'):Fn G k o' s' V f mm:=by
 refine xe5_7 x fun cm ci c' R n lam h1 h2 h3 tg ne h0=>?_
 have one:∀ b ob,s.heap.get? b=some ob→o.a b=1→s'.heap.get? b=some ob∧o'.a b=1:=fun b ob e t=>let h:=K.k b ob e (.inr t);⟨h.1,h.2.trans t⟩
 apply hide;intro _ kι;obtain ⟨⟨occ,_,oc5,_⟩,fo,_,of5,_⟩:=lam_code lam;apply kι
 refine xe1_2 (id h1) fun oci eci _=>?_
 refine xe1_2 (id h2) fun ocm ecm _=>?_
 refine ⟨cm,ci,c',R,n,lam.kept (fun ob e=>(one _ ob e (tg _ zm0)).1) (fun ob e=>(one _ ob e (tg _ zm3)).1),isCell_kept h1 (fun ob e=>(one _ ob e (tg _ zm1)).1),isCell_kept h2 (fun ob e=>(one _ ob e (tg _ zm2)).1),(one _ _ h3 (tg _ zm4)).1,?_,ne,fun hk=>?_⟩
 ·exact fq ((one _ _ of5 (tg _ zm0)).2) (fq ((one _ _ eci (tg _ zm1)).2) (fq ((one _ _ ecm (tg _ zm2)).2) (fq ((one _ _ oc5 (tg _ zm3)).2) (fq ((one _ _ h3 (tg _ zm4)).2) fn0))))
 ·apply hide;intro _ kι;obtain ⟨hv,t9,oc,tb,hoc⟩:=h0 hk;apply kι
  have k9:∀ ob,s.heap.get? 249=some ob→s'.heap.get? 249=some ob∧o'.a 249=o.a 249:=fun ob e=>K.k _ _ e (.inl (.inr (.inr (.inr ⟨hk,t9⟩))))
  refine (yi3 hv ?_ ⟨oc,tb.kept (fun ob e=>(k9 ob e).1) (fun c'' e ob e'=>(one _ ob e' (hoc c'' e)).1),fun c'' e=>?_⟩)
  ·refine xe6_3 tb fun _ _ _ _ _ _ _ h _=>?_;exact (k9 _ h).2.trans t9
  ·subst e
   refine xe2_2 tb.code fun ob _ e' _=>?_
   exact (one _ _ e' (hoc _ rfl)).2
theorem Fac.mono {G:Gr}{k:Nat}(hk:k=0∨k=1) {o o':Own}{s s':Shared}{V:List Value}{v dv f mm:Nat}{w:Option VS}(x:Fac G k o s V v dv f mm w) (K:Kp (FM k) o s o' s'):Fac G k o' s' V v dv f mm w:=by
 have two:∀ b ob,s.heap.get? b=some ob→o.a b=2+k→s'.heap.get? b=some ob∧o'.a b=o.a b:=fun b ob e t=>K.k b ob e (.inl (.inl t))
 have four:∀ b ob,s.heap.get? b=some ob→o.a b=100+k→s'.heap.get? b=some ob∧o'.a b=o.a b:=fun b ob e t=>K.k b ob e (.inl (.inr (.inl t)))
 have fac:∀ {it:Value},IsFac s.heap v dv (.ref f) it→IsFac s'.heap v dv (.ref f) it∧o'.a v=100+k∧o'.a dv=100+k:=fun {it} i=>by
  refine (yi3 (i.kept (fun ob e=>(four _ ob e x.tv).1) (fun ob e=>(four _ ob e x.td).1)) ?_ ?_)
  ·exact (four _ _ i.at_ x.tv).2.trans x.tv
  ·apply hide;intro _ kι;obtain ⟨_,_,_,_,_,e⟩:=i;apply kι;exact (four _ _ e x.td).2.trans x.td
 cases w with
 | none =>
  (refine xe0_3 (x.shut rfl) ?_;rintro i ⟨n,e⟩ fn)
  refine xe0_3 (fac i) fun i' a b=>?_
  exact ⟨a,b,(two _ _ e x.tm).2.trans x.tm,x.len,(fun q e=>nomatch e),fun _=>(yi3 i' ⟨n,(two _ _ e x.tm).1⟩ (fn.mono K)),(fun q e=>nomatch e)⟩
 | some q =>
  (refine hide fun Zq kZ=>?_;refine xe0_9 (x.opn q rfl) ?_;rintro i ty ⟨n,oS⟩ src ⟨n',om⟩ le t1 t2 t3;all_goals (refine kZ ?_;clear kZ Zq))
  refine xe0_3 (fac i) fun i' a b=>?_
  refine ⟨a,b,(two _ _ om x.tm).2.trans x.tm,x.len,(fun q' e h0=>by obtain ⟨t,tb,e9⟩:=x.t9 q' e h0;obtain ⟨k1,k2⟩:=K.k _ _ e9 (.inl (.inr (.inr (.inr ⟨h0,t⟩))));exact ⟨k2.trans t,tb,k1⟩),(fun e=>nomatch e),fun q' e=>?_⟩
  cases e
  apply hide;intro _ kι;obtain ⟨u1,_,_,_,_,_,_,_,u2⟩:=id ty;apply kι
  exact (yi9 i' (ty.kept (fun ob e=>(four _ ob e t1).1) (fun ob e=>(four _ ob e t2).1)) ⟨n,(four _ _ oS t3).1⟩ (src.mono hk (K.up fun t h=>.inr (.inr (.inl h)))) ⟨n',(two _ _ om x.tm).1⟩ le ((four _ _ u1 t1).2.trans t1) ((four _ _ u2 t2).2.trans t2) ((four _ _ oS t3).2.trans t3))
theorem Mv.kp {G:Gr}{P M:Nat→Prop}{fr:List Addr}{o o':Own}{s s':Shared}(x:Mv G P fr o s o' s') (fo:FO o fr) (hP:∀ t,P t→¬ M t∧t≠1) (hM:∀ t,M t→t≠0∧¬ (5≤t∧t < 100)):Kp M o s o' s':=by
 refine ⟨fun b ob e t=>x.keep e (fun p=>t.elim (hP _ p).1 (hP _ p).2) fun q=>?_,fun g v e t=>x.gkeep e fun p=>(hP _ p).1 t⟩
 rcases t with t | t
 ·have:=hM _ t;have:=fo b q;exact zq132 (by assumption) this
 ·have:=fo b q;exact zq133 t this
theorem Ext.kp {fr fp:List Addr}{gp:List Nat}{M:Nat→Prop}{o o':Own}{s s':Shared}(x:Ext fr fp gp s s') (ag:Agree o o' s) (fo:FO o fr) (hP:∀ b∈fp,(¬ M (o.a b)∧o.a b≠1)∨s.heap.get? b=none) (hG:∀ g∈gp,¬ M (o.g g)∨s.gens.size≤g) (hM:∀ t,M t→t≠0∧¬ (5≤t∧t < 100)):Kp M o s o' s':=by
 refine ⟨fun b ob e t=>⟨x.keep b ob e (fun p=>?_) fun q=>?_,ag.1 b ob e⟩,fun g v e t=>⟨x.gkeep g v e fun p=>?_,ag.2 g v e⟩⟩
 ·rcases hP b p with h | h
  ·exact t.elim h.1 h.2
  ·rw [h] at e;exact nsf e
 ·rcases t with t | t
  ·have:=hM _ t;have:=fo b q;exact zq132 (by assumption) this
  ·have:=fo b q;exact zq133 t this
 ·rcases hG g p with h | h
  ·exact h t
  ·exact absurd (gens_lt e) (Nat.not_lt.mpr h)
theorem fm_ok {k:Nat}(hk:k=0∨k=1):∀ t,FM k t→t≠0∧¬ (5≤t∧t < 100):=by
 rintro t (h | h | h | h)
 ·exact zq245 hk h
 ·exact zy (zl h)
 ·rcases hk with hk | hk <;> replace hk:=hk.symm <;> subst hk
  ·have:150≤t∨t=2:=h;exact zq247 this
  ·have:t=102:=h;exact zq248 this
 ·exact zy (Nat.le_trans (Nat.le_of_ble_eq_true rfl) (Nat.le_of_eq h.2.symm))
theorem sp_ok {k:Nat}(hk:k=0∨k=1):∀ t,SP k t→t≠0∧¬ (5≤t∧t < 100)∧t≠100+k∧t≠1:=by
 intro t h
 rcases hk with hk | hk <;> replace hk:=hk.symm <;> subst hk
 ·have:150≤t∨t=2:=h;exact zq250 this
 ·have:t=102:=h;exact ⟨zn this rfl,(zy (zk this rfl)).2,zn this rfl,zn this rfl⟩
noncomputable def TP (τ k t:Nat):Prop:=t=τ∨t=100+k∨SP k t
theorem t9_keep {G:Gr}{outer:List Env}{k τ:Nat}{o o':Own}{s s':Shared}(hτ:5≤τ∧τ < 100) (fo:FO o (frs outer)) (M:Mv G (TP τ k) (frs outer) o s o' s') (h:k=0→o.a 249=103∧∃ tb,s.heap.get? 249=some (tabObj tb)):k=0→o'.a 249=103∧∃ tb,s'.heap.get? 249=some (tabObj tb):=fun h0=>by
 subst h0
 obtain ⟨t,tb,e⟩:=h rfl
 have r:=M.keep e (by
  rw [t]
  rintro (z | z | z)
  ·exact zu hτ (Nat.le_of_ble_eq_true rfl) z
  ·exact zq253 z
  ·unfold SP at z;rw [if_pos rfl] at z;exact absurd z (by decide)) (fun q=>by have:=fo _ q;rw [t] at this;exact absurd this (by decide))
 exact ⟨r.2.trans t,tb,r.1⟩
theorem FO.reset {o:Own}{s:Shared}{env:Env}{outer:List Env}(fo:FO o (frs outer)) (hex:∀ b∈frs outer,∃ ob,s.heap.get? b=some ob) (he:env.frame=some s.heap.objs.size):FO (o.reset s) (frs (env :: outer)):=by
 intro b hb
 rcases (frs_cons he b hb).imp_left Eq.symm with rfl | hb
 ·exact .inl (Own.reset_new o (Heap.get?_none_of_le (Nat.le_refl _)))
 ·obtain ⟨ob,e⟩:=hex b hb
  rw [(o.reset_agree s).1 b ob e]
  exact fo b hb
section
variable {G:Gr}{A:Around}{outer:List Env}{d u:Nat}{s:Shared}
noncomputable def Trc (s s':Shared) (o':Own) (e:Nat):Prop:=∃ oe vs T oT ts,s'.heap.get? e=some oe∧oe.cls=.type "StopIteration"∧oe.data=.fields vs∧vs[1]?=some (.ref T)∧T≠e∧s'.heap.get? T=some oT∧oT.data=.fields ts∧ts[3]?=some .none∧s.heap.get? T=none∧s.heap.get? e=none∧o'.a e=0∧o'.a T=0
theorem tee_step {k:Nat}(hk:k=0∨k=1) {o:Own}{V:List Value}{v dv f mm τ y dy p:Nat}{q:VS}{Q E:Value→Shared→Prop}
  (c:Cx G A outer (d+45) (u+130) s.heap) (ok:OwnOk G o) (fo:FO o (frs outer)) (F:Fac G k o s V v dv f mm (some q)) (ty:IsTee s.heap y dy (.ref q.r) q.S (p:Nat)) (t1:o.a y=τ) (t2:o.a dy=τ) (hτ:5≤τ∧τ < 100) (ny:y ∉ frs outer) (ndy:dy ∉ frs outer) (hp:p≤q.m)
  (item:∀ z s' o',V[p]?=some z→Mv G (TP τ k) (frs outer) o s o' s'→Fac G k o' s' V v dv f mm (some { q with m:=max q.m (p+1) })→IsTee s'.heap y dy (.ref q.r) q.S ((p+1:Nat):Int)→o'.a y=τ→o'.a dy=τ→Q z s')
  (stop:p=V.length→∀ e s' o',Mv G (TP τ k) (frs outer) o s o' s'→Fac G k o' s' V v dv f mm (some q)→IsTee s'.heap y dy (.ref q.r) q.S (p:Nat)→o'.a y=τ→o'.a dy=τ→Stops (.ref e) s'→Trc s s' o' e→E (.ref e) s') :
  NextIs PR G.w A (.ref y) Q E s:=by
 (refine hide fun Zq kZ=>?_;refine xe0_9 (F.opn q rfl) ?_;rintro i tx ⟨n,oS⟩ src ⟨n',om⟩ le tx1 tx2 tx3;all_goals (refine kZ ?_;clear kZ Zq))
 apply hide;intro _ kι;obtain ⟨u1,_,_,_,_,_,_,_,u2⟩:=id ty;apply kι
 have nyd:@Ne Nat y dy:=ne_cls u1 u2 (by simp)
 have nyS:@Ne Nat y q.S:=ne_cls u1 oS (by simp)
 have ndS:@Ne Nat dy q.S:=ne_cls u2 oS (by simp)
 have nSf:q.S ∉ frs outer:=fun z=>by have:=fo _ z;exact zq75 tx3 this
 have bs:∀ a∈[y,dy,q.S],G.base.get? a=none:=fq (ok _ (by exact zq38 t1 hτ)) (fq (ok _ (by exact zq38 t2 hτ)) (fq (ok _ (by exact zq134 tx3)) fn0))
 have hex:∀ b∈frs outer,∃ ob,s.heap.get? b=some ob:=fun b hb=>let ⟨_,ob,e,_⟩:=frs_old c.ff b hb;⟨ob,e⟩
 have hlen:=F.len
 have htl:(V.take q.m).length=q.m:=by rw [List.length_take];exact zq45 le
 refine tee_nextIs c ty ?_
 rcases Nat.lt_or_ge p q.m with hlt | hge
 ·have hz:p < V.length:=by exact Nat.lt_of_lt_of_le hlt le
  refine tee_read (G:=G) (d:=d+44) (its:=V.take q.m) c ty oS nyd nyS ndS bs (by omega) (v:=V[p]) (by rw [Int.toNat_natCast,List.getElem?_take_of_lt hlt];exact List.getElem?_eq_getElem hz) (by exact zq135 le hlen htl) fun s' x ty'=>?_
  have M:Mv G (TP τ k) (frs outer) o s o s':=Mv.of x (fq (.inl ⟨.inl t2,ndy⟩) fn0) fn0 ⟨fun _ _ _=>rfl,fun _ _ _=>rfl⟩ ok
  have K:Kp (FM k) o s o s':=x.kp ⟨fun _ _ _=>rfl,fun _ _ _=>rfl⟩ fo (fun b hb=>by
   simp at hb;(replace hb:=Eq.symm hb;subst hb)
   refine .inl ⟨fun h=>?_,by exact zq136 hτ t2⟩
   have:=fm_ok hk _ h;exact this.2 (t2▸hτ)) fn0 (fm_ok hk)
  have e:max q.m (p+1)=q.m:=by exact Nat.max_eq_left hlt
  refine item V[p] s' o (List.getElem?_eq_getElem hz) M ?_ (by push_cast;exact ty') t1 t2
  rw [e]
  exact F.mono hk K
 ·obtain rfl:p=q.m:=by exact zq74 hp hge
  have okr:OwnOk G (o.reset s):=Own.with_ok ok c.st
  have sx0:∀ a∈fpOf (SP k) (o.reset s) s (frs outer),SP k (o.a a)∧a ∉ frs outer∧∃ ob,s.heap.get? a=some ob:=fun a ha=>by
   (refine xe0_3 (mem_fpOf.mp ha) ?_;rintro ⟨ob,e⟩ h2 h3)
   rw [(o.reset_agree s).1 a ob e] at h2
   exact (yi3 h2 h3 ⟨ob,e⟩)
  have wk:∀ {env:Env}{s₁ s₂:Shared}{o':Own},env.frame=some s.heap.objs.size→Ext (frs outer) [] [] s s₁→Mv G (SP k) (frs (env :: outer)) (o.reset s) s₁ o' s₂→Ext (frs (env :: outer)) (fpOf (SP k) (o.reset s) s (frs outer)) (gpOf (SP k) (o.reset s) s) s₁ s₂:=fun {env s₁ s₂ o'} he x1 mv=>by
   refine mv.ext.weak (fun b hb=>?_) (fun g hg=>?_) (fun b hb=>.inl hb)
   ·refine xe0_3 (mem_fpOf.mp hb) fun _ h2 h3=>?_
    refine .inl (mem_fpOf.mpr (yi3 ?_ h2 (fun z=>h3 ?_)))
    ·cases e:s.heap.get? b with
     | some ob=>exact ⟨ob,rfl⟩
     | none=>rw [Own.reset_new o e] at h2;exact absurd rfl (sp_ok hk _ h2).1
    ·simp only [frs,List.filterMap_cons,he];exact .tail _ z
   ·obtain ⟨h1,h2⟩:=mem_gpOf.mp hg
    refine .inl (mem_gpOf.mpr ⟨?_,h2⟩)
    rcases Nat.lt_or_ge g s.gens.size with z | z
    ·exact z
    ·have:(o.reset s).g g=0:=by simp [Own.reset,Own.with,Array.getElem?_eq_none z]
     rw [this] at h2;exact absurd rfl (sp_ok hk _ h2).1
  have pre:∀ {env:Env}{s₁:Shared},env.frame=some s.heap.objs.size→Ext (frs outer) [] [] s s₁→FO (o.reset s) (frs (env :: outer))∧Src G k (o.reset s) s₁ V mm q.r q.m∧s₁.heap.get? mm=some (W.listOf (madeOf k V q.m).toArray n')∧(o.reset s).a mm=2+k:=fun {env s₁} he x1=>by
   have K:Kp (FM k) o s (o.reset s) s₁:=x1.kp (o.reset_agree s) fo fn0 fn0 (fm_ok hk)
   have m1:=K.k _ _ om (.inl (.inl F.tm))
   exact (yi4 (fo.reset hex he) (src.mono hk (K.up fun t h=>.inr (.inr (.inl h)))) m1.1 (m1.2.trans F.tm))
  have tp:∀ b∈q.S :: dy :: fpOf (SP k) (o.reset s) s (frs outer),(TP τ k (o.a b)∧b ∉ frs outer)∨s.heap.get? b=none:=fun b hb=>by
   rcases (List.mem_cons.mp hb).imp_left Eq.symm with rfl | hb
   ·exact .inl ⟨.inr (.inl tx3),nSf⟩
   ·rcases (List.mem_cons.mp hb).imp_left Eq.symm with rfl | hb
    ·exact .inl ⟨.inl t2,ndy⟩
    ·refine xe0_3 (sx0 b hb) fun h1 h2 _=>?_
     exact .inl ⟨.inr (.inr h1),h2⟩
  have tg:∀ g∈gpOf (SP k) (o.reset s) s,TP τ k (o.g g)∨s.gens.size≤g:=fun g hg=>by
   obtain ⟨h1,h2⟩:=mem_gpOf.mp hg
   rw [(o.reset_agree s).2 g _ (Array.getElem?_eq_getElem h1)] at h2
   exact .inl (.inr (.inr h2))
  have four:∀ {s₃:Shared},Ext (frs outer) (q.S :: dy :: fpOf (SP k) (o.reset s) s (frs outer)) (gpOf (SP k) (o.reset s) s) s s₃→∀ b ob,s.heap.get? b=some ob→o.a b=100+k→b≠q.S→s₃.heap.get? b=some ob:=fun x b ob e t ne=>x.keep b ob e (fun z=>by
   rcases List.mem_cons.mp z with z | z
   ·exact ne z
   ·rcases List.mem_cons.mp z with z | z
    ·rw [z] at t;exact zu hτ (zl t) t2
    ·exact (sp_ok hk _ (sx0 b z).1).2.2.1 t) (fun z=>by have:=fo b z;exact zq75 t this)
  apply hide;intro _ kι;obtain ⟨w1,_,_,_,_,_,_,_,w2⟩:=id tx;apply kι
  apply hide;intro _ kι;obtain ⟨j1,_,_,_,_,j2⟩:=id i;apply kι
  have nvS:@Ne Nat v q.S:=ne_cls j1 oS (by simp)
  have ndvS:@Ne Nat dv q.S:=ne_cls j2 oS (by simp)
  have nxS:@Ne Nat q.x q.S:=ne_cls w1 oS (by simp)
  have ndxS:@Ne Nat q.dx q.S:=ne_cls w2 oS (by simp)
  rcases Nat.lt_or_ge q.m V.length with hlt | hge
  ·refine tee_draw (G:=G) (d:=d+44) (u:=u+127) (its:=V.take q.m) (fpS:=fpOf (SP k) (o.reset s) s (frs outer)) (gpS:=gpOf (SP k) (o.reset s) s)
    (J:=fun s₁ z s₂=>V[q.m]?=some z∧∃ o' n'',Agree (o.reset s) o' s₁∧OwnOk G o'∧Src G k o' s₂ V mm q.r (q.m+1)∧s₂.heap.get? mm=some (W.listOf (madeOf k V (q.m+1)).toArray n''))
    c (by rw [htl];exact ty) oS nyd nyS ndS bs (fq ny (fq ndy (fq nSf fn0))) (by exact za (Nat.lt_of_le_of_lt (Nat.le_of_eq htl) (Nat.lt_of_lt_of_le hlt hlen)) rfl)
    (fun a ha=>by
     refine xe0_3 (sx0 a ha) fun h1 h2 h3=>?_
     have h4:=sp_ok hk _ h1
     exact (yi5 (fun z=>by rw [z] at h4;exact zq137 t1 hτ h4) (fun z=>by rw [z] at h4;exact zq137 t2 hτ h4) (fun z=>by rw [z] at h4;exact h4.2.2.1 tx3) (ok a h4.1) h3)) ?_ ?_
   ·intro A' env s₁ cc e1 x1
    refine xe0_4 (pre e1 x1) fun p1 p2 p3 p4=>?_
    refine src_next (d:=d+4) (u:=u+7) hk cc okr p1 p2 p3 p4 F.len ?_ ?_
    ·intro z s₂ o' n2 hz mv sr om2
     exact (yi3 (wk e1 x1 mv) hz ⟨o',n2,mv.ag,mv.ok,sr,om2⟩)
    ·intro he;omega
   ·intro z s₁ s₂ s₃ n3 l hJ x1 hl1 fl x23 tot ty3 oS3
    apply hide;intro _ kι;obtain ⟨hz,o',n2,ag,okk,sr,om2⟩:=hJ;apply kι
    obtain ⟨ol,hol⟩:=hl1
    have ag0:Agree o o' s:=Mv.agree_trans x1 (o.reset_agree s) ag
    have tl:o'.a l=0:=(ag.1 _ _ hol).trans (Own.reset_new o fl)
    have hS:o'.a q.S=100+k:=(ag0.1 _ _ oS).trans tx3
    have hdy:o'.a dy=τ:=(ag0.1 _ _ u2).trans t2
    have fo':FO o' (frs outer):=fun b hb=>by obtain ⟨ob,e⟩:=hex b hb;rw [ag0.1 b ob e];exact fo b hb
    have K23:Kp (fun t=>SP k t∨t=2+k) o' s₂ o' s₃:=x23.kp ⟨fun _ _ _=>rfl,fun _ _ _=>rfl⟩ fo' (fun b hb=>by
     simp only [List.mem_cons,List.not_mem_nil,or_false] at hb
     refine .inl ?_
     rcases hb with hb | hb | hb <;> replace hb:=hb.symm <;> subst hb
     ·rw [tl];exact ⟨fun h=>h.elim (fun h=>absurd rfl (sp_ok hk _ h).1) (by exact zq138),by exact zq25⟩
     ·rw [hS];exact ⟨fun h=>h.elim (fun h=>(sp_ok hk _ h).2.2.1 rfl) (by exact fun e=>absurd (Nat.add_right_cancel e) (by decide)),by exact zc (Nat.le_add_right 100 _) rfl⟩
     ·rw [hdy];exact ⟨fun h=>h.elim (fun h=>(sp_ok hk _ h).2.1 hτ) (by exact zq264 hk hτ),by exact zc hτ.1 rfl⟩) fn0 (fun t h=>h.elim (fun h=>⟨(sp_ok hk _ h).1,(sp_ok hk _ h).2.1⟩) (by exact zq139 hk))
    have M:Mv G (TP τ k) (frs outer) o s o' s₃:=Mv.of tot tp tg ag0 okk
    have k4:=four tot
    have tmm:o'.a mm=2+k:=(ag0.1 _ _ om).trans F.tm
    have emax:max q.m (q.m+1)=q.m+1:=by exact Nat.max_add_right_self
    refine item z s₃ o' hz M ⟨(ag0.1 _ _ j1).trans F.tv,(ag0.1 _ _ j2).trans F.td,tmm,F.len,(fun _ _=>t9_keep hτ fo M (F.t9 q rfl)),(fun e=>nomatch e),fun q' e=>?_⟩ (by rw [htl] at ty3;push_cast;exact ty3) ((ag0.1 _ _ u1).trans t1) hdy
    cases e
    dsimp only
    rw [emax]
    refine (yi9 (i.kept (fun ob e=>k4 _ ob e F.tv nvS) (fun ob e=>k4 _ ob e F.td ndvS)) (tx.kept (fun ob e=>k4 _ ob e tx1 nxS) (fun ob e=>k4 _ ob e tx2 ndxS)) ⟨n3,?_⟩ (sr.mono hk (K23.up fun t h=>.inl h)) ⟨n2,(K23.k _ _ om2 (.inl (.inr tmm))).1⟩ hlt ((ag0.1 _ _ w1).trans tx1) ((ag0.1 _ _ w2).trans tx2) hS)
    rw [oS3,List.take_add_one,hz];rfl
  ·have he:q.m=V.length:=by exact zq74 le hge
   refine tee_stop (G:=G) (d:=d+44) (u:=u+127) (its:=V.take q.m) (fpS:=fpOf (SP k) (o.reset s) s (frs outer)) (gpS:=gpOf (SP k) (o.reset s) s)
    (J:=fun s₁ s₂=>∃ o',Agree (o.reset s) o' s₁∧OwnOk G o'∧Src G k o' s₂ V mm q.r q.m∧s₂.heap.get? mm=some (W.listOf (madeOf k V q.m).toArray n')∧(∀ b,s₁.heap.get? b=none→o'.a b=0)∧(∀ b ob,s₁.heap.get? b=some ob→∃ ob',s₂.heap.get? b=some ob')∧s₁.gens.size≤s₂.gens.size∧G.base.StaysIn s₂.heap)
    c (by rw [htl];exact ty) oS nyd nyS ndS bs (by exact zq135 le hlen htl)
    (fun a ha=>by
     refine xe0_3 (sx0 a ha) fun h1 h2 h3=>?_
     have h4:=sp_ok hk _ h1
     exact (yi3 h2 (ok a h4.1) h3)) ?_ ?_
   ·intro A' env s₁ cc e1 x1
    refine xe0_4 (pre e1 x1) fun p1 p2 p3 p4=>?_
    refine src_next (d:=d+4) (u:=u+7) hk cc okr p1 p2 p3 p4 F.len ?_ ?_
    ·intro z s₂ o' n2 hz mv sr om2
     rw [List.getElem?_eq_none (by exact hge)] at hz;(replace hz:=Eq.symm hz;cases hz)
    ·intro _ e s₂ o' mv sr om2 raw fe nmk
     exact (wi1_5 e rfl (wk e1 x1 mv) raw fe ⟨o',mv.ag,mv.ok,sr,om2,(fun b hb=>(nmk b hb).trans (Own.reset_new o (x1.fresh hb))),mv.ext.there,mv.ext.gsize,(mv.cx cc okr (fun h=>(sp_ok hk _ h).1 rfl)).st⟩)
   ·intro e s₁ s₂ s₃ l hJ x1 hl1 fl fe x23 tot stops trc
    refine xe1_8 hJ fun o' ag okk sr om2 nmk th2 gs2 st2=>?_
    obtain ⟨ol,hol⟩:=hl1
    apply hide;intro _ kι;obtain ⟨⟨oe,vs,T,oT,ts,hoe,hcl,hd,h1,hnT,hTe,hT,hdT,h3⟩,hfrm⟩:=trc;apply kι
    have ag0:Agree o o' s:=Mv.agree_trans x1 (o.reset_agree s) ag
    have agR:=o'.reset_agree s₂
    have agS:Agree o (o'.reset s₂) s:=⟨fun b ob e=>by
      obtain ⟨ob1,e1⟩:=x1.there b ob e
      obtain ⟨ob2,e2⟩:=th2 b ob1 e1
      exact (agR.1 b ob2 e2).trans (ag0.1 b ob e),fun g v e=>by
      have h9:g < s₂.gens.size:=Nat.lt_of_lt_of_le (gens_lt e) (Nat.le_trans x1.gsize gs2)
      exact (agR.2 g _ (Array.getElem?_eq_getElem h9)).trans (ag0.2 g v e)⟩
    have okR:OwnOk G (o'.reset s₂):=Own.with_ok okk st2
    have tl:o'.a l=0:=(ag.1 _ _ hol).trans (Own.reset_new o fl)
    have fo':FO o' (l :: frs outer):=fun b hb=>by
     rcases (List.mem_cons.mp hb).imp_left Eq.symm with rfl | hb
     ·exact .inl tl
     ·obtain ⟨ob,e⟩:=hex b hb;rw [ag0.1 b ob e];exact fo b hb
    have tot2:Ext (frs outer) (q.S :: dy :: fpOf (SP k) (o.reset s) s (frs outer)) (gpOf (SP k) (o.reset s) s) s s₃:=tot.weak (fun b hb=>.inl (.tail _ (.tail _ hb))) (fun _ hg=>.inl hg) (fun b hb=>.inl hb)
    have M:Mv G (TP τ k) (frs outer) o s (o'.reset s₂) s₃:=Mv.of tot2 tp tg agS okR
    have kall:∀ b ob,s.heap.get? b=some ob→¬ SP k (o.a b)→b ∉ frs outer→s₃.heap.get? b=some ob:=fun b ob e h1 h2=>tot.keep b ob e (fun z=>h1 (sx0 b z).1) h2
    have k4:∀ b ob,s.heap.get? b=some ob→o.a b=100+k→s₃.heap.get? b=some ob:=fun b ob e t=>kall b ob e (fun h=>(sp_ok hk _ h).2.2.1 t) (fun z=>by have:=fo b z;exact zq75 t this)
    have tmm:o'.a mm=2+k:=(ag0.1 _ _ om).trans F.tm
    have ky:IsTee s₃.heap y dy (.ref q.r) q.S (q.m:Nat):=ty.kept (fun ob e=>kall _ ob e (fun h=>(sp_ok hk _ h).2.1 (t1▸hτ)) ny) (fun ob e=>kall _ ob e (fun h=>(sp_ok hk _ h).2.1 (t2▸hτ)) ndy)
    have K23:Kp (fun t=>SP k t∨t=2+k) o' s₂ (o'.reset s₂) s₃:=x23.kp agR fo' (fun b hb=>by
     simp only [List.mem_cons,List.not_mem_nil,or_false] at hb
     (replace hb:=Eq.symm hb;subst hb)
     rw [nmk _ fe];exact .inl ⟨fun h=>h.elim (fun h=>absurd rfl (sp_ok hk _ h).1) (by exact zq138),by exact zq25⟩) fn0 (fun t h=>h.elim (fun h=>⟨(sp_ok hk _ h).1,(sp_ok hk _ h).2.1⟩) (by exact zq139 hk))
    have nTf:T ∉ l :: frs outer:=fun z=>by
     refine xe1_2 (hfrm T z) fun ob e1 e2=>?_
     obtain ⟨sl,e3⟩:=x23.slot T ob e1 (fun z'=>hTe (List.mem_singleton.mp z')) z
     rw [hT] at e3;(replace e3:=Eq.symm e3;cases e3);exact e2 _ hdT
    have fT2:s₂.heap.get? T=none:=by
     cases e9:s₂.heap.get? T with
     | none=>rfl
     | some ob=>rw [hideAll_get _ e9 (fun z=>by rcases List.mem_cons.mp z with z | z;exact hTe z;exact nTf z)] at hnT;exact nsf hnT.symm
    have fT:s.heap.get? T=none:=by
     cases e9:s.heap.get? T with
     | none=>rfl
     | some ob =>
      obtain ⟨ob1,e1⟩:=x1.there _ _ e9
      obtain ⟨ob2,e2⟩:=th2 _ _ e1
      rw [fT2] at e2;exact nsf e2
    have te:(o'.reset s₂).a e=0:=by
     cases e9:s₂.heap.get? e with
     | none=>exact Own.reset_new o' e9
     | some ob=>exact (agR.1 _ _ e9).trans (nmk _ fe)
    refine stop he e s₃ (o'.reset s₂) M ⟨(agS.1 _ _ j1).trans F.tv,(agS.1 _ _ j2).trans F.td,(agS.1 _ _ om).trans F.tm,F.len,(fun _ _=>t9_keep hτ fo M (F.t9 q rfl)),(fun e=>nomatch e),fun q' e=>?_⟩ ky ((agS.1 _ _ u1).trans t1) ((agS.1 _ _ u2).trans t2) stops ⟨oe,vs,T,oT,ts,hoe,hcl,hd,h1,hTe,hT,hdT,h3,fT,x1.fresh fe,te,Own.reset_new o' fT2⟩
    cases e
    exact (yi9 (i.kept (fun ob e=>k4 _ ob e F.tv) (fun ob e=>k4 _ ob e F.td)) (tx.kept (fun ob e=>k4 _ ob e tx1) (fun ob e=>k4 _ ob e tx2)) ⟨n,k4 _ _ oS tx3⟩ (sr.mono hk (K23.up fun t h=>.inl h)) ⟨n',(K23.k _ _ om2 (.inl (.inr tmm))).1⟩ (by exact le) ((agS.1 _ _ w1).trans tx1) ((agS.1 _ _ w2).trans tx2) ((agS.1 _ _ oS).trans tx3))
end
noncomputable def RP (τ k t:Nat):Prop:=t=τ∨FM k t
theorem tp_rp {τ k t:Nat}(h:TP τ k t):RP τ k t:=by
 rcases h with h | h | h
 ·exact .inl h
 ·exact .inr (.inr (.inl h))
 ·exact .inr (.inr (.inr (.inl h)))
noncomputable def Opened (w:Option VS) (q:VS):Prop:=(∀ q0,w=some q0→q=q0)∧(w=none→q.m=0)
theorem inst_ne {h:Heap}{a b C D da db:Nat}(e1:h.get? a=some (instObj C da)) (e2:h.get? b=some (instObj D db)) (n:(C,da)≠(D,db)):@Ne Nat a b:=fun q=>by
 rw [q,e2] at e1
 have e:=Option.some.inj e1
 exact n (by have h1:=congrArg Obj.cls e;have h2:=congrArg Obj.dict e;cases h1;cases h2;rfl)
section
variable {G:Gr}{A:Around}{outer:List Env}{d u:Nat}{s:Shared}
theorem fac_iter_again {k:Nat}(hk:k=0∨k=1) {o:Own}{V:List Value}{v dv f mm τ:Nat}{q:VS}{Q E:Value→Shared→Prop}
  (c:Cx G A outer (d+20) (u+60) s.heap) (ok:OwnOk G o) (fo:FO o (frs outer)) (F:Fac G k o s V v dv f mm (some q))
  (post:∀ s' o' y dy,Mv G (RP τ k) (frs outer) o s o' s'→Fac G k o' s' V v dv f mm (some q)→IsTee s'.heap y dy (.ref q.r) q.S ((0:Nat):Int)→o'.a y=τ→o'.a dy=τ→s.heap.get? y=none→s.heap.get? dy=none→Q (.ref y) s') :
  wpAny (model PR G.w) A (pyIter (.ref v)) Q E s:=by
 (refine hide fun Zq kZ=>?_;refine xe0_9 (F.opn q rfl) ?_;rintro i tx ⟨n,oS⟩ src ⟨n',om⟩ le tx1 tx2 tx3;all_goals (refine kZ ?_;clear kZ Zq))
 apply hide;intro _ kι;obtain ⟨j1,_,_,_,_,j2⟩:=id i;apply kι
 apply hide;intro _ kι;obtain ⟨w1,_,_,_,_,_,_,_,w2⟩:=id tx;apply kι
 refine inst_iter (C:=165) (f:=162) (G.X.keeps c.st) j1 j2 (by k_is) (by k_is) ?_
 have b4:∀ b,o.a b=100+k→G.base.get? b=none:=fun b t=>ok b (by exact zq134 t)
 refine fac_again (G:=G) (d:=d+16) (u:=u+53) c i tx (ne_cls j1 j2 (by simp)) (ne_cls w1 w2 (by simp)) (fq (b4 _ F.tv) (fq (b4 _ F.td) (fq (b4 _ tx1) (fq (b4 _ tx2) fn0))))
  (inst_ne j1 w1 (fun e=>by cases e)) (ne_cls j1 w2 (by simp)) (ne_cls j2 w1 (by simp)) (fun z=>by rw [z,w2] at j2;(replace j2:=Eq.symm j2;cases j2)) fun s' y dy x fy fdy ne ty=>?_
 have x':Ext (frs outer) [] [] s s':=x.weak fn0 fn0 fn0
 have c':=c.next x' fn0 fn0
 refine tee_has (G.X.keeps c'.st) ty fun _=>⟨rfl,?_⟩
 have ag:=Own.with_agree o s (fun b=>if b=y∨b=dy then τ else 0) (fun _=>0)
 have okk:=Own.with_ok (G:=G) (na:=fun b=>if b=y∨b=dy then τ else 0) (ng:=fun _=>0) ok c.st
 refine post s' _ y dy (Mv.of x' fn0 fn0 ag okk) (F.mono hk (x'.kp ag fo fn0 fn0 (fm_ok hk))) ty ?_ ?_ fy fdy
 ·exact (Own.with_new o fy).trans (by simp)
 ·exact (Own.with_new o fdy).trans (by simp)
theorem fac_iter_open1 {o:Own}{V:List Value}{v dv f mm τ:Nat}{Q E:Value→Shared→Prop}
  (c:Cx G A outer (d+20) (u+60) s.heap) (ok:OwnOk G o) (fo:FO o (frs outer)) (F:Fac G 1 o s V v dv f mm none) (hτ:5≤τ∧τ < 100)
  (post:∀ s' o' q y dy,Mv G (RP τ 1) (frs outer) o s o' s'→Fac G 1 o' s' V v dv f mm (some q)→q.m=0→IsTee s'.heap y dy (.ref q.r) q.S ((0:Nat):Int)→o'.a y=τ→o'.a dy=τ→s.heap.get? y=none→s.heap.get? dy=none→Q (.ref y) s') :
  wpAny (model PR G.w) A (pyIter (.ref v)) Q E s:=by
 (refine xe0_3 (F.shut rfl) ?_;rintro i ⟨n,om⟩ fn)
 apply hide;intro _ kι;obtain ⟨j1,_,_,_,_,j2⟩:=id i;apply kι
 refine xe5_7 fn fun cm ci c' R n2 lam h1 h2 h3 tg nec _=>?_
 apply hide;intro _ kι;obtain ⟨⟨occ,_,oc5,_⟩,fo5,fd5,of5,hfd5,hfc5⟩:=lam_code lam;apply kι
 have tmm:o.a mm=3:=F.tm
 have tv:o.a v=101:=F.tv
 have td:o.a dv=101:=F.td
 have len:=F.len
 have nf:∀ b,¬ (o.a b=0∨(5≤o.a b∧o.a b < 100))→b ∉ frs outer:=fun b h q=>h (fo b q)
 have tf:o.a f=1:=tg _ zm0
 have hL:s.heap.get? s.heap.objs.size=none:=Heap.get?_none_of_le (Nat.le_refl _)
 have neL:∀ b ob,s.heap.get? b=some ob→b≠s.heap.objs.size:=fun b ob e=>Nat.ne_of_lt (Heap.lt_size e)
 refine inst_iter (C:=165) (f:=162) (G.X.keeps c.st) j1 j2 (by k_is) (by k_is) ?_
 refine fac_open (G:=G) (d:=d+19) (u:=u+57) (fpF:=[mm])
  (J:=fun s₁ s₂ ya=>Ext [] [] [] s s₁∧s₁.heap.get? ya=none∧∃ k' n',s₂.heap.get? ya=some (W.listOf V.toArray k')∧s₂.heap.get? mm=some (W.listOf V.toArray n'))
  (J':=fun s₃ s₄ x1 x2=>∃ d1 d2 S r l k' n'' n',(∀ b∈[x1,d1,x2,d2,S,r],s₃.heap.get? b=none)∧@Ne Nat d1 d2∧@Ne Nat x1 d1∧@Ne Nat x2 d2∧IsTee s₄.heap x1 d1 (.ref r) S 0∧IsTee s₄.heap x2 d2 (.ref r) S 0∧s₄.heap.get? S=some (W.listOf #[] n'')∧s₄.heap.get? r=some (itObj "list_iterator" (.ref l) 0)∧s₃.heap.get? l=some (W.listOf V.toArray k')∧s.heap.get? l=none∧@Ne Nat l s.heap.objs.size∧s₃.heap.get? mm=some (W.listOf V.toArray n'))
  c i (ne_cls j1 j2 (by simp)) (fq (ok _ (by exact zq76 tv)) (fq (ok _ (by exact zq76 td)) fn0)) (by apply hide;intro _ kι;obtain ⟨_,_,_,_,_,_,_,_,_,_,o2,_⟩:=lam;apply kι;exact ⟨_,_,_,_,o2⟩)
  (fq (yi5 (fun z=>by rw [z] at tmm;exact zq77 tmm tv) (fun z=>by rw [z] at tmm;exact zq77 tmm td) (nf _ (by exact zq78 tmm)) (ok _ (by exact zq79 tmm)) ⟨_,om⟩) fn0) ?fcall ?tcall ?fin
 case fcall =>
  intro A' env s₁ cc e1 x1
  have kp:∀ b ob,s.heap.get? b=some ob→s₁.heap.get? b=some ob:=fun b ob e=>x1.keep b ob e fnm fnm
  refine glam1_call (G:=G) (d:=d+13) (u:=u+34) (V:=V) (ms:=[]) cc nec (lam.kept (kp f) (kp c')) (isCell_kept h1 (kp ci)) (isCell_kept h2 (kp cm)) (kp _ _ h3) (kp _ _ om) (fun z=>by have:=tg R zm4;rw [← z] at this;exact zn tmm rfl this) len (by simp) ?_ ?_
  ·refine fq (ok _ (by rw [tg ci zm1];exact zq5)) (fq (ok _ (by rw [tg cm zm2];exact zq5)) (fq (ok _ (by rw [tg R zm4];exact zq5)) (fq (ok _ (by exact zq79 tmm)) fn0)))
  ·intro s₂ l' n' k' y fl om' ol'
   exact (wi1_5 l' rfl y x1 fl ⟨k',n',ol',om'⟩)
 case tcall =>
  intro A' env s₁ s₂ s₃ ya hJ x23 c3 hL1
  apply hide;intro _ kι;obtain ⟨x1,q2,k',n',q3,q4⟩:=hJ;apply kι
  obtain ⟨oL,hoL⟩:=hL1
  have nyL:@Ne Nat ya s.heap.objs.size:=fun q=>by rw [q] at q2;rw [hoL] at q2;exact nsf q2.symm
  have e3:=x23.keep _ _ q3 (fun q=>nyL (List.mem_singleton.mp q)) fnm
  have m3:=x23.keep _ _ q4 (fun q=>neL _ _ om (List.mem_singleton.mp q)) fnm
  refine tee_list (G:=G) (d:=d+16) (u:=u+53) (its:=V) c3 e3 (none_st c.st (x1.fresh q2)) ?_
  intro s₄ ta x1' d1 x2 d2 S r na nb y fr dd n1 n2 t1 t2 oS or ot
  exact (xi4 ta x1' x2 na (yi5 rfl y (fr ta zm0) ot ⟨d1,d2,S,r,ya,k',nb,n',fun b hb=>fr b (by simp at hb;rcases hb with hb | hb | hb | hb | hb | hb <;> replace hb:=hb.symm <;> subst hb <;> simp),dd,n1,n2,t1,t2,oS,or,e3,x1.fresh q2,nyL,m3⟩))
 case fin =>
  intro s₃ s₄ s₅ x1 x2 hJ hL3 y34 y45 y05 y03 fac5
  apply hide;intro _ kι;obtain ⟨d1,d2,S,r,l,k',n'',n',fr,dd,n1,n2,t1,t2,oS4,or4,ol3,fl,nlL,om3⟩:=hJ;apply kι
  obtain ⟨oL3,hoL3⟩:=hL3
  have fx1:=fr x1 zm0;have fd1:=fr d1 zm1;have fx2:=fr x2 zm2;have fd2:=fr d2 zm3;have fS:=fr S zm4;have fr':=fr r zm5
  have new3:∀ b,s₃.heap.get? b=none→s.heap.get? b=none:=fun b e=>y03.fresh e
  have off:∀ b,s₃.heap.get? b=none→b ∉ [s.heap.objs.size,dv]:=fun b e q=>by
   simp only [List.mem_cons,List.not_mem_nil,or_false] at q
   rcases q with q | q
   ·rw [q,hoL3] at e;exact nsf e.symm
   ·obtain ⟨ob',e'⟩:=y03.there dv _ j2;rw [q,e'] at e;exact nsf e.symm
  have k45:∀ b ob,s₃.heap.get? b=none→s₄.heap.get? b=some ob→s₅.heap.get? b=some ob:=fun b ob e e'=>y45.keep b ob e' (off b e) fnm
  have ndl:@Ne Nat l dv:=fun q=>by rw [q,j2] at fl;exact nsf fl.symm
  have ol5:s₅.heap.get? l=some (W.listOf V.toArray k'):=y45.keep _ _ (y34.keep _ _ ol3 fnm fnm) (fun q=>by simp only [List.mem_cons,List.not_mem_nil,or_false] at q;exact q.elim nlL ndl) fnm
  have om5:s₅.heap.get? mm=some (W.listOf V.toArray n'):=y45.keep _ _ (y34.keep _ _ om3 fnm fnm) (fun q=>by simp only [List.mem_cons,List.not_mem_nil,or_false] at q;exact q.elim (neL _ _ om) fun z=>by rw [z] at tmm;exact zq77 tmm td) fnm
  have t1':IsTee s₅.heap x1 d1 (.ref r) S 0:=t1.kept (fun ob e=>k45 _ ob fx1 e) (fun ob e=>k45 _ ob fd1 e)
  have t2':IsTee s₅.heap x2 d2 (.ref r) S 0:=t2.kept (fun ob e=>k45 _ ob fx2 e) (fun ob e=>k45 _ ob fd2 e)
  have oS5:=k45 _ _ fS oS4
  have or5:=k45 _ _ fr' or4
  apply hide;intro _ kι;obtain ⟨a1,_,_,_,_,_,_,_,a2⟩:=id t1';apply kι
  apply hide;intro _ kι;obtain ⟨b1,_,_,_,_,_,_,_,b2⟩:=id t2';apply kι
  have x':Ext (frs outer) [dv,mm] [] s s₅:=y05.weak (fun b hb=>.inl hb) fn0 fn0
  have c5:Cx G A outer (d+20) (u+60) s₅.heap:=c.next x' (fq (ok _ (by exact zq76 td)) (fq (ok _ (by exact zq79 tmm)) fn0)) (fq (nf _ (by exact zq140 td)) (fq (nf _ (by exact zq78 tmm)) fn0))
  refine tee_has (G.X.keeps c5.st) t2' fun _=>⟨rfl,?_⟩
  let na:Nat→Nat:=fun b=>if b=x2∨b=d2 then τ else if b=r∨b=l then 102 else if b=x1∨b=d1∨b=S then 101 else 0
  have ag:=Own.with_agree o s na (fun _=>0)
  have okk:=Own.with_ok (G:=G) (na:=na) (ng:=fun _=>0) ok c.st
  have nx12:@Ne Nat x1 x2:=inst_ne a1 b1 (fun e=>dd (by cases e;rfl))
  have nx1d2:@Ne Nat x1 d2:=ne_cls a1 b2 (by simp)
  have nx2d1:@Ne Nat d1 x2:=ne_cls a2 b1 (by simp)
  have nSx2:@Ne Nat S x2:=ne_cls oS5 b1 (by simp)
  have nSd2:@Ne Nat S d2:=ne_cls oS5 b2 (by simp)
  have nrx2:@Ne Nat r x2:=ne_cls or5 b1 (by simp)
  have nrd2:@Ne Nat r d2:=ne_cls or5 b2 (by simp)
  have nrx1:@Ne Nat r x1:=ne_cls or5 a1 (by simp)
  have nrd1:@Ne Nat r d1:=ne_cls or5 a2 (by simp)
  have nrS:@Ne Nat r S:=ne_cls or5 oS5 (by simp)
  have nl3:∀ b,s₃.heap.get? b=none→@Ne Nat l b:=fun b e z=>by rw [z,e] at ol3;exact nsf ol3
  have T:∀ b,s.heap.get? b=none→(o.with s na (fun _=>0)).a b=na b:=fun b e=>Own.with_new o e
  have ty2:(o.with s na (fun _=>0)).a x2=τ:=(T _ (new3 _ fx2)).trans (by simp [na])
  have td2:(o.with s na (fun _=>0)).a d2=τ:=(T _ (new3 _ fd2)).trans (by simp [na])
  have tr:(o.with s na (fun _=>0)).a r=102:=(T _ (new3 _ fr')).trans (by simp [na,nrx2,nrd2])
  have tl:(o.with s na (fun _=>0)).a l=102:=(T _ fl).trans (by simp [na,nl3 _ fx2,nl3 _ fd2])
  have tx1:(o.with s na (fun _=>0)).a x1=101:=(T _ (new3 _ fx1)).trans (by show ite _ _ _=_;rw [if_neg (by rintro (z | z);exact nx12 z;exact nx1d2 z),if_neg (by rintro (z | z);exact nrx1 z.symm;exact nl3 _ fx1 z.symm),if_pos (.inl rfl)])
  have td1:(o.with s na (fun _=>0)).a d1=101:=(T _ (new3 _ fd1)).trans (by show ite _ _ _=_;rw [if_neg (by rintro (z | z);exact nx2d1 z;exact dd z),if_neg (by rintro (z | z);exact nrd1 z.symm;exact nl3 _ fd1 z.symm),if_pos (.inr (.inl rfl))])
  have tS:(o.with s na (fun _=>0)).a S=101:=(T _ (new3 _ fS)).trans (by show ite _ _ _=_;rw [if_neg (by rintro (z | z);exact nSx2 z;exact nSd2 z),if_neg (by rintro (z | z);exact nrS z.symm;exact nl3 _ fS z.symm),if_pos (.inr (.inr rfl))])
  have M:Mv G (RP τ 1) (frs outer) o s (o.with s na (fun _=>0)) s₅:=Mv.of x' (fq (.inl ⟨.inr (.inr (.inl td)),nf _ (by exact zq140 td)⟩) (fq (.inl ⟨.inr (.inl tmm),nf _ (by exact zq78 tmm)⟩) fn0)) fn0 ag okk
  refine post s₅ _ ⟨x1,d1,S,r,0⟩ x2 d2 M ⟨(ag.1 _ _ j1).trans tv,(ag.1 _ _ j2).trans td,(ag.1 _ _ om).trans tmm,len,(fun _ _ h=>absurd h (by decide)),(fun e=>nomatch e),fun q e=>?_⟩ rfl t2' ty2 td2 (new3 _ fx2) (new3 _ fd2)
  cases e
  exact (yi9 fac5 t1' ⟨n'',by simpa using oS5⟩ ⟨tr,.inl (wi2_4 l k' or5 ol5 tl (Nat.zero_le _))⟩ ⟨n',om5⟩ (Nat.zero_le _) tx1 td1 tS)
theorem fac_iter_open0 {o:Own}{V:List Value}{v dv f mm τ:Nat}{Q E:Value→Shared→Prop}
  (c:Cx G A outer (d+20) (u+60) s.heap) (ok:OwnOk G o) (fo:FO o (frs outer)) (F:Fac G 0 o s V v dv f mm none) (hτ:5≤τ∧τ < 100)
  (post:∀ s' o' q y dy,Mv G (RP τ 0) (frs outer) o s o' s'→Fac G 0 o' s' V v dv f mm (some q)→q.m=0→IsTee s'.heap y dy (.ref q.r) q.S ((0:Nat):Int)→o'.a y=τ→o'.a dy=τ→s.heap.get? y=none→s.heap.get? dy=none→Q (.ref y) s') :
  wpAny (model PR G.w) A (pyIter (.ref v)) Q E s:=by
 (refine xe0_3 (F.shut rfl) ?_;rintro i ⟨n,om⟩ fn)
 apply hide;intro _ kι;obtain ⟨j1,_,_,_,_,j2⟩:=id i;apply kι
 refine xe5_7 fn fun cm ci c' R n2 lam h1 h2 h3 tg nec h0=>?_
 apply hide;intro _ kι;obtain ⟨⟨its,rfl⟩,t9,oc,tb,hoc⟩:=h0 rfl;apply kι
 obtain ⟨tb9,o249⟩:∃ tb,s.heap.get? 249=some (tabObj tb):=by refine xe6_3 tb fun _ _ _ _ _ _ _ h _=>?_;exact ⟨_,h⟩
 have tmm:o.a mm=2:=F.tm
 have tv:o.a v=100:=F.tv
 have td:o.a dv=100:=F.td
 have len:=F.len
 have nf:∀ b,¬ (o.a b=0∨(5≤o.a b∧o.a b < 100))→b ∉ frs outer:=fun b h q=>h (fo b q)
 have hL:s.heap.get? s.heap.objs.size=none:=Heap.get?_none_of_le (Nat.le_refl _)
 have neL:∀ b ob,s.heap.get? b=some ob→b≠s.heap.objs.size:=fun b ob e=>Nat.ne_of_lt (Heap.lt_size e)
 have agr:=o.reset_agree s
 refine inst_iter (C:=165) (f:=162) (G.X.keeps c.st) j1 j2 (by k_is) (by k_is) ?_
 refine fac_open (G:=G) (d:=d+19) (u:=u+57) (fpF:=[249])
  (J:=fun s₁ s₂ ya=>Ext [] [] [] s s₁∧Ext [] [249] [] s₁ s₂∧s₁.heap.get? ya=none∧∃ o₁,Agree (o.reset s) o₁ s₁∧OwnOk G o₁∧FChain G o₁ mm s₂ 150 its ya∧∃ tb,s₂.heap.get? 249=some (tabObj tb))
  (J':=fun s₃ s₄ x1 x2=>∃ d1 d2 S r n'' o₂,(∀ b∈[x1,d1,x2,d2,S],s₃.heap.get? b=none)∧IsTee s₄.heap x1 d1 (.ref r) S 0∧IsTee s₄.heap x2 d2 (.ref r) S 0∧s₄.heap.get? S=some (W.listOf #[] n'')∧Agree o o₂ s∧OwnOk G o₂∧Src G 0 o₂ s₄ (its.map Value.ref) mm r 0∧o₂.a x1=100∧o₂.a d1=100∧o₂.a S=100∧o₂.a x2=τ∧o₂.a d2=τ∧o₂.a s.heap.objs.size=0∧∃ tb,s₄.heap.get? 249=some (tabObj tb))
  c i (ne_cls j1 j2 (by simp)) (fq (ok _ (by exact zq80 tv)) (fq (ok _ (by exact zq80 td)) fn0)) (by apply hide;intro _ kι;obtain ⟨_,_,_,_,_,_,_,_,_,_,o2,_⟩:=lam;apply kι;exact ⟨_,_,_,_,o2⟩)
  (fq (yi5 (fun z=>by rw [z] at t9;exact zq141 t9 tv) (fun z=>by rw [z] at t9;exact zq141 t9 td) (nf _ (by exact zq81 t9)) (ok _ (by exact zq142 t9)) ⟨_,o249⟩) fn0) ?fcall ?tcall ?fin
 case fcall =>
  intro A' env s₁ cc e1 x1
  have kp:∀ b ob,s.heap.get? b=some ob→s₁.heap.get? b=some ob:=fun b ob e=>x1.keep b ob e fnm fnm
  refine glam0_call (G:=G) (d:=d+13) (u:=u+34) (o:=o.reset s) (its:=its) cc nec (lam.kept (kp f) (kp c')) (isCell_kept h1 (kp ci)) (isCell_kept h2 (kp cm)) (kp _ _ h3) (tb.kept (fun ob e=>kp _ _ e) (fun c' _ ob e=>kp _ _ e)) (by simpa using len) (Own.with_ok ok c.st) ?_ ?_ ?_ ?_
  ·intro c'' e
   subst e
   refine xe2_2 tb.code fun ob _ e' _=>?_
   exact (agr.1 _ _ e').trans (hoc _ rfl)
  ·rw [agr.1 _ _ o249,t9];exact zq270
  ·refine fq (ok _ (by rw [tg ci zm1];exact zq5)) (fq (ok _ (by rw [tg cm zm2];exact zq5)) (fq (ok _ (by rw [tg R zm4];exact zq5)) fn0))
  ·intro s₂ o₁ a y ag1 ok1 ch fa g9
   exact (wi1_6 a rfl y x1 y fa ⟨o₁,ag1,ok1,ch,g9⟩)
 case tcall =>
  intro A' env s₁ s₂ s₃ ya hJ x23 c3 hL1
  apply hide;intro _ kι;obtain ⟨x1,x12,q2,o₁,ag1,ok1,ch,tb9',g9⟩:=hJ;apply kι
  have n9L:@Ne Nat 249 s.heap.objs.size:=fun q=>by have h1:=Heap.lt_size o249;rw [q] at h1;exact Nat.lt_irrefl _ h1
  have g93:s₃.heap.get? 249=some (tabObj tb9'):=x23.keep _ _ g9 (fun q=>n9L (List.mem_singleton.mp q)) fnm
  obtain ⟨oL,hoL⟩:=hL1
  have tL1:o₁.a s.heap.objs.size=0:=(ag1.1 _ _ hoL).trans (Own.reset_new o hL)
  have nyL:@Ne Nat ya s.heap.objs.size:=fun q=>by rw [q] at q2;rw [hoL] at q2;exact nsf q2.symm
  have ch3:FChain G o₁ mm s₃ 150 its ya:=ch.mono (x23.kept (fun b hb=>by rw [List.mem_singleton.mp hb,tL1];exact .inl ⟨by exact zq110,by exact zq25⟩) fn0 fn0 ⟨fun _ _ _=>rfl,fun _ _ _=>rfl⟩)
  have x13:Ext [] [249,s.heap.objs.size] [] s₁ s₃:=(x12.weak (fr':=[]) (fp'':=[249,s.heap.objs.size]) (gp'':=[]) (fun b hb=>.inl (by simp at hb;simp [hb])) fn0 fn0).trans x23 (fun b hb=>.inl (by simp at hb;simp [hb])) fn0
  have agA:∀ {o₂:Own},Agree o₁ o₂ s₃→Agree o o₂ s:=fun ag2=>Mv.agree_trans x1 agr (Mv.agree_trans x13 ag1 ag2)
  obtain ⟨oL3,hoL3⟩:=x13.there _ _ hoL
  have st3:G.base.StaysIn s₃.heap:=c3.st
  cases ch3 with
  | @nil _ _ nn e3 ty =>
   refine tee_list (G:=G) (d:=d+16) (u:=u+53) (its:=[]) c3 e3 (none_st c.st (x1.fresh q2)) ?_
   intro s₄ ta x1' d1 x2 d2 S r na nb y fr dd n1 n2 t1 t2 oS or ot
   apply hide;intro _ kι;obtain ⟨a1,_,_,_,_,_,_,_,a2⟩:=id t1;apply kι
   apply hide;intro _ kι;obtain ⟨b1,_,_,_,_,_,_,_,b2⟩:=id t2;apply kι
   have fx1:=fr x1' zm1;have fd1:=fr d1 zm2;have fx2:=fr x2 zm3;have fd2:=fr d2 zm4;have fS:=fr S zm5;have fr':=fr r zm6
   have nx12:@Ne Nat x1' x2:=inst_ne a1 b1 (fun e=>dd (by cases e;rfl))
   have nx1d2:@Ne Nat x1' d2:=ne_cls a1 b2 (by simp)
   have nx2d1:@Ne Nat d1 x2:=ne_cls a2 b1 (by simp)
   have nSx2:@Ne Nat S x2:=ne_cls oS b1 (by simp)
   have nSd2:@Ne Nat S d2:=ne_cls oS b2 (by simp)
   have nrx2:@Ne Nat r x2:=ne_cls or b1 (by simp)
   have nrd2:@Ne Nat r d2:=ne_cls or b2 (by simp)
   have nrx1:@Ne Nat r x1':=ne_cls or a1 (by simp)
   have nrd1:@Ne Nat r d1:=ne_cls or a2 (by simp)
   have nrS:@Ne Nat r S:=ne_cls or oS (by simp)
   let nm:Nat→Nat:=fun b=>if b=x2∨b=d2 then τ else if b=r then 150 else if b=x1'∨b=d1∨b=S then 100 else 0
   have ag2:=Own.with_agree o₁ s₃ nm (fun _=>0)
   have ok2:=Own.with_ok (G:=G) (na:=nm) (ng:=fun _=>0) ok1 st3
   have T:∀ b,s₃.heap.get? b=none→(o₁.with s₃ nm (fun _=>0)).a b=nm b:=fun b e=>Own.with_new o₁ e
   refine (xi4 ta x1' x2 na (yi5 rfl y (fr ta zm0) ot ⟨d1,d2,S,r,nb,o₁.with s₃ nm (fun _=>0),fun b hb=>fr b (by simp at hb;rcases hb with hb | hb | hb | hb | hb <;> replace hb:=hb.symm <;> subst hb <;> simp),t1,t2,oS,agA ag2,ok2,.inr (yi3 rfl rfl ⟨?_,.inl (wi2_4 ya nn or (y.keep _ _ e3 fnm fnm) ((ag2.1 _ _ e3).trans ty) (Nat.le_refl _))⟩),?_,?_,?_,?_,?_,(ag2.1 _ _ hoL3).trans tL1,tb9',y.keep _ _ g93 fnm fnm⟩))
   ·exact (T _ fr').trans (by show ite _ _ _=_;rw [if_neg (by rintro (z | z);exact nrx2 z;exact nrd2 z),if_pos rfl])
   ·exact (T _ fx1).trans (by show ite _ _ _=_;rw [if_neg (by rintro (z | z);exact nx12 z;exact nx1d2 z),if_neg (fun z=>nrx1 z.symm),if_pos (.inl rfl)])
   ·exact (T _ fd1).trans (by show ite _ _ _=_;rw [if_neg (by rintro (z | z);exact nx2d1 z;exact dd z),if_neg (fun z=>nrd1 z.symm),if_pos (.inr (.inl rfl))])
   ·exact (T _ fS).trans (by show ite _ _ _=_;rw [if_neg (by rintro (z | z);exact nSx2 z;exact nSd2 z),if_neg (fun z=>nrS z.symm),if_pos (.inr (.inr rfl))])
   ·exact (T _ fx2).trans (by show ite _ _ _=_;rw [if_pos (.inl rfl)])
   ·exact (T _ fd2).trans (by show ite _ _ _=_;rw [if_pos (.inr rfl)])
  | @cons _ t9' _ g9 rest9 nm9 qn9 L9 v9 dv9 f9 ci9 cm9 nx9 c9 m9 i1 i2 i3 i4 i5 i6 i7 i8 i9 jn jn2 i10 i11 i12 i13 i14 =>
   have F9:FChain G o₁ mm s₃ 150 (t9' :: rest9) ya:=.cons i1 i2 i3 i4 i5 i6 i7 i8 i9 jn jn2 i10 i11 i12 i13 i14
   refine tee_gen (G:=G) (d:=d+16) (u:=u+53) c3 i1 (none_st c.st (x1.fresh q2)) ?_
   intro s₄ ta x1' d1 x2 d2 S na nb y fr dd n1 n2 t1 t2 oS ot
   apply hide;intro _ kι;obtain ⟨a1,_,_,_,_,_,_,_,a2⟩:=id t1;apply kι
   apply hide;intro _ kι;obtain ⟨b1,_,_,_,_,_,_,_,b2⟩:=id t2;apply kι
   have fx1:=fr x1' zm1;have fd1:=fr d1 zm2;have fx2:=fr x2 zm3;have fd2:=fr d2 zm4;have fS:=fr S zm5
   have nx12:@Ne Nat x1' x2:=inst_ne a1 b1 (fun e=>dd (by cases e;rfl))
   have nx1d2:@Ne Nat x1' d2:=ne_cls a1 b2 (by simp)
   have nx2d1:@Ne Nat d1 x2:=ne_cls a2 b1 (by simp)
   have nSx2:@Ne Nat S x2:=ne_cls oS b1 (by simp)
   have nSd2:@Ne Nat S d2:=ne_cls oS b2 (by simp)
   let nm:Nat→Nat:=fun b=>if b=x2∨b=d2 then τ else if b=x1'∨b=d1∨b=S then 100 else 0
   have ag2:=Own.with_agree o₁ s₃ nm (fun _=>0)
   have ok2:=Own.with_ok (G:=G) (na:=nm) (ng:=fun _=>0) ok1 st3
   have T:∀ b,s₃.heap.get? b=none→(o₁.with s₃ nm (fun _=>0)).a b=nm b:=fun b e=>Own.with_new o₁ e
   refine (xi4 ta x1' x2 na (yi5 rfl y (fr ta zm0) ot ⟨d1,d2,S,ya,nb,o₁.with s₃ nm (fun _=>0),fun b hb=>fr b (by simp at hb;rcases hb with hb | hb | hb | hb | hb <;> replace hb:=hb.symm <;> subst hb <;> simp),t1,t2,oS,agA ag2,ok2,.inl (wi1_2 (t9' :: rest9) rfl (.inl ⟨F9.mono (y.kept fn0 fn0 fn0 ag2),by simp⟩)),?_,?_,?_,?_,?_,(ag2.1 _ _ hoL3).trans tL1,tb9',y.keep _ _ g93 fnm fnm⟩))
   ·exact (T _ fx1).trans (by show ite _ _ _=_;rw [if_neg (by rintro (z | z);exact nx12 z;exact nx1d2 z),if_pos (.inl rfl)])
   ·exact (T _ fd1).trans (by show ite _ _ _=_;rw [if_neg (by rintro (z | z);exact nx2d1 z;exact dd z),if_pos (.inr (.inl rfl))])
   ·exact (T _ fS).trans (by show ite _ _ _=_;rw [if_neg (by rintro (z | z);exact nSx2 z;exact nSd2 z),if_pos (.inr (.inr rfl))])
   ·exact (T _ fx2).trans (by show ite _ _ _=_;rw [if_pos (.inl rfl)])
   ·exact (T _ fd2).trans (by show ite _ _ _=_;rw [if_pos (.inr rfl)])
 case fin =>
  intro s₃ s₄ s₅ x1 x2 hJ hL3 y34 y45 y05 y03 fac5
  apply hide;intro _ kι;obtain ⟨d1,d2,S,r,n'',o₂,fr,t1,t2,oS4,ag,okk,src,tx1,td1,tS,ty2,td2,tL2,tb9'',g94⟩:=hJ;apply kι
  have n9L:@Ne Nat 249 s.heap.objs.size:=fun q=>by have h1:=Heap.lt_size o249;rw [q] at h1;exact Nat.lt_irrefl _ h1
  have g95:s₅.heap.get? 249=some (tabObj tb9''):=y45.keep _ _ g94 (fun q=>by
   simp only [List.mem_cons,List.not_mem_nil,or_false] at q
   rcases q with q | q
   ·exact n9L q
   ·rw [q,td] at t9;(replace t9:=Eq.symm t9;cases t9)) fnm
  obtain ⟨oL3,hoL3⟩:=hL3
  have fx1:=fr x1 zm0;have fd1:=fr d1 zm1;have fx2:=fr x2 zm2;have fd2:=fr d2 zm3;have fS:=fr S zm4
  have off:∀ b,s₃.heap.get? b=none→b ∉ [s.heap.objs.size,dv]:=fun b e q=>by
   simp only [List.mem_cons,List.not_mem_nil,or_false] at q
   rcases q with q | q
   ·rw [q,hoL3] at e;exact nsf e.symm
   ·obtain ⟨ob',e'⟩:=y03.there dv _ j2;rw [q,e'] at e;exact nsf e.symm
  have k45:∀ b ob,s₃.heap.get? b=none→s₄.heap.get? b=some ob→s₅.heap.get? b=some ob:=fun b ob e e'=>y45.keep b ob e' (off b e) fnm
  have tdv2:o₂.a dv=100:=(ag.1 _ _ j2).trans td
  have K45:Kp (SP 0) o₂ s₄ o₂ s₅:=y45.kp ⟨fun _ _ _=>rfl,fun _ _ _=>rfl⟩ fn0 (fq (.inl ⟨by rw [tL2];exact fun h=>(sp_ok (.inl rfl) _ h).1 rfl,by exact zd (Nat.le_of_eq tL2) rfl⟩) (fq (.inl ⟨by rw [tdv2];exact fun h=>(sp_ok (.inl rfl) _ h).2.2.1 rfl,by exact zq272 tdv2⟩) fn0)) fn0 (fun t h=>⟨(sp_ok (.inl rfl) _ h).1,(sp_ok (.inl rfl) _ h).2.1⟩)
  have t1':IsTee s₅.heap x1 d1 (.ref r) S 0:=t1.kept (fun ob e=>k45 _ ob fx1 e) (fun ob e=>k45 _ ob fd1 e)
  have t2':IsTee s₅.heap x2 d2 (.ref r) S 0:=t2.kept (fun ob e=>k45 _ ob fx2 e) (fun ob e=>k45 _ ob fd2 e)
  have x':Ext (frs outer) [dv,249] [] s s₅:=y05.weak (fun b hb=>.inl hb) fn0 fn0
  have c5:Cx G A outer (d+20) (u+60) s₅.heap:=c.next x' (fq (ok _ (by exact zq80 td)) (fq (ok _ (by exact zq142 t9)) fn0)) (fq (nf _ (by exact zq143 td)) (fq (nf _ (by exact zq81 t9)) fn0))
  refine tee_has (G.X.keeps c5.st) t2' fun _=>⟨rfl,?_⟩
  have M:Mv G (RP τ 0) (frs outer) o s o₂ s₅:=Mv.of x' (fq (.inl ⟨.inr (.inr (.inl td)),nf _ (by exact zq143 td)⟩) (fq (.inl ⟨.inr (.inr (.inr (.inr ⟨rfl,t9⟩))),nf _ (by exact zq81 t9)⟩) fn0)) fn0 ag okk
  have om5:s₅.heap.get? mm=some (W.listOf #[] n):=x'.keep _ _ om (fun q=>by simp only [List.mem_cons,List.not_mem_nil,or_false] at q;rcases q with z | z <;> (rw [z] at tmm;(first | exact zn tmm rfl td | exact zn t9 rfl tmm))) (nf _ (by exact zo tmm rfl))
  refine post s₅ _ ⟨x1,d1,S,r,0⟩ x2 d2 M ⟨(ag.1 _ _ j1).trans tv,tdv2,(ag.1 _ _ om).trans tmm,len,(fun _ _ _=>⟨(ag.1 _ _ o249).trans t9,_,g95⟩),(fun e=>nomatch e),fun q e=>?_⟩ rfl t2' ty2 td2 (y03.fresh fx2) (y03.fresh fd2)
  cases e
  exact (yi9 fac5 t1' ⟨n'',k45 _ _ fS oS4⟩ (src.mono (.inl rfl) K45) ⟨n,om5⟩ (Nat.zero_le _) tx1 td1 tS)
theorem fac_iter {k:Nat}(hk:k=0∨k=1) {o:Own}{V:List Value}{v dv f mm τ:Nat}{w:Option VS}{Q E:Value→Shared→Prop}
  (c:Cx G A outer (d+20) (u+60) s.heap) (ok:OwnOk G o) (fo:FO o (frs outer)) (F:Fac G k o s V v dv f mm w) (hτ:5≤τ∧τ < 100)
  (post:∀ s' o' q y dy,Mv G (RP τ k) (frs outer) o s o' s'→Fac G k o' s' V v dv f mm (some q)→Opened w q→IsTee s'.heap y dy (.ref q.r) q.S ((0:Nat):Int)→o'.a y=τ→o'.a dy=τ→s.heap.get? y=none→s.heap.get? dy=none→Q (.ref y) s') :
  wpAny (model PR G.w) A (pyIter (.ref v)) Q E s:=by
 cases w with
 | some q=>exact fac_iter_again hk c ok fo F fun s' o' y dy M F' ty t1 t2 f1 f2=>post s' o' q y dy M F' ⟨fun q0 e=>by cases e;rfl,fun e=>nomatch e⟩ ty t1 t2 f1 f2
 | none =>
  rcases hk with hk | hk <;> replace hk:=hk.symm <;> subst hk
  ·exact fac_iter_open0 c ok fo F hτ fun s' o' q y dy M F' hm ty t1 t2 f1 f2=>post s' o' q y dy M F' ⟨fun q0 e=>(nomatch e),fun _=>hm⟩ ty t1 t2 f1 f2
  ·exact fac_iter_open1 c ok fo F hτ fun s' o' q y dy M F' hm ty t1 t2 f1 f2=>post s' o' q y dy M F' ⟨fun q0 e=>(nomatch e),fun _=>hm⟩ ty t1 t2 f1 f2
end
noncomputable def SeqAt (h:Heap) (q:Nat) (V:List Value) (T:String):Prop:=∃ ob n,h.get? q=some ob∧ob.data=.seq V.toArray n∧((ob.cls=.type "list"∧T="list_iterator")∨(ob.cls=.type "tuple"∧T="tuple_iterator"))
theorem SeqAt.kept {h h':Heap}{q:Nat}{V:List Value}{T:String}(x:SeqAt h q V T) (k:∀ ob,h.get? q=some ob→h'.get? q=some ob):SeqAt h' q V T:=let ⟨ob,n,e,r⟩:=x;⟨ob,n,k _ e,r⟩
theorem SeqAt.seqT {h:Heap}{q:Nat}{V:List Value}{T:String}(x:SeqAt h q V T):SeqT T:=let ⟨_,_,_,_,z⟩:=x;z.imp And.right And.right
theorem seq_pyIter {prog:Program}{w:World}{A:Around}{s:Shared}{q:Nat}{V:List Value}{T:String}{Q E:Value→Shared→Prop}(x:SeqAt s.heap q V T) (h:Q (.ref s.heap.objs.size) { s with heap:=s.heap.push (itObj T (.ref q) 0) }):wpAny (model prog w) A (pyIter (.ref q)) Q E s:=by
 (refine hide fun Zq kZ=>?_;refine xe2_3 x ?_;rintro ob n e hd (⟨hc,rfl⟩ | ⟨hc,rfl⟩);all_goals (refine kZ ?_;clear kZ Zq))
 ·exact wpAny_pyIter_list ⟨ob,e,hc,n,hd⟩ h
 ·exact wpAny_pyIter_tuple ⟨ob,e,hc,n,hd⟩ h
noncomputable def LateAt (G:Gr) (o:Own) (h:Heap) (lr:Value) (late:List Value):Prop:=∃ la T,lr=.ref la∧SeqAt h la late T∧(o.a la=1∨∃ ob,G.base.get? la=some ob)
structure ItSpec (G:Gr) (P M:Nat→Prop) (σ:Nat) (it0:Value) (V:List Value) {W:Type}(Gw:W→W→Nat→Prop) (B:W→Own→Shared→Prop) (I:Nat→W→Own→Shared→Nat→List Nat→Prop):Prop where
 tau:5≤σ∧σ < 100
 p0:∀ t,P t→t≠0∧t≠1
 pσ:P σ
 mok:∀ t,M t→t≠0∧¬ (5≤t∧t < 100)
 iter:∀ {A:Around}{outer:List Env}{d u:Nat}{s:Shared}{o:Own}{w:W}{Q E:Value→Shared→Prop},Cx G A outer (d+50) (u+140) s.heap→OwnOk G o→FO o (frs outer)→B w o s →
  (∀ s' o' w' y obs,Mv G P (frs outer) o s o' s'→Gw w w' 0→B w' o' s'→I 0 w' o' s' y obs→(∀ b∈obs,s.heap.get? b=none)→Q (.ref y) s')→wpAny (model PR G.w) A (pyIter it0) Q E s
 next:∀ {A:Around}{outer:List Env}{d u:Nat}{s:Shared}{o:Own}{w:W}{p y:Nat}{obs:List Nat}{Q E:Value→Shared→Prop},Cx G A outer (d+50) (u+140) s.heap→OwnOk G o→FO o (frs outer)→B w o s→I p w o s y obs→(∀ b∈obs,b ∉ frs outer) →
  (∀ z s' o' w',V[p]?=some z→Mv G P (frs outer) o s o' s'→Gw w w' (p+1)→B w' o' s'→I (p+1) w' o' s' y obs→Q z s') →
  (p=V.length→∀ e s' o' w',Mv G P (frs outer) o s o' s'→Gw w w' p→B w' o' s'→Stops (.ref e) s'→E (.ref e) s')→NextIs PR G.w A (.ref y) Q E s
 itag:∀ {p w o s y obs},I p w o s y obs→∀ b∈obs,o.a b=σ
 iex:∀ {p w o s y obs},I p w o s y obs→∀ b∈obs,∃ ob,s.heap.get? b=some ob
 ikeep:∀ {p w o s y obs o' s'},I p w o s y obs→(∀ b∈obs,∀ ob,s.heap.get? b=some ob→s'.heap.get? b=some ob∧o'.a b=o.a b)→I p w o' s' y obs
 igrow:∀ {p w w' c o s y obs},I p w o s y obs→Gw w w' c→I p w' o s y obs
 bmono:∀ {w o s o' s'},B w o s→Kp M o s o' s'→B w o' s'
 gtrans:∀ {w w' w'' c c'},Gw w w' c→Gw w' w'' c'→Gw w w'' (max c c')
 gsat:∀ {w w' c c'},V.length≤c→V.length≤c'→Gw w w' c→Gw w w' c'
 gfull:∀ {w w' c},Gw w w' c→V.length≤c→Gw w' w' V.length
 gstay:∀ {w w' c},Gw w w V.length→Gw w w' c→Gw w' w' V.length
inductive Rd (G:Gr) (τ σ:Nat) (it0:Value) (V:List Value) {W:Type}(Gw:W→W→Nat→Prop) (I:Nat→W→Own→Shared→Nat→List Nat→Prop) (lr:Value) (late:List Value) (a:Nat) (w:W) (o:Own) (s:Shared):Nat→Prop
 | fresh {g L:Nat}{nm qn:Value}{m:Str→Option Value}:s.heap.get? a=some (genObj g nm qn)→s.gens[g]?=some (.fresh (fc L))→s.heap.Ns L m→m nOne=some it0→m nTwo=some lr→o.a a=τ→o.a L=τ→o.g g=τ→@Ne Nat a L→LateAt G o s.heap lr late→Rd G τ σ it0 V Gw I lr late a w o s 0
 | one {p g L y:Nat}{nm qn:Value}{m:Str→Option Value}{gs:GenState}{obs:List Nat}:s.heap.get? a=some (genObj g nm qn)→s.gens[g]?=some gs→In1 PR G.w gs L (.ref y)→s.heap.Ns L m→m nTwo=some lr→o.a a=τ→o.a L=τ→o.g g=τ→@Ne Nat a L→LateAt G o s.heap lr late→I p w o s y obs→L ∉ obs→a ∉ obs→Rd G τ σ it0 V Gw I lr late a w o s p
 | two {j g L y la:Nat}{T:String}{nm qn:Value}{m:Str→Option Value}{gs:GenState}:s.heap.get? a=some (genObj g nm qn)→s.gens[g]?=some gs→In2 PR G.w gs L (.ref y)→s.heap.Ns L m→lr=.ref la→SeqAt s.heap la late T→(o.a la=1∨∃ ob,G.base.get? la=some ob)→s.heap.get? y=some (itObj T (.ref la) j)→j≤late.length→o.a a=τ→o.a L=τ→o.a y=σ→o.g g=τ→@Ne Nat a L→@Ne Nat y L→@Ne Nat a y→Gw w w V.length→Rd G τ σ it0 V Gw I lr late a w o s (V.length+j)
 | done {g:Nat}{nm qn:Value}:s.heap.get? a=some (genObj g nm qn)→s.gens[g]?=some .finished→o.a a=τ→o.g g=τ→Gw w w V.length→Rd G τ σ it0 V Gw I lr late a w o s (V.length+late.length)
theorem LateAt.mono {G:Gr}{o o':Own}{h h':Heap}{lr:Value}{late:List Value}(x:LateAt G o h lr late) (st:G.base.StaysIn h) (st':G.base.StaysIn h') (k:∀ b ob,h.get? b=some ob→o.a b=1→h'.get? b=some ob∧o'.a b=o.a b):LateAt G o' h' lr late:=by
 (refine xe2_3 x ?_;rintro la T rfl sq t)
 refine xe2_2 (id sq) fun ob0 _ e0 _=>?_
 rcases t with t | ⟨ob,e⟩
 ·exact ⟨la,T,rfl,sq.kept (fun ob e=>(k _ _ e t).1),.inl ((k _ _ e0 t).2.trans t)⟩
 ·exact ⟨la,T,rfl,sq.kept (fun ob' e'=>by have:=st _ _ e;rw [this] at e';cases e';exact st' _ _ e),.inr ⟨ob,e⟩⟩
section
variable {G:Gr}{P M:Nat→Prop}{τ σ:Nat}{it0:Value}{V:List Value}{W:Type}{Gw:W→W→Nat→Prop}{B:W→Own→Shared→Prop}{I:Nat→W→Own→Shared→Nat→List Nat→Prop}{lr:Value}{late:List Value}{a:Nat}
theorem Rd.other (sp:ItSpec G P M σ it0 V Gw B I) {w w':W}{o o':Own}{s s':Shared}{p:Nat}(x:Rd G τ σ it0 V Gw I lr late a w o s p) (st:G.base.StaysIn s.heap) (st':G.base.StaysIn s'.heap) (K:Kp (fun t=>t=τ∨t=σ) o s o' s') (hw:w'=w∨∃ c,Gw w w' c):Rd G τ σ it0 V Gw I lr late a w' o' s' p:=by
 have k:∀ b ob,s.heap.get? b=some ob→o.a b=τ→s'.heap.get? b=some ob∧o'.a b=o.a b:=fun b ob e t=>K.k b ob e (.inl (.inl t))
 have kσ:∀ b ob,s.heap.get? b=some ob→o.a b=σ→s'.heap.get? b=some ob∧o'.a b=o.a b:=fun b ob e t=>K.k b ob e (.inl (.inr t))
 have kg:∀ g x,s.gens[g]?=some x→o.g g=τ→s'.gens[g]?=some x∧o'.g g=o.g g:=fun g x e t=>K.g g x e (.inl t)
 have lt:LateAt G o s.heap lr late→LateAt G o' s'.heap lr late:=fun x=>x.mono st st' fun b ob e t=>K.k b ob e (.inr t)
 have gf:Gw w w V.length→Gw w' w' V.length:=fun h=>hw.elim (fun e=>e▸h) fun ⟨c,g⟩=>sp.gstay h g
 cases x with
 | fresh h1 h2 h3 h4 h5 t1 t2 t3 ne hl =>
  refine xe3_2 h3 fun oL es ep e3 r=>?_
  exact .fresh (k _ _ h1 t1).1 (kg _ _ h2 t3).1 ⟨oL,es,ep,(k _ _ e3 t2).1,r⟩ h4 h5 ((k _ _ h1 t1).2.trans t1) ((k _ _ e3 t2).2.trans t2) ((kg _ _ h2 t3).2.trans t3) ne (lt hl)
 | one h1 h2 h3 h4 h5 t1 t2 t3 ne hl hi n1 n2 =>
  refine xe3_2 h4 fun oL es ep e3 r=>?_
  have hi':=sp.ikeep (o':=o') (s':=s') hi fun b hb ob e=>kσ b ob e (sp.itag hi b hb)
  refine .one (k _ _ h1 t1).1 (kg _ _ h2 t3).1 h3 ⟨oL,es,ep,(k _ _ e3 t2).1,r⟩ h5 ((k _ _ h1 t1).2.trans t1) ((k _ _ e3 t2).2.trans t2) ((kg _ _ h2 t3).2.trans t3) ne (lt hl) ?_ n1 n2
  rcases (hw).imp_left Eq.symm with rfl | ⟨c,g⟩
  ·exact hi'
  ·exact sp.igrow hi' g
 | @two j g L y la T nm qn m gs h1 h2 h3 h4 h5 h6 h7 h8 h9 t1 t2 t3 t4 n1 n2 n3 hg =>
  refine xe3_2 h4 fun oL es ep e3 r=>?_
  have sq:SeqAt s'.heap la late T∧(o'.a la=1∨∃ ob,G.base.get? la=some ob):=by
   refine xe2_2 (id h6) fun ob0 _ e0 _=>?_
   rcases h7 with t | ⟨ob,e⟩
   ·exact ⟨h6.kept (fun ob e=>(K.k _ _ e (.inr t)).1),.inl ((K.k _ _ e0 (.inr t)).2.trans t)⟩
   ·exact ⟨h6.kept (fun ob' e'=>by have:=st _ _ e;rw [this] at e';cases e';exact st' _ _ e),.inr ⟨ob,e⟩⟩
  exact .two (k _ _ h1 t1).1 (kg _ _ h2 t4).1 h3 ⟨oL,es,ep,(k _ _ e3 t2).1,r⟩ h5 sq.1 sq.2 (kσ _ _ h8 t3).1 h9 ((k _ _ h1 t1).2.trans t1) ((k _ _ e3 t2).2.trans t2) ((kσ _ _ h8 t3).2.trans t3) ((kg _ _ h2 t4).2.trans t4) n1 n2 n3 (gf hg)
 | done h1 h2 t1 t2 hg=>exact .done (k _ _ h1 t1).1 (kg _ _ h2 t2).1 ((k _ _ h1 t1).2.trans t1) ((kg _ _ h2 t2).2.trans t2) (gf hg)
theorem wrapMv {outer:List Env}{o o':Own}{s s':Shared}{L g:Nat}(x:Mv G P (frs (cenv L :: outer)) o (s.setGen g .running) o' s') (hL:P (o.a L)) (nL:L ∉ frs outer) (hg:P (o.g g)):Mv G P (frs outer) o s o' s':=by
 refine Mv.of (wrap_ext x.ext) (fun b hb=>?_) (fun g' hg'=>?_) (agree_setGen x.ag) x.ok
 ·rcases (List.mem_cons.mp hb).imp_left Eq.symm with rfl | hb
  ·exact .inl ⟨hL,nL⟩
  ·refine xe0_3 (mem_fpOf.mp hb) fun _ h2 h3=>?_
   exact .inl ⟨h2,fun q=>h3 (by simp only [frs,List.filterMap_cons,show (cenv L).frame=some L from rfl];exact .tail _ q)⟩
 ·rcases (List.mem_cons.mp hg').imp_left Eq.symm with rfl | hg'
  ·exact .inl hg
  ·exact .inl (mem_gpOf.mp hg').2
theorem finMv {outer:List Env}{o o':Own}{s s':Shared}{L g:Nat}{h':Heap}{gs':GenState}{tk:Nat}{oL:Obj}(x:Mv G P (frs outer) o s o' s') (hL:P (o'.a L)) (nL:L ∉ frs outer) (hg:P (o'.g g)) (hs:Heap.SameBut L s'.heap h') (hL':h'.get? L=some oL) (hb:gs'.bare=true):Mv G P (frs outer) o s o' ({ s' with heap:=h',toks:=tk }.setGen g gs'):=by
 refine x.trans (Mv.of (fp:=[L]) (gp:=[g]) ((Ext.one (fr:=frs outer) (fp:=[L]) (gp:=[g]) hs zm0 ⟨_,hL'⟩).trans (Ext.setGen (fr:=frs outer) (fp:=[]) (gp:=[g]) (g:=g) (gs:=gs') zm0 hb) fn0 (fun _ h=>.inl h)) (fun b hb=>?_) (fun g' hg'=>?_) ⟨fun _ _ _=>rfl,fun _ _ _=>rfl⟩ x.ok)
 ·rw [List.mem_singleton.mp hb];exact .inl ⟨hL,nL⟩
 ·rw [List.mem_singleton.mp hg'];exact .inl hg
theorem finKp {M:Nat→Prop}{o:Own}{s:Shared}{L g:Nat}{h':Heap}{gs':GenState}{tk:Nat}(hL:¬ M (o.a L)∧o.a L≠1) (hg:¬ M (o.g g)) (hs:Heap.SameBut L s.heap h'):Kp M o s o ({ s with heap:=h',toks:=tk }.setGen g gs'):=by
 refine ⟨fun b ob e t=>⟨(hs.2 b fun q=>?_).trans e,rfl⟩,fun g' v e t=>⟨?_,rfl⟩⟩
 ·rw [q] at t;exact t.elim hL.1 hL.2
 ·have:g≠g':=fun q=>hg (q▸t)
  simp [Shared.setGen,Array.getElem?_setIfInBounds,this,e]
end
section
variable {G:Gr}{P M:Nat→Prop}{τ σ:Nat}{it0:Value}{V:List Value}{W:Type}{Gw:W→W→Nat→Prop}{B:W→Own→Shared→Prop}{I:Nat→W→Own→Shared→Nat→List Nat→Prop}{lr:Value}{late:List Value}{a:Nat}
 {A:Around}{outer:List Env}{d u:Nat}{s:Shared}{o:Own}{Q E:Value→Shared→Prop}
structure Tags (P M:Nat→Prop) (τ σ:Nat):Prop where
 t:5≤τ∧τ < 100
 ne:τ≠σ
 np:¬ P τ
 nm:¬ M τ
 ns:¬ M σ
theorem nTX:(nTwo=nX)=False:=by simp only [eq_iff_iff,iff_false];decide
theorem notFr {c:Cx G A outer d u s.heap}{a:Nat}{ob:Obj}{vs:Array Value}(e:s.heap.get? a=some ob) (hd:ob.data=.fields vs):a ∉ frs outer:=fun q=>by
 apply hide;intro _ kι;obtain ⟨_,o',e',h⟩:=frs_old c.ff a q;apply kι
 rw [e] at e';(replace e':=Eq.symm e';cases e');exact h _ hd
theorem late_turn (sp:ItSpec G P M σ it0 V Gw B I) (tg:Tags P M τ σ) {w:W}{o₃:Own}{s₃:Shared}{j g L y la:Nat}{T:String}{nm qn:Value}{m:Str→Option Value}{q:Pos}{A':Around}{d' u':Nat}
  (c:Cx G (gA A' L 3) (cenv L :: outer) d' u' s₃.heap) (c0:Cx G A outer d u s.heap) (f0:∀ b∈frs outer,o₃.a b=0) (M0:Mv G (fun t=>t=τ∨P t) (frs outer) o s o₃ s₃)
  (h1:s₃.heap.get? a=some (genObj g nm qn)) (hg:s₃.gens[g]?=some .running) (hn:s₃.heap.Ns L m) (hr:lr=.ref la) (sq:SeqAt s₃.heap la late T) (tl:o₃.a la=1∨∃ ob,G.base.get? la=some ob) (hy:s₃.heap.get? y=some (itObj T (.ref la) j)) (hj:j≤late.length)
  (t1:o₃.a a=τ) (t2:o₃.a L=τ) (t3:o₃.a y=σ) (t4:o₃.g g=τ) (n1:@Ne Nat a L) (hB:B w o₃ s₃) (hf:Gw w w V.length)
  (item:∀ z s' o',late[j]?=some z→Mv G (fun t=>t=τ∨P t) (frs outer) o s o' s'→B w o' s'→Rd G τ σ it0 V Gw I lr late a w o' s' (V.length+(j+1))→Q z s')
  (stop:j=late.length→∀ e s' o',Mv G (fun t=>t=τ∨P t) (frs outer) o s o' s'→B w o' s'→Rd G τ σ it0 V Gw I lr late a w o' s' (V.length+late.length)→Raw e s'.heap→s.heap.get? e=none→E (.ref e) s') :
  SegX (model PR G.w) A' (c2 L (.ref y)) (denote table (c2 L (.ref y))) [fr2 L q] s₃ (wokeP Q E g):=by
 have hτ:=tg.t
 have hσ:=sp.tau
 have nyL:@Ne Nat y L:=fun z=>by rw [z] at t3;exact tg.ne (t2.symm.trans t3)
 have nay:@Ne Nat a y:=fun z=>by rw [z] at t1;exact tg.ne (t1.symm.trans t3)
 have nfy:y ∉ frs outer:=fun z=>by have:=f0 y z;exact zq82 t3 hσ this
 have nfL:L ∉ frs outer:=fun z=>by have:=f0 L z;exact zq82 t2 hτ this
 refine xe2_3 (id sq) fun obl nl el hdl _=>?_
 have nly:@Ne Nat la y:=fun z=>by
  rcases tl with h | ⟨ob,e⟩
  ·rw [z] at h;exact zq144 t3 hσ h
  ·have:=M0.ok y (by exact zq38 t3 hσ);rw [z,this] at e;exact nsf e
 have nlL:@Ne Nat la L:=fun z=>by
  rcases tl with h | ⟨ob,e⟩
  ·rw [z] at h;exact zq144 t2 hτ h
  ·have:=M0.ok L (by exact zq38 t2 hτ);rw [z,this] at e;exact nsf e
 refine turn2 (pyNext_of ?_)
 rcases Nat.lt_or_ge j late.length with hlt | hge
 ·refine next_item sq.seqT hy el hdl (x:=late[j]) (by simp [hlt]) fun h' q1 q2=>?_
  have ns4:Heap.Ns h' L m:=ns_kept hn fun ob e=>(q2.2 L (fun z=>nyL z.symm)).trans e
  refine (wi1_2 m ns4 (fun h'' gs' hns hsb hin=>?_))
  refine xe3_2 (id hns) fun oL _ _ hoL _=>?_
  have M1:Mv G (fun t=>t=τ∨P t) (frs outer) o s o₃ { s₃ with heap:=h',toks:=s₃.toks }:=M0.trans (Mv.of (fp:=[y]) (gp:=[]) (Ext.one q2 zm0 ⟨_,q1⟩) (fun b hb=>by rw [List.mem_singleton.mp hb];exact .inl ⟨.inr (t3▸sp.pσ),nfy⟩) fn0 ⟨fun _ _ _=>rfl,fun _ _ _=>rfl⟩ M0.ok)
  have M2:=finMv (tk:=s₃.toks+1) M1 (L:=L) (g:=g) (.inl t2) nfL (.inl t4) hsb hoL (in2_bare hin)
  have K1:Kp M o₃ s₃ o₃ { s₃ with heap:=h',toks:=s₃.toks }:=⟨fun b ob e t=>⟨(q2.2 b fun z=>by rw [z,t3] at t;exact t.elim tg.ns (by exact zq145 hσ)).trans e,rfl⟩,fun _ _ e _=>⟨e,rfl⟩⟩
  have B1:=sp.bmono (sp.bmono hB K1) (finKp (tk:=s₃.toks+1) (gs':=gs') (M:=M) (L:=L) (g:=g) ⟨by rw [t2];exact tg.nm,by exact fun e=>zc hτ.1 rfl (t2.symm.trans e)⟩ (by rw [t4];exact tg.nm) hsb)
  have kk:∀ b,b≠L→b≠y→∀ ob,s₃.heap.get? b=some ob→h''.get? b=some ob:=fun b hb hb' ob e=>(hsb.2 b hb).trans ((q2.2 b hb').trans e)
  exact item _ _ o₃ (List.getElem?_eq_getElem hlt) M2 B1 (.two (kk a n1 nay _ h1) (setGen_get hg) hin hns hr (sq.kept (kk la nlL nly)) tl ((hsb.2 y nyL).trans q1) hlt t1 t2 t3 t4 n1 nyL nay hf)
 ·have he:j=late.length:=Nat.le_antisymm hj hge
  refine next_end sq.seqT c.hd hy el hdl (by simp [he]) fun h₁ h' e q1 q2 nx hz=>?_
  refine ⟨raw_stops (s:={ s₃ with heap:=h' }) (raw_of nx),fun h'' x hx hz'=>?_⟩
  have E1:Ext (frs outer) [y] [] s₃ { s₃ with heap:=h₁,toks:=s₃.toks }:=Ext.one q2 zm0 ⟨_,q1⟩
  have E2:Ext (frs outer) [y] [g] s₃ { ({ s₃ with heap:=h',toks:=s₃.toks }:Shared).setGen g .finished with heap:=h'' }:=(((E1.weak (fr':=frs outer) (fp'':=[y]) (gp'':=[g]) (fun b hb=>.inl hb) fn0 (fun b hb=>.inl hb)).trans (Ext.more (fr:=frs outer) (fp:=[]) (gp:=[]) (s:={ s₃ with heap:=h₁,toks:=s₃.toks }) (tk:=s₃.toks) nx.keeps) fn0 fn0).trans (Ext.setGen (fr:=frs outer) (fp:=[]) (gp:=[g]) (g:=g) (gs:=.finished) zm0 rfl) fn0 (fun _ h=>.inl h)).trans (Ext.more (fr:=frs outer) (fp:=[]) (gp:=[]) (tk:=s₃.toks) hx.keeps) fn0 fn0
  have M2:Mv G (fun t=>t=τ∨P t) (frs outer) o s o₃ _:=M0.trans (Mv.of E2 (fun b hb=>by rw [List.mem_singleton.mp hb];exact .inl ⟨.inr (t3▸sp.pσ),nfy⟩) (fun g' hg'=>by rw [List.mem_singleton.mp hg'];exact .inl (.inl t4)) ⟨fun _ _ _=>rfl,fun _ _ _=>rfl⟩ M0.ok)
  have kk:∀ b,b≠y→∀ ob,s₃.heap.get? b=some ob→h''.get? b=some ob:=fun b hb ob e=>hx.keeps _ _ (nx.keeps _ _ ((q2.2 b hb).trans e))
  have K2:Kp M o₃ s₃ o₃ { ({ s₃ with heap:=h',toks:=s₃.toks }:Shared).setGen g .finished with heap:=h'' }:=⟨fun b ob e t=>⟨kk b (fun z=>by rw [z,t3] at t;exact t.elim tg.ns (by exact zq145 hσ)) ob e,rfl⟩,fun g' v e t=>⟨by
   have:g≠g':=fun z=>tg.nm (by rw [← z,t4] at t;exact t)
   simp [Shared.setGen,Array.getElem?_setIfInBounds,this,e],rfl⟩⟩
  refine stop he x _ o₃ M2 (sp.bmono hB K2) (.done (kk a nay _ h1) (setGen_get hg) t1 t4 hf) (raw_of hx) ?_
  exact M0.ext.fresh (E1.fresh ((Ext.more (fr:=[]) (fp:=[]) (gp:=[]) (s:={ s₃ with heap:=h₁,toks:=s₃.toks }) (tk:=s₃.toks) nx.keeps).fresh hx.new))
theorem two_run (sp:ItSpec G P M σ it0 V Gw B I) (tg:Tags P M τ σ) {w:W}{o₂:Own}{s₂:Shared}{g L:Nat}{nm qn:Value}{m:Str→Option Value}{A':Around}{d' u':Nat}
  (c:Cx G (gA A' L 3) (cenv L :: outer) d' u' s₂.heap) (c0:Cx G A outer d u s.heap) (f0:∀ b∈frs outer,o₂.a b=0) (M0:Mv G (fun t=>t=τ∨P t) (frs outer) o s o₂ s₂)
  (h1:s₂.heap.get? a=some (genObj g nm qn)) (hg:s₂.gens[g]?=some .running) (hn:s₂.heap.Ns L m) (hm:m nTwo=some lr) (hl:LateAt G o₂ s₂.heap lr late)
  (t1:o₂.a a=τ) (t2:o₂.a L=τ) (t4:o₂.g g=τ) (n1:@Ne Nat a L) (hB:B w o₂ s₂) (hf:Gw w w V.length)
  (item:∀ z s' o',late[0]?=some z→Mv G (fun t=>t=τ∨P t) (frs outer) o s o' s'→B w o' s'→Rd G τ σ it0 V Gw I lr late a w o' s' (V.length+(0+1))→Q z s')
  (stop:0=late.length→∀ e s' o',Mv G (fun t=>t=τ∨P t) (frs outer) o s o' s'→B w o' s'→Rd G τ σ it0 V Gw I lr late a w o' s' (V.length+late.length)→Raw e s'.heap→s.heap.get? e=none→E (.ref e) s') :
  SegX (model PR G.w) A' (fc L) ((execs [For2] (cenv L)).wrap genK (genH (cenv L)) id id) [] s₂ (wokeP Q E g):=by
 refine xe2_3 hl fun la T hr sq tl=>?_
 have hσ:=sp.tau
 refine into2 hn hm ?_
 (replace hr:=Eq.symm hr;subst hr)
 have fy:s₂.heap.get? s₂.heap.objs.size=none:=Heap.get?_none_of_le (Nat.le_refl _)
 have kp:∀ b ob,s₂.heap.get? b=some ob→(s₂.heap.push (itObj T (.ref la) 0)).get? b=some ob:=fun b ob e=>Heap.get?_push_of_some _ e
 refine seq_pyIter sq fun q=>?_
 have ag:=Own.with_agree o₂ s₂ (fun b=>if b=s₂.heap.objs.size then σ else 0) (fun _=>0)
 have okk:=Own.with_ok (G:=G) (na:=fun b=>if b=s₂.heap.objs.size then σ else 0) (ng:=fun _=>0) M0.ok c.st
 have X:Ext (frs outer) [] [] s₂ { s₂ with heap:=s₂.heap.push (itObj T (.ref la) 0),toks:=s₂.toks }:=Ext.more kp
 have K:Kp M o₂ s₂ (o₂.with s₂ (fun b=>if b=s₂.heap.objs.size then σ else 0) (fun _=>0)) { s₂ with heap:=s₂.heap.push (itObj T (.ref la) 0),toks:=s₂.toks }:=⟨fun b ob e t=>⟨kp b ob e,ag.1 b ob e⟩,fun g v e t=>⟨e,ag.2 g v e⟩⟩
 refine xe3_2 (id hn) fun oL es ep eL rr=>?_
 refine xe2_2 (id sq) fun obl nl el _=>?_
 refine late_turn (A:=A) (d:=d) (u:=u) (s₃:={ s₂ with heap:=s₂.heap.push (itObj T (.ref la) 0) }) (o₃:=o₂.with s₂ (fun b=>if b=s₂.heap.objs.size then σ else 0) (fun _=>0)) (j:=0) sp tg (w:=w) (la:=la) (T:=T) (m:=m) (c.next (fp:=[]) (gp:=[]) (X.weak (fr':=frs (cenv L :: outer)) (fp'':=[]) (gp'':=[]) fn0 fn0 (fun b hb=>.inl (by simp only [frs,List.filterMap_cons,show (cenv L).frame=some L from rfl];exact .tail _ hb))) fn0 fn0) c0 (fun b hb=>?_) (M0.trans (Mv.of X fn0 fn0 ag okk))
  (kp _ _ h1) hg ⟨oL,es,ep,kp _ _ eL,rr⟩ rfl (sq.kept (kp la)) ?_ (Heap.get?_push_size _ rfl) (Nat.zero_le _) ((ag.1 _ _ h1).trans t1) ((ag.1 _ _ eL).trans t2) ((Own.with_new o₂ fy).trans (if_pos rfl)) ((ag.2 _ _ hg).trans t4) n1 (sp.bmono hB K) hf item stop
 ·have:=f0 b hb
  cases e:s₂.heap.get? b with
  | some ob=>rw [ag.1 b ob e];exact this
  | none =>
   apply hide;intro _ kι;obtain ⟨_,ob,e',_⟩:=frs_old c0.ff b hb;apply kι
   obtain ⟨ob',e''⟩:=M0.ext.there b ob e'
   rw [e] at e'';exact nsf e''
 ·rcases tl with h | h
  ·exact .inl ((ag.1 _ _ el).trans h)
  ·exact .inr h
theorem frs_self {L:Nat}{outer:List Env}:L∈frs (cenv L :: outer):=by simp only [frs,List.filterMap_cons,show (cenv L).frame=some L from rfl];exact .head _
theorem one_turn (sp:ItSpec G P M σ it0 V Gw B I) (tg:Tags P M τ σ) {w:W}{o₃:Own}{s₃:Shared}{p g L y:Nat}{obs:List Nat}{nm qn:Value}{m:Str→Option Value}{q:Pos}{A':Around}{d' u':Nat}
  (c:Cx G (gA A' L 3) (cenv L :: outer) (d'+50) (u'+140) s₃.heap) (c0:Cx G A outer d u s.heap) (f0:∀ b∈frs outer,o₃.a b=0) (M0:Mv G (fun t=>t=τ∨P t) (frs outer) o s o₃ s₃)
  (h1:s₃.heap.get? a=some (genObj g nm qn)) (hg:s₃.gens[g]?=some .running) (hn:s₃.heap.Ns L m) (hm:m nTwo=some lr) (hl:LateAt G o₃ s₃.heap lr late)
  (t1:o₃.a a=τ) (t2:o₃.a L=τ) (t4:o₃.g g=τ) (n1:@Ne Nat a L) (hB:B w o₃ s₃) (hi:I p w o₃ s₃ y obs) (nL:L ∉ obs) (na:a ∉ obs)
  (item:∀ z s' o' w',(V++late)[p]?=some z→Mv G (fun t=>t=τ∨P t) (frs outer) o s o' s'→Gw w w' (p+1)→B w' o' s'→Rd G τ σ it0 V Gw I lr late a w' o' s' (p+1)→Q z s')
  (stop:p=V.length+late.length→∀ e s' o' w',Mv G (fun t=>t=τ∨P t) (frs outer) o s o' s'→Gw w w' p→B w' o' s'→Rd G τ σ it0 V Gw I lr late a w' o' s' p→Raw e s'.heap→s.heap.get? e=none→E (.ref e) s') :
  SegX (model PR G.w) A' (c1 L (.ref y)) (denote table (c1 L (.ref y))) [fr1 L q] s₃ (wokeP Q E g):=by
 have hτ:=tg.t
 have hσ:=sp.tau
 have nfL:L ∉ frs outer:=fun z=>by have:=f0 L z;exact zq82 t2 hτ this
 have fo:FO o₃ (frs (cenv L :: outer)):=fun b hb=>by
  rcases (frs_cons rfl b hb).imp_left Eq.symm with rfl | hb
  ·exact .inr (t2▸hτ)
  ·exact .inl (f0 b hb)
 have nao:a ∉ frs (cenv L :: outer):=notFr (c:=c) h1 rfl
 have P1:¬ P 1:=fun h=>(sp.p0 1 h).2 rfl
 have nobs:∀ b∈obs,b ∉ frs (cenv L :: outer):=fun b hb z=>by
  have h5:=sp.itag hi b hb
  rcases (frs_cons rfl b z).imp_left Eq.symm with rfl | z
  ·exact nL hb
  ·have:=f0 b z;exact zq146 hσ h5 this
 have keep1:∀ {o':Own}{s':Shared},Mv G P (frs (cenv L :: outer)) o₃ s₃ o' s'→∀ b ob,s₃.heap.get? b=some ob→o₃.a b=1→s'.heap.get? b=some ob∧o'.a b=o₃.a b:=fun mv b ob e t=>mv.keep e (by rw [t];exact P1) (fun z=>by
  rcases (frs_cons rfl b z).imp_left Eq.symm with rfl | z
  ·exact zq147 hτ t t2
  ·have:=f0 b z;exact zq148 t this)
 have pop:∀ {o':Own}{s':Shared},Mv G P (frs (cenv L :: outer)) o₃ s₃ o' s'→Mv G (fun t=>t=τ∨P t) (frs outer) o s o' s':=fun mv=>M0.trans ((mv.up (P':=fun t=>t=τ∨P t) fun t h=>.inr h).pop rfl (.inl ⟨.inl t2,nfL⟩))
 refine turn1 (pyNext_of (sp.next (d:=d') (u:=u') c M0.ok fo hB hi nobs ?_ ?_))
 ·intro z s' o' w' hz mv gw hB' hi'
  have ns':=mv.ext.ns hn (fun q=>(mem_fpOf.mp q).2.2 frs_self)
  refine (wi1_2 m ns' (fun h' gs' hns hsb hin=>?_))
  refine xe3_2 (id hns) fun oL _ _ hoL _=>?_
  refine xe3_2 (id hn) fun oL3 _ _ eL3 _=>?_
  have tL:o'.a L=τ:=(mv.ag.1 _ _ eL3).trans t2
  have tg':o'.g g=τ:=(mv.ag.2 _ _ hg).trans t4
  have ka:=mv.keep h1 (by rw [t1];exact tg.np) nao
  have kg:=mv.gkeep hg (by rw [t4];exact tg.np)
  have c':=mv.cx c M0.ok (fun h=>(sp.p0 0 h).1 rfl)
  have M2:=finMv (tk:=s'.toks+1) (pop mv) (L:=L) (g:=g) (.inl tL) nfL (.inl tg') hsb hoL (in1_bare hin)
  have B2:=sp.bmono hB' (finKp (tk:=s'.toks+1) (gs':=gs') (M:=M) (L:=L) (g:=g) ⟨by rw [tL];exact tg.nm,by exact zq136 hτ tL⟩ (by rw [tg'];exact tg.nm) hsb)
  have hl':LateAt G o' h' lr late:=(hl.mono c.st c'.st (fun b ob e t=>keep1 mv b ob e t)).mono c'.st (fun b ob e=>by
   have e':=c'.st b ob e
   exact (hsb.2 b (fun z=>by have:=M0.ok L (by exact zq38 t2 hτ);rw [z,this] at e;exact nsf e)).trans e') (fun b ob e t=>⟨(hsb.2 b (fun z=>by rw [z,tL] at t;exact zc hτ.1 rfl t)).trans e,rfl⟩)
  refine item z _ o' w' ?_ M2 gw B2 (.one ((hsb.2 a n1).trans ka.1) (setGen_get kg.1) hin hns ((if_neg (by rw [nTX];exact fun h=>h)).trans hm) (ka.2.trans t1) tL tg' n1 hl' (sp.ikeep hi' fun b hb ob e=>⟨(hsb.2 b (fun z=>nL (z▸hb))).trans e,rfl⟩) nL na)
  rw [List.getElem?_append_left (List.getElem?_eq_some_iff.mp hz).1];exact hz
 ·intro hp e s' o' w' mv gw hB' stops
  refine ⟨stops,?_⟩
  refine xe3_2 (id hn) fun oL3 _ _ eL3 _=>?_
  have c':=mv.cx c M0.ok (fun h=>(sp.p0 0 h).1 rfl)
  have ka:=mv.keep h1 (by rw [t1];exact tg.np) nao
  have kg:=mv.gkeep hg (by rw [t4];exact tg.np)
  have g1:Gw w w' (p+1):=sp.gsat (by exact zq11 hp) (by exact zq65 hp) gw
  refine two_run (A:=A) (d:=d) (u:=u) sp tg c' c0 (fun b hb=>?_) (pop mv) ka.1 kg.1 (mv.ext.ns hn (fun q=>(mem_fpOf.mp q).2.2 frs_self)) hm (hl.mono c.st c'.st (fun b ob e t=>keep1 mv b ob e t)) (ka.2.trans t1) ((mv.ag.1 _ _ eL3).trans t2) (kg.2.trans t4) n1 hB' (sp.gfull gw (by exact zq11 hp)) ?_ ?_
  ·apply hide;intro _ kι;obtain ⟨_,ob,e',_⟩:=frs_old c0.ff b hb;apply kι
   obtain ⟨ob',e''⟩:=M0.ext.there b ob e'
   exact (mv.ag.1 b ob' e'').trans (f0 b hb)
  ·intro z s'' o'' hz M2 B2 R2
   refine item z s'' o'' w' ?_ M2 g1 B2 (by rw [hp];exact R2)
   rw [List.getElem?_append_right (by exact zq11 hp),show p - V.length=0 by exact (Eq.symm (Nat.eq_sub_of_add_eq' (id (Eq.symm hp))))];exact hz
  ·intro h0 e s'' o'' M2 B2 R2 raw fe
   refine stop (by exact zq149 hp h0) e s'' o'' w' M2 gw B2 ?_ raw fe
   have:p=V.length+late.length:=by exact zq149 hp h0
   rw [this];exact R2
theorem reader_next (sp:ItSpec G P M σ it0 V Gw B I) (tg:Tags P M τ σ) {w:W}{p:Nat}
  (c:Cx G A outer (d+52) (u+145) s.heap) (ok:OwnOk G o) (f0:∀ b∈frs outer,o.a b=0) (hB:B w o s) (rd:Rd G τ σ it0 V Gw I lr late a w o s p)
  (item:∀ z s' o' w',(V++late)[p]?=some z→Mv G (fun t=>t=τ∨P t) (frs outer) o s o' s'→Gw w w' (p+1)→B w' o' s'→Rd G τ σ it0 V Gw I lr late a w' o' s' (p+1)→Q z s')
  (stop:p=V.length+late.length→∀ e s' o' w',Mv G (fun t=>t=τ∨P t) (frs outer) o s o' s'→Gw w w' p→B w' o' s'→Rd G τ σ it0 V Gw I lr late a w' o' s' p→Raw e s'.heap→s.heap.get? e=none→E (.ref e) s') :
  NextIs PR G.w A (.ref a) Q E s:=by
 have hτ:=tg.t
 have hσ:=sp.tau
 have ag:Agree o o s:=⟨fun _ _ _=>rfl,fun _ _ _=>rfl⟩
 have setM:∀ {g:Nat},o.g g=τ→Mv G (fun t=>t=τ∨P t) (frs outer) o s o (s.setGen g .running):=fun {g} t=>Mv.of (fp:=[]) (gp:=[g]) (Ext.setGen zm0 rfl) fn0 (fun g' hg'=>by rw [List.mem_singleton.mp hg'];exact .inl (.inl t)) ag ok
 have setB:∀ {g:Nat},o.g g=τ→B w o (s.setGen g .running):=fun {g} t=>sp.bmono hB ⟨fun b ob e _=>⟨e,rfl⟩,fun g' v e t'=>⟨by
  have:g≠g':=fun z=>tg.nm (by rw [← z,t] at t';exact t')
  simp [Shared.setGen,Array.getElem?_setIfInBounds,this,e],rfl⟩⟩
 have cg:∀ {L:Nat}{m:Str→Option Value},s.heap.Ns L m→o.a L=τ→Cx G (gA A.in1 L 3) (cenv L :: outer) (d+50) (u+140) s.heap:=fun hn t=>Cx.less (Cx.gen (d:=d+51) (u:=u+141) (Cx.in1 (u:=u+144) c) hn (ok _ (by exact fun e=>zc hτ.1 rfl (t.symm.trans e)))) (by exact zq280) (by exact zq281)
 cases rd with
 | @fresh g L nm qn m h1 h2 hn ho hm t1 t2 t4 n1 hl =>
  refine gen_goes c.hd c.nolimit (by have:=c.dp;exact zq46 this) (isGen_of h1) h2 (.inl (yi3 rfl rfl rfl)) ?_
  refine into1 (s:=s.setGen g .running) hn ho ?_
  have fo:FO o (frs (cenv L :: outer)):=fun b hb=>by
   rcases (frs_cons rfl b hb).imp_left Eq.symm with rfl | hb
   ·exact .inr (t2▸hτ)
   ·exact .inl (f0 b hb)
  have nfL:L ∉ frs outer:=fun z=>by have:=f0 L z;exact zq146 hτ t2 this
  have nao:a ∉ frs (cenv L :: outer):=notFr (c:=cg hn t2) h1 rfl
  have P1:¬ P 1:=fun h=>(sp.p0 1 h).2 rfl
  have cL:=cg hn t2
  refine sp.iter (s:=s.setGen g .running) (d:=d) (u:=u) cL ok fo (setB t4) fun s' o' w' y obs mv gw hB' hi new=>?_
  intro q
  have c':=mv.cx cL ok (fun h=>(sp.p0 0 h).1 rfl)
  refine xe3_2 (id hn) fun oL3 _ _ eL3 _=>?_
  have ka:=mv.keep (s:=s.setGen g .running) h1 (by rw [t1];exact tg.np) nao
  have kg:=mv.gkeep (setGen_get h2) (by rw [t4];exact tg.np)
  have M0:Mv G (fun t=>t=τ∨P t) (frs outer) o s o' s':=wrapMv (mv.up fun t h=>.inr h) (.inl t2) nfL (.inl t4)
  refine one_turn (A:=A) (d:=d+52) (u:=u+145) (d':=d) (u':=u) sp tg c' c (fun b hb=>?_) M0 ka.1 kg.1 (mv.ext.ns (s:=s.setGen g .running) hn (fun q=>(mem_fpOf.mp q).2.2 frs_self)) hm (hl.mono cL.st c'.st fun b ob e t=>mv.keep (s:=s.setGen g .running) e (by rw [t];exact P1) (fun z=>by
   rcases (frs_cons rfl b z).imp_left Eq.symm with rfl | z
   ·exact zq147 hτ t t2
   ·have:=f0 b z;exact zq148 t this)) (ka.2.trans t1) ((mv.ag.1 _ _ eL3).trans t2) (kg.2.trans t4) n1 hB' hi (fun z=>by have e9:=new L z;change s.heap.get? L=none at e9;rw [eL3] at e9;exact nsf e9.symm) (fun z=>by have e9:=new a z;change s.heap.get? a=none at e9;rw [h1] at e9;exact nsf e9.symm) ?_ ?_
  ·apply hide;intro _ kι;obtain ⟨_,ob,e',_⟩:=frs_old c.ff b hb;apply kι
   exact (M0.ag.1 b ob e').trans (f0 b hb)
  ·intro z s'' o'' w'' hz M2 g2 B2 R2
   exact item z s'' o'' w'' hz M2 (by have:=sp.gtrans gw g2;simpa using this) B2 R2
  ·intro hp e s'' o'' w'' M2 g2 B2 R2 raw fe
   exact stop hp e s'' o'' w'' M2 (by have:=sp.gtrans gw g2;simpa using this) B2 R2 raw fe
 | @one _ g L y nm qn m gs obs h1 h2 h3 hn hm t1 t2 t4 n1 hl hi nL na =>
  (refine xe4_2 (id h3) ?_;rintro kk l p' q rfl hkk)
  refine gen_goes c.hd c.nolimit (by have:=c.dp;exact zq46 this) (isGen_of h1) h2 (.inr (xi4 kk l p' false ⟨rfl,rfl⟩)) (hkk _ _ _ ?_)
  exact one_turn (A:=A) (d:=d+52) (u:=u+145) (d':=d) (u':=u) (s₃:=s.setGen g .running) sp tg (cg hn t2) c f0 (setM t4) h1 (setGen_get h2) hn hm hl t1 t2 t4 n1 (setB t4) (sp.ikeep hi fun b hb ob e=>⟨e,rfl⟩) nL na item stop
 | @two j g L y la T nm qn m gs h1 h2 h3 hn hr sq tl hy hj t1 t2 t3 t4 n1 n2 n3 hf =>
  (refine xe4_2 (id h3) ?_;rintro kk l p' q rfl hkk)
  refine gen_goes c.hd c.nolimit (by have:=c.dp;exact zq46 this) (isGen_of h1) h2 (.inr (xi4 kk l p' false ⟨rfl,rfl⟩)) (hkk _ _ _ ?_)
  refine late_turn (A:=A) (d:=d+52) (u:=u+145) (s₃:=s.setGen g .running) sp tg (cg hn t2) c f0 (setM t4) h1 (setGen_get h2) hn hr sq tl hy hj t1 t2 t3 t4 n1 (setB t4) hf ?_ ?_
  ·intro z s' o' hz M2 B2 R2
   refine item z s' o' w ?_ M2 (sp.gsat (Nat.le_refl _) (by exact Nat.le_add_right _ (_+1)) hf) B2 R2
   rw [List.getElem?_append_right (by exact zq83),show V.length+j - V.length=j by exact (Nat.add_sub_self_left _ _)];exact hz
  ·intro hj' e s' o' M2 B2 R2 raw fe
   exact stop (by exact Nat.add_left_cancel_iff.mpr hj') e s' o' w M2 (sp.gsat (Nat.le_refl _) (by exact zq83) hf) B2 (by rw [hj'];exact R2) raw fe
 | @done g nm qn h1 h2 t1 t4 hf =>
  refine gen_ended c.hd (isGen_of h1) h2 fun h' e x hz=>?_
  have M1:Mv G (fun t=>t=τ∨P t) (frs outer) o s o { s with heap:=h',toks:=s.toks }:=Mv.of (fp:=[]) (gp:=[]) (Ext.more x.keeps) fn0 fn0 ag ok
  exact stop rfl e _ o w M1 (sp.gsat (Nat.le_refl _) (by exact zq83) hf) (sp.bmono hB ⟨fun b ob e _=>⟨x.keeps _ _ e,rfl⟩,fun g' v e t'=>⟨e,rfl⟩⟩) (.done (x.keeps _ _ h1) h2 t1 t4 hf) (raw_of x) x.new
end
noncomputable def cnt:Option VS→Nat
 | none=>0
 | some q=>q.m
noncomputable def GwF (n:Nat) (w w':Option VS) (c:Nat):Prop:=∃ q',w'=some q'∧q'.m=max (cnt w) (min c n)∧∀ q,w=some q→q'={ q with m:=q'.m }
noncomputable def IF (σ:Nat) (p:Nat) (w:Option VS) (o:Own) (s:Shared) (y:Nat) (obs:List Nat):Prop:=∃ q dy,w=some q∧obs=[y,dy]∧IsTee s.heap y dy (.ref q.r) q.S (p:Nat)∧p≤q.m∧o.a y=σ∧o.a dy=σ
theorem facSpec {G:Gr}{k:Nat}(hk:k=0∨k=1) {σ v dv f mm:Nat}{V:List Value}(hσ:5≤σ∧σ < 100):ItSpec G (RP σ k) (FM k) σ (.ref v) V (GwF V.length) (fun w o s=>Fac G k o s V v dv f mm w) (IF σ) where
 tau:=hσ
 p0:=fun t h=>by
  rcases h with h | h | h | h | h
  ·exact zq84 hσ h
  ·exact ⟨zc (zl h) rfl,zc (zl h) rfl⟩
  ·exact ⟨zc (zl h) rfl,zc (zl h) rfl⟩
  ·have:=sp_ok hk _ h;exact ⟨this.1,this.2.2.2⟩
  ·exact ⟨zn h.2 rfl,zn h.2 rfl⟩
 pσ:=.inl rfl
 mok:=fm_ok hk
 iter:=fun {A outer d u s o w Q E} c ok fo hB post=>by
  refine fac_iter (d:=d+30) (u:=u+80) hk c ok fo hB hσ fun s' o' q y dy M F' op ty t1 t2 f1 f2=>?_
  refine post s' o' (some q) y [y,dy] M ⟨q,rfl,?_,fun q0 e=>?_⟩ F' ⟨q,dy,rfl,rfl,ty,Nat.zero_le _,t1,t2⟩ (fq f1 (fq f2 fn0))
  ·cases w with
   | none=>rw [op.2 rfl];simp [cnt]
   | some q0=>rw [op.1 q0 rfl];simp [cnt]
  ·rw [op.1 q0 e]
 next:=fun {A outer d u s o w p y obs Q E} c ok fo hB hi nobs item stop=>by
  (refine xe2_6 hi ?_;rintro q dy rfl rfl ty hp t1 t2)
  refine tee_step (d:=d+5) (u:=u+10) hk c ok fo hB ty t1 t2 hσ (nobs y zm0) (nobs dy zm1) hp ?_ ?_
  ·intro z s' o' hz M F' ty' t1' t2'
   have hlt:=(List.getElem?_eq_some_iff.mp hz).1
   exact item z s' o' _ hz (M.up fun t h=>tp_rp h) ⟨_,rfl,(by show max q.m (p+1)=max q.m (min (p+1) V.length);exact congrArg (max _) (Nat.min_eq_left hlt).symm),fun q0 e=>by cases e;rfl⟩ F' ⟨_,dy,rfl,rfl,ty',(by show p+1≤max q.m (p+1);exact Nat.le_max_right _ (_+1)),t1',t2'⟩
  ·intro hpe e s' o' M F' ty' t1' t2' st _
   have hle:=(F'.opn q rfl).2.2.2.2.2.1
   exact stop hpe e s' o' (some q) (M.up fun t h=>tp_rp h) ⟨q,rfl,(by show q.m=max q.m (min p V.length);exact (Nat.max_eq_left (Nat.le_trans (Nat.min_le_left _ _) hp)).symm),fun q0 e=>by cases e;rfl⟩ F' st
 itag:=fun hi b hb=>by
  (refine xe2_6 hi ?_;rintro q dy rfl rfl ty hp t1 t2)
  simp only [List.mem_cons,List.not_mem_nil,or_false] at hb
  rcases hb with hb | hb <;> replace hb:=hb.symm <;> subst hb
  ·exact t1
  ·exact t2
 iex:=fun hi b hb=>by
  (refine hide fun Zq kZ=>?_;refine xe2_6 hi ?_;rintro q dy rfl rfl ⟨u1,_,_,_,_,_,_,_,u2⟩ hp t1 t2;all_goals (refine kZ ?_;clear kZ Zq))
  simp only [List.mem_cons,List.not_mem_nil,or_false] at hb
  rcases hb with hb | hb <;> replace hb:=hb.symm <;> subst hb
  ·exact ⟨_,u1⟩
  ·exact ⟨_,u2⟩
 ikeep:=fun hi k=>by
  (refine xe2_6 hi ?_;rintro q dy rfl rfl ty hp t1 t2)
  apply hide;intro _ kι;obtain ⟨u1,_,_,_,_,_,_,_,u2⟩:=id ty;apply kι
  exact ⟨q,dy,rfl,rfl,ty.kept (fun ob e=>(k _ zm0 ob e).1) (fun ob e=>(k _ zm1 ob e).1),hp,(k _ zm0 _ u1).2.trans t1,(k _ zm1 _ u2).2.trans t2⟩
 igrow:=fun hi g=>by
  (refine xe2_6 hi ?_;rintro q dy rfl rfl ty hp t1 t2)
  (refine xe1_3 g ?_;rintro q' rfl h1 h2)
  have e:=h2 q rfl
  refine ⟨q',dy,rfl,rfl,?_,?_,t1,t2⟩
  ·rw [e];exact ty
  ·simp only [cnt] at h1;exact Nat.le_trans hp (Nat.le_trans (Nat.le_max_left _ _) (Nat.le_of_eq h1.symm))
 bmono:=fun hB K=>hB.mono hk K
 gtrans:=fun {w w' w'' c c'} g1 g2=>by
  (refine xe1_3 g1 ?_;rintro q' rfl h1 h2)
  (refine xe1_3 g2 ?_;rintro q'' rfl h3 h4)
  refine ⟨q'',rfl,?_,fun q e=>?_⟩
  ·simp only [cnt] at h3;exact h3.trans ((congrArg (fun x=>max x (min _ _)) h1).trans ((Nat.max_assoc _ (min _ _) (min _ _)).trans (congrArg (max _) (Nat.min_max_distrib_right _ _ _).symm)))
  ·have e1:=h2 q e
   have e2:=h4 q' rfl
   rw [e2,e1]
 gsat:=fun {w w' c c'} h1 h2 g=>by
  (refine xe1_3 g ?_;rintro q' rfl h3 h4)
  exact ⟨q',rfl,by exact h3.trans (congrArg (max _) ((Nat.min_eq_right h1).trans (Nat.min_eq_right h2).symm)),h4⟩
 gfull:=fun {w w' c} g h=>by
  (refine xe1_3 g ?_;rintro q' rfl h3 h4)
  exact ⟨q',rfl,by simp only [cnt];exact (Nat.max_eq_left (Nat.le_trans (Nat.min_le_left _ _) (Nat.le_trans (Nat.le_min.2 ⟨h,Nat.le_refl _⟩) (Nat.le_trans (Nat.le_max_right _ _) (Nat.le_of_eq h3.symm))))).symm,fun q e=>by cases e;rfl⟩
 gstay:=fun {w w' c} g1 g2=>by
  (refine xe1_3 g1 ?_;rintro q' rfl h1 h2)
  (refine xe1_3 g2 ?_;rintro q'' rfl h3 h4)
  refine ⟨q'',rfl,?_,fun q e=>by cases e;rfl⟩
  simp only [cnt] at h1 h3 ⊢
  exact (Nat.max_eq_left (Nat.le_trans (Nat.le_trans (Nat.le_max_right _ _) (Nat.le_of_eq h1.symm)) (Nat.le_trans (Nat.le_max_left _ _) (Nat.le_of_eq h3.symm)))).symm
theorem seqv_iter {G:Gr}{A:Around}{outer:List Env}{d u:Nat}{s:Shared}{v dv q:Nat}{V:List Value}{T:String}{Q E:Value→Shared→Prop}
  (c:Cx G A outer (d+1) (u+3) s.heap) (sv:IsSeqV s.heap v dv q) (sq:SeqAt s.heap q V T) (ob:∀ a∈[v,dv],G.base.get? a=none)
  (post:∀ s' y,Ext [] [] [] s s'→s.heap.get? y=none→s'.heap.get? y=some (itObj T (.ref q) 0)→s'.gens=s.gens→Q (.ref y) s'):wpAny (model PR G.w) A (call (.ref 204) [.ref v]) Q E s:=by
 refine cx_open c ?_;clear c;intro ad ag au c
 apply hide;intro _ kι;obtain ⟨o1,i1,j1,o2⟩:=sv;apply kι
 have hb:∀ a∈v :: dv :: frs outer,G.base.get? a=none:=fq (ob _ zm0) (fq (ob _ zm1) (fun a ha=>(frs_old c.ff a ha).1))
 have X:=c.inK hb
 have T:=c.top hb
 refine wpAny_call (ent X c.nolimit (by k_is) (by k_is) (by have:=c.dp;dsimp only at this ⊢;exact zq2 this) (BindsTo.of_eq rfl) (locs rfl) ?_)
 intro h₁ F hk
 have hA:∀ z∈[(v,instObj 207 dv),(dv,seqObj (.ref q) i1 j1)],s.heap.get? z.1=some z.2:=fq o1 (fq o2 fn0)
 refine xe1_3 (ledger (fr:=frs outer) (hid:=v :: dv :: frs outer) hk hA rfl (fun a ha=>let ⟨_,o,ho,_⟩:=frs_old c.ff a ha;⟨o,ho⟩)) fun rest N rne hr=>?_
 simp only [List.cons_append,List.nil_append] at N
 have r1:=rne v zp0
 have r2:=rne dv zp1
 dsimp only
 k_steps
 refine biter_of (seq_pyIter (sq.kept fun ob e=>hk _ _ e) ?_)
 k_steps
 refine post _ _ (Ext.more fun b o e=>Heap.get?_push_of_some _ (hk b o e)) ?_ (Heap.get?_push_size _ rfl) rfl
 cases z:s.heap.get? h₁.objs.size with
 | none=>rfl
 | some o=>exact absurd (Heap.lt_size (hk _ _ z)) (Nat.lt_irrefl _)
structure SeqB (G:Gr) (o:Own) (s:Shared) (V:List Value) (v dv q:Nat) (T:String):Prop where
 sv:IsSeqV s.heap v dv q
 sq:SeqAt s.heap q V T
 tg:∀ b∈[v,dv,q],o.a b=1
theorem SeqB.mono {G:Gr}{o o':Own}{s s':Shared}{V:List Value}{v dv q:Nat}{T:String}(x:SeqB G o s V v dv q T) (k:∀ b ob,s.heap.get? b=some ob→o.a b=1→s'.heap.get? b=some ob∧o'.a b=o.a b):SeqB G o' s' V v dv q T:=by
 apply hide;intro _ kι;obtain ⟨⟨o1,i1,j1,o2⟩,sq,tg⟩:=x;apply kι
 refine xe2_2 (id sq) fun ob n e _=>?_
 have a1:=k _ _ o1 (tg v zm0);have a2:=k _ _ o2 (tg dv zm1);have a3:=k _ _ e (tg q zm2)
 exact ⟨⟨a1.1,i1,j1,a2.1⟩,sq.kept (fun ob e=>(k _ _ e (tg q zm2)).1),fq (a1.2.trans (tg v zm0)) (fq (a2.2.trans (tg dv zm1)) (fq (a3.2.trans (tg q zm2)) fn0))⟩
noncomputable def IS (σ n q:Nat) (T:String) (p:Nat) (_:Unit) (o:Own) (s:Shared) (y:Nat) (obs:List Nat):Prop:=obs=[y]∧o.a y=σ∧((s.heap.get? y=some (itObj T (.ref q) p)∧p≤n)∨∃ i,s.heap.get? y=some (itObj T .none i)∧p=n)
theorem seq_has {prog:Program}{w:World}{A:Around}{s:Shared}{y:Nat}{T:String}{ob:Obj}{Q:Option Value→Shared→Prop}{E:Value→Shared→Prop}(hT:SeqT T) (e:s.heap.get? y=some ob) (hc:ob.cls=.type T) (h:∀ v,Q (some v) s):wpAny (model prog w) A (specialOf (.ref y) (Str.ofString "__next__")) Q E s:=by
 rcases hT with rfl | rfl
 ·exact wpAny_specialOf (T:="list_iterator") ⟨_,e,hc⟩ slot_listiter_next.lookup (h _)
 ·exact wpAny_specialOf (T:="tuple_iterator") ⟨_,e,hc⟩ slot_tupleiter_next.lookup (h _)
theorem seqSpec {G:Gr}{σ v dv q:Nat}{V:List Value}{T:String}(hσ:5≤σ∧σ < 100) (hT:SeqT T):ItSpec G (·=σ) (fun _=>False) σ (.ref v) V (fun (_ _:Unit) _=>True) (fun _ o s=>SeqB G o s V v dv q T) (IS σ V.length q T) where
 tau:=hσ
 p0:=fun t h=>by exact zq84 hσ h
 pσ:=rfl
 mok:=fun t h=>h.elim
 iter:=fun {A outer d u s o w Q E} c ok fo hB post=>by
  apply hide;intro _ kι;obtain ⟨⟨o1,i1,j1,o2⟩,sq,tg⟩:=id hB;apply kι
  refine inst_iter (C:=207) (f:=204) (G.X.keeps c.st) o1 o2 (by k_is) (by k_is) ?_
  refine seqv_iter (G:=G) (d:=d+49) (u:=u+137) c hB.sv sq (fq (ok _ (by rw [tg v zm0];exact zq5)) (fq (ok _ (by rw [tg dv zm1];exact zq5)) fn0)) fun s' y x fy oy hg=>?_
  refine seq_has hT oy rfl fun _=>⟨rfl,?_⟩
  have ag:=Own.with_agree o s (fun b=>if b=y then σ else 0) (fun _=>0)
  have x':Ext (frs outer) [] [] s s':=x.weak fn0 fn0 fn0
  refine post s' _ () y [y] (Mv.of x' fn0 fn0 ag (Own.with_ok ok c.st)) trivial (hB.mono fun b ob e t=>⟨x.keep b ob e fnm fnm,ag.1 b ob e⟩) ⟨rfl,(Own.with_new o fy).trans (if_pos rfl),.inl ⟨oy,Nat.zero_le _⟩⟩ (fq fy fn0)
 next:=fun {A outer d u s o w p y obs Q E} c ok fo hB hi nobs item stop=>by
  (refine xe0_3 hi ?_;rintro rfl ty hy)
  obtain ⟨sv,sq,tg⟩:=id hB
  refine xe2_3 (id sq) fun ob n e hdl _=>?_
  have ag:Agree o o s:=⟨fun _ _ _=>rfl,fun _ _ _=>rfl⟩
  have nfy:=nobs y zm0
  have nqy:@Ne Nat q y:=fun z=>by have:=tg q zm2;rw [z] at this;exact zq150 hσ ty this
  have kb:∀ {h':Heap},Heap.SameBut y s.heap h'→∀ tk,SeqB G o { s with heap:=h',toks:=tk } V v dv q T:=fun hs tk=>hB.mono (s':={ s with heap:=_,toks:=tk }) fun b ob e t=>⟨(hs.2 b (fun z=>by rw [z] at t;exact zq150 hσ ty t)).trans e,rfl⟩
  rcases hy with ⟨hy,hp⟩ | ⟨i,hy,hp⟩
  ·rcases Nat.lt_or_ge p V.length with hlt | hge
   ·refine next_item hT hy e hdl (x:=V[p]) (by simp [hlt]) fun h' q1 q2=>?_
    exact item _ _ o () (List.getElem?_eq_getElem hlt) (Mv.of (fp:=[y]) (gp:=[]) (Ext.one (tk:=s.toks) q2 zm0 ⟨_,q1⟩) (fun b hb=>by rw [List.mem_singleton.mp hb];exact .inl ⟨ty,nfy⟩) fn0 ag ok) trivial (kb q2 s.toks) ⟨rfl,ty,.inl ⟨q1,hlt⟩⟩
   ·have he:p=V.length:=Nat.le_antisymm hp hge
    refine next_end hT c.hd hy e hdl (by simp [he]) fun h₁ h' ex q1 q2 nx hz=>?_
    have E1:Ext (frs outer) [y] [] s { s with heap:=h₁,toks:=s.toks }:=Ext.one q2 zm0 ⟨_,q1⟩
    have E2:Ext (frs outer) [y] [] s { s with heap:=h',toks:=s.toks }:=E1.trans (Ext.more (fr:=frs outer) (fp:=[]) (gp:=[]) (s:={ s with heap:=h₁,toks:=s.toks }) nx.keeps) fn0 fn0
    exact stop he ex _ o () (Mv.of E2 (fun b hb=>by rw [List.mem_singleton.mp hb];exact .inl ⟨ty,nfy⟩) fn0 ag ok) trivial ((kb q2 s.toks).mono (s':={ s with heap:=h',toks:=s.toks }) fun b ob e _=>⟨nx.keeps _ _ e,rfl⟩) (raw_stops (s:={ s with heap:=h' }) (raw_of nx))
  ·refine next_ended hT c.hd hy fun h' ex nx hz=>?_
   exact stop hp ex _ o () (Mv.of (fp:=[]) (gp:=[]) (Ext.more (tk:=s.toks) nx.keeps) fn0 fn0 ag ok) trivial (hB.mono (s':={ s with heap:=h',toks:=s.toks }) fun b ob e _=>⟨nx.keeps _ _ e,rfl⟩) (raw_stops (s:={ s with heap:=h' }) (raw_of nx))
 itag:=fun hi b hb=>by (refine xe0_3 hi ?_;rintro rfl ty hy);rw [List.mem_singleton.mp hb];exact ty
 iex:=fun hi b hb=>by
  (refine xe0_3 hi ?_;rintro rfl ty hy)
  rw [List.mem_singleton.mp hb]
  rcases hy with ⟨hy,hp⟩ | ⟨i,hy,hp⟩
  ·exact ⟨_,hy⟩
  ·exact ⟨_,hy⟩
 ikeep:=fun hi k=>by
  (refine xe0_3 hi ?_;rintro rfl ty hy)
  rcases hy with ⟨hy,hp⟩ | ⟨i,hy,hp⟩
  ·exact ⟨rfl,(k _ zm0 _ hy).2.trans ty,.inl ⟨(k _ zm0 _ hy).1,hp⟩⟩
  ·exact ⟨rfl,(k _ zm0 _ hy).2.trans ty,.inr ⟨i,(k _ zm0 _ hy).1,hp⟩⟩
 igrow:=fun hi _=>hi
 bmono:=fun hB K=>hB.mono fun b ob e t=>K.k b ob e (.inr t)
 gtrans:=fun _ _=>trivial
 gsat:=fun _ _ _=>trivial
 gfull:=fun _ _=>trivial
 gstay:=fun _ _=>trivial
end Mine
end
section
open PySem PySem.W PySem.W.X PyProof.Rows PySem.Calls PySem.Spec
namespace Mine
local macro_rules | `(tactic| walk_at "exec For Name Call cons nil")=>`(tactic| apply for_hold (fun _=>rfl))
theorem pick_upto {l:List Value}{k:Int}(h:0≤k):kms_pick l none (some k)=l.take k.toNat:=by
 unfold kms_pick
 simp only [kms_lo,kms_hi,List.drop_zero,Nat.sub_zero]
 rw [if_neg (by exact Int.not_lt_of_ge h)]
 exact kmk_take_min l k.toNat
noncomputable def mostOf (name:Int) (l:List (Int × Nat)) (m:Int):Int:=l.foldl (fun m p=>if p.1=name then max m (p.2:Int) else m) m
theorem any_beq (name:Int) (l:List Int):(l.any fun x=>x == name)=decide (name∈l):=by
 rw [Bool.eq_iff_iff];simp
theorem mostOf_succ {name:Int}{l:List (Int × Nat)}{m:Int}{i:Nat}{p:Int × Nat}(h:l[i]?=some p):mostOf name (l.take (i+1)) m=if p.1=name then max (mostOf name (l.take i) m) (p.2:Int) else mostOf name (l.take i) m:=by
 rw [List.take_succ,h]
 simp [mostOf,List.foldl_append]
theorem mostOf_ge {name:Int}(l:List (Int × Nat)):∀ m:Int,m≤mostOf name l m:=by
 induction l with
 | nil=>exact Int.le_refl
 | cons p r ih =>
  intro m
  refine Int.le_trans ?_ (ih _)
  show m≤if p.1=name then max m (p.2:Int) else m
  by_cases h:p.1=name
  ·rw [if_pos h];exact Int.le_max_left _ _
  ·rw [if_neg h];exact Int.le_refl _
theorem end_a {g:Heap}{L:Addr}{m:Str→Option Value}{x y:Str}{k k':Int}{t:Nat}{a o w0:Option Value}{news:List (Addr × Obj)}{s:Shared}{h':Heap}{tk:Nat}
  (F:Fr g L h' (fun z=>if z=y then some (.int k t) else if z=x then a else if z=y then o else if z=x then w0 else m z)) (N:News g L h' news) (hk:k=k'):TurnEnd g L m x y k' news s { s with heap:=h',toks:=tk }:=by
 subst hk
 refine ⟨h',tk,t,a,rfl,?_,N⟩
 have:(fun z=>if z=y then some (Value.int k t) else if z=x then a else if z=y then o else if z=x then w0 else m z)=(fun z=>if z=y then some (Value.int k t) else if z=x then a else m z):=by
  funext z
  by_cases q:z=y
  ·simp only [q,if_true]
  ·by_cases q':z=x
   ·simp only [q',if_true]
   ·simp only [q,q',if_false]
 rwa [this] at F
theorem end_b {g:Heap}{L:Addr}{m:Str→Option Value}{x y:Str}{k k':Int}{t:Nat}{a w0:Option Value}{news:List (Addr × Obj)}{s:Shared}{h':Heap}{tk:Nat}(hxy:x≠y)
  (F:Fr g L h' (fun z=>if z=x then a else if z=y then some (.int k t) else if z=x then w0 else m z)) (N:News g L h' news) (hk:k=k'):TurnEnd g L m x y k' news s { s with heap:=h',toks:=tk }:=by
 subst hk
 refine ⟨h',tk,t,a,rfl,?_,N⟩
 have:(fun z=>if z=x then a else if z=y then some (Value.int k t) else if z=x then w0 else m z)=(fun z=>if z=y then some (Value.int k t) else if z=x then a else m z):=by
  funext z
  by_cases q:z=y
  ·have:z≠x:=fun e=>hxy (e▸q)
   simp only [q,if_true];rw [if_neg (q▸this)]
  ·by_cases q':z=x
   ·simp only [q',if_true,if_neg hxy]
   ·simp only [q,q',if_false]
 rwa [this] at F
theorem needed_ {G:Gr}{A:Around}{outer:List Env}{d u:Nat}{s:Shared}{row wl gl al k1 k2 k3 k4:Nat}{name:Int}{tn:Nat}{rv wv gv av:List Value}{inner:List Addr}{ws az:List Int}{ps:List Nat}{Q E:Value→Shared→Prop}
  (c:Cx G A outer (d+1) (u+3) s.heap) (o1:s.heap.get? row=some (W.listOf rv.toArray k1)) (o2:s.heap.get? wl=some (W.listOf wv.toArray k2)) (o3:s.heap.get? gl=some (W.listOf gv.toArray k3)) (o4:s.heap.get? al=some (W.listOf av.toArray k4))
  (ob:∀ a∈[row,wl,gl,al],G.base.get? a=none) (hw:IntsAre wv ws) (hz:IntsAre av az) (hlg:gv.length < 1000) (hlr:rv.length < 1000) (hlw:wv.length=gv.length) (hlp:ps.length=gv.length) (hin:gv=inner.map Value.ref)
  (hg:∀ (i a p:Nat),inner[i]?=some a→ps[i]?=some p→G.base.get? a=none∧p < 1000∧∃ (its:List Value) (k:Nat),s.heap.get? a=some (W.listOf its.toArray k)∧its.length=p)
  (post:∀ s' l n,Ext [] [] [] s s'→s'.gens=s.gens→s.heap.get? l=none→s'.heap.get? l=some (W.listOf (rv.take (mostOf name (ws.zip ps) (if name∈az then 1 else 0)).toNat).toArray n)→Q (.ref l) s') :
  wpAny (model PR G.w) A (call (.ref 282) [.int name tn,.ref row,.ref wl,.ref gl,.ref al]) Q E s:=by
 have:=@on "sub"
 have:=@on "subscriptTail Name Slice ref ref"
 refine cx_open c ?_;clear c;intro ad ag au c
 have hbi:∀ a∈inner,G.base.get? a=none∧∃ o,s.heap.get? a=some o:=fun a ha=>by
  obtain ⟨i,hi,e⟩:=List.mem_iff_getElem.mp ha
  have hlt:i < ps.length:=by rw [hlp,hin,List.length_map];exact hi
  apply hide;intro _ kι;obtain ⟨h1,_,its,k,h2,_⟩:=hg i a ps[i] ((List.getElem?_eq_getElem hi).trans (congrArg some e)) (List.getElem?_eq_getElem hlt);apply kι
  exact ⟨h1,_,h2⟩
 have hb:∀ a∈row :: wl :: gl :: al :: (inner++frs outer),G.base.get? a=none:=fq (ob _ zm0) (fq (ob _ zm1) (fq (ob _ zm2) (fq (ob _ zm3) (fun a ha=>(List.mem_append.mp ha).elim (fun h=>(hbi a h).1) fun h=>(frs_old c.ff a h).1))))
 have X:=c.inK hb
 have T:=c.top hb
 refine wpAny_call (ent X c.nolimit (by k_is) (by k_is) (by have:=c.dp;dsimp only at this ⊢;exact zq2 this) (BindsTo.of_eq rfl) (locs rfl) ?_)
 intro h₁ F hk
 have hA:∀ q∈[(row,W.listOf rv.toArray k1),(wl,W.listOf wv.toArray k2),(gl,W.listOf gv.toArray k3),(al,W.listOf av.toArray k4)],s.heap.get? q.1=some q.2:=fq o1 (fq o2 (fq o3 (fq o4 fn0)))
 refine xe1_3 (ledger (fr:=inner++frs outer) (hid:=row :: wl :: gl :: al :: (inner++frs outer)) hk hA rfl (fun a ha=>(List.mem_append.mp ha).elim (fun h=>(hbi a h).2) fun h=>let ⟨_,o,ho,_⟩:=frs_old c.ff a h;⟨o,ho⟩)) fun rest N rne hr=>?_
 simp only [List.cons_append,List.nil_append] at N
 obtain ⟨kk,hsz⟩:∃ k,gv.toArray.size=k:=⟨_,rfl⟩
 have hlk:gv.length=kk:=by simpa using hsz
 have y1:kk < 2 ^ 62:=z1 hlg hlk rfl
 have y2:rv.length≤2 ^ 24:=za (Nat.le_of_lt hlr) rfl
 dsimp only
 k_steps
 any_goals repeat (refine kim_list (by k_asm) (by k_dflt k_mem) rfl rfl (by omega) (by omega) (by with_reducible assumption) ?_;k_steps)
 all_goals
  rename IsRange _ _ _ _ _ _ _ _=>rg1
  rename Fr _ _ _ _=>F1
  rename News _ _ _ _=>N1
  rename (List.any az _)=_=>hany
  rw [any_beq] at hany
  refine range_loop (x:=Str.ofString "which") (y:=Str.ofString "most") (n:=kk) rfl F1 N1 rg1 (by exact zq113 hlg hlk) rfl (by decide) (fun i=>mostOf name ((ws.zip ps).take i) (if name∈az then 1 else 0)) (by simpa [mostOf] using hany) ?turn ?done
  case turn =>
   intro i h tk t wt wv0 it hi fit F2 N2
   clear F1 N1 rg1
   obtain ⟨wq,hwq⟩:∃ x,ws[i]?=some x:=⟨_,List.getElem?_eq_getElem (by rw [← hw.length,hlw,hlk];exact hi)⟩
   have y3:=z3 hi hlk hlg rfl
   obtain ⟨tq,hvq⟩:=IntsAre.get hw i wq hwq
   obtain ⟨aq,haq⟩:∃ x,inner[i]?=some x:=⟨_,List.getElem?_eq_getElem (by rw [hin,List.length_map] at hlk;exact zq63 hlk hi)⟩
   obtain ⟨pq,hpq⟩:∃ x,ps[i]?=some x:=⟨_,List.getElem?_eq_getElem (by rw [hlp,hlk];exact hi)⟩
   apply hide;intro _ kι;obtain ⟨bq,lq,its,kq,oq,eq⟩:=hg i aq pq haq hpq;apply kι
   have hvq':wv[((i:Nat):Int).toNat]?=some (.int wq tq):=by rw [Int.toNat_natCast];exact hvq
   have hgq':gv[((i:Nat):Int).toNat]?=some (.ref aq):=by rw [Int.toNat_natCast,hin,List.getElem?_map,haq];rfl
   have hzq:(ws.zip ps)[i]?=some (wq,pq):=by rw [List.getElem?_zip_eq_some];exact ⟨hwq,hpq⟩
   have hm:aq∈row :: wl :: gl :: al :: (inner++frs outer):=by have:=List.mem_of_getElem? haq;simp [this]
   have hq:(aq,W.listOf its.toArray kq)∈(row,W.listOf rv.toArray k1) :: (wl,W.listOf wv.toArray k2) :: (gl,W.listOf gv.toArray k3) :: (al,W.listOf av.toArray k4) :: rest:=by
    rcases hr aq _ oq hm with h | h
    ·refine xe1_2 (List.mem_map.mp h) fun q hq e=>?_
     have:=hA q hq
     rw [e,oq] at this
     obtain ⟨q1,q2⟩:=q
     obtain rfl:q1=aq:=e
     obtain rfl:_=q2:=Option.some.inj this
     simp only [List.mem_cons,List.not_mem_nil,or_false] at hq ⊢
     rcases hq with h | h | h | h <;> simp [h]
    ·simp [h]
   have hq':=List.mem_cons_of_mem (it,rngObj (i+1) kk) hq
   obtain ⟨kz,hsq⟩:∃ k,its.toArray.size=k:=⟨_,rfl⟩
   have hsq':its.length=kz:=by simpa using hsq
   have y4:kz < 2 ^ 62:=z1 lq (eq.symm.trans hsq') rfl
   have e1:=mostOf_succ (name:=name) (m:=if name∈az then 1 else 0) hzq
   clear hvq hwq hr rne hA hq
   k_steps
   any_goals repeat (refine kim_list (by k_asm) (by k_dflt k_mem) rfl rfl (by omega) (by omega) (by with_reducible assumption) ?_;k_steps)
   ·rename Fr _ _ _ _=>F3
    rename News _ _ _ _=>N3
    refine end_a F3 N3 ?_
    show _=mostOf name ((ws.zip ps).take (i+1)) _
    rw [e1]
    simp only [if_true,gt_iff_lt]
    generalize mostOf name (List.take i (ws.zip ps)) (if name∈az then 1 else 0)=M
    have:(pq:Int)=(kz:Int):=congrArg Int.ofNat (eq.symm.trans hsq')
    rw [this]
    split <;> (first | exact (Int.max_eq_right (Int.le_of_lt (by assumption))).symm | exact (Int.max_eq_left (Int.not_lt.1 (by assumption))).symm)
   ·rename Fr _ _ _ _=>F3
    rename News _ _ _ _=>N3
    rename wq≠name=>hne
    refine end_b (by decide) F3 N3 ?_
    show _=mostOf name ((ws.zip ps).take (i+1)) _
    rw [e1,if_neg hne]
  case done =>
   intro h tk t wv0 F2 N2
   clear F1 N1 rg1
   have hM:=mostOf_ge (name:=name) ((ws.zip ps).take kk) (if name∈az then 1 else 0)
   have hM0:(0:Int)≤(if name∈az then 1 else 0):=by split <;> omega
   k_steps
   any_goals repeat (refine kms_slice_lit (by k_asm) (by k_asm) (News.isList (by k_asm) (by k_dflt k_mem)) (by kmk_part) (by kmk_part) rfl ?_ (by with_unfolding_all rfl) (by kmk_pure) (by simp only [List.size_toArray,sizeLine];omega);intro _ _ _ _ l1;(try k_lt l1);(try k_sweep);k_steps)
   any_goals repeat (refine kim_list (by k_asm) (by k_dflt k_mem) rfl rfl (by omega) (by omega) (by with_reducible assumption) ?_;k_steps)
   rename Fr _ _ _ _=>F3
   rename News _ _ _ _=>N3
   rename _ < _∧_=>l1
   have kA:=all_kept hr hA F3 N3 (fq (by k_mem) (fq (by k_mem) (fq (by k_mem) (fq (by k_mem) fn0)))) (fun q hq=>by k_mem)
   refine post _ _ 0 (ext_all (s₂:=s) kA (GE.refl [] s)) rfl (new_in N3 (by k_mem) hr (fq l1.1 (fq l1.2.1 (fq l1.2.2.1 (fq l1.2.2.2.1 fn0)))) l1.2.2.2.2) ((News.get N3 (by k_mem)).trans ?_)
   rw [pick_upto (by exact Int.le_trans hM0 hM),List.take_of_length_le (l:=ws.zip ps) (by rw [List.length_zip,← hw.length,hlw,hlp,hlk];exact Nat.min_le_right _ _)]
end Mine
end
section
open PySem PySem.W PySem.W.X PyProof.Rows PySem.Calls PySem.Spec
namespace Mine
local macro_rules | `(tactic| walk_at "exec For Name Name cons nil")=>`(tactic| apply for_hold (fun _=>rfl))
theorem for_first {prog:Program}{w:World}{A:Around}{s:Shared}{env:Env}{target:PySem.Expr}{it:Value}{body:List Stmt}{R:Result→Shared→Prop}(ht:∀ v,letOwnedTupleGo target it v=pure ())
  (h:wpAny (model prog w) A (pyNext it) (fun r s₁=>match r with
   | none=>R (.ok .next) s₁
   | some v=>wpAny (model prog w) A (assign target env v) (fun _ s₂=>wpAny (model prog w) A (execs body env) (fun f s₃=>match f with | .ret v=>R (.ok (.ret v)) s₃ | _=>False) (fun _ _=>False) s₂) (fun _ _=>False) s₁) (fun _ _=>False) s) :
  codeAny (model prog w) A (.forLoop target it body [] env) R s:=by
 refine codeAny_forLoop (I:=fun n s'=>n=0∧s'=s) (fun k s' hI=>?_) 0 ⟨rfl,rfl⟩ ht
 obtain ⟨rfl,rfl⟩:=hI
 refine wpAny_mono h (fun r s₁ hr=>?_) fun _ _ z=>z.elim
 cases r with
 | none=>exact wpAny_execs_nil hr
 | some v =>
  refine wpAny_mono hr (fun _ s₂ h2=>wpAny_mono h2 (fun f s₃ h3=>?_) fun _ _ z=>z.elim) fun _ _ z=>z.elim
  cases f with
  | next=>exact h3.elim
  | cont=>exact h3.elim
  | brk=>exact h3.elim
  | ret v=>exact h3
theorem frs_head {env:Env}{outer:List Env}{L:Nat}(he:env.frame=some L):L∈frs (env :: outer):=by simp only [frs,List.filterMap_cons,he];exact .head _
theorem frs_more {env:Env}{outer:List Env}{L b:Nat}(he:env.frame=some L) (h:b∈frs outer):b∈frs (env :: outer):=by simp only [frs,List.filterMap_cons,he];exact .tail _ h
theorem reset_kp {o:Own}{s s':Shared}{L:Nat}(h:∀ b ob,s.heap.get? b=some ob→b≠L→s'.heap.get? b=some ob) (hg:s'.gens=s.gens) (tL:o.a L=0) (M:Nat→Prop) (hM:¬ M 0):Kp M o s (o.reset s) s' :=
 ⟨fun b ob e t=>⟨h b ob e (fun q=>by rw [q,tL] at t;exact t.elim hM (by exact zq9)),(o.reset_agree s).1 b ob e⟩,fun g x e t=>⟨by rw [hg];exact e,(o.reset_agree s).2 g x e⟩⟩
theorem step_ {G:Gr}{A:Around}{outer:List Env}{d u:Nat}{s:Shared}{a:Nat}{oa:Obj}{P:Nat→Prop}{o:Own}{J1:Value→Own→Shared→Prop}{J2:Own→Shared→Prop}{Q E:Value→Shared→Prop}
  (c:Cx G A outer (d+1) (u+3) s.heap) (ok:OwnOk G o) (hP:¬ P 0) (ea:s.heap.get? a=some oa) (hit:∀ {A':Around}{s₁:Shared}{Q' E':Value→Shared→Prop},s₁.heap.get? a=some oa→Q' (.ref a) s₁→wpAny (model PR G.w) A' (pyIter (.ref a)) Q' E' s₁)
  (hnext:∀ A' env s₁,Cx G A' (env :: outer) d u s₁.heap→env.frame=some s.heap.objs.size→Ext [] [] [] s s₁→NextIs PR G.w A' (.ref a) (fun z s₂=>∃ o',Mv G P (frs (env :: outer)) (o.reset s) s₁ o' s₂∧J1 z o' s₂) (fun e s₂=>Stops e s₂∧∃ o',Mv G P (frs (env :: outer)) (o.reset s) s₁ o' s₂∧J2 o' s₂) s₁)
  (post1:∀ z o' s₂ s₃ l n,J1 z o' s₂→(∀ M:Nat→Prop,¬ M 0→Kp M o' s₂ (o'.reset s₂) s₃)→Mv G P (frs outer) o s (o'.reset s₂) s₃→s₂.heap.get? l=none→s₃.heap.get? l=some (W.listOf #[z] n)→Q (.ref l) s₃)
  (post2:∀ o' s₂ s₃ l n,J2 o' s₂→(∀ M:Nat→Prop,¬ M 0→Kp M o' s₂ (o'.reset s₂) s₃)→Mv G P (frs outer) o s (o'.reset s₂) s₃→s₂.heap.get? l=none→s₃.heap.get? l=some (W.listOf #[] n)→Q (.ref l) s₃) :
  wpAny (model PR G.w) A (call (.ref 275) [.ref a]) Q E s:=by
 refine cx_open c ?_;clear c;intro ad ag au c
 have sx0:∀ b∈fpOf P (o.reset s) s (frs outer),P (o.a b)∧b ∉ frs outer∧∃ ob,s.heap.get? b=some ob:=fun b hb=>by
  (refine xe0_3 (mem_fpOf.mp hb) ?_;rintro ⟨ob,e⟩ h2 h3)
  rw [(o.reset_agree s).1 b ob e] at h2
  exact (yi3 h2 h3 ⟨ob,e⟩)
 have hb:∀ b∈fpOf P (o.reset s) s (frs outer)++frs outer,G.base.get? b=none:=fun b hb=>(List.mem_append.mp hb).elim (fun h=>ok b fun q=>hP (q▸(sx0 b h).1)) fun h=>(frs_old c.ff b h).1
 have X:=c.inK hb
 have T:=c.top hb
 have nL:∀ b ob,s.heap.get? b=some ob→b≠s.heap.objs.size:=fun b ob e=>Nat.ne_of_lt (Heap.lt_size e)
 have fL:s.heap.get? s.heap.objs.size=none:=Heap.get?_none_of_le (Nat.le_refl _)
 refine wpAny_call (ent (fp:=fpOf P (o.reset s) s (frs outer)++frs outer) X c.nolimit (by k_is) (by k_is) (by have:=c.dp;dsimp only at this ⊢;exact zq2 this) (BindsTo.of_eq rfl) (locs rfl) ?_)
 intro h₁ F hk
 refine xe1_3 (ledger2 (g:=hideAll s.heap (fpOf P (o.reset s) s (frs outer)++frs outer)) (L:=s.heap.objs.size) (h:=h₁) (ex:=[]) fn0) fun rest N _ hr=>?_
 simp only [List.nil_append] at N
 have Fk:True→_:=fun _=>F
 clear hr
 have cin:=fun (env:Env) (q1:env.frame=some s.heap.objs.size) (q2:env.scope.kind=.function)=>Cx.inner (d:=d) (u:=u) (env:=env) c F hb (fun b hb=>let ⟨_,ob,ho,_⟩:=frs_old c.ff b hb;(wi1_2 ob ho ⟨ob.slots,hk _ _ ho⟩)) q1 q2
 dsimp only
 k_steps
 refine hit (hk _ _ ea) (for_first (fun _=>rfl) (pyNext_of (NextIs.mono (hnext _ _ _ (cin _ rfl rfl) rfl (Ext.more hk)) ?_ ?_)))
 ·intro z s₂ hz
  refine xe1_2 hz fun o' mv hJ=>?_
  refine wpAny_assign_Name ?_
  have F2:=fr_next (s₁:={ s with heap:=h₁,toks:=_ }) (Fk trivial) mv.ext (fun q=>(mem_fpOf.mp q).2.2 (frs_head rfl)) (fun b hb=>?hid) (fun b hb=>?frm)
  case hid =>
   refine xe0_3 (mem_fpOf.mp hb) fun _ h2 h3=>?_
   refine hideAll_none _ (List.mem_append_left _ (mem_fpOf.mpr (yi3 ?_ h2 (fun q=>h3 (frs_more rfl q)))))
   cases e:s.heap.get? b with
   | some ob=>exact ⟨ob,rfl⟩
   | none=>rw [Own.reset_new o e] at h2;exact absurd h2 hP
  case frm=>exact (frs_cons rfl b hb).imp id fun h=>hideAll_none _ (List.mem_append_right _ h)
  refine xe1_3 (ledger2 (g:=hideAll s.heap (fpOf P (o.reset s) s (frs outer)++frs outer)) (L:=s.heap.objs.size) (h:=s₂.heap) (ex:=[]) fn0) fun rest2 N2 _ hr2=>?_
  simp only [List.nil_append] at N2
  have F2k:True→_:=fun _=>F2
  refine xe3_2 ((Fk trivial).ns) fun oL1 _ _ hoL1 _=>?_
  have tL:o'.a s.heap.objs.size=0:=(mv.ag.1 _ _ hoL1).trans (Own.reset_new o fL)
  have E1:∀ tk,Ext (frs outer) (fpOf P o s (frs outer)) (gpOf P o s) s { s with heap:=h₁,toks:=tk }:=fun tk=>Ext.more hk
  have E2:=(E1 _).trans (mv.ext.weak (fr':=frs outer) (fp'':=s.heap.objs.size :: fpOf P (o.reset s) s (frs outer)) (gp'':=gpOf P (o.reset s) s) (fun b hb=>?w1) (fun g hg=>?w2) (fun b hb=>(frs_cons rfl b hb).elim (fun z=>.inr (.inl (z▸.head _))) .inl)) (fun b hb=>?w3) (fun g hg=>?w4)
  case w1 =>
   refine xe0_3 (mem_fpOf.mp hb) fun _ h2 h3=>?_
   refine .inl (.tail _ (mem_fpOf.mpr (yi3 ?_ h2 (fun q=>h3 (frs_more rfl q)))))
   cases e:s.heap.get? b with
   | some ob=>exact ⟨ob,rfl⟩
   | none=>rw [Own.reset_new o e] at h2;exact absurd h2 hP
  case w2=>exact .inl hg
  case w3 =>
   rcases (List.mem_cons.mp hb).imp_left Eq.symm with rfl | hb
   ·exact .inr fL
   ·refine xe0_3 (sx0 b hb) fun h1 h2 h3=>?_
    exact .inl (mem_fpOf.mpr (yi3 h3 h1 h2))
  case w4 =>
   obtain ⟨h1,h2⟩:=mem_gpOf.mp hg
   exact .inl (mem_gpOf.mpr ⟨h1,by rw [← (o.reset_agree s).2 g _ (Array.getElem?_eq_getElem h1)];exact h2⟩)
  have ag0:Agree o o' s:=Mv.agree_trans (Ext.more (fr:=[]) (fp:=[]) (gp:=[]) (s:=s) (h':=h₁) (tk:=_) hk) (o.reset_agree s) mv.ag
  k_steps
  rename Fr _ _ _ _=>F3
  rename News _ _ _ _=>N3
  rename_i l h3 l1
  have x23:=fun tk=>ext_led (fr:=frs outer) (fp:=[]) (tk:=tk) (F2k trivial) F3 N3 hr2 fn0 (fun q hq=>by k_mem)
  have E3:=fun tk=>E2.trans (x23 tk) (fun b hb=>by rw [List.mem_singleton.mp hb];exact .inr fL) fn0
  have ol:=News.get N3 (.head _)
  have fl:s₂.heap.get? l=none:=by
   cases e:s₂.heap.get? l with
   | none=>rfl
   | some ob =>
    rcases hr2 l ob e (N3 _ (.head _)).2.2 with h | h | h
    ·exact absurd h (N3 _ (.head _)).2.1
    ·exact nomatch h
    ·exact absurd (l1 _ h) (Nat.lt_irrefl _)
  have st2:G.base.StaysIn s₂.heap:=fun b ob e=>E2.keep b ob (c.st b ob e) (fun q=>by refine xe0_3 (mem_fpOf.mp q) fun _ h2 _=>?_;have:=ok b (fun z=>hP (z▸h2));rw [this] at e;cases e) (fun q=>by rw [(frs_old c.ff b q).1] at e;exact nsf e)
  have M3:=fun tk=>(⟨E3 tk,Mv.agree_trans E2 ag0 (o'.reset_agree s₂),Own.with_ok mv.ok st2⟩:Mv G P (frs outer) o s (o'.reset s₂) _)
  have K3:=fun tk=>reset_kp (s':={ s₂ with heap:=h3,toks:=tk }) (fun b ob e nb=>(ext_led (fr:=[]) (fp:=[]) (tk:=tk) (F2k trivial) F3 N3 hr2 fn0 (fun q hq=>by k_mem)).keep b ob e (by simpa using nb) fnm) rfl tL
  exact post1 z o' s₂ _ l _ hJ (K3 _) (M3 _) fl ol
 ·intro e s₂ he
  apply hide;intro _ kι;obtain ⟨st,o',mv,hJ⟩:=he;apply kι
  refine ⟨st,?_⟩
  have F2:=fr_next (s₁:={ s with heap:=h₁,toks:=_ }) (Fk trivial) mv.ext (fun q=>(mem_fpOf.mp q).2.2 (frs_head rfl)) (fun b hb=>?hid) (fun b hb=>?frm)
  case hid =>
   refine xe0_3 (mem_fpOf.mp hb) fun _ h2 h3=>?_
   refine hideAll_none _ (List.mem_append_left _ (mem_fpOf.mpr (yi3 ?_ h2 (fun q=>h3 (frs_more rfl q)))))
   cases e:s.heap.get? b with
   | some ob=>exact ⟨ob,rfl⟩
   | none=>rw [Own.reset_new o e] at h2;exact absurd h2 hP
  case frm=>exact (frs_cons rfl b hb).imp id fun h=>hideAll_none _ (List.mem_append_right _ h)
  refine xe1_3 (ledger2 (g:=hideAll s.heap (fpOf P (o.reset s) s (frs outer)++frs outer)) (L:=s.heap.objs.size) (h:=s₂.heap) (ex:=[]) fn0) fun rest2 N2 _ hr2=>?_
  simp only [List.nil_append] at N2
  have F2k:True→_:=fun _=>F2
  refine xe3_2 ((Fk trivial).ns) fun oL1 _ _ hoL1 _=>?_
  have tL:o'.a s.heap.objs.size=0:=(mv.ag.1 _ _ hoL1).trans (Own.reset_new o fL)
  have E1:∀ tk,Ext (frs outer) (fpOf P o s (frs outer)) (gpOf P o s) s { s with heap:=h₁,toks:=tk }:=fun tk=>Ext.more hk
  have E2:=(E1 _).trans (mv.ext.weak (fr':=frs outer) (fp'':=s.heap.objs.size :: fpOf P (o.reset s) s (frs outer)) (gp'':=gpOf P (o.reset s) s) (fun b hb=>?w1) (fun g hg=>?w2) (fun b hb=>(frs_cons rfl b hb).elim (fun z=>.inr (.inl (z▸.head _))) .inl)) (fun b hb=>?w3) (fun g hg=>?w4)
  case w1 =>
   refine xe0_3 (mem_fpOf.mp hb) fun _ h2 h3=>?_
   refine .inl (.tail _ (mem_fpOf.mpr (yi3 ?_ h2 (fun q=>h3 (frs_more rfl q)))))
   cases e:s.heap.get? b with
   | some ob=>exact ⟨ob,rfl⟩
   | none=>rw [Own.reset_new o e] at h2;exact absurd h2 hP
  case w2=>exact .inl hg
  case w3 =>
   rcases (List.mem_cons.mp hb).imp_left Eq.symm with rfl | hb
   ·exact .inr fL
   ·refine xe0_3 (sx0 b hb) fun h1 h2 h3=>?_
    exact .inl (mem_fpOf.mpr (yi3 h3 h1 h2))
  case w4 =>
   obtain ⟨h1,h2⟩:=mem_gpOf.mp hg
   exact .inl (mem_gpOf.mpr ⟨h1,by rw [← (o.reset_agree s).2 g _ (Array.getElem?_eq_getElem h1)];exact h2⟩)
  have ag0:Agree o o' s:=Mv.agree_trans (Ext.more (fr:=[]) (fp:=[]) (gp:=[]) (s:=s) (h':=h₁) (tk:=_) hk) (o.reset_agree s) mv.ag
  k_steps
  rename Fr _ _ _ _=>F3
  rename News _ _ _ _=>N3
  rename_i l h3 l1
  have x23:=fun tk=>ext_led (fr:=frs outer) (fp:=[]) (tk:=tk) (F2k trivial) F3 N3 hr2 fn0 (fun q hq=>by k_mem)
  have E3:=fun tk=>E2.trans (x23 tk) (fun b hb=>by rw [List.mem_singleton.mp hb];exact .inr fL) fn0
  have ol:=News.get N3 (.head _)
  have fl:s₂.heap.get? l=none:=by
   cases e:s₂.heap.get? l with
   | none=>rfl
   | some ob =>
    rcases hr2 l ob e (N3 _ (.head _)).2.2 with h | h | h
    ·exact absurd h (N3 _ (.head _)).2.1
    ·exact nomatch h
    ·exact absurd (l1 _ h) (Nat.lt_irrefl _)
  have st2:G.base.StaysIn s₂.heap:=fun b ob e=>E2.keep b ob (c.st b ob e) (fun q=>by refine xe0_3 (mem_fpOf.mp q) fun _ h2 _=>?_;have:=ok b (fun z=>hP (z▸h2));rw [this] at e;cases e) (fun q=>by rw [(frs_old c.ff b q).1] at e;exact nsf e)
  have M3:=fun tk=>(⟨E3 tk,Mv.agree_trans E2 ag0 (o'.reset_agree s₂),Own.with_ok mv.ok st2⟩:Mv G P (frs outer) o s (o'.reset s₂) _)
  have K3:=fun tk=>reset_kp (s':={ s₂ with heap:=h3,toks:=tk }) (fun b ob e nb=>(ext_led (fr:=[]) (fp:=[]) (tk:=tk) (F2k trivial) F3 N3 hr2 fn0 (fun q hq=>by k_mem)).keep b ob e (by simpa using nb) fnm) rfl tL
  exact post2 o' s₂ _ l _ hJ (K3 _) (M3 _) fl ol
end Mine
end
section
open PySem PySem.W PySem.W.X PyProof.Rows PySem.Calls PySem.Spec
namespace Mine
theorem Mv.leave {G:Gr}{P:Nat→Prop}{env:Env}{outer:List Env}{o o':Own}{s s':Shared}{h₁:Heap}{tk:Nat}(hP:¬ P 0) (hk₁:∀ b ob,s.heap.get? b=some ob→h₁.get? b=some ob) (mv:Mv G P (frs (env :: outer)) (o.reset s) { s with heap:=h₁,toks:=tk } o' s') (he:env.frame=some s.heap.objs.size):Mv G P (frs outer) o s o' s':=by
 have fL:s.heap.get? s.heap.objs.size=none:=Heap.get?_none_of_le (Nat.le_refl _)
 have E1:Ext (frs outer) (fpOf P o s (frs outer)) (gpOf P o s) s { s with heap:=h₁,toks:=tk }:=Ext.more hk₁
 refine ⟨E1.trans (mv.ext.weak (fr':=frs outer) (fp'':=s.heap.objs.size :: fpOf P (o.reset s) s (frs outer)) (gp'':=gpOf P (o.reset s) s) (fun b hb=>?_) (fun g hg=>.inl hg) (fun b hb=>(frs_cons he b hb).elim (fun z=>.inr (.inl (z▸.head _))) .inl)) (fun b hb=>?_) (fun g hg=>?_),Mv.agree_trans (Ext.more (fr:=[]) (fp:=[]) (gp:=[]) (s:=s) (h':=h₁) (tk:=tk) hk₁) (o.reset_agree s) mv.ag,mv.ok⟩
 ·refine xe0_3 (mem_fpOf.mp hb) fun _ h2 h3=>?_
  refine .inl (.tail _ (mem_fpOf.mpr (yi3 ?_ h2 (fun q=>h3 (frs_more he q)))))
  cases e:s.heap.get? b with
  | some ob=>exact ⟨ob,rfl⟩
  | none=>rw [Own.reset_new o e] at h2;exact absurd h2 hP
 ·rcases (List.mem_cons.mp hb).imp_left Eq.symm with rfl | hb
  ·exact .inr fL
  ·(refine xe0_3 (mem_fpOf.mp hb) ?_;rintro ⟨ob,e⟩ h2 h3)
   rw [(o.reset_agree s).1 b ob e] at h2
   exact .inl (mem_fpOf.mpr (yi3 ⟨ob,e⟩ h2 h3))
 ·obtain ⟨h1,h2⟩:=mem_gpOf.mp hg
  exact .inl (mem_gpOf.mpr ⟨h1,by rw [← (o.reset_agree s).2 g _ (Array.getElem?_eq_getElem h1)];exact h2⟩)
theorem Ext.skip {fr fp:List Addr}{gp:List Nat}{s s' s'':Shared}(x:Ext fr fp gp s s') (k1:∀ b ob,s'.heap.get? b=some ob→(∃ o0,s.heap.get? b=some o0)→b ∉ fr→s''.heap.get? b=some ob) (k2:∀ b ob,s'.heap.get? b=some ob→b∈fr→∃ sl,s''.heap.get? b=some { ob with slots:=sl }) (hg:s''.gens=s'.gens) (hd:s''.drawn=s'.drawn) (ho:s''.os=s'.os):Ext fr fp gp s s'':=by
 refine ⟨fun b o e hb hf=>k1 b o (x.keep b o e hb hf) ⟨o,e⟩ hf,fun b o e hb hf=>?_,fun b o e=>?_,fun g v e hn=>by rw [hg];exact x.gkeep g v e hn,by rw [hg];exact x.gsize,hd.trans x.drawn,ho.trans x.os,fun h=>by rw [hg];exact x.bare h⟩
 ·obtain ⟨sl,e1⟩:=x.slot b o e hb hf
  obtain ⟨sl',e2⟩:=k2 b _ e1 hf
  exact ⟨sl',e2⟩
 ·obtain ⟨o',e'⟩:=x.there b o e
  by_cases hf:b∈fr
  ·obtain ⟨sl,e2⟩:=k2 b _ e' hf;exact ⟨_,e2⟩
  ·exact ⟨_,k1 b _ e' ⟨o,e⟩ hf⟩
theorem caught {G:Gr}{A:Around}{outer:List Env}{env:Env}{d u:Nat}{s:Shared}{e T L:Nat}{oe oT:Obj}{vs ts:Array Value}{hs:List ExceptHandler}{Q:Flow→Shared→Prop}{E:Value→Shared→Prop}
  (c:Cx G A (env :: outer) d u s.heap) (hf:env.frame=some L) (he:s.heap.get? e=some oe) (hcl:oe.cls=.type "StopIteration") (hd:oe.data=.fields vs) (h1:vs[1]?=some (.ref T)) (hTe:T≠e) (hT:s.heap.get? T=some oT) (hdT:oT.data=.fields ts) (h3:ts[3]?=some .none)
  (h:∀ h',(∀ b ob,s.heap.get? b=some ob→b≠e→b≠T→b ∉ frs (env :: outer)→h'.get? b=some ob)→(∀ b ob,s.heap.get? b=some ob→b∈frs (env :: outer)→∃ sl,h'.get? b=some { ob with slots:=sl })→(∀ b ob,s.heap.get? b=some ob→b≠T→∃ ob',h'.get? b=some ob') →
   (∃ oe' vs' oT' T' ts',h'.get? e=some oe'∧oe'.cls=.type "StopIteration"∧oe'.data=.fields vs'∧vs'[1]?=some (.ref T')∧h'.get? T'=some oT'∧oT'.data=.fields ts'∧3 < ts'.size∧(T'=T∨s.heap.get? T'=none)∧T'≠e)→wpAny (model PR G.w) A (handleBy (.ref e) env hs) Q E { s with heap:=h' }) :
  wpAny (model PR G.w) A (noteFrame (.ref e) env) (fun _ s₂=>wpAny (model PR G.w) A (setFlight (.ref e) none) (fun _ s₃=>wpAny (model PR G.w) A (handleBy (.ref e) env hs) Q E s₃) E s₂) E s:=by
 have h0:vs[0]?=some vs[0]!:=by
  have:0 < vs.size:=Nat.lt_of_le_of_lt (Nat.zero_le _) (Array.getElem?_eq_some_iff.mp h1).1
  rw [Array.getElem?_eq_getElem this];simp [getElem!_pos,this]
 have hb:∀ a∈frs (env :: outer),(hideAll s.heap (e :: T :: frs (env :: outer))).get? a=none:=fun a ha=>hideAll_none _ (.tail _ (.tail _ ha))
 have nfr:∀ b ob vs,s.heap.get? b=some ob→ob.data=.fields vs→b ∉ frs (env :: outer):=fun b ob vs e0 hd0 q=>by
  apply hide;intro _ kι;obtain ⟨_,o',e',hn⟩:=frs_old c.ff b q;apply kι
  rw [e0] at e';(replace e':=Eq.symm e';cases e');exact hn _ hd0
 refine wpAny_noteFrame_onW (base:=hideAll s.heap (e :: T :: frs (env :: outer))) c.fr (funFrames_any c.ff hb) hf ⟨oe,vs,T,oT,ts,he,⟨hcl,h0⟩,hd,h1,hideAll_none _ zm1,hTe,hT,hdT,h3⟩ (fun b o z=>of_hideAll _ z) (hideAll_none _ (.head _)) fun h₁ N1=>?_
 refine xe0_4 N1 fun k1 k2 k3 k4=>?_
 refine wpAny_setFlight_noneW k1 k2 k3 fun h₂ m1 m2 m3 m4=>?_
 (refine xe5_9 m3 ?_;rintro oe' vs' T' oT' ts' a1 ⟨a2,_⟩ a3 a4 a5 a6 a7 a8 a9)
 refine h h₂ (fun b ob e0 n1 n2 n3=>m1 b ob (hideAll_get _ e0 (by simp only [List.mem_cons];rintro (z | z | z);exact n1 z;exact n2 z;exact n3 z))) (fun b ob e0 hb0=>?_) (fun b ob e0 nT=>?_) (xi5 oe' vs' oT' T' ts' (yi9 a1 a2 a3 a4 a7 a8 ((Array.getElem?_eq_some_iff.mp a9).1) ?_ a6))
 ·apply hide;intro _ kι;obtain ⟨_,o',e',hn⟩:=frs_old c.ff b hb0;apply kι
  rw [e0] at e';(replace e':=Eq.symm e';cases e')
  obtain ⟨sl,e2⟩:=k4 b ob e0 hn
  exact ⟨sl,m4 b _ e2 hn⟩
 ·by_cases q:b∈e :: T :: frs (env :: outer)
  ·rcases (List.mem_cons.mp q).imp_left Eq.symm with rfl | q
   ·exact ⟨_,a1⟩
   ·rcases (List.mem_cons.mp q).imp_left Eq.symm with rfl | q
    ·exact absurd rfl nT
    ·apply hide;intro _ kι;obtain ⟨_,o',e',hn⟩:=frs_old c.ff b q;apply kι
     rw [e0] at e';(replace e':=Eq.symm e';cases e')
     obtain ⟨sl,e2⟩:=k4 b ob e0 hn
     exact ⟨_,m4 b _ e2 hn⟩
  ·exact ⟨_,m1 b ob (hideAll_get _ e0 q)⟩
 ·by_cases q:T'∈e :: T :: frs (env :: outer)
  ·rcases List.mem_cons.mp q with q | q
   ·exact absurd q a6
   ·rcases List.mem_cons.mp q with q | q
    ·exact .inl q
    ·exfalso
     apply hide;intro _ kι;obtain ⟨_,o',e',hn⟩:=frs_old c.ff T' q;apply kι
     obtain ⟨sl,e2⟩:=k4 T' o' e' hn
     have:=m4 T' _ e2 hn
     rw [a7] at this;(replace this:=Eq.symm this;cases this);exact hn _ a8
  ·refine .inr ?_
   cases e9:s.heap.get? T' with
   | none=>rfl
   | some ob=>rw [hideAll_get _ e9 q] at a5;exact nsf a5.symm
theorem fac_bool {G:Gr}{A:Around}{outer:List Env}{d u:Nat}{s:Shared}{k:Nat}(hk:k=0∨k=1) {o:Own}{V:List Value}{v dv f mm:Nat}{w:Option VS}{Q E:Value→Shared→Prop}
  (c:Cx G A outer (d+52) (u+145) s.heap) (ok:OwnOk G o) (f0:∀ b∈frs outer,o.a b=0) (hF:Fac G k o s V v dv f mm w)
  (post:∀ s' o' w',Mv G (RP 99 k) (frs outer) o s o' s'→Fac G k o' s' V v dv f mm w'→GwF V.length w w' 1→Q (.bool (decide (V≠[]))) s'):wpAny (model PR G.w) A (call (.ref 155) [.ref v]) Q E s:=by
 refine cx_open c ?_;clear c;intro ad ag au c
 have sp:=facSpec (G:=G) hk (σ:=99) (v:=v) (dv:=dv) (f:=f) (mm:=mm) (V:=V) (by exact zq160)
 have hP:¬ RP 99 k 0:=fun h=>(sp.p0 0 h).1 rfl
 have sx0:∀ b∈fpOf (RP 99 k) (o.reset s) s (frs outer),RP 99 k (o.a b)∧b ∉ frs outer∧∃ ob,s.heap.get? b=some ob:=fun b hb=>by
  (refine xe0_3 (mem_fpOf.mp hb) ?_;rintro ⟨ob,e⟩ h2 h3)
  rw [(o.reset_agree s).1 b ob e] at h2
  exact (yi3 h2 h3 ⟨ob,e⟩)
 have hb:∀ b∈fpOf (RP 99 k) (o.reset s) s (frs outer)++frs outer,G.base.get? b=none:=fun b hb=>(List.mem_append.mp hb).elim (fun h=>ok b fun q=>hP (q▸(sx0 b h).1)) fun h=>(frs_old c.ff b h).1
 have X:=c.inK hb
 have T:=c.top hb
 have nL:∀ b ob,s.heap.get? b=some ob→b≠s.heap.objs.size:=fun b ob e=>Nat.ne_of_lt (Heap.lt_size e)
 have fL:s.heap.get? s.heap.objs.size=none:=Heap.get?_none_of_le (Nat.le_refl _)
 refine wpAny_call (ent (fp:=fpOf (RP 99 k) (o.reset s) s (frs outer)++frs outer) X c.nolimit (by k_is) (by k_is) (by have:=c.dp;dsimp only at this ⊢;exact zq46 this) (BindsTo.of_eq rfl) (locs rfl) ?_)
 intro h₁ F hk₁
 refine xe1_3 (ledger2 (g:=hideAll s.heap (fpOf (RP 99 k) (o.reset s) s (frs outer)++frs outer)) (L:=s.heap.objs.size) (h:=h₁) (ex:=[]) fn0) fun rest N _ hr=>?_
 simp only [List.nil_append] at N
 have Fk:True→_:=fun _=>F
 clear hr
 have cin:=fun (env:Env) (q1:env.frame=some s.heap.objs.size) (q2:env.scope.kind=.function)=>Cx.inner (d:=d+51) (u:=u+142) (env:=env) c F hb (fun b hb=>let ⟨_,ob,ho,_⟩:=frs_old c.ff b hb;(wi1_2 ob ho ⟨ob.slots,hk₁ _ _ ho⟩)) q1 q2
 dsimp only
 k_steps
 have agr:=o.reset_agree s
 have okr:OwnOk G (o.reset s):=Own.with_ok ok c.st
 have fr0:∀ {env:Env},env.frame=some s.heap.objs.size→∀ b∈frs (env :: outer),(o.reset s).a b=0:=fun {env} he b hb=>by
  rcases (frs_cons he b hb).imp_left Eq.symm with rfl | hb
  ·exact Own.reset_new o fL
  ·apply hide;intro _ kι;obtain ⟨_,ob,e,_⟩:=frs_old c.ff b hb;apply kι
   rw [agr.1 b ob e];exact f0 b hb
 have B1:∀ tk,Fac G k (o.reset s) { s with heap:=h₁,toks:=tk } V v dv f mm w:=fun tk=>hF.mono hk ⟨fun b ob e _=>⟨hk₁ b ob e,agr.1 b ob e⟩,fun g x e _=>⟨e,agr.2 g x e⟩⟩
 refine biter_of (sp.iter (d:=d+1) (u:=u+1) ((Cx.in1 (u:=u+141) (cin _ rfl rfl)).less (by exact zq312) (by exact Nat.le_refl (_+1+140))) okr (fun b hb=>.inl (fr0 rfl b hb)) (B1 _) ?_)
 intro s₂ o₂ w₂ y obs mv gw B2 hi new
 have F2:=fr_next (s₁:={ s with heap:=h₁,toks:=_ }) (Fk trivial) mv.ext (fun q=>(mem_fpOf.mp q).2.2 (frs_head rfl)) (fun b hb=>?hid) (fun b hb=>?frm)
 case hid =>
  refine xe0_3 (mem_fpOf.mp hb) fun _ h2 h3=>?_
  refine hideAll_none _ (List.mem_append_left _ (mem_fpOf.mpr (yi3 ?_ h2 (fun q=>h3 (frs_more rfl q)))))
  cases e:s.heap.get? b with
  | some ob=>exact ⟨ob,rfl⟩
  | none=>rw [Own.reset_new o e] at h2;exact absurd h2 hP
 case frm=>exact (frs_cons rfl b hb).imp id fun h=>hideAll_none _ (List.mem_append_right _ h)
 refine xe1_3 (ledger2 (g:=hideAll s.heap (fpOf (RP 99 k) (o.reset s) s (frs outer)++frs outer)) (L:=s.heap.objs.size) (h:=s₂.heap) (ex:=[]) fn0) fun rest2 N2 _ hr2=>?_
 simp only [List.nil_append] at N2
 have F2k:True→_:=fun _=>F2
 k_steps
 (refine xe2_6 hi ?_;rintro q dy rfl rfl ty _ t1 t2)
 have c2:∀ {tk:Nat}(env:Env),env.frame=some s.heap.objs.size→env.scope.kind=.function→Mv G (RP 99 k) (frs (env :: outer)) (o.reset s) { s with heap:=h₁,toks:=tk } o₂ s₂→Cx G (Around.deeper { handled:=none,depth:=ad,frames:=some outer,guards:=ag,units:=au } env) (env :: outer) (d+51) (u+142) s₂.heap:=fun env q1 q2 mv'=>mv'.cx (cin env q1 q2) okr hP
 have fr2:∀ {env:Env}{tk:Nat}(q1:env.frame=some s.heap.objs.size) (q2:env.scope.kind=.function),Mv G (RP 99 k) (frs (env :: outer)) (o.reset s) { s with heap:=h₁,toks:=tk } o₂ s₂→∀ b∈frs (env :: outer),o₂.a b=0:=fun {env tk} q1 q2 mv' b hb=>by
  apply hide;intro _ kι;obtain ⟨_,ob,e,_⟩:=frs_old (Cx.ff (cin env q1 q2)) b hb;apply kι
  exact (mv'.ag.1 b ob e).trans (fr0 q1 b hb)
 refine bnext_of (fun hv=>tee_has (G:=G) (G.X.keeps (c2 _ rfl rfl mv).st) ty hv) (tee_step (d:=d+6) (u:=u+11) hk ((Cx.in1 (u:=u+141) (c2 _ rfl rfl mv)).less (by exact Nat.le_refl (_+6+45)) (by exact zq315)) mv.ok (fun b hb=>.inl (fr2 rfl rfl mv b hb)) B2 ty t1 t2 (by exact zq160) (fun z=>?ny) (fun z=>?ndy) (Nat.zero_le _) ?item ?stop)
 case ny=>have:=fr2 rfl rfl mv y z;exact zq161 t1 this
 case ndy=>have:=fr2 rfl rfl mv dy z;exact zq161 t2 this
 all_goals
  have aS:Agree o o₂ s:=(mv.leave hP hk₁ rfl).ag
  have hidR:∀ b,RP 99 k (o₂.a b)→b ∉ frs outer→(hideAll s.heap (fpOf (RP 99 k) (o.reset s) s (frs outer)++frs outer)).get? b=none:=fun b h2 h3=>by
   cases e:s.heap.get? b with
   | some ob=>exact hideAll_none _ (List.mem_append_left _ (mem_fpOf.mpr (yi3 ⟨ob,e⟩ (by rw [agr.1 b ob e,← aS.1 b ob e];exact h2) h3)))
   | none =>
    cases q:(hideAll s.heap (fpOf (RP 99 k) (o.reset s) s (frs outer)++frs outer)).get? b with
    | none=>rfl
    | some ob=>rw [of_hideAll _ q] at e;exact nsf e.symm
 case item =>
  intro z s₃ o₃ hz M3 B3 ty3 _ _
  have F3:=fr_next (F2k trivial) M3.ext (fun q=>(mem_fpOf.mp q).2.2 (frs_head rfl)) (fun b hb=>by
   refine xe0_3 (mem_fpOf.mp hb) fun _ h2 h3=>?_
   exact hidR b (tp_rp h2) (fun q=>h3 (frs_more rfl q))) (fun b hb=>(frs_cons rfl b hb).imp id fun h=>hideAll_none _ (List.mem_append_right _ h))
  refine xe1_3 (ledger2 (g:=hideAll s.heap (fpOf (RP 99 k) (o.reset s) s (frs outer)++frs outer)) (L:=s.heap.objs.size) (h:=s₃.heap) (ex:=[]) fn0) fun rest3 N3 _ hr3=>?_
  simp only [List.nil_append] at N3
  have hV:decide (V≠[])=true:=by
   have:=(List.getElem?_eq_some_iff.mp hz).1
   cases V with
   | nil=>exact absurd this (by simp)
   | cons=>rfl
  have P3:=post s₃ o₃ _ ((mv.trans (M3.up fun t h=>tp_rp h)).leave hP hk₁ rfl) B3 (by
   have g1:=sp.gtrans gw (⟨_,rfl,(by show max q.m (0+1)=max q.m (min (0+1) V.length);have:=(List.getElem?_eq_some_iff.mp hz).1;exact congrArg (max _) (Nat.min_eq_left this).symm),fun q0 e=>by cases e;rfl⟩:GwF V.length (some q) (some { q with m:=max q.m (0+1) }) 1)
   simpa using g1)
  rw [hV] at P3
  k_steps
  exact P3
 case stop =>
  intro hp e s₃ o₃ M3 B3 ty3 _ _ st trc
  apply hide;intro _ kι;obtain ⟨oe,vs,T,oT,ts,a1,a2,a3,a4,a5,a6,a7,a8,a9,a10,a11,a12⟩:=trc;apply kι
  have c3:=M3.cx (c2 _ rfl rfl mv) mv.ok (fun h=>hP (tp_rp h))
  have F3:=fr_next (F2k trivial) M3.ext (fun q=>(mem_fpOf.mp q).2.2 (frs_head rfl)) (fun b hb=>by
   refine xe0_3 (mem_fpOf.mp hb) fun _ h2 h3=>?_
   exact hidR b (tp_rp h2) (fun q=>h3 (frs_more rfl q))) (fun b hb=>(frs_cons rfl b hb).imp id fun h=>hideAll_none _ (List.mem_append_right _ h))
  have Mt:=(mv.trans (M3.up fun t h=>tp_rp h)).leave hP hk₁ rfl
  have fe:s.heap.get? e=none:=(mv.leave hP hk₁ rfl).ext.fresh a10
  have fT:s.heap.get? T=none:=(mv.leave hP hk₁ rfl).ext.fresh a9
  have gn:∀ b,s.heap.get? b=none→(hideAll s.heap (fpOf (RP 99 k) (o.reset s) s (frs outer)++frs outer)).get? b=none:=fun b e0=>by
   cases q:(hideAll s.heap (fpOf (RP 99 k) (o.reset s) s (frs outer)++frs outer)).get? b with
   | none=>rfl
   | some ob=>rw [of_hideAll _ q] at e0;exact nsf e0.symm
  have hV:V=[]:=List.eq_nil_of_length_eq_zero hp.symm
  refine caught c3 rfl a1 a2 a3 a4 a5 a6 a7 a8 ?_
  intro h4 k1 k2 k3 k4
  refine xe5_9 k4 fun oe' vs' oT' T' ts' b1 b2 b3 b4 b5 b6 b7 b8 b9=>?_
  have gT':(hideAll s.heap (fpOf (RP 99 k) (o.reset s) s (frs outer)++frs outer)).get? T'=none∧T'≠s.heap.objs.size∧s.heap.get? T'=none:=by
   have f9:s.heap.get? T'=none:=by
    rcases b8 with z | z
    ·rw [z];exact fT
    ·exact Mt.ext.fresh z
   refine (yi3 (gn _ f9) (fun z=>?_) f9)
   refine xe3_3 F3.ns fun oL es ep hL hdL _=>?_
   obtain ⟨sl,e9⟩:=k2 _ _ hL (frs_head rfl)
   rw [← z,b5] at e9;(replace e9:=Eq.symm e9;cases e9)
   change oL.data=_ at b6
   rw [hdL] at b6;(replace b6:=Eq.symm b6;cases b6)
  have F4:Fr (hideAll s.heap (fpOf (RP 99 k) (o.reset s) s (frs outer)++frs outer)) s.heap.objs.size h4 _:=⟨by
    refine xe3_4 F3.ns fun oL es ep hL hdL r1 r2=>?_
    obtain ⟨sl,e9⟩:=k2 _ _ hL (frs_head rfl)
    exact ⟨_,es,ep,e9,hdL,r1,r2⟩,fun b ob eb=>k1 b ob (F3.keep b ob eb) (fun z=>by rw [z,gn _ fe] at eb;exact nsf eb) (fun z=>by rw [z,gn _ fT] at eb;exact nsf eb) (fun z=>by
     rcases frs_cons rfl b z with z | z
     ·have:=Heap.lt_size eb;rw [hideAll_size,z] at this;exact absurd this (Nat.lt_irrefl _)
     ·rw [hideAll_none _ (List.mem_append_right _ z)] at eb;exact nsf eb),F3.above⟩
  refine xe1_3 (ledger2 (g:=hideAll s.heap (fpOf (RP 99 k) (o.reset s) s (frs outer)++frs outer)) (L:=s.heap.objs.size) (h:=h4) (ex:=[]) fn0) fun rest4 N4 _ hr4=>?_
  simp only [List.nil_append] at N4
  have F4k:True→_:=fun _=>F4
  refine wpAny_handleBy_builtin (T:="StopIteration") (X:="StopIteration") (b:=true) (by rw [isSubtype_type];kernel_rfl) (by rw [isSubtype_type];kernel_rfl) (by rw [isSubtype_type];kernel_rfl) ?_
  have hT4:∀ tk,Shared.TypeIs { s₃ with heap:=h4,toks:=tk } (.ref e) "StopIteration":=fun tk=>⟨oe',b1,b2⟩
  k_steps
  ·exact hT4 _
  ·refine wpAny_setFlight_none b1 b3 b4 b5 b6 b7 ?_
   have sb:Heap.SameBut T' h4 (h4.update T' (Obj.mapFields (·.setIfInBounds 3 .none))):=Heap.SameBut.update ..
   have F5:Fr (hideAll s.heap (fpOf (RP 99 k) (o.reset s) s (frs outer)++frs outer)) s.heap.objs.size (h4.update T' (Obj.mapFields (·.setIfInBounds 3 .none))) _:=⟨(F4k trivial).ns.at' fun ob e9=>(sb.2 _ (fun z=>gT'.2.1 z.symm)).trans e9,fun b ob eb=>(sb.2 b (fun z=>by rw [z,gT'.1] at eb;exact nsf eb)).trans ((F4k trivial).keep b ob eb),(F4k trivial).above⟩
   refine xe1_3 (ledger2 (g:=hideAll s.heap (fpOf (RP 99 k) (o.reset s) s (frs outer)++frs outer)) (L:=s.heap.objs.size) (h:=h4.update T' (Obj.mapFields (·.setIfInBounds 3 .none))) (ex:=[]) fn0) fun rest5 N5 _ hr5=>?_
   simp only [List.nil_append] at N5
   have kS:∀ b ob,s₃.heap.get? b=some ob→b≠e→b≠T→b≠T'→b ∉ frs outer→b≠s.heap.objs.size→(h4.update T' (Obj.mapFields (·.setIfInBounds 3 .none))).get? b=some ob:=fun b ob e0 n1 n2 n3 n4 n5=>(sb.2 b n3).trans (k1 b ob e0 n1 n2 (fun z=>(frs_cons rfl b z).elim n5 n4))
   have X5:=fun tk=>Mt.ext.skip (s'':={ s₃ with heap:=h4.update T' (Obj.mapFields (·.setIfInBounds 3 .none)),toks:=tk }) (fun b ob e0 hb9 hf9=>by
    obtain ⟨o0,e9⟩:=hb9
    exact kS b ob e0 (fun z=>by rw [z,fe] at e9;exact nsf e9) (fun z=>by rw [z,fT] at e9;exact nsf e9) (fun z=>by rw [z,gT'.2.2] at e9;exact nsf e9) hf9 (nL _ _ e9)) (fun b ob e0 hf9=>by
    obtain ⟨sl,e9⟩:=k2 b ob e0 (frs_more rfl hf9)
    refine ⟨sl,(sb.2 b (fun z=>?_)).trans e9⟩
    apply hide;intro _ kι;obtain ⟨_,o8,e8,_⟩:=frs_old c.ff b hf9;apply kι
    rw [z,gT'.2.2] at e8;exact nsf e8) rfl rfl rfl
   have ag5:Agree o (o₃.reset s₃) s:=Mv.agree_trans Mt.ext Mt.ag (o₃.reset_agree s₃)
   have ok5:OwnOk G (o₃.reset s₃):=Own.with_ok M3.ok c3.st
   have te:o₃.a e=0:=a11
   have tT:o₃.a T=0:=a12
   have B5:∀ tk,Fac G k (o₃.reset s₃) { s₃ with heap:=h4.update T' (Obj.mapFields (·.setIfInBounds 3 .none)),toks:=tk } V v dv f mm (some q):=fun tk=>B3.mono hk ⟨fun b ob e0 t9=>⟨kS b ob e0 (fun z=>?_) (fun z=>?_) (fun z=>?_) (fun z=>?_) (fun z=>?_),(o₃.reset_agree s₃).1 b ob e0⟩,fun g x e0 _=>⟨e0,(o₃.reset_agree s₃).2 g x e0⟩⟩
   rotate_left 1
   ·rw [z,te] at t9;exact t9.elim (fun h=>(fm_ok hk _ h).1 rfl) (by exact zq9)
   ·rw [z,tT] at t9;exact t9.elim (fun h=>(fm_ok hk _ h).1 rfl) (by exact zq9)
   ·rcases b8 with h9 | h9
    ·rw [z,h9,tT] at t9;exact t9.elim (fun h=>(fm_ok hk _ h).1 rfl) (by exact zq9)
    ·rw [z,h9] at e0;exact nsf e0
   ·apply hide;intro _ kι;obtain ⟨_,o8,e8,_⟩:=frs_old c.ff b z;apply kι
    rw [Mt.ag.1 b o8 e8,f0 b z] at t9;exact t9.elim (fun h=>(fm_ok hk _ h).1 rfl) (by exact zq9)
   ·refine xe3_2 ((F2k trivial).ns) fun oL _ _ hL _=>?_
    rw [z,M3.ag.1 _ _ hL,fr2 rfl rfl mv _ (frs_head rfl)] at t9;exact t9.elim (fun h=>(fm_ok hk _ h).1 rfl) (by exact zq9)
   have P5:=fun tk=>post _ (o₃.reset s₃) (some q) (⟨X5 tk,ag5,ok5⟩:Mv G (RP 99 k) (frs outer) o s (o₃.reset s₃) _) (B5 tk) (by
    have g1:=sp.gsat (c':=1) (by rw [hV];exact Nat.zero_le _) (by rw [hV];exact Nat.zero_le _) gw
    exact g1)
   rw [hV] at P5
   k_steps
   exact P5 _
theorem noteFrame_first {M:Model}{A:Around}{E:Value→Shared→Prop}{s:Shared}{base:Heap}{env:Env}{outer:List Env}{L e:Nat}{oe:Obj}{vs:Array Value}{a0:Value}{Q:Unit→Shared→Prop}
  (hfr:A.frames=some (env :: outer)) (hl:s.heap.FunFrames base (env :: outer)) (hf:env.frame=some L) (he:s.heap.get? e=some oe) (hd:oe.data=.fields vs) (h0:vs[0]?=some a0) (h1:vs[1]?=some .none) (hkb:base.StaysIn s.heap) (hen:base.get? e=none)
  (h:∀ h',Heap.NotedW base (env :: outer) e oe.cls a0 (rawInt L) s.heap h'→Q () { s with heap:=h' }):wpAny M A (noteFrame (.ref e) env) Q E s:=by
 unfold noteFrame
 simp only [hf]
 refine wpAny_bind (wpAny_field he hd h1 ?_)
 rw [if_neg (show ¬ ((Value.none != Value.none)=true) from by simp)]
 exact wpAny_entryW hfr hl hf he hkb hen hd (Array.getElem?_eq_some_iff.mp h1).1 h0 h
theorem caughtN {G:Gr}{A:Around}{outer:List Env}{env:Env}{d u:Nat}{s:Shared}{h₀:Heap}{e L:Nat}{X:String}{hs:List ExceptHandler}{Q:Flow→Shared→Prop}{E:Value→Shared→Prop}
  (c:Cx G A (env :: outer) d u s.heap) (hf:env.frame=some L) (nx:Heap.NewExc h₀ s.heap e X)
  (h:∀ h',(∀ b ob,s.heap.get? b=some ob→b≠e→b ∉ frs (env :: outer)→h'.get? b=some ob)→(∀ b ob,s.heap.get? b=some ob→b∈frs (env :: outer)→∃ sl,h'.get? b=some { ob with slots:=sl }) →
   (∃ oe' vs' oT' T' ts',h'.get? e=some oe'∧oe'.cls=.type X∧oe'.data=.fields vs'∧vs'[1]?=some (.ref T')∧h'.get? T'=some oT'∧oT'.data=.fields ts'∧3 < ts'.size∧s.heap.get? T'=none∧T'≠e)→wpAny (model PR G.w) A (handleBy (.ref e) env hs) Q E { s with heap:=h' }) :
  wpAny (model PR G.w) A (noteFrame (.ref e) env) (fun _ s₂=>wpAny (model PR G.w) A (setFlight (.ref e) none) (fun _ s₃=>wpAny (model PR G.w) A (handleBy (.ref e) env hs) Q E s₃) E s₂) E s:=by
 refine xe2_3 nx.there fun oe t he hcl hd=>?_
 have hb:∀ a∈frs (env :: outer),(hideAll s.heap (e :: frs (env :: outer))).get? a=none:=fun a ha=>hideAll_none _ (.tail _ ha)
 refine noteFrame_first (base:=hideAll s.heap (e :: frs (env :: outer))) c.fr (funFrames_any c.ff hb) hf he hd rfl rfl (fun b o z=>of_hideAll _ z) (hideAll_none _ (.head _)) fun h₁ N1=>?_
 refine xe0_4 N1 fun k1 k2 k3 k4=>?_
 refine wpAny_setFlight_noneW k1 k2 k3 fun h₂ m1 m2 m3 m4=>?_
 (refine xe5_9 m3 ?_;rintro oe' vs' T' oT' ts' a1 ⟨a2,_⟩ a3 a4 a5 a6 a7 a8 a9)
 refine h h₂ (fun b ob e0 n1 n3=>m1 b ob (hideAll_get _ e0 (by simp only [List.mem_cons];rintro (z | z);exact n1 z;exact n3 z))) (fun b ob e0 hb0=>?_) (xi5 oe' vs' oT' T' ts' (yi9 a1 (a2.trans hcl) a3 a4 a7 a8 ((Array.getElem?_eq_some_iff.mp a9).1) ?_ a6))
 ·apply hide;intro _ kι;obtain ⟨_,o',e',hn⟩:=frs_old c.ff b hb0;apply kι
  rw [e0] at e';(replace e':=Eq.symm e';cases e')
  obtain ⟨sl,e2⟩:=k4 b ob e0 hn
  exact ⟨sl,m4 b _ e2 hn⟩
 ·by_cases q:T'∈e :: frs (env :: outer)
  ·exfalso
   rcases List.mem_cons.mp q with q | q
   ·exact a6 q
   ·apply hide;intro _ kι;obtain ⟨_,o',e',hn⟩:=frs_old c.ff T' q;apply kι
    obtain ⟨sl,e2⟩:=k4 T' o' e' hn
    have:=m4 T' _ e2 hn
    rw [a7] at this;(replace this:=Eq.symm this;cases this);exact hn _ a8
  ·cases e9:s.heap.get? T' with
   | none=>rfl
   | some ob=>rw [hideAll_get _ e9 q] at a5;exact nsf a5.symm
theorem getitem_late {G:Gr}{A:Around}{outer:List Env}{d u:Nat}{s:Shared}{x dx md ad la n:Nat}{k:Int}{t:Nat}{om oa:Obj}{late:List Value}{kvs ads:List (Int × Value)}{Q E:Value→Shared→Prop}
  (c:Cx G A outer (d+3) (u+6) s.heap) (mp:IsMap s.heap x dx md ad) (o3:s.heap.get? md=some om) (hm:om.IsDictOf (intKind PR G.w) kvs) (hkv:valueAt kvs k=none) (o4:G.base.get? ad=some oa) (ha:oa.IsDictOf (intKind PR G.w) ads) (hka:valueAt ads k=some (.ref la)) (ol:G.base.get? la=some (W.listOf late.toArray n))
  (ob:∀ a∈[x,dx,md],G.base.get? a=none) (nf:∀ a∈[x,dx],a ∉ frs outer) (nsm:(md == sysModules)=false) (d1:@Ne Nat x dx) (d2:@Ne Nat x md) (d3:@Ne Nat dx md)
  (post:∀ s' y,Ext (frs outer) [] [] s s'→s.heap.get? y=none→s'.heap.get? y=some (itObj "list_iterator" (.ref la) 0)→s'.gens=s.gens→Q (.ref y) s'):wpAny (model PR G.w) A (call (.ref 106) [.ref x,.int k t]) Q E s:=by
 refine cx_open c ?_;clear c;intro aD ag au c
 apply hide;intro _ kι;obtain ⟨o1,h1,h2,h3,t1,t2,t3,o2⟩:=mp;apply kι
 have hb:∀ a∈x :: dx :: md :: frs outer,G.base.get? a=none:=fq (ob _ zm0) (fq (ob _ zm1) (fq (ob _ zm2) (fun a ha=>(frs_old c.ff a ha).1)))
 have X:=c.inK hb
 have T:=c.top hb
 have nL:∀ b ob,s.heap.get? b=some ob→b≠s.heap.objs.size:=fun b ob e=>Nat.ne_of_lt (Heap.lt_size e)
 refine wpAny_call (ent X c.nolimit (by k_is) (by k_is) (by have:=c.dp;dsimp only at this ⊢;exact zq17 this) (BindsTo.of_eq rfl) (locs rfl) ?_)
 intro h₁ F hk
 have hA:∀ q∈[(x,instObj 123 dx),(dx,mapObj (.ref md) (.ref 240) (.ref ad) h1 h2 h3 t1 t2 t3),(md,om)],s.heap.get? q.1=some q.2:=fq o1 (fq o2 (fq o3 fn0))
 refine xe1_3 (ledger (fr:=frs outer) (hid:=x :: dx :: md :: frs outer) hk hA rfl (fun a ha=>let ⟨_,o,ho,_⟩:=frs_old c.ff a ha;⟨o,ho⟩)) fun rest N rne hr=>?_
 simp only [List.cons_append,List.nil_append] at N
 have r1:=rne x zp0
 have r2:=rne dx zp1
 have r3:=rne md zp2
 have Fk:True→_:=fun _=>F
 have kst:∀ b ob,G.base.get? b=some ob→(hideAll s.heap (x :: dx :: md :: frs outer)).get? b=some ob:=fun b ob e=>hideAll_get _ (c.st b ob e) fun q=>by rw [hb b q] at e;exact nsf e
 have cin:=fun (env:Env) (q1:env.frame=some s.heap.objs.size) (q2:env.scope.kind=.function)=>Cx.inner (d:=d+2) (u:=u+3) (env:=env) c F hb (fun a ha=>let ⟨_,ob,ho,_⟩:=frs_old c.ff a ha;(wi1_2 ob ho ⟨ob.slots,hk _ _ ho⟩)) q1 q2
 dsimp only
 k_steps
 refine wpAny_getItem_missing_of (knd:=intKind PR G.w) (k:=k) (f:=valueAt kvs) (by simp [intKind,Value.isInt]) nsm rfl (Heap.DictOf.mapOf (Heap.dictOf_iff.mpr (wi1_2 om (News.get N (by k_mem)) hm))) hkv ?_
 intro h' e nx
 have cx:∀ env:Env,env.frame=some s.heap.objs.size→env.scope.kind=.function→∀ tk,Cx G (Around.deeper { handled:=none,depth:=aD,frames:=some outer,guards:=ag,units:=au } env) (env :: outer) (d+2) (u+3) (Shared.heap { s with heap:=h',toks:=tk }):=fun env q1 q2 tk=>Cx.next (s:={ s with heap:=h₁,toks:=tk }) (s':={ s with heap:=h',toks:=tk }) (fp:=[]) (gp:=[]) (cin env q1 q2) (Ext.more nx.keeps) fn0 fn0
 refine caughtN (cx _ rfl rfl _) rfl nx ?_
 intro h4 k1 k2 k4
 refine xe5_9 k4 fun oe' vs' oT' T' ts' b1 b2 b3 b4 b5 b6 b7 b8 b9=>?_
 have fe:s.heap.get? e=none:=by
  cases q:s.heap.get? e with
  | none=>rfl
  | some oo=>have:=nx.new;rw [hk _ _ q] at this;exact nsf this.symm
 have fT:s.heap.get? T'=none:=by
  cases q:s.heap.get? T' with
  | none=>rfl
  | some oo=>have:=nx.keeps _ _ (hk _ _ q);change h'.get? T'=none at b8;rw [b8] at this;exact nsf this
 have gn:∀ b,s.heap.get? b=none→(hideAll s.heap (x :: dx :: md :: frs outer)).get? b=none:=fun b e0=>by
  cases q:(hideAll s.heap (x :: dx :: md :: frs outer)).get? b with
  | none=>rfl
  | some ob=>rw [of_hideAll _ q] at e0;exact nsf e0.symm
 have F3:Fr (hideAll s.heap (x :: dx :: md :: frs outer)) s.heap.objs.size h' _:=(Fk trivial).keeps nx.keeps
 have nTL:T'≠s.heap.objs.size:=fun z=>by
  refine xe3_3 F3.ns fun oL es ep hL hdL _=>?_
  change h'.get? T'=none at b8
  rw [z,hL] at b8;exact nsf b8.symm
 have kk:∀ b ob,h₁.get? b=some ob→b ∉ frs outer→b≠s.heap.objs.size→h4.get? b=some ob:=fun b ob e0 n1 n2=>k1 b ob (nx.keeps _ _ e0) (fun z=>by have:=nx.new;rw [← z,e0] at this;exact nsf this.symm) (fun z=>(frs_cons rfl b z).elim n2 n1)
 have F4:Fr (hideAll s.heap (x :: dx :: md :: frs outer)) s.heap.objs.size h4 _:=⟨by
   refine xe3_4 F3.ns fun oL es ep hL hdL r1 r2=>?_
   obtain ⟨sl,e9⟩:=k2 _ _ hL (frs_head rfl)
   exact ⟨_,es,ep,e9,hdL,r1,r2⟩,fun b ob eb=>k1 b ob (F3.keep b ob eb) (fun z=>by rw [z,gn _ fe] at eb;exact nsf eb) (fun z=>by
    rcases frs_cons rfl b z with z | z
    ·have:=Heap.lt_size eb;rw [hideAll_size,z] at this;exact absurd this (Nat.lt_irrefl _)
    ·rw [hideAll_none _ (by simp [z])] at eb;exact nsf eb),F3.above⟩
 have ox4:h4.get? x=some (instObj 123 dx):=kk _ _ (hk _ _ o1) (nf x zm0) (nL _ _ o1)
 have od4:h4.get? dx=some (mapObj (.ref md) (.ref 240) (.ref ad) h1 h2 h3 t1 t2 t3):=kk _ _ (hk _ _ o2) (nf dx zm1) (nL _ _ o2)
 refine xe1_3 (ledger2 (g:=hideAll s.heap (x :: dx :: md :: frs outer)) (L:=s.heap.objs.size) (h:=h4) (ex:=[]) fn0) fun rest4 N4 _ hr4=>?_
 simp only [List.nil_append] at N4
 have F4k:True→_:=fun _=>F4
 have hT4:∀ tk,Shared.TypeIs { s with heap:=h4,toks:=tk } (.ref e) "KeyError":=fun tk=>⟨oe',b1,b2⟩
 refine wpAny_handleBy_builtin (T:="KeyError") (X:="KeyError") (b:=true) (by rw [isSubtype_type];kernel_rfl) (by rw [isSubtype_type];kernel_rfl) (by rw [isSubtype_type];kernel_rfl) ?_
 k_steps
 ·exact hT4 _
 ·refine wpAny_setFlight_none b1 b3 b4 b5 b6 b7 ?_
  have sb:Heap.SameBut T' h4 (h4.update T' (Obj.mapFields (·.setIfInBounds 3 .none))):=Heap.SameBut.update ..
  have gT':=gn _ fT
  have F5:Fr (hideAll s.heap (x :: dx :: md :: frs outer)) s.heap.objs.size (h4.update T' (Obj.mapFields (·.setIfInBounds 3 .none))) _:=⟨(F4k trivial).ns.at' fun ob e9=>(sb.2 _ (fun z=>nTL z.symm)).trans e9,fun b ob eb=>(sb.2 b (fun z=>by rw [z,gT'] at eb;exact nsf eb)).trans ((F4k trivial).keep b ob eb),(F4k trivial).above⟩
  have neT:∀ b ob,s.heap.get? b=some ob→b≠T':=fun b ob e0 z=>by rw [z,fT] at e0;exact nsf e0
  apply hide;intro _ kι;obtain ⟨rest5,N5,rne5,hr5⟩:=ledger2 (g:=hideAll s.heap (x :: dx :: md :: frs outer)) (L:=s.heap.objs.size) (h:=h4.update T' (Obj.mapFields (·.setIfInBounds 3 .none))) (ex:=[(x,instObj 123 dx),(dx,mapObj (.ref md) (.ref 240) (.ref ad) h1 h2 h3 t1 t2 t3)])
   (fq (yi3 ((sb.2 _ (neT _ _ o1)).trans ox4) (nL _ _ o1) (hideAll_none _ zm0)) (fq (yi3 ((sb.2 _ (neT _ _ o2)).trans od4) (nL _ _ o2) (hideAll_none _ zm1)) fn0));apply kι
  simp only [List.nil_append,List.cons_append] at N5
  have F5k:True→_:=fun _=>F5
  have X5:=fun tk=>(Ext.refl (frs outer) [] [] s).skip (s'':={ s with heap:=h4.update T' (Obj.mapFields (·.setIfInBounds 3 .none)),toks:=tk }) (fun b ob e0 hb9 hf9=>(sb.2 b (neT _ _ e0)).trans (kk b ob (hk _ _ e0) hf9 (nL _ _ e0))) (fun b ob e0 hf9=>by
   obtain ⟨sl,e9⟩:=k2 b ob (nx.keeps _ _ (hk _ _ e0)) (frs_more rfl hf9)
   exact ⟨sl,(sb.2 b (neT _ _ e0)).trans e9⟩) rfl rfl rfl
  have st5:∀ b ob,G.base.get? b=some ob→(h4.update T' (Obj.mapFields (·.setIfInBounds 3 .none))).get? b=some ob:=fun b ob e0=>F5.keep b ob (kst b ob e0)
  clear N4
  k_steps
  have D5:∀ tk,Heap.DictOf (intKind PR G.w) (Shared.heap { s with heap:=h4.update T' (Obj.mapFields (·.setIfInBounds 3 .none)),toks:=tk }) ad ads:=fun tk=>Heap.dictOf_iff.mpr (wi1_2 oa (st5 _ _ o4) ha)
  refine tail_any (D5 _).typeIs slot_dict_getitem.lookup (wpAny_getItem_of (by simp [intKind,Value.isInt]) (D5 _).mapOf hka ?_) (by with_unfolding_all rfl)
  k_steps
  refine biter_of (wpAny_pyIter_list ⟨_,st5 _ _ ol,rfl,_,rfl⟩ ?_)
  k_steps
  refine post _ _ ((X5 _).trans (Ext.more (fr:=frs outer) (fp:=[]) (gp:=[]) fun b o e=>Heap.get?_push_of_some _ e) fn0 fn0) ((X5 0).fresh (Heap.get?_none_of_le (Nat.le_refl _))) (Heap.get?_push_size _ rfl) rfl
theorem meets_bool_list (l:Addr) (n:Nat) (hn:n < 1000):Meets (Builtin.«bool.__new__» ⟨[.type "bool",.ref l],[]⟩) (fun _ R s=>(∃ items,s.heap.IsList l items∧items.size=n)∧R (.ok (.ret (.bool (decide (n≠0))))) { s with toks:=s.toks+1+1 }) :=
 Meets.of_wp fun prog w A R s hs=>by
  apply hide;intro _ kι;obtain ⟨hp,g,d,tk,os⟩:=s;apply kι
  apply hide;intro _ kι;obtain ⟨⟨items,hl,hsz⟩,hs⟩:=hs;apply kι
  have f1:=F.conv_sub_bool
  have e:(!items.isEmpty)=decide (n≠0):=by rw [Array.isEmpty,hsz];cases n <;> simp
  rw [← e] at hs
  repeat (any_goals (first | assumption | (with_reducible refine wpAny_truthy_list hl (by omega) ?_) | wp_step))
  all_goals first | exact (wi1_2 _ rfl hs) | exact hs | skip
theorem meets_bool_tuple (l:Addr) (n:Nat) (hn:n < 1000):Meets (Builtin.«bool.__new__» ⟨[.type "bool",.ref l],[]⟩) (fun _ R s=>(∃ items,IsTup s.heap l items∧items.size=n)∧R (.ok (.ret (.bool (decide (n≠0))))) { s with toks:=s.toks+1+1 }) :=
 Meets.of_wp fun prog w A R s hs=>by
  apply hide;intro _ kι;obtain ⟨hp,g,d,tk,os⟩:=s;apply kι
  apply hide;intro _ kι;obtain ⟨⟨items,hl,hsz⟩,hs⟩:=hs;apply kι
  have f1:=F.conv_sub_bool
  have e:(!items.isEmpty)=decide (n≠0):=by rw [Array.isEmpty,hsz];cases n <;> simp
  rw [← e] at hs
  repeat (any_goals (first | assumption | (with_reducible refine truthy_tuple hl (by omega) ?_) | wp_step))
  all_goals first | exact (wi1_2 _ rfl hs) | exact hs | skip
theorem bool_seq {prog:Program}{w:World}{A:Around}{E:Value→Shared→Prop}{s:Shared}{q:Nat}{V:List Value}{T:String}{Q:Value→Shared→Prop}(sq:SeqAt s.heap q V T) (hl:V.length < 1000) (h:Q (.bool (decide (V≠[]))) { s with toks:=s.toks+1+1 }):wpAny (model prog w) A (call (.type "bool") [.ref q]) Q E s:=by
 have e:decide (V≠[])=decide (V.length≠0):=by cases V <;> simp
 rw [e] at h
 (refine hide fun Zq kZ=>?_;refine xe2_3 sq ?_;rintro ob n eq hd (⟨hc,rfl⟩ | ⟨hc,rfl⟩);all_goals (refine kZ ?_;clear kZ Zq))
 ·exact call_bool_1 (meets_bool_list q V.length hl) ⟨(wi1_2 V.toArray ⟨ob,eq,hc,n,hd⟩ (by simp)),show wants (fun obj s₁=>s₁.TypeIs obj "bool"∧Q obj s₁) E _ _ from ⟨rfl,h⟩⟩
 ·exact call_bool_1 (meets_bool_tuple q V.length hl) ⟨(wi1_2 V.toArray ⟨ob,eq,hc,n,hd⟩ (by simp)),show wants (fun obj s₁=>s₁.TypeIs obj "bool"∧Q obj s₁) E _ _ from ⟨rfl,h⟩⟩
theorem seqv_bool {G:Gr}{A:Around}{outer:List Env}{d u:Nat}{s:Shared}{v dv q:Nat}{V:List Value}{T:String}{Q E:Value→Shared→Prop}
  (c:Cx G A outer (d+1) (u+3) s.heap) (sv:IsSeqV s.heap v dv q) (sq:SeqAt s.heap q V T) (hl:V.length < 1000) (ob:∀ a∈[v,dv],G.base.get? a=none)
  (post:∀ s',Ext [] [] [] s s'→s'.gens=s.gens→Q (.bool (decide (V≠[]))) s'):wpAny (model PR G.w) A (call (.ref 197) [.ref v]) Q E s:=by
 refine cx_open c ?_;clear c;intro ad ag au c
 apply hide;intro _ kι;obtain ⟨o1,i1,j1,o2⟩:=sv;apply kι
 have hb:∀ a∈v :: dv :: frs outer,G.base.get? a=none:=fq (ob _ zm0) (fq (ob _ zm1) (fun a ha=>(frs_old c.ff a ha).1))
 have X:=c.inK hb
 have T:=c.top hb
 refine wpAny_call (ent X c.nolimit (by k_is) (by k_is) (by have:=c.dp;dsimp only at this ⊢;exact zq2 this) (BindsTo.of_eq rfl) (locs rfl) ?_)
 intro h₁ F hk
 have hA:∀ z∈[(v,instObj 207 dv),(dv,seqObj (.ref q) i1 j1)],s.heap.get? z.1=some z.2:=fq o1 (fq o2 fn0)
 refine xe1_3 (ledger (fr:=frs outer) (hid:=v :: dv :: frs outer) hk hA rfl (fun a ha=>let ⟨_,o,ho,_⟩:=frs_old c.ff a ha;⟨o,ho⟩)) fun rest N rne hr=>?_
 simp only [List.cons_append,List.nil_append] at N
 have r1:=rne v zp0
 have r2:=rne dv zp1
 dsimp only
 k_steps
 refine bool_seq (sq.kept fun ob e=>hk _ _ e) hl ?_
 k_steps
 exact post _ (Ext.more hk) rfl
noncomputable abbrev lstObj (acc:Array Value) (c:Nat):Obj:={ cls:=.type "list",dict:=none,data:=.seq acc c,slots:=#[] }
section
variable {prog:Program}{w:World}{A:Around}{s:Shared}{R:Result→Shared→Prop}
structure DrnA (prog:Program) (w:World) (A:Around) (S:Nat) (y:Value) (n:Nat) (J:List Value→Shared→Prop) (Jend:List Value→Shared→Prop):Prop where
 stab:∀ acc s h',J acc s→Heap.SameBut S s.heap h'→(∃ o,h'.get? S=some o)→J acc { s with heap:=h' }
 item:∀ acc s (Q:Option Value→Shared→Prop) (E:Value→Shared→Prop),acc.length < n→J acc s→(∀ z s',J (acc++[z]) s'→s'.heap.get? S=s.heap.get? S→Q (some z) s')→wpAny (model prog w) A (pyNext y) Q E s
 done:∀ acc s (Q:Option Value→Shared→Prop) (E:Value→Shared→Prop),acc.length=n→J acc s→(∀ s',Jend acc s'→s'.heap.get? S=s.heap.get? S→Q none s')→wpAny (model prog w) A (pyNext y) Q E s
structure Drn (prog:Program) (w:World) (A:Around) (S:Nat) (y:Value) (vals:List Value) (J:Nat→Shared→Prop) (Jend:Shared→Prop):Prop where
 stab:∀ i s h',J i s→Heap.SameBut S s.heap h'→(∃ o,h'.get? S=some o)→J i { s with heap:=h' }
 item:∀ i s (Q:Option Value→Shared→Prop) (E:Value→Shared→Prop),i < vals.length→J i s→(∀ z s',vals[i]?=some z→J (i+1) s'→s'.heap.get? S=s.heap.get? S→Q (some z) s')→wpAny (model prog w) A (pyNext y) Q E s
 done:∀ s (Q:Option Value→Shared→Prop) (E:Value→Shared→Prop),J vals.length s→(∀ s',Jend s'→s'.heap.get? S=s.heap.get? S→Q none s')→wpAny (model prog w) A (pyNext y) Q E s
theorem Drn.toA {S:Nat}{y:Value}{vals:List Value}{J:Nat→Shared→Prop}{Jend:Shared→Prop}(D:Drn prog w A S y vals J Jend):DrnA prog w A S y vals.length (fun acc s=>acc=vals.take acc.length∧J acc.length s) (fun acc s=>acc=vals∧Jend s) where
 stab:=fun acc s h' h hs he=>⟨h.1,D.stab _ _ _ h.2 hs he⟩
 item:=fun acc s Q E hl h hQ=>D.item _ _ _ _ hl h.2 fun z s' hz hJ hS=>hQ z s' ⟨by
  rw [List.length_append,List.length_singleton,List.take_add_one,hz,← h.1];rfl,by rw [List.length_append];exact hJ⟩ hS
 done:=fun acc s Q E hl h hQ=>D.done _ _ _ (hl▸h.2) fun s' hJ hS=>hQ s' ⟨by have:=h.1;rw [hl,List.take_length] at this;exact this,hJ⟩ hS
theorem extend_loop {S n:Nat}{y res:Value}{J:List Value→Shared→Prop}{Jend:List Value→Shared→Prop}(D:DrnA prog w A.in1 S y n J Jend) (hn:n≤1000) :
  ∀ (k:Nat) (s:Shared) (acc:List Value) (c:Nat),n - acc.length=k→acc.length≤n→J acc s→s.heap.get? S=some (lstObj acc.toArray c) →
  (∀ s' acc' c',Jend acc' s'→acc'.length=n→s'.heap.get? S=some (lstObj acc'.toArray c')→R (.ok (.ret res)) s')→codeAny (model prog w) A (.builtin "list.extend.loop" ⟨[.ref S,y,res],[]⟩) R s:=by
 intro k
 induction k with
 | zero =>
  intro s acc c hk hi hJ hS hR
  refine codeAny_builtin F.entry_extend_loop ?_
  rw [Around.under_plainId F.plain_extend_loop _]
  show wpAny _ A.in1 (pyNext y >>= _) _ _ s
  refine wpAny_bind (D.done acc s _ _ (by exact zq186 hk hi) hJ fun s' hJ' hS'=>?_)
  exact wpAny_pure (hR s' acc c hJ' (by exact zq186 hk hi) (hS'.trans hS))
 | succ k ih =>
  intro s acc c hk hi hJ hS hR
  refine codeAny_builtin F.entry_extend_loop ?_
  rw [Around.under_plainId F.plain_extend_loop _]
  show wpAny _ A.in1 (pyNext y >>= _) _ _ s
  refine wpAny_bind (D.item acc s _ _ (by exact zq95 hk) hJ fun v s' hJ' hS'=>?_)
  rw [hS] at hS'
  show wpAny _ A.in1 (updateSeq S (·.push v) >>= _) _ _ _
  refine wpAny_bind ?_
  obtain ⟨c',hS''⟩:∃ c',(s'.heap.update S (Obj.mapSeq (·.push v))).get? S=some (lstObj (acc++[v]).toArray c'):=by
   have e:acc.toArray.push v=(acc++[v]).toArray:=by simp
   rw [← e]
   exact ⟨_,Heap.get?_update_self _ hS' rfl⟩
  refine wpAny_updateSeq hS' rfl (wpAny_pure ⟨plainId_quiet F.plain_extend_loop _,ih _ (acc++[v]) _ (by simp;exact zq96 hk) (by simp;exact Nat.lt_of_sub_eq_succ hk) (D.stab _ _ _ hJ' (Heap.SameBut.update ..) ⟨_,hS''⟩) hS'' hR⟩) (by simp [sizeLine];exact zq187 hn hi) (by show (acc.toArray.push v).size≤sizeLine+1;rw [Array.size_push];simp [sizeLine];exact zq187 hn hi)
theorem list_of {I:Nat}{Q E:Value→Shared→Prop}(hI:I < s.heap.objs.size)
  (h:∀ (S:Nat) (s₁:Shared),S=s.heap.objs.size→(∃ c,s₁={ s with heap:=(s.heap.push (lstObj #[] 0)).update S (Obj.mapSeq (fun _=>(#[]:Array Value))) }∧s₁.heap.get? S=some (lstObj #[] c))→(∀ b o,s.heap.get? b=some o→s₁.heap.get? b=some o) →
   wpAny (model prog w) A.in1.in1 (Builtin.List.listExtendWith (.ref S) (.ref I) .none)
    (fun fin s'=>match fin with | .done f=>f=.ret .none∧Q (.ref S) s' | .again c'=>c'.quiet=true∧codeAny (model prog w) A.in1 c' (fun r s'=>r=.ok (.ret .none)∧Q (.ref S) s') s') (fun _ _=>False) s₁) :
  wpAny (model prog w) A (call (.type "list") [.ref I]) Q E s:=by
 refine callType_codes (Q₁:=fun obj s₁=>obj=.ref s.heap.objs.size∧s₁={ s with heap:=s.heap.push (lstObj #[] 0) }) F.called_list (F.typeCall_list_1 _) F.entry_list_init
  (code_list_new _ ⟨rfl,rfl⟩) fun obj s₁ h₁=>?_
 obtain ⟨rfl,rfl⟩:=h₁
 have hS:(s.heap.push (lstObj #[] 0)).get? s.heap.objs.size=some (lstObj #[] 0):=Heap.get?_push_size _ rfl
 refine (yi3 ⟨_,hS,rfl⟩ (F.args_list_init_2 _ _) ?_)
 show wpAny _ A.in1.in1 (do let old ← Builtin.List.listItems (.ref s.heap.objs.size);Builtin.List.listUpdate (.ref s.heap.objs.size) (fun _=>#[]);letGo old.toList.reverse;Builtin.List.listExtendWith (.ref s.heap.objs.size) (.ref I) .none) _ _ _
 refine wpAny_bind ?_
 unfold Builtin.List.listItems
 refine wpAny_bind (wpAny_seqItems hS rfl (wpAny_pure ?_))
 show wpAny _ A.in1.in1 (updateSeq s.heap.objs.size (fun _=>#[]) >>= fun _=>letGo (#[]:Array Value).toList.reverse >>= fun _=>Builtin.List.listExtendWith (.ref s.heap.objs.size) (.ref I) .none) _ _ _
 refine wpAny_bind (wpAny_updateSeq hS rfl ?_)
 have hS₂:=Heap.get?_update_self (Obj.mapSeq (fun _=>(#[]:Array Value))) hS rfl
 refine wpAny_bind (wpAny_letGo ?_)
 refine wpAny_mono (h _ _ rfl (wi1_2 _ rfl hS₂) fun b o e=>?_) (fun fin s' hf=>?_) (fun _ _ z=>z.elim)
 ·have nb:b≠s.heap.objs.size:=Nat.ne_of_lt (Heap.lt_size e)
  exact (Heap.get?_update_other _ _ (Ne.symm nb)).trans (Heap.get?_push_of_some _ e)
 ·cases fin with
  | done f=>obtain ⟨rfl,hq⟩:=hf;exact ⟨rfl,hq⟩
  | again c'=>exact ⟨hf.1,codeAny_mono hf.2 fun r s'' hr=>by obtain ⟨rfl,hq⟩:=hr;exact ⟨rfl,hq⟩⟩
theorem touch_loopA {S n:Nat}{y:Value}{c:Nat}{J:List Value→Shared→Prop}{Jend:List Value→Shared→Prop}(D:DrnA prog w A.in1 S y n J Jend) (hn:n≤1000) (hJ:J [] s) (hS:s.heap.get? S=some (lstObj #[] c)) {Q:Value→Shared→Prop}
  (hQ:∀ s' acc c',Jend acc s'→acc.length=n→s'.heap.get? S=some (lstObj acc.toArray c')→Q (.ref S) s') :
  wpAny (model prog w) A.in1 (rule "list.extend.makes-room" >>= fun _=>Builtin.List.listTouch (.ref S) >>= fun _=>again (.builtin "list.extend.loop" ⟨[.ref S,y,.none],[]⟩))
   (fun fin s'=>match fin with | .done f=>f=.ret .none∧Q (.ref S) s' | .again c'=>c'.quiet=true∧codeAny (model prog w) A c' (fun r s'=>r=.ok (.ret .none)∧Q (.ref S) s') s') (fun _ _=>False) s:=by
 refine wpAny_bind (wpAny_rule ?_)
 refine wpAny_bind ?_
 show wpAny _ A.in1 (updateSeq S (·.push .none) >>= fun _=>updateSeq S (·.pop)) _ _ _
 refine wpAny_bind (wpAny_updateSeq hS rfl ?_)
 have hS₂:=Heap.get?_update_self (Obj.mapSeq (·.push Value.none)) hS rfl
 refine wpAny_updateSeq (hz:=by seq_fits) hS₂ rfl ?_
 have hS₃:=Heap.get?_update_self (Obj.mapSeq (·.pop)) hS₂ rfl
 refine wpAny_pure ⟨plainId_quiet F.plain_extend_loop _,extend_loop D hn _ _ [] _ rfl (Nat.zero_le _) (D.stab _ _ _ (D.stab _ _ _ hJ (Heap.SameBut.update ..) ⟨_,hS₂⟩) (Heap.SameBut.update ..) ⟨_,hS₃⟩) hS₃ fun s' acc c' hj hl hs=>⟨rfl,hQ s' acc c' hj hl hs⟩⟩
theorem fill_loopA {S n:Nat}{y:Value}{c:Nat}{J:List Value→Shared→Prop}{Jend:List Value→Shared→Prop}(D:DrnA prog w A.in1 S y n J Jend) (hn:n≤1000) (hJ:J [] s) (hS:s.heap.get? S=some (lstObj #[] c)) {Q:Value→Shared→Prop}
  (hQ:∀ s' acc c',Jend acc s'→acc.length=n→s'.heap.get? S=some (lstObj acc.toArray c')→Q (.ref S) s') :
  wpAny (model prog w) A.in1 (again (.builtin "list.extend.loop" ⟨[.ref S,y,.none],[]⟩))
   (fun fin s'=>match fin with | .done f=>f=.ret .none∧Q (.ref S) s' | .again c'=>c'.quiet=true∧codeAny (model prog w) A c' (fun r s'=>r=.ok (.ret .none)∧Q (.ref S) s') s') (fun _ _=>False) s :=
 wpAny_pure ⟨plainId_quiet F.plain_extend_loop _,extend_loop D hn _ _ [] _ rfl (Nat.zero_le _) hJ hS fun s' acc c' hj hl hs=>⟨rfl,hQ s' acc c' hj hl hs⟩⟩
theorem touch_loop {S:Nat}{y:Value}{c:Nat}{vals:List Value}{J:Nat→Shared→Prop}{Jend:Shared→Prop}(D:Drn prog w A.in1 S y vals J Jend) (hn:vals.length≤1000) (hJ:J 0 s) (hS:s.heap.get? S=some (lstObj #[] c)) {Q:Value→Shared→Prop}
  (hQ:∀ s' c',Jend s'→s'.heap.get? S=some (lstObj vals.toArray c')→Q (.ref S) s') :
  wpAny (model prog w) A.in1 (rule "list.extend.makes-room" >>= fun _=>Builtin.List.listTouch (.ref S) >>= fun _=>again (.builtin "list.extend.loop" ⟨[.ref S,y,.none],[]⟩))
   (fun fin s'=>match fin with | .done f=>f=.ret .none∧Q (.ref S) s' | .again c'=>c'.quiet=true∧codeAny (model prog w) A c' (fun r s'=>r=.ok (.ret .none)∧Q (.ref S) s') s') (fun _ _=>False) s :=
 touch_loopA D.toA hn ⟨rfl,hJ⟩ hS fun s' acc c' hj hl hs=>by obtain ⟨rfl,hj⟩:=hj;exact hQ s' c' hj hs
theorem fill_loop {S:Nat}{y:Value}{c:Nat}{vals:List Value}{J:Nat→Shared→Prop}{Jend:Shared→Prop}(D:Drn prog w A.in1 S y vals J Jend) (hn:vals.length≤1000) (hJ:J 0 s) (hS:s.heap.get? S=some (lstObj #[] c)) {Q:Value→Shared→Prop}
  (hQ:∀ s' c',Jend s'→s'.heap.get? S=some (lstObj vals.toArray c')→Q (.ref S) s') :
  wpAny (model prog w) A.in1 (again (.builtin "list.extend.loop" ⟨[.ref S,y,.none],[]⟩))
   (fun fin s'=>match fin with | .done f=>f=.ret .none∧Q (.ref S) s' | .again c'=>c'.quiet=true∧codeAny (model prog w) A c' (fun r s'=>r=.ok (.ret .none)∧Q (.ref S) s') s') (fun _ _=>False) s :=
 fill_loopA D.toA hn ⟨rfl,hJ⟩ hS fun s' acc c' hj hl hs=>by obtain ⟨rfl,hj⟩:=hj;exact hQ s' c' hj hs
theorem list_gen {I g:Nat}{vals:List Value}{J:Nat→Shared→Prop}{Jend:Shared→Prop}{Q E:Value→Shared→Prop}(hg:s.heap.IsGen I g) (D:Drn prog w A.in1.in1 s.heap.objs.size (.ref I) vals J Jend) (hn:vals.length≤1000)
  (hJ:∀ s₁:Shared,s₁.gens=s.gens→s₁.drawn=s.drawn→s₁.os=s.os→s₁.toks=s.toks→(∀ b o,s.heap.get? b=some o→s₁.heap.get? b=some o)→(∃ c,s₁.heap.get? s.heap.objs.size=some (lstObj #[] c))→J 0 s₁)
  (hQ:∀ s' c',Jend s'→s'.heap.get? s.heap.objs.size=some (lstObj vals.toArray c')→Q (.ref s.heap.objs.size) s'):wpAny (model prog w) A (call (.type "list") [.ref I]) Q E s:=by
 refine xe3_4 (id hg) fun ob nm qn eI e1 e2 e3=>?_
 have hI:I < s.heap.objs.size:=Heap.lt_size eI
 refine list_of hI fun S s₁ hSe hs hk=>?_
 subst hSe
 (refine xe1_2 hs ?_;rintro c rfl hS)
 have hg₁:Heap.IsGen (Shared.heap { s with heap:=(s.heap.push (lstObj #[] 0)).update s.heap.objs.size (Obj.mapSeq (fun _=>(#[]:Array Value))) }) I g:=⟨ob,nm,qn,hk _ _ eI,e1,e2,e3⟩
 have hSI:s.heap.objs.size≠I:=Nat.ne_of_gt hI
 unfold Builtin.List.listExtendWith
 refine wpAny_bind (wpAny_typeOf hg₁.typeIs ?_)
 have h1:Builtin.List.listSameRef (.ref s.heap.objs.size) (.ref I)=false:=by simp [Builtin.List.listSameRef,hSI]
 have h2:(Value.type "generator" == Value.type "list")=false:=by decide
 have h3:(Value.type "generator" == Value.type "tuple")=false:=by decide
 simp only [h1,h2,h3,Bool.or_false,Bool.false_eq_true,if_false]
 refine wpAny_bind (wpAny_pyIter_gen hg₁ ?_)
 refine wpAny_bind (wpAny_holding ?_)
 unfold Builtin.List.listLengthHint
 refine wpAny_bind (wpAny_specialOf hg₁.typeIs F.gen_no_len ?_)
 show wpAny _ A.in1.in1 (specialOf (Value.ref I) (Str.ofString "__length_hint__") >>= _) _ _ _
 refine wpAny_bind (wpAny_specialOf hg₁.typeIs F.gen_no_hint ?_)
 refine wpAny_pure ?_
 show wpAny _ A.in1.in1 (rule "list.extend.makes-room" >>= fun _=>Builtin.List.listTouch (.ref s.heap.objs.size) >>= fun _=>again (.builtin "list.extend.loop" ⟨[.ref s.heap.objs.size,.ref I,.none],[]⟩)) _ _ _
 exact touch_loop D hn (hJ { s with heap:=(s.heap.push (lstObj #[] 0)).update s.heap.objs.size (Obj.mapSeq (fun _=>(#[]:Array Value))) } rfl rfl rfl rfl hk ⟨_,hS⟩) hS hQ
theorem list_li {I:Nat}{oI:Obj}{vals:List Value}{J:Nat→Shared→Prop}{Jend:Shared→Prop}{Q E:Value→Shared→Prop}(eI:s.heap.get? I=some oI) (hc:oI.cls=.type "list_iterator") (D:Drn prog w A.in1.in1 s.heap.objs.size (.ref I) vals J Jend) (hn:vals.length≤1000)
  (hJ:∀ s₁:Shared,s₁.gens=s.gens→s₁.drawn=s.drawn→s₁.os=s.os→s₁.toks=s.toks→(∀ b o,s.heap.get? b=some o→s₁.heap.get? b=some o)→(∃ c,s₁.heap.get? s.heap.objs.size=some (lstObj #[] c))→J 0 s₁)
  (hQ:∀ s' c',Jend s'→s'.heap.get? s.heap.objs.size=some (lstObj vals.toArray c')→Q (.ref s.heap.objs.size) s'):wpAny (model prog w) A (call (.type "list") [.ref I]) Q E s:=by
 have hI:I < s.heap.objs.size:=Heap.lt_size eI
 refine list_of hI fun S s₁ hSe hs hk=>?_
 subst hSe
 (refine xe1_2 hs ?_;rintro c rfl hS)
 have tI:Shared.TypeIs { s with heap:=(s.heap.push (lstObj #[] 0)).update s.heap.objs.size (Obj.mapSeq (fun _=>(#[]:Array Value))) } (.ref I) "list_iterator":=⟨oI,hk _ _ eI,hc⟩
 have hSI:s.heap.objs.size≠I:=Nat.ne_of_gt hI
 unfold Builtin.List.listExtendWith
 refine wpAny_bind (wpAny_typeOf tI ?_)
 have h1:Builtin.List.listSameRef (.ref s.heap.objs.size) (.ref I)=false:=by simp [Builtin.List.listSameRef,hSI]
 rw [if_neg (by rw [h1];decide)]
 refine wpAny_bind (Q:=_) (wpAny_pyIter_slot tI slot_listiter_iter (wpAny_call_entry slot_listiter_iter tI entry_listiter_iter ?_ (args_listiter_iter _)))
 show wpAny _ _ (ret (.ref I)) _ _ _
 refine wpAny_pure (wi1_2 _ rfl ⟨"list_iterator",_,tI,slot_listiter_next.lookup,?_⟩)
 refine wpAny_bind (wpAny_holding ?_)
 unfold Builtin.List.listLengthHint
 refine wpAny_bind (wpAny_specialOf tI F.nolen_li ?_)
 show wpAny _ A.in1.in1 (specialOf (Value.ref I) (Str.ofString "__length_hint__") >>= _) _ _ _
 refine wpAny_bind (wpAny_specialOf tI F.hint_li ?_)
 (generalize hid:("list_iterator.__length_hint__":String)=id0;(fail_if_success (clear hid id0));wp_delta;rw [show splitId id0=some ("list_iterator","__length_hint__") from by subst hid;decide +kernel];subst hid)
 refine wpAny_bind (wpAny_isInstance (b:=true) tI (by rw [isSubtype_type];kernel_rfl) ?_)
 refine wpAny_pure ?_
 rw [if_neg (by decide)]
 exact fill_loop D hn (hJ { s with heap:=(s.heap.push (lstObj #[] 0)).update s.heap.objs.size (Obj.mapSeq (fun _=>(#[]:Array Value))) } rfl rfl rfl rfl hk ⟨_,hS⟩) hS hQ
theorem list_inst {K:Frag}{I dI C:Nat}{oD:Obj}{vals:List Value}{J:Nat→Nat→Shared→Prop}{Jend:Shared→Prop}{Q E:Value→Shared→Prop}(eI:s.heap.get? I=some (instObj C dI)) (eD:s.heap.get? dI=some oD) (X:K.In s.heap)
  (l1:findIn K (.ref C) (Str.ofString "__len__")=some none) (l2:findIn K (.ref C) (Str.ofString "__length_hint__")=some none) (hn:vals.length≤1000)
  (hiter:∀ (s₁:Shared) (Q':Value→Shared→Prop),s₁.gens=s.gens→s₁.drawn=s.drawn→s₁.os=s.os→s₁.toks=s.toks→(∀ b o,s.heap.get? b=some o→s₁.heap.get? b=some o)→(∃ c,s₁.heap.get? s.heap.objs.size=some (lstObj #[] c))→(∀ y s₂,Drn prog w A.in1.in1 s.heap.objs.size (.ref y) vals (J y) Jend→J y 0 s₂→s₂.heap.get? s.heap.objs.size=s₁.heap.get? s.heap.objs.size→K.In s₂.heap→s₂.heap.get? I=some (instObj C dI)→(∃ oD',s₂.heap.get? dI=some oD')→Q' (.ref y) s₂)→wpAny (model prog w) A.in1.in1 (pyIter (.ref I)) Q' (fun _ _=>False) s₁)
  (hQ:∀ s' c',Jend s'→s'.heap.get? s.heap.objs.size=some (lstObj vals.toArray c')→Q (.ref s.heap.objs.size) s'):wpAny (model prog w) A (call (.type "list") [.ref I]) Q E s:=by
 have hI:I < s.heap.objs.size:=Heap.lt_size eI
 refine list_of hI fun S s₁ hSe hs hk=>?_
 subst hSe
 (refine xe1_2 hs ?_;rintro c rfl hS)
 have X1:K.In (Shared.heap { s with heap:=(s.heap.push (lstObj #[] 0)).update s.heap.objs.size (Obj.mapSeq (fun _=>(#[]:Array Value))) }):=X.keeps hk
 have I1:=inst_at (hk _ _ eI) (hk _ _ eD)
 have hSI:s.heap.objs.size≠I:=Nat.ne_of_gt hI
 unfold Builtin.List.listExtendWith
 refine wpAny_bind (I1.type.here ?_)
 have h1:Builtin.List.listSameRef (.ref s.heap.objs.size) (.ref I)=false:=by simp [Builtin.List.listSameRef,hSI]
 have h2:(Value.ref C == Value.type "list")=false:=rfl
 have h3:(Value.ref C == Value.type "tuple")=false:=rfl
 simp only [h1,h2,h3,Bool.or_false,Bool.false_eq_true,if_false]
 refine wpAny_bind (hiter _ _ rfl rfl rfl rfl hk ⟨_,hS⟩ fun y s₂ D hJ hS2 X2 eI2 eD2=>?_)
 obtain ⟨oD',eD2⟩:=eD2
 have I2:=inst_at eI2 eD2
 refine wpAny_bind (wpAny_holding ?_)
 unfold Builtin.List.listLengthHint
 refine wpAny_bind (wpAny_bind (I2.type.here ((looks_findIn X2 l1).here ?_)))
 show wpAny _ A.in1.in1 (specialOf (Value.ref I) (Str.ofString "__length_hint__") >>= _) _ _ _
 refine wpAny_bind (wpAny_bind (I2.type.here ((looks_findIn X2 l2).here ?_)))
 refine wpAny_pure ?_
 show wpAny _ A.in1.in1 (rule "list.extend.makes-room" >>= fun _=>Builtin.List.listTouch (.ref s.heap.objs.size) >>= fun _=>again (.builtin "list.extend.loop" ⟨[.ref s.heap.objs.size,.ref y,.none],[]⟩)) _ _ _
 exact touch_loop D hn hJ (hS2.trans hS) hQ
end
noncomputable abbrev zipObj (f0:Value) (f1:Bool) (TI TO:Nat):Obj:={ cls:=.type "zip",dict:=none,data:=.fields #[f0,.bool f1,.bool false,.ref TI,.ref TO],slots:=#[] }
noncomputable abbrev prObj (a b:Value):Obj:={ cls:=.type "tuple",data:=.seq #[a,b] }
section
variable {prog:Program}{w:World}{A:Around}{E:Value→Shared→Prop}{s:Shared}
theorem nextOf_of {it:Value}{Q:Value→Shared→Prop}(h:NextIs prog w A it Q E s):wpAny (model prog w) A (Builtin.SmallTypes.nextOf it) Q E s:=by
 unfold Builtin.SmallTypes.nextOf
 refine wpAny_bind (wpAny_mono h (fun r s' hr=>?_) fun _ _ z=>z)
 (refine xe1_2 hr ?_;rintro v rfl q)
 exact wpAny_pure q
theorem range_nextIs {it i n:Nat}{Q:Value→Shared→Prop}(hit:s.heap.get? it=some (rngObj i n)) (hlt:i < n)
  (hQ:∀ h',h'.get? it=some (rngObj (i+1) n)→Heap.SameBut it s.heap h'→Q (.int (i:Int) s.toks) { s with heap:=h',toks:=s.toks+1 }):NextIs prog w A (.ref it) Q E s:=by
 have hT:s.TypeIs (.ref it) "range_iterator":=⟨_,hit,rfl⟩
 refine wpAny_callSpecial?_slot (name:=Str.ofString "__next__") hT F.slot_range_iterator_next
  (call_meets F.slot_range_iterator_next hT F.entry_range_iterator_next (F.args_range_iterator_next_1 _) (AutoRange.range_iterator___next___range_iterator_1 it (i:Int) ((n:Int) - (i:Int)) 1 (fun h=>Int.not_le.2 (Int.sub_pos_of_lt (Int.ofNat_lt.2 hlt)) h)) ⟨hit,?_⟩)
 refine (wi1_2 _ rfl (hQ _ ?_ ((Heap.SameBut.update ..).trans (Heap.SameBut.update ..))))
 have e1:((n:Int) - (i:Int) - 1)=(n:Int) - ((i+1:Nat):Int):=Int.sub_sub _ _ _
 have e2:((i:Int)+1)=((i+1:Nat):Int):=rfl
 have:=Heap.get?_update_self (Obj.mapFields (·.setIfInBounds 1 (rawInt ((n:Int) - (i:Int) - 1)))) (Heap.get?_update_self (Obj.mapFields (·.setIfInBounds 0 (rawInt ((i:Int)+1)))) hit rfl) rfl
 refine (Eq.trans ?_ this).trans ?_
 ·rfl
 ·rw [e1,e2];rfl
theorem wpAny_loadIfAlive {a:Nat}{o:Obj}{Q:Option Obj→Shared→Prop}(e:s.heap.get? a=some o) (h:Q (some o) s):wpAny (model prog w) A (loadIfAlive a) Q E s:=by
 intro Γ p hΓ
 exact (show Q (s.heap.get? a) s from e▸h)
structure ZSt (s:Shared) (z TI TO i1 i2 l1 i n:Nat) (xs:List Value):Prop where
 zp:(i=0∧s.heap.get? z=some (zipObj .none false TI TO))∨∃ T f1 oT,s.heap.get? z=some (zipObj (rawInt (T:Nat)) f1 TI TO)∧s.heap.get? T=some oT
 ti:s.heap.get? TI=some (prObj (.ref i1) (.ref i2))
 to:∃ a b,s.heap.get? TO=some (prObj a b)
 it1:s.heap.get? i1=some (itObj "list_iterator" (.ref l1) i)
 it2:s.heap.get? i2=some (rngObj i n)
 ol:∃ k,s.heap.get? l1=some (W.listOf xs.toArray k)
 ne:TI≠TO
 len:xs.length=n
theorem ZSt.nes {s:Shared}{z TI TO i1 i2 l1 i n:Nat}{xs:List Value}(h:ZSt s z TI TO i1 i2 l1 i n xs):(@Ne Nat TI z∧@Ne Nat TO z∧@Ne Nat i1 z∧@Ne Nat i2 z∧@Ne Nat l1 z)∧(@Ne Nat TI i1∧@Ne Nat TI i2∧@Ne Nat TO i1∧@Ne Nat TO i2∧@Ne Nat i1 i2)∧(@Ne Nat l1 TO∧@Ne Nat l1 i1∧@Ne Nat l1 i2):=by
 apply hide;intro _ kι;obtain ⟨hz,ti,⟨a,b,to⟩,it1,it2,⟨k,ol⟩,ne,len⟩:=h;apply kι
 obtain ⟨zo,hz',hc⟩:∃ zo,s.heap.get? z=some zo∧zo.cls=.type "zip":=by
  rcases hz with ⟨_,hz⟩ | ⟨T,f1,oT,hz,_⟩
  ·exact (wi1_2 _ hz rfl)
  ·exact (wi1_2 _ hz rfl)
 exact (yi3 (yi5 (ne_cls ti hz' (by rw [hc];simp)) (ne_cls to hz' (by rw [hc];simp)) (ne_cls it1 hz' (by rw [hc];simp)) (ne_cls it2 hz' (by rw [hc];simp)) (ne_cls ol hz' (by rw [hc];simp))) (yi5 (ne_cls ti it1 (by simp)) (ne_cls ti it2 (by simp)) (ne_cls to it1 (by simp)) (ne_cls to it2 (by simp)) (ne_cls it1 it2 (by simp))) (yi3 (ne_cls ol to (by simp)) (ne_cls ol it1 (by simp)) (ne_cls ol it2 (by simp))))
noncomputable def ZKeep (s s':Shared) (z TO i1 i2:Nat):Prop:=(∀ c o,c≠z→c≠TO→c≠i1→c≠i2→s.heap.get? c=some o→s'.heap.get? c=some o)∧(∀ c o,s.heap.get? c=some o→∃ o',s'.heap.get? c=some o')∧s'.gens=s.gens∧s'.drawn=s.drawn∧s'.os=s.os
theorem zip_item {z TI TO i1 i2 l1 i n:Nat}{xs:List Value}{x:Value}{Q:Value→Shared→Prop}(D:ZSt s z TI TO i1 i2 l1 i n xs) (hx:xs[i]?=some x)
  (hQ:∀ s' T t,ZKeep s s' z TO i1 i2→ZSt s' z TI TO i1 i2 l1 (i+1) n xs→s.heap.get? T=none→s'.heap.get? T=some (prObj x (.int (i:Int) t))→Q (.ref T) s'):NextIs prog w A (.ref z) Q E s:=by
 (refine hide fun Zq kZ=>?_;refine xe0_3 D.nes ?_;rintro ⟨nTIz,nTOz,n1z,n2z,nlz⟩ ⟨nT1,nT2,nO1,nO2,n12⟩ ⟨nlO,nl1,nl2⟩;all_goals (refine kZ ?_;clear kZ Zq))
 apply hide;intro _ kι;obtain ⟨hz,ti,⟨a,b,to⟩,it1,it2,⟨kl,ol⟩,ne,len⟩:=D;apply kι
 have hlt:i < n:=by rw [← len];exact (List.getElem?_eq_some_iff.mp hx).1
 obtain ⟨zo,hz',hc⟩:∃ zo,s.heap.get? z=some zo∧zo.cls=.type "zip":=by
  rcases hz with ⟨_,hz⟩ | ⟨T,f1,oT,hz,_⟩
  ·exact (wi1_2 _ hz rfl)
  ·exact (wi1_2 _ hz rfl)
 have tz:s.TypeIs (.ref z) "zip":=⟨_,hz',hc⟩
 refine wpAny_callSpecial?_slot (name:=Str.ofString "__next__") tz F.slot_zip_next (wpAny_call_entry F.slot_zip_next tz F.entry_zip_next ?_ (F.args_zip_next_1 _))
 show wpAny _ _ (field (.ref z) 2 >>= _) _ _ _
 rcases hz with ⟨rfl,hz⟩ | ⟨T0,f1,oT,hz,hT0⟩
 ·refine wpAny_bind (wpAny_field hz rfl (x:=.bool false) rfl ?_)
  show wpAny _ _ (field (.ref z) 3 >>= _) _ _ _
  refine wpAny_bind (wpAny_field hz rfl (x:=.ref TI) rfl ?_)
  refine wpAny_bind (wpAny_seqItems ti rfl ?_)
  show wpAny _ _ (Builtin.SmallTypes.ownedTupleIsFree (.ref z) >>= _) _ _ _
  refine wpAny_bind ?_
  unfold Builtin.SmallTypes.ownedTupleIsFree
  refine wpAny_bind (wpAny_field hz rfl (x:=.none) rfl (wpAny_pure ?_))
  simp only [if_true]
  refine wpAny_bind (wpAny_rule ?_)
  refine wpAny_bind (wpAny_field hz rfl (x:=.ref TO) rfl ?_)
  refine wpAny_bind (wpAny_setField_rec hz (by simp) fun h₁ hz₁ hs₁=>?_)
  replace hz₁:h₁.get? z=some (zipObj .ellipsis false TI TO):=hz₁
  refine wpAny_bind ?_
  simp only [List.zipIdx_cons,List.zipIdx_nil,List.forIn_cons,List.forIn_nil]
  refine wpAny_bind (wpAny_bind (wpAny_onRaise ?_))
  show wpAny _ _ (Builtin.SmallTypes.nextOf (.ref i1) >>= _) _ _ _
  refine wpAny_bind (nextOf_of (next_item (.inl rfl) ((hs₁.2 _ n1z).trans it1) ((hs₁.2 _ nlz).trans ol) rfl (x:=x) (by simpa using hx) fun h₂ h1₂ hs₂=>wpAny_pure ?_))
  have hTO₂:IsPair h₂ TO a b:=(hs₂.2 _ nO1).trans ((hs₁.2 _ nTOz).trans to)
  refine wpAny_bind (wpAny_seqItems hTO₂ rfl ?_)
  refine wpAny_bind (wpAny_updateSeq_pair hTO₂ fun h₃ hTO₃ hs₃=>?_)
  replace hTO₃:IsPair h₃ TO x b:=hTO₃
  refine wpAny_bind (wpAny_letGo (wpAny_pure ?_))
  refine wpAny_bind (wpAny_bind (wpAny_onRaise ?_))
  show wpAny _ _ (Builtin.SmallTypes.nextOf (.ref i2) >>= _) _ _ _
  refine wpAny_bind (nextOf_of (range_nextIs (i:=0) (n:=n) ((hs₃.2 _ nO2.symm).trans ((hs₂.2 _ n12.symm).trans ((hs₁.2 _ n2z).trans it2))) hlt fun h₄ h2₄ hs₄=>wpAny_pure ?_))
  have hTO₄:IsPair h₄ TO x b:=(hs₄.2 _ nO2).trans hTO₃
  refine wpAny_bind (wpAny_seqItems hTO₄ rfl ?_)
  refine wpAny_bind (wpAny_updateSeq_pair hTO₄ fun h₅ hTO₅ hs₅=>?_)
  replace hTO₅:IsPair h₅ TO x (.int ((0:Nat):Int) s.toks):=hTO₅
  refine wpAny_bind (wpAny_letGo (wpAny_pure (wpAny_pure ?_)))
  refine wpAny_bind (wpAny_seqItems hTO₅ rfl ?_)
  refine wpAny_bind (wpAny_newTuple ?_)
  have hsz:h₅.objs.size=s.heap.objs.size:=by rw [hs₅.1,hs₄.1,hs₃.1,hs₂.1,hs₁.1]
  have hz₅:h₅.get? z=some (zipObj .ellipsis false TI TO):=(hs₅.2 _ nTOz.symm).trans ((hs₄.2 _ n2z.symm).trans ((hs₃.2 _ nTOz.symm).trans ((hs₂.2 _ n1z.symm).trans hz₁)))
  have hk₅:∀ c o,c≠z→c≠TO→c≠i1→c≠i2→s.heap.get? c=some o→h₅.get? c=some o:=fun c o c1 c2 c3 c4 e=>(hs₅.2 c c2).trans ((hs₄.2 c c4).trans ((hs₃.2 c c2).trans ((hs₂.2 c c3).trans ((hs₁.2 c c1).trans e))))
  have h1₅:=(hs₅.2 _ nO1.symm).trans ((hs₄.2 _ n12).trans ((hs₃.2 _ nO1.symm).trans h1₂))
  have h2₅:=(hs₅.2 _ nO2.symm).trans h2₄
  have hzlt:z < h₅.objs.size:=Heap.lt_size hz₅
  show wpAny _ _ (Builtin.SmallTypes.ownedTupleHandOut (.ref z) (.ref h₅.objs.size) >>= _) _ _ _
  refine wpAny_bind ?_
  unfold Builtin.SmallTypes.ownedTupleHandOut
  have hz₆:(h₅.push (prObj x (.int ((0:Nat):Int) s.toks))).get? z=some (zipObj .ellipsis false TI TO):=Heap.get?_push_of_some _ hz₅
  refine wpAny_bind (wpAny_setField_rec hz₆ (by simp) fun h₇ hz₇ hs₇=>?_)
  replace hz₇:h₇.get? z=some (zipObj (rawInt h₅.objs.size) false TI TO):=hz₇
  refine wpAny_setField_rec hz₇ (by simp) fun h₈ hz₈ hs₈=>?_
  replace hz₈:h₈.get? z=some (zipObj (rawInt h₅.objs.size) false TI TO):=hz₈
  have up:∀ c o,c≠z→h₅.get? c=some o→h₈.get? c=some o:=fun c o c1 e=>(hs₈.2 c c1).trans ((hs₇.2 c c1).trans (Heap.get?_push_of_some _ e))
  have hT₈:h₈.get? h₅.objs.size=some (prObj x (.int ((0:Nat):Int) s.toks)):=(hs₈.2 _ (Nat.ne_of_gt hzlt)).trans ((hs₇.2 _ (Nat.ne_of_gt hzlt)).trans (Heap.get?_push_size _ rfl))
  refine wpAny_pure (wi1_2 _ rfl ⟨_,rfl,?_⟩)
  show Q (.ref h₅.objs.size) _
  refine hQ _ _ s.toks ⟨fun c o c1 c2 c3 c4 e=>up c o c1 (hk₅ c o c1 c2 c3 c4 e),fun c o e=>?_,rfl,rfl,rfl⟩ ⟨.inr (wi3_2 _ _ _ hz₈ hT₈),up _ _ nTIz (hk₅ _ _ nTIz ne nT1 nT2 ti),(xi2 _ _ (up _ _ nTOz hTO₅)),up _ _ n1z h1₅,up _ _ n2z h2₅,⟨kl,up _ _ nlz (hk₅ _ _ nlz nlO nl1 nl2 ol)⟩,ne,len⟩ ?_ hT₈
  ·by_cases c1:c=z
   ·exact ⟨_,c1▸hz₈⟩
   ·by_cases c2:c=TO
    ·exact ⟨_,c2▸up _ _ nTOz hTO₅⟩
    ·by_cases c3:c=i1
     ·exact ⟨_,c3▸up _ _ n1z h1₅⟩
     ·by_cases c4:c=i2
      ·exact ⟨_,c4▸up _ _ n2z h2₅⟩
      ·exact ⟨_,up c o c1 (hk₅ c o c1 c2 c3 c4 e)⟩
  ·rw [hsz];exact Heap.get?_none_of_le (Nat.le_refl _)
 ·refine wpAny_bind (wpAny_field hz rfl (x:=.bool false) rfl ?_)
  show wpAny _ _ (field (.ref z) 3 >>= _) _ _ _
  refine wpAny_bind (wpAny_field hz rfl (x:=.ref TI) rfl ?_)
  refine wpAny_bind (wpAny_seqItems ti rfl ?_)
  show wpAny _ _ (Builtin.SmallTypes.ownedTupleIsFree (.ref z) >>= _) _ _ _
  refine wpAny_bind ?_
  unfold Builtin.SmallTypes.ownedTupleIsFree
  refine wpAny_bind (wpAny_field hz rfl (x:=rawInt (T0:Nat)) rfl ?_)
  show wpAny _ _ (loadIfAlive ((T0:Nat):Int).toNat >>= _) _ _ _
  rw [Int.toNat_natCast]
  refine wpAny_bind (wpAny_loadIfAlive hT0 ?_)
  rw [if_neg (by simp)]
  refine wpAny_bind (wpAny_field hz rfl (x:=.bool f1) rfl ?_)
  cases f1 with
  | false =>
   rw [if_pos (by decide)]
   refine wpAny_bind (wpAny_setField_rec hz (by simp) fun h₁ hz₁ hs₁=>wpAny_pure ?_)
   replace hz₁:h₁.get? z=some (zipObj (rawInt (T0:Nat)) true TI TO):=hz₁
   rw [if_neg (by decide)]
   dsimp only
   simp only [List.forIn_toArray,List.forIn_cons,List.forIn_nil]
   refine wpAny_bind (wpAny_bind (wpAny_bind (wpAny_holding ?_)))
   show wpAny _ _ (Builtin.SmallTypes.nextOf (.ref i1) >>= _) _ _ _
   refine wpAny_bind (nextOf_of (next_item (.inl rfl) ((hs₁.2 _ n1z).trans it1) ((hs₁.2 _ nlz).trans ol) rfl (x:=x) (by simpa using hx) fun h₂ h1₂ hs₂=>wpAny_pure (wpAny_pure ?_)))
   refine wpAny_bind (wpAny_bind (wpAny_holding ?_))
   show wpAny _ _ (Builtin.SmallTypes.nextOf (.ref i2) >>= _) _ _ _
   refine wpAny_bind (nextOf_of (range_nextIs (i:=i) (n:=n) ((hs₂.2 _ n12.symm).trans ((hs₁.2 _ n2z).trans it2)) hlt fun h₃ h2₃ hs₃=>wpAny_pure (wpAny_pure (wpAny_pure ?_))))
   refine wpAny_bind (wpAny_newTuple (hsz:=by simp [sizeLine]) ?_)
   have hk₃:∀ c o,c≠z→c≠i1→c≠i2→s.heap.get? c=some o→h₃.get? c=some o:=fun c o c1 c3 c4 e=>(hs₃.2 c c4).trans ((hs₂.2 c c3).trans ((hs₁.2 c c1).trans e))
   have hz₃:=(hs₃.2 _ n2z.symm).trans ((hs₂.2 _ n1z.symm).trans hz₁)
   have h1₃:=(hs₃.2 _ n12).trans h1₂
   have hsz:h₃.objs.size=s.heap.objs.size:=by rw [hs₃.1,hs₂.1,hs₁.1]
   have up:∀ c o,h₃.get? c=some o→(h₃.push (prObj x (.int (i:Int) s.toks))).get? c=some o:=fun c o e=>Heap.get?_push_of_some _ e
   have nT0:∃ oT',(h₃.push (prObj x (.int (i:Int) s.toks))).get? T0=some oT':=by
    by_cases c1:T0=z
    ·exact ⟨_,(congrArg _ c1).trans (up _ _ hz₃)⟩
    ·by_cases c3:T0=i1
     ·exact ⟨_,(congrArg _ c3).trans (up _ _ h1₃)⟩
     ·by_cases c4:T0=i2
      ·exact ⟨_,(congrArg _ c4).trans (up _ _ h2₃)⟩
      ·exact ⟨_,up _ _ (hk₃ _ _ c1 c3 c4 hT0)⟩
   obtain ⟨oT',hT0'⟩:=nT0
   refine wpAny_pure (wi1_2 _ rfl ⟨_,rfl,?_⟩)
   refine hQ _ _ s.toks ⟨fun c o c1 c2 c3 c4 e=>up c o (hk₃ c o c1 c3 c4 e),fun c o e=>?_,rfl,rfl,rfl⟩ ⟨.inr (wi3_2 _ _ _ (up _ _ hz₃) hT0'),up _ _ (hk₃ _ _ nTIz nT1 nT2 ti),(xi2 _ _ (up _ _ (hk₃ _ _ nTOz nO1 nO2 to))),up _ _ h1₃,up _ _ h2₃,⟨kl,up _ _ (hk₃ _ _ nlz nl1 nl2 ol)⟩,ne,len⟩ ?_ (Heap.get?_push_size _ rfl)
   ·by_cases c1:c=z
    ·exact ⟨_,c1▸up _ _ hz₃⟩
    ·by_cases c3:c=i1
     ·exact ⟨_,c3▸up _ _ h1₃⟩
     ·by_cases c4:c=i2
      ·exact ⟨_,c4▸up _ _ h2₃⟩
      ·exact ⟨_,up c o (hk₃ c o c1 c3 c4 e)⟩
   ·rw [hsz];exact Heap.get?_none_of_le (Nat.le_refl _)
  | true =>
   rw [if_neg (by decide)]
   refine wpAny_pure ?_
   rw [if_neg (by decide)]
   have hz₁:=hz
   have hs₁:Heap.SameBut z s.heap s.heap:=⟨rfl,fun _ _=>rfl⟩
   dsimp only
   simp only [List.forIn_toArray,List.forIn_cons,List.forIn_nil]
   refine wpAny_bind (wpAny_bind (wpAny_bind (wpAny_holding ?_)))
   show wpAny _ _ (Builtin.SmallTypes.nextOf (.ref i1) >>= _) _ _ _
   refine wpAny_bind (nextOf_of (next_item (.inl rfl) ((hs₁.2 _ n1z).trans it1) ((hs₁.2 _ nlz).trans ol) rfl (x:=x) (by simpa using hx) fun h₂ h1₂ hs₂=>wpAny_pure (wpAny_pure ?_)))
   refine wpAny_bind (wpAny_bind (wpAny_holding ?_))
   show wpAny _ _ (Builtin.SmallTypes.nextOf (.ref i2) >>= _) _ _ _
   refine wpAny_bind (nextOf_of (range_nextIs (i:=i) (n:=n) ((hs₂.2 _ n12.symm).trans ((hs₁.2 _ n2z).trans it2)) hlt fun h₃ h2₃ hs₃=>wpAny_pure (wpAny_pure (wpAny_pure ?_))))
   refine wpAny_bind (wpAny_newTuple (hsz:=by simp [sizeLine]) ?_)
   have hk₃:∀ c o,c≠z→c≠i1→c≠i2→s.heap.get? c=some o→h₃.get? c=some o:=fun c o c1 c3 c4 e=>(hs₃.2 c c4).trans ((hs₂.2 c c3).trans ((hs₁.2 c c1).trans e))
   have hz₃:=(hs₃.2 _ n2z.symm).trans ((hs₂.2 _ n1z.symm).trans hz₁)
   have h1₃:=(hs₃.2 _ n12).trans h1₂
   have hsz:h₃.objs.size=s.heap.objs.size:=by rw [hs₃.1,hs₂.1,hs₁.1]
   have up:∀ c o,h₃.get? c=some o→(h₃.push (prObj x (.int (i:Int) s.toks))).get? c=some o:=fun c o e=>Heap.get?_push_of_some _ e
   have nT0:∃ oT',(h₃.push (prObj x (.int (i:Int) s.toks))).get? T0=some oT':=by
    by_cases c1:T0=z
    ·exact ⟨_,(congrArg _ c1).trans (up _ _ hz₃)⟩
    ·by_cases c3:T0=i1
     ·exact ⟨_,(congrArg _ c3).trans (up _ _ h1₃)⟩
     ·by_cases c4:T0=i2
      ·exact ⟨_,(congrArg _ c4).trans (up _ _ h2₃)⟩
      ·exact ⟨_,up _ _ (hk₃ _ _ c1 c3 c4 hT0)⟩
   obtain ⟨oT',hT0'⟩:=nT0
   refine wpAny_pure (wi1_2 _ rfl ⟨_,rfl,?_⟩)
   refine hQ _ _ s.toks ⟨fun c o c1 c2 c3 c4 e=>up c o (hk₃ c o c1 c3 c4 e),fun c o e=>?_,rfl,rfl,rfl⟩ ⟨.inr (wi3_2 _ _ _ (up _ _ hz₃) hT0'),up _ _ (hk₃ _ _ nTIz nT1 nT2 ti),(xi2 _ _ (up _ _ (hk₃ _ _ nTOz nO1 nO2 to))),up _ _ h1₃,up _ _ h2₃,⟨kl,up _ _ (hk₃ _ _ nlz nl1 nl2 ol)⟩,ne,len⟩ ?_ (Heap.get?_push_size _ rfl)
   ·by_cases c1:c=z
    ·exact ⟨_,c1▸up _ _ hz₃⟩
    ·by_cases c3:c=i1
     ·exact ⟨_,c3▸up _ _ h1₃⟩
     ·by_cases c4:c=i2
      ·exact ⟨_,c4▸up _ _ h2₃⟩
      ·exact ⟨_,up c o (hk₃ c o c1 c3 c4 e)⟩
   ·rw [hsz];exact Heap.get?_none_of_le (Nat.le_refl _)
theorem zip_end {z TI TO i1 i2 l1 n:Nat}{xs:List Value}{Q:Value→Shared→Prop}(hh:A.handled=none) (D:ZSt s z TI TO i1 i2 l1 n n xs)
  (hE:∀ s' e,ZKeep s s' z TO i1 i2→Stops (.ref e) s'→E (.ref e) s'):NextIs prog w A (.ref z) Q E s:=by
 (refine hide fun Zq kZ=>?_;refine xe0_3 D.nes ?_;rintro ⟨nTIz,nTOz,n1z,n2z,nlz⟩ ⟨nT1,nT2,nO1,nO2,n12⟩ ⟨nlO,nl1,nl2⟩;all_goals (refine kZ ?_;clear kZ Zq))
 apply hide;intro _ kι;obtain ⟨hz,ti,⟨a,b,to⟩,it1,it2,⟨kl,ol⟩,ne,len⟩:=D;apply kι
 obtain ⟨zo,hz',hc⟩:∃ zo,s.heap.get? z=some zo∧zo.cls=.type "zip":=by
  rcases hz with ⟨_,hz⟩ | ⟨T,f1,oT,hz,_⟩
  ·exact (wi1_2 _ hz rfl)
  ·exact (wi1_2 _ hz rfl)
 have tz:s.TypeIs (.ref z) "zip":=⟨_,hz',hc⟩
 refine wpAny_callSpecial?_slot (name:=Str.ofString "__next__") tz F.slot_zip_next (wpAny_call_entry F.slot_zip_next tz F.entry_zip_next ?_ (F.args_zip_next_1 _))
 have hx:xs.toArray[n]?=none:=by simp [len]
 show wpAny _ _ (field (.ref z) 2 >>= _) _ _ _
 rcases hz with ⟨rfl,hz⟩ | ⟨T0,f1,oT,hz,hT0⟩
 ·refine wpAny_bind (wpAny_field hz rfl (x:=.bool false) rfl ?_)
  show wpAny _ _ (field (.ref z) 3 >>= _) _ _ _
  refine wpAny_bind (wpAny_field hz rfl (x:=.ref TI) rfl ?_)
  refine wpAny_bind (wpAny_seqItems ti rfl ?_)
  show wpAny _ _ (Builtin.SmallTypes.ownedTupleIsFree (.ref z) >>= _) _ _ _
  refine wpAny_bind ?_
  unfold Builtin.SmallTypes.ownedTupleIsFree
  refine wpAny_bind (wpAny_field hz rfl (x:=.none) rfl (wpAny_pure ?_))
  simp only [if_true]
  refine wpAny_bind (wpAny_rule ?_)
  refine wpAny_bind (wpAny_field hz rfl (x:=.ref TO) rfl ?_)
  refine wpAny_bind (wpAny_setField_rec hz (by simp) fun h₁ hz₁ hs₁=>?_)
  replace hz₁:h₁.get? z=some (zipObj .ellipsis false TI TO):=hz₁
  refine wpAny_bind ?_
  simp only [List.zipIdx_cons,List.zipIdx_nil,List.forIn_cons,List.forIn_nil]
  refine wpAny_bind (wpAny_bind (wpAny_onRaise ?_))
  show wpAny _ _ (Builtin.SmallTypes.nextOf (.ref i1) >>= _) _ _ _
  refine wpAny_bind (nextOf_of (next_end (A:=A.in1) (.inl rfl) hh ((hs₁.2 _ n1z).trans it1) ((hs₁.2 _ nlz).trans ol) rfl hx fun h₂ h₃ e q1 q2 nx hz3=>?_))
  have hz₃:h₃.get? z=some (zipObj .ellipsis false TI TO):=nx.keeps _ _ ((q2.2 _ n1z.symm).trans hz₁)
  refine xe2_3 (raw_of nx) fun oe vs9 he hce _=>?_
  have hez:e≠z:=fun x=>by rw [x,hz₃] at he;(replace he:=Eq.symm he;cases he);simp at hce
  refine wpAny_setField_rec hz₃ (by simp) fun h₄ hz₄ hs₄=>hE _ e ⟨fun c o c1 _ c3 _ x=>(hs₄.2 c c1).trans (nx.keeps _ _ ((q2.2 c c3).trans ((hs₁.2 c c1).trans x))),fun c o x=>?_,rfl,rfl,rfl⟩ ⟨oe,(hs₄.2 e hez).trans he,hce⟩
  by_cases c1:c=z
  ·exact ⟨_,c1▸hz₄⟩
  ·by_cases c3:c=i1
   ·exact ⟨_,(hs₄.2 c c1).trans (c3▸nx.keeps _ _ q1)⟩
   ·exact ⟨_,(hs₄.2 c c1).trans (nx.keeps _ _ ((q2.2 c c3).trans ((hs₁.2 c c1).trans x)))⟩
 ·refine wpAny_bind (wpAny_field hz rfl (x:=.bool false) rfl ?_)
  show wpAny _ _ (field (.ref z) 3 >>= _) _ _ _
  refine wpAny_bind (wpAny_field hz rfl (x:=.ref TI) rfl ?_)
  refine wpAny_bind (wpAny_seqItems ti rfl ?_)
  show wpAny _ _ (Builtin.SmallTypes.ownedTupleIsFree (.ref z) >>= _) _ _ _
  refine wpAny_bind ?_
  unfold Builtin.SmallTypes.ownedTupleIsFree
  refine wpAny_bind (wpAny_field hz rfl (x:=rawInt (T0:Nat)) rfl ?_)
  show wpAny _ _ (loadIfAlive ((T0:Nat):Int).toNat >>= _) _ _ _
  rw [Int.toNat_natCast]
  refine wpAny_bind (wpAny_loadIfAlive hT0 ?_)
  rw [if_neg (by simp)]
  refine wpAny_bind (wpAny_field hz rfl (x:=.bool f1) rfl ?_)
  cases f1 with
  | false =>
   rw [if_pos (by decide)]
   refine wpAny_bind (wpAny_setField_rec hz (by simp) fun h₁ hz₁ hs₁=>wpAny_pure ?_)
   replace hz₁:h₁.get? z=some (zipObj (rawInt (T0:Nat)) true TI TO):=hz₁
   rw [if_neg (by decide)]
   dsimp only
   simp only [List.forIn_toArray,List.forIn_cons,List.forIn_nil]
   refine wpAny_bind (wpAny_bind (wpAny_bind (wpAny_holding ?_)))
   show wpAny _ _ (Builtin.SmallTypes.nextOf (.ref i1) >>= _) _ _ _
   refine wpAny_bind (nextOf_of (next_end (A:=A.in1) (.inl rfl) hh ((hs₁.2 _ n1z).trans it1) ((hs₁.2 _ nlz).trans ol) rfl hx fun h₂ h₃ e q1 q2 nx hz3=>?_))
   refine hE _ e ⟨fun c o c1 _ c3 _ x=>nx.keeps _ _ ((q2.2 c c3).trans ((hs₁.2 c c1).trans x)),fun c o x=>?_,rfl,rfl,rfl⟩ (raw_stops (s:={ s with heap:=h₃ }) (raw_of nx))
   by_cases c1:c=z
   ·exact ⟨_,nx.keeps _ _ ((q2.2 c (fun q=>n1z (q.symm.trans c1))).trans (c1▸hz₁))⟩
   ·by_cases c3:c=i1
    ·exact ⟨_,c3▸nx.keeps _ _ q1⟩
    ·exact ⟨_,nx.keeps _ _ ((q2.2 c c3).trans ((hs₁.2 c c1).trans x))⟩
  | true =>
   rw [if_neg (by decide)]
   refine wpAny_pure ?_
   rw [if_neg (by decide)]
   dsimp only
   simp only [List.forIn_toArray,List.forIn_cons,List.forIn_nil]
   refine wpAny_bind (wpAny_bind (wpAny_bind (wpAny_holding ?_)))
   show wpAny _ _ (Builtin.SmallTypes.nextOf (.ref i1) >>= _) _ _ _
   refine wpAny_bind (nextOf_of (next_end (A:=A.in1) (.inl rfl) hh it1 ol rfl hx fun h₂ h₃ e q1 q2 nx hz3=>?_))
   refine hE _ e ⟨fun c o c1 _ c3 _ x=>nx.keeps _ _ ((q2.2 c c3).trans x),fun c o x=>?_,rfl,rfl,rfl⟩ (raw_stops (s:={ s with heap:=h₃ }) (raw_of nx))
   by_cases c3:c=i1
   ·exact ⟨_,c3▸nx.keeps _ _ q1⟩
   ·exact ⟨_,nx.keeps _ _ ((q2.2 c c3).trans x)⟩
end
noncomputable abbrev zH1 (h:Heap) (l1:Nat):Heap:=h.push (itObj "list_iterator" (.ref l1) 0)
noncomputable abbrev zH2 (h:Heap) (l1 n:Nat):Heap:=(zH1 h l1).push (rngObj 0 n)
noncomputable abbrev zH3 (h:Heap) (l1 n:Nat):Heap:=(zH2 h l1 n).push (prObj (.ref h.objs.size) (.ref (zH1 h l1).objs.size))
noncomputable abbrev zH4 (h:Heap) (l1 n:Nat):Heap:=(zH3 h l1 n).push (prObj .none .none)
noncomputable abbrev zH5 (h:Heap) (l1 n:Nat):Heap:=(zH4 h l1 n).push (zipObj .none false (zH2 h l1 n).objs.size (zH3 h l1 n).objs.size)
theorem rng0 (n:Nat):rngObj 0 n={ cls:=.type "range_iterator",data:=.fields #[rawInt 0,rawInt (Builtin.Range.rangeSize 0 (n:Int) 1),rawInt 1] }:=by
 have sz:Builtin.Range.rangeSize 0 (n:Int) 1=(n:Int):=by rw [rangeSize_nat];simp
 rw [sz];simp [rngObj]
theorem meets_zip (l1 r n:Nat) (xs:Array Value) (t u v:Tok) (hn:n < 1000) :
  Meets (Builtin.«zip.__new__» ⟨[.type "zip",.ref l1,.ref r],[]⟩) (fun _ R s=>s.heap.IsList l1 xs∧IsRange s.heap r 0 (n:Int) 1 t u v ∧
   R (.ok (.ret (.ref (zH4 s.heap l1 n).objs.size))) { s with heap:=zH5 s.heap l1 n }) :=
 .of_wp fun prog w A R s h=>by
  apply hide;intro _ kι;obtain ⟨hp,g,d,tk,os⟩:=s;apply kι;refine xe0_3 h fun hl1 hr h=>?_
  have hsub:=sub_zip
  have hL1:Heap.IsList (Shared.heap ⟨hp,g,d,tk,os⟩) l1 xs:=hl1
  have hR:IsRange (Shared.heap ⟨hp.push { cls:=.type "list_iterator",data:=.fields #[.ref l1,.int 0 0] },g,d,tk,os⟩) r 0 (n:Int) 1 t u v:=Heap.get?_push_of_some _ hr
  have hsm:Builtin.Range.small 0 (n:Int) 1=true:=small_one (by exact zq57) (by decide) (Int.le_trans (by decide) (Int.natCast_nonneg n)) (Int.ofNat_lt.2 (Nat.lt_trans hn (Nat.le_of_ble_eq_true rfl)))
  simp only [zH5,zH4,zH3,zH2,rng0] at h
  wp_walk using wpAny_pyIter_list hL1,wpAny_pyIter_range hR hsm
  exact (wi1_2 _ rfl h)
theorem call_zip {prog:Program}{w:World}{A:Around}{E:Value→Shared→Prop}{s:Shared}{l1 r n k:Nat}{xs:List Value}{t u v:Tok}{Q:Value→Shared→Prop}(ol:s.heap.get? l1=some (W.listOf xs.toArray k)) (hr:IsRange s.heap r 0 (n:Int) 1 t u v) (hn:n < 1000) (hx:xs.length=n)
  (h:∀ s' z TI TO i1 i2,(∀ c o,s.heap.get? c=some o→s'.heap.get? c=some o)→s'.gens=s.gens→s'.drawn=s.drawn→s'.os=s.os→ZSt s' z TI TO i1 i2 l1 0 n xs→(∀ b∈[z,TI,TO,i1,i2],s.heap.get? b=none)→Q (.ref z) s') :
  wpAny (model prog w) A (call (.type "zip") [.ref l1,.ref r]) Q E s:=by
 refine callType_new F.called_zip (by decide) (F.typeCall_zip_2 _ _) (F.newCall_zip_2 _ _) (fun obj=>F.args_object_init_3 obj _ _) F.entry_zip_new (meets_zip l1 r n xs.toArray t u v hn) (yi3 ⟨_,ol,rfl,_,rfl⟩ hr ?_)
 have z1:(zH1 s.heap l1).objs.size=s.heap.objs.size+1:=Heap.size_push ..
 have z2:(zH2 s.heap l1 n).objs.size=s.heap.objs.size+2:=by rw [Heap.size_push,z1]
 have z3:(zH3 s.heap l1 n).objs.size=s.heap.objs.size+3:=by rw [Heap.size_push,z2]
 have z4:(zH4 s.heap l1 n).objs.size=s.heap.objs.size+4:=by rw [Heap.size_push,z3]
 have g5:(zH5 s.heap l1 n).get? (zH4 s.heap l1 n).objs.size=some _:=Heap.get?_push_size _ rfl
 have g4:(zH5 s.heap l1 n).get? (zH3 s.heap l1 n).objs.size=some _:=Heap.get?_push_of_some _ (Heap.get?_push_size _ rfl)
 have g3:(zH5 s.heap l1 n).get? (zH2 s.heap l1 n).objs.size=some _:=Heap.get?_push_of_some _ (Heap.get?_push_of_some _ (Heap.get?_push_size _ rfl))
 have g2:(zH5 s.heap l1 n).get? (zH1 s.heap l1).objs.size=some _:=Heap.get?_push_of_some _ (Heap.get?_push_of_some _ (Heap.get?_push_of_some _ (Heap.get?_push_size _ rfl)))
 have g1:(zH5 s.heap l1 n).get? s.heap.objs.size=some _:=Heap.get?_push_of_some _ (Heap.get?_push_of_some _ (Heap.get?_push_of_some _ (Heap.get?_push_of_some _ (Heap.get?_push_size _ rfl))))
 have kp:∀ c o,s.heap.get? c=some o→(zH5 s.heap l1 n).get? c=some o:=fun c o e=>Heap.get?_push_of_some _ (Heap.get?_push_of_some _ (Heap.get?_push_of_some _ (Heap.get?_push_of_some _ (Heap.get?_push_of_some _ e))))
 show _∧_
 refine ⟨⟨_,g5,rfl⟩,h _ _ (zH2 s.heap l1 n).objs.size (zH3 s.heap l1 n).objs.size s.heap.objs.size (zH1 s.heap l1).objs.size kp rfl rfl rfl ⟨.inl ⟨rfl,g5⟩,g3,(xi2 _ _ g4),g1,g2,⟨k,kp _ _ ol⟩,?_,hx⟩ ?_⟩
 ·rw [z2,z3];exact zq493
 ·have nn:∀ b,s.heap.objs.size≤b→s.heap.get? b=none:=fun b hb=>Heap.get?_none_of_le hb
  refine fq (nn _ (by rw [z4];exact Nat.le_add_right _ 4)) (fq (nn _ (by rw [z2];exact zq87)) (fq (nn _ (by rw [z3];exact Nat.le_add_right _ 3)) (fq (nn _ (Nat.le_refl _)) (fq (nn _ (by rw [z1];exact zq16)) fn0))))
theorem list_zip {prog:Program}{w:World}{A:Around}{E:Value→Shared→Prop}{s:Shared}{z TI TO i1 i2 l1 n:Nat}{xs:List Value}{Q:Value→Shared→Prop}(hh:A.handled=none) (Z:ZSt s z TI TO i1 i2 l1 0 n xs) (hn:n < 1000)
  (hQ:∀ (s':Shared) (S:Nat) (acc:List Value) (c':Nat),(∀ c o,c≠z→c≠TO→c≠i1→c≠i2→s.heap.get? c=some o→s'.heap.get? c=some o)→(∀ c o,s.heap.get? c=some o→∃ o',s'.heap.get? c=some o')→s'.gens=s.gens→s'.drawn=s.drawn→s'.os=s.os→s.heap.get? S=none→s'.heap.get? S=some (lstObj acc.toArray c')→acc.length=n →
   (∀ (j:Nat) (v:Value),acc[j]?=some v→∃ T t x,v=.ref T∧xs[j]?=some x∧s.heap.get? T=none∧T≠S∧s'.heap.get? T=some (prObj x (.int (j:Int) t)))→Q (.ref S) s') :
  wpAny (model prog w) A (call (.type "list") [.ref z]) Q E s:=by
 (refine hide fun Zq kZ=>?_;refine xe0_3 Z.nes ?_;rintro ⟨nTIz,nTOz,n1z,n2z,nlz⟩ ⟨nT1,nT2,nO1,nO2,n12⟩ ⟨nlO,nl1,nl2⟩;all_goals (refine kZ ?_;clear kZ Zq))
 have Z0:=Z
 apply hide;intro _ kι;obtain ⟨hz,ti,⟨a,b,to⟩,it1,it2,⟨kl,ol⟩,ne,len⟩:=Z;apply kι
 obtain ⟨zo,hz',hc⟩:∃ zo,s.heap.get? z=some zo∧zo.cls=.type "zip":=by
  rcases hz with ⟨_,hz⟩ | ⟨T,f1,oT,hz,_⟩
  ·exact (wi1_2 _ hz rfl)
  ·exact (wi1_2 _ hz rfl)
 have hI:z < s.heap.objs.size:=Heap.lt_size hz'
 have lt:∀ c o,s.heap.get? c=some o→c≠s.heap.objs.size:=fun c o e=>Nat.ne_of_lt (Heap.lt_size e)
 refine list_of hI fun S s₁ hSe hs hk=>?_
 subst hSe
 (refine xe1_2 hs ?_;rintro c rfl hS)
 generalize hs1:({ s with heap:=(s.heap.push (lstObj #[] 0)).update s.heap.objs.size (Obj.mapSeq (fun _=>(#[]:Array Value))) }:Shared)=s₁ at hS hk ⊢
 have hg1:s₁.gens=s.gens∧s₁.drawn=s.drawn∧s₁.os=s.os:=by subst hs1;exact (yi3 rfl rfl rfl)
 have tI:s₁.TypeIs (.ref z) "zip":=⟨zo,hk _ _ hz',hc⟩
 have hSI:s.heap.objs.size≠z:=Nat.ne_of_gt hI
 have move:∀ {s₂ s₃:Shared}{i:Nat},(∀ c o,c≠s.heap.objs.size→s₂.heap.get? c=some o→s₃.heap.get? c=some o)→ZSt s₂ z TI TO i1 i2 l1 i n xs→(∀ b∈[z,TI,TO,i1,i2,l1],b≠s.heap.objs.size)→(∀ T f1 oT,s₂.heap.get? z=some (zipObj (rawInt (T:Nat)) f1 TI TO)→s₂.heap.get? T=some oT→∃ oT',s₃.heap.get? T=some oT')→ZSt s₃ z TI TO i1 i2 l1 i n xs:=fun {s₂ s₃ i} k Z2 nb kT=>by
  apply hide;intro _ kι;obtain ⟨hz,ti,⟨a,b,to⟩,it1,it2,⟨kl,ol⟩,ne,len⟩:=Z2;apply kι
  refine ⟨?_,k _ _ (nb _ zm1) ti,(xi2 a b (k _ _ (nb _ zm2) to)),k _ _ (nb _ zm3) it1,k _ _ (nb _ zm4) it2,⟨kl,k _ _ (nb _ zm5) ol⟩,ne,len⟩
  rcases hz with ⟨e,hz⟩ | ⟨T,f1,oT,hz,hT⟩
  ·exact .inl ⟨e,k _ _ (nb _ zm0) hz⟩
  ·obtain ⟨oT',hT'⟩:=kT T f1 oT hz hT
   exact .inr (wi3_2 T f1 oT' (k _ _ (nb _ zm0) hz) hT')
 have nb:∀ b∈[z,TI,TO,i1,i2,l1],b≠s.heap.objs.size:=fq (lt _ _ hz') (fq (lt _ _ ti) (fq (lt _ _ to) (fq (lt _ _ it1) (fq (lt _ _ it2) (fq (lt _ _ ol) fn0)))))
 let J:List Value→Shared→Prop:=fun acc s₂=>(∀ c o,c≠z→c≠TO→c≠i1→c≠i2→s.heap.get? c=some o→s₂.heap.get? c=some o)∧(∀ c o,s.heap.get? c=some o→∃ o',s₂.heap.get? c=some o')∧s₂.gens=s.gens∧s₂.drawn=s.drawn∧s₂.os=s.os∧ZSt s₂ z TI TO i1 i2 l1 acc.length n xs∧(∃ oS,s₂.heap.get? s.heap.objs.size=some oS) ∧
  ∀ (j:Nat) (v:Value),acc[j]?=some v→∃ T t x,v=.ref T∧xs[j]?=some x∧s.heap.get? T=none∧T≠s.heap.objs.size∧s₂.heap.get? T=some (prObj x (.int (j:Int) t))
 have D:DrnA prog w A.in1.in1 s.heap.objs.size (.ref z) n J (fun acc s'=>(∀ c o,c≠z→c≠TO→c≠i1→c≠i2→s.heap.get? c=some o→s'.heap.get? c=some o)∧(∀ c o,s.heap.get? c=some o→∃ o',s'.heap.get? c=some o')∧s'.gens=s.gens∧s'.drawn=s.drawn∧s'.os=s.os∧∀ (j:Nat) (v:Value),acc[j]?=some v→∃ T t x,v=.ref T∧xs[j]?=some x∧s.heap.get? T=none∧T≠s.heap.objs.size∧s'.heap.get? T=some (prObj x (.int (j:Int) t))):=by
  refine ⟨?_,?_,?_⟩
  ·(intro acc s₂ h' q3 hs hS';apply hide;intro _ kι;obtain ⟨k1,k2,k3,k4,k5,k6,⟨oS,k7⟩,k8⟩:=q3;apply kι)
   refine (yi8 (fun c o c1 c2 c3 c4 e=>(hs.2 c (lt _ _ e)).trans (k1 c o c1 c2 c3 c4 e)) (fun c o e=>?_) k3 k4 k5 (move (fun c o hc e=>(hs.2 c hc).trans e) k6 nb (fun T f1 oT _ e=>?_)) hS' (fun j v hj=>?_))
   ·obtain ⟨o',e'⟩:=k2 c o e
    exact ⟨o',(hs.2 c (lt _ _ e)).trans e'⟩
   ·by_cases q:T=s.heap.objs.size
    ·rw [q];exact hS'
    ·exact ⟨oT,(hs.2 T q).trans e⟩
   ·refine xe3_5 (k8 j v hj) fun T t x e1 e2 e3 e4 e5=>?_
    exact (wi3_5 T t x e1 e2 e3 e4 ((hs.2 T e4).trans e5))
  ·(intro acc s₂ Q' E' hl q5 hQ';apply hide;intro _ kι;obtain ⟨k1,k2,k3,k4,k5,k6,⟨oS,k7⟩,k8⟩:=q5;apply kι)
   have hx:xs[acc.length]?=some (xs[acc.length]'(by exact zq63 len hl)):=List.getElem?_eq_getElem _
   refine pyNext_of (zip_item k6 hx fun s₃ T t zk Z3 fT oT=>?_)
   refine xe0_5 zk fun m1 m2 m3 m4 m5=>?_
   refine hQ' _ s₃ (yi8 (fun c o c1 c2 c3 c4 e=>m1 c o c1 c2 c3 c4 (k1 c o c1 c2 c3 c4 e)) (fun c o e=>?_) (m3.trans k3) (m4.trans k4) (m5.trans k5) (by rw [List.length_append];exact Z3) ?_ (fun j v hj=>?_)) ?_
   ·obtain ⟨o',e'⟩:=k2 c o e;exact m2 c o' e'
   ·exact m2 _ _ k7
   ·rcases Nat.lt_trichotomy j acc.length with h | h | h
    ·rw [List.getElem?_append_left h] at hj
     refine xe3_5 (k8 j v hj) fun T' t' x e1 e2 e3 e4 e5=>?_
     exact (wi3_5 T' t' x e1 e2 e3 e4 (m1 _ _ (fun q=>by rw [q,hz'] at e3;exact nsf e3.symm) (fun q=>by rw [q,to] at e3;exact nsf e3.symm) (fun q=>by rw [q,it1] at e3;exact nsf e3.symm) (fun q=>by rw [q,it2] at e3;exact nsf e3.symm) e5))
    ·subst h
     rw [List.getElem?_append_right (Nat.le_refl _)] at hj
     simp at hj
     subst hj
     refine (wi3_5 T t _ rfl hx ?_ ?_ oT)
     ·cases q:s.heap.get? T with
      | none=>rfl
      | some o=>obtain ⟨o',e'⟩:=k2 _ _ q;rw [fT] at e';exact nsf e'
     ·intro q;rw [q,k7] at fT;exact nsf fT.symm
    ·rw [List.getElem?_eq_none (by simp;exact zq24 h)] at hj;exact nsf hj
   ·rw [k7];exact m1 _ _ (nb z zm0).symm (nb TO zm2).symm (nb i1 zm3).symm (nb i2 zm4).symm k7
  ·(intro acc s₂ Q' E' hl q5 hQ';apply hide;intro _ kι;obtain ⟨k1,k2,k3,k4,k5,k6,⟨oS,k7⟩,k8⟩:=q5;apply kι)
   rw [hl] at k6
   refine pyNext_of (zip_end hh k6 fun s₃ e zk st=>⟨st,?_⟩)
   refine xe0_5 zk fun m1 m2 m3 m4 m5=>?_
   refine hQ' s₃ (yi6 (fun c o c1 c2 c3 c4 e=>m1 c o c1 c2 c3 c4 (k1 c o c1 c2 c3 c4 e)) (fun c o e=>?_) (m3.trans k3) (m4.trans k4) (m5.trans k5) (fun j v hj=>?_)) ?_
   ·obtain ⟨o',e'⟩:=k2 c o e;exact m2 c o' e'
   ·refine xe3_5 (k8 j v hj) fun T t x e1 e2 e3 e4 e5=>?_
    exact (wi3_5 T t x e1 e2 e3 e4 (m1 _ _ (fun q=>by rw [q,hz'] at e3;exact nsf e3.symm) (fun q=>by rw [q,to] at e3;exact nsf e3.symm) (fun q=>by rw [q,it1] at e3;exact nsf e3.symm) (fun q=>by rw [q,it2] at e3;exact nsf e3.symm) e5))
   ·rw [k7];exact m1 _ _ (nb z zm0).symm (nb TO zm2).symm (nb i1 zm3).symm (nb i2 zm4).symm k7
 unfold Builtin.List.listExtendWith
 refine wpAny_bind (wpAny_typeOf tI ?_)
 have h1:Builtin.List.listSameRef (.ref s.heap.objs.size) (.ref z)=false:=by simp [Builtin.List.listSameRef,hSI]
 have h2:(Value.type "zip" == Value.type "list")=false:=by decide
 have h3:(Value.type "zip" == Value.type "tuple")=false:=by decide
 simp only [h1,h2,h3,Bool.or_false,Bool.false_eq_true,if_false]
 refine wpAny_bind (Q:=_) (wpAny_pyIter_slot tI F.slot_zip_iter (wpAny_call_entry F.slot_zip_iter tI F.entry_zip_iter ?_ (F.args_zip_iter_1 _)))
 show wpAny _ _ (ret (.ref z)) _ _ _
 refine wpAny_pure (wi1_2 _ rfl ⟨"zip",_,tI,F.slot_zip_next.lookup,?_⟩)
 refine wpAny_bind (wpAny_holding ?_)
 unfold Builtin.List.listLengthHint
 refine wpAny_bind (wpAny_specialOf (r:=none) tI (by rw [typeLookup_type,builtinLookup_eq_fast];kernel_rfl) ?_)
 show wpAny _ A.in1.in1 (specialOf (Value.ref z) (Str.ofString "__length_hint__") >>= _) _ _ _
 refine wpAny_bind (wpAny_specialOf (r:=none) tI (by rw [typeLookup_type,builtinLookup_eq_fast];kernel_rfl) ?_)
 refine wpAny_pure ?_
 show wpAny _ A.in1.in1 (rule "list.extend.makes-room" >>= fun _=>Builtin.List.listTouch (.ref s.heap.objs.size) >>= fun _=>again (.builtin "list.extend.loop" ⟨[.ref s.heap.objs.size,.ref z,.none],[]⟩)) _ _ _
 refine touch_loopA D (by exact Nat.le_of_succ_le hn) (yi8 (fun c o _ _ _ _ e=>hk c o e) (fun c o e=>⟨o,hk c o e⟩) hg1.1 hg1.2.1 hg1.2.2 (move (fun c o _ e=>?_) Z0 nb ?_) ⟨_,hS⟩ (fun j v hj=>by simp at hj)) hS fun s' acc c' hj hl hs=>?_
 ·exact hk c o e
 ·exact fun T f1 oT _ e=>⟨oT,hk _ _ e⟩
 ·refine xe0_6 hj fun k1 k2 k3 k4 k5 k6=>?_
  exact hQ s' _ acc c' k1 k2 k3 k4 k5 (Heap.get?_none_of_le (Nat.le_refl _)) hs hl k6
theorem given2_ {G:Gr}{A:Around}{outer:List Env}{d u:Nat}{s:Shared}{R mm tn k:Nat}{V:List Value}{Q E:Value→Shared→Prop}
  (c:Cx G A outer (d+1) (u+3) s.heap) (o1:s.heap.get? R=some (W.listOf V.toArray k)) (ob:G.base.get? R=none) (hl:V.length≤4)
  (post:∀ s' z TI TO i1 i2 l1 xs,Ext [] [] [] s s'→s'.gens=s.gens→ZSt s' z TI TO i1 i2 l1 0 V.length xs→(∀ x∈xs,∃ t,x=.int 2 t)→(∀ b∈[z,TI,TO,i1,i2],s.heap.get? b=none)→Q (.ref z) s') :
  wpAny (model PR G.w) A (call (.ref 268) [.int 2 tn,.ref R,.ref mm]) Q E s:=by
 refine cx_open c ?_;clear c;intro ad ag au c
 have hb:∀ a∈R :: frs outer,G.base.get? a=none:=fq ob (fun a ha=>(frs_old c.ff a ha).1)
 have X:=c.inK hb
 have T:=c.top hb
 have C:=G.C2.keeps fun b o e=>hideAll_get (h:=s.heap) (R :: frs outer) (c.st b o e) fun q=>by rw [hb b q] at e;cases e
 refine wpAny_call (entC X c.nolimit (by k_is) (by k_is) (by have:=c.dp;dsimp only at this ⊢;exact zq2 this) (BindsTo.of_eq rfl) (kindsX rfl) (by decide) ?_)
 intro h₁ tk cells F NC CA fc hk
 (refine xe2_3 (CellsAre.two CA) ?_;rintro oc1 oc2 rfl hc1 hc2)
 have hc1':oc1.data=.cell (some (.ref mm)):=hc1
 have hc2':oc2.data=.cell (some (.ref R)):=hc2
 clear hc1 hc2 CA
 have f1:=fc _ (.head _)
 have f2:=fc _ (.tail _ (.head _))
 dsimp only at f1 f2
 have hA:∀ q∈[(R,W.listOf V.toArray k)],s.heap.get? q.1=some q.2:=fq o1 fn0
 refine xe1_3 (ledger (fr:=frs outer) (hid:=R :: frs outer) hk hA rfl (fun a ha=>let ⟨_,o,ho,_⟩:=frs_old c.ff a ha;⟨o,ho⟩)) fun rest N₀ rne hr=>?_
 have N:News (hideAll s.heap (R :: frs outer)) s.heap.objs.size h₁ ([(s.heap.objs.size+1+1,oc1),(s.heap.objs.size+1,oc2)]++([(R,W.listOf V.toArray k)]++rest)):=fun p hp=>(List.mem_append.mp hp).elim (NC p) (N₀ p)
 clear N₀ NC
 simp only [List.cons_append,List.nil_append] at N
 have r1:=rne R zp0
 have n1:@Ne Nat (s.heap.objs.size+1+1) R:=fun q=>by rw [q] at f1;rw [f1] at o1;cases o1
 have n2:@Ne Nat (s.heap.objs.size+1) R:=fun q=>by rw [q] at f2;rw [f2] at o1;cases o1
 have n3:@Ne Nat (s.heap.objs.size+1) (s.heap.objs.size+1+1):=by exact zq14
 clear rne
 obtain ⟨kk,hsz⟩:∃ k,V.toArray.size=k:=⟨_,rfl⟩
 have hlk:V.length=kk:=by simpa using hsz
 dsimp only
 k_steps
 rename Fr _ _ _ _=>F1
 rename News _ _ _ _=>N1
 rename IsRange _ _ _ _ _ _ _ _=>rg
 have kA:=all_kept hr hA F1 N1 (fq (by k_mem) fn0) (fun q hq=>by k_mem)
 have hx9:(List.replicate ((kk:Nat):Int).toNat [Value.int 2 tn]).flatten=List.replicate kk (Value.int 2 tn):=by rw [Int.toNat_natCast,List.flatten_replicate_singleton]
 have ol9:=News.get N1 (by k_mem)
 rw [hx9] at ol9
 refine call_zip (n:=kk) (xs:=List.replicate kk (Value.int 2 tn)) ol9 rg (by exact zb (Nat.le_trans (Nat.le_of_eq hlk.symm) hl) rfl) (by simp) ?_
 intro s' z TI TO i1 i2 kp hg hd ho Z fr
 have e0:=fun tk=>ext_all (s₂:=s) (tk:=tk) kA (GE.refl [] s)
 have e1:∀ tk,Ext [] [] [] { s with heap:=_,toks:=tk } s':=fun tk=>⟨fun b o e _ _=>kp b o e,fun b o e _ _=>⟨o.slots,kp b o e⟩,fun b o e=>⟨o,kp b o e⟩,fun g x e _=>by rw [hg];exact e,by rw [hg];exact Nat.le_refl _,hd,ho,fun h=>by rw [hg];exact h⟩
 refine post s' z TI TO i1 i2 _ _ ((e0 0).trans (e1 0) fn0 fn0) hg (hlk▸Z) (fun x hx=>⟨tn,List.eq_of_mem_replicate hx⟩) (fun b hb=>(e0 0).fresh (fr b hb))
theorem given3_ {G:Gr}{A:Around}{outer:List Env}{d u:Nat}{s:Shared}{R mm tn k:Nat}{V:List Value}{Q E:Value→Shared→Prop}
  (c:Cx G A outer (d+1) (u+3) s.heap) (o1:s.heap.get? R=some (W.listOf V.toArray k)) (ob:G.base.get? R=none) (hl:V.length≤4)
  (post:∀ s' l n,Ext [] [] [] s s'→s'.gens=s.gens→s.heap.get? l=none→s'.heap.get? l=some (W.listOf V.toArray n)→Q (.ref l) s') :
  wpAny (model PR G.w) A (call (.ref 268) [.int 3 tn,.ref R,.ref mm]) Q E s:=by
 have:=@on "call type:tuple"
 have:=@on "call type:list"
 refine cx_open c ?_;clear c;intro ad ag au c
 have hb:∀ a∈R :: frs outer,G.base.get? a=none:=fq ob (fun a ha=>(frs_old c.ff a ha).1)
 have X:=c.inK hb
 have T:=c.top hb
 have C:=G.C2.keeps fun b o e=>hideAll_get (h:=s.heap) (R :: frs outer) (c.st b o e) fun q=>by rw [hb b q] at e;cases e
 refine wpAny_call (entC X c.nolimit (by k_is) (by k_is) (by have:=c.dp;dsimp only at this ⊢;exact zq2 this) (BindsTo.of_eq rfl) (kindsX rfl) (by decide) ?_)
 intro h₁ tk cells F NC CA fc hk
 (refine xe2_3 (CellsAre.two CA) ?_;rintro oc1 oc2 rfl hc1 hc2)
 have hc1':oc1.data=.cell (some (.ref mm)):=hc1
 have hc2':oc2.data=.cell (some (.ref R)):=hc2
 clear hc1 hc2 CA
 have f1:=fc _ (.head _)
 have f2:=fc _ (.tail _ (.head _))
 dsimp only at f1 f2
 have hA:∀ q∈[(R,W.listOf V.toArray k)],s.heap.get? q.1=some q.2:=fq o1 fn0
 refine xe1_3 (ledger (fr:=frs outer) (hid:=R :: frs outer) hk hA rfl (fun a ha=>let ⟨_,o,ho,_⟩:=frs_old c.ff a ha;⟨o,ho⟩)) fun rest N₀ rne hr=>?_
 have N:News (hideAll s.heap (R :: frs outer)) s.heap.objs.size h₁ ([(s.heap.objs.size+1+1,oc1),(s.heap.objs.size+1,oc2)]++([(R,W.listOf V.toArray k)]++rest)):=fun p hp=>(List.mem_append.mp hp).elim (NC p) (N₀ p)
 clear N₀ NC
 simp only [List.cons_append,List.nil_append] at N
 have r1:=rne R zp0
 have n1:@Ne Nat (s.heap.objs.size+1+1) R:=fun q=>by rw [q] at f1;rw [f1] at o1;cases o1
 have n2:@Ne Nat (s.heap.objs.size+1) R:=fun q=>by rw [q] at f2;rw [f2] at o1;cases o1
 have n3:@Ne Nat (s.heap.objs.size+1) (s.heap.objs.size+1+1):=by exact zq14
 clear rne
 obtain ⟨kk,hsz⟩:∃ k,V.toArray.size=k:=⟨_,rfl⟩
 have hlk:V.length=kk:=by simpa using hsz
 dsimp only
 k_steps
 refine list_copyK (by k_asm) (by k_asm) (News.isList (by k_asm) (by k_dflt k_mem)) ?_ (by simp only [List.size_toArray,sizeLine];omega);k_whole;intro _ _ _ _ _ l1;(try k_lt l1);(try k_sweep);k_steps
 rename Fr _ _ _ _=>F1
 rename News _ _ _ _=>N1
 rename _ < _∧_=>l1
 have kA:=all_kept hr hA F1 N1 (fq (by k_mem) fn0) (fun q hq=>by k_mem)
 exact post _ _ _ (ext_all (s₂:=s) kA (GE.refl [] s)) rfl (new_in N1 (by k_mem) hr (fq l1.2.2.1 fn0) l1.2.2.2) (News.get N1 (by k_mem))
theorem given4_ {G:Gr}{A:Around}{outer:List Env}{d u:Nat}{s:Shared}{R mm tn k:Nat}{V:List Value}{Q E:Value→Shared→Prop}
  (c:Cx G A outer (d+1) (u+3) s.heap) (o1:s.heap.get? R=some (W.listOf V.toArray k)) (ob:G.base.get? R=none) (hl:V.length≤4)
  (post:∀ s' l n,Ext [] [] [] s s'→s'.gens=s.gens→s.heap.get? l=none→s'.heap.get? l=some { cls:=.type "tuple",data:=.seq V.toArray n }→Q (.ref l) s') :
  wpAny (model PR G.w) A (call (.ref 268) [.int 4 tn,.ref R,.ref mm]) Q E s:=by
 have:=@on "call type:tuple"
 have:=@on "call type:list"
 refine cx_open c ?_;clear c;intro ad ag au c
 have hb:∀ a∈R :: frs outer,G.base.get? a=none:=fq ob (fun a ha=>(frs_old c.ff a ha).1)
 have X:=c.inK hb
 have T:=c.top hb
 have C:=G.C2.keeps fun b o e=>hideAll_get (h:=s.heap) (R :: frs outer) (c.st b o e) fun q=>by rw [hb b q] at e;cases e
 refine wpAny_call (entC X c.nolimit (by k_is) (by k_is) (by have:=c.dp;dsimp only at this ⊢;exact zq2 this) (BindsTo.of_eq rfl) (kindsX rfl) (by decide) ?_)
 intro h₁ tk cells F NC CA fc hk
 (refine xe2_3 (CellsAre.two CA) ?_;rintro oc1 oc2 rfl hc1 hc2)
 have hc1':oc1.data=.cell (some (.ref mm)):=hc1
 have hc2':oc2.data=.cell (some (.ref R)):=hc2
 clear hc1 hc2 CA
 have f1:=fc _ (.head _)
 have f2:=fc _ (.tail _ (.head _))
 dsimp only at f1 f2
 have hA:∀ q∈[(R,W.listOf V.toArray k)],s.heap.get? q.1=some q.2:=fq o1 fn0
 refine xe1_3 (ledger (fr:=frs outer) (hid:=R :: frs outer) hk hA rfl (fun a ha=>let ⟨_,o,ho,_⟩:=frs_old c.ff a ha;⟨o,ho⟩)) fun rest N₀ rne hr=>?_
 have N:News (hideAll s.heap (R :: frs outer)) s.heap.objs.size h₁ ([(s.heap.objs.size+1+1,oc1),(s.heap.objs.size+1,oc2)]++([(R,W.listOf V.toArray k)]++rest)):=fun p hp=>(List.mem_append.mp hp).elim (NC p) (N₀ p)
 clear N₀ NC
 simp only [List.cons_append,List.nil_append] at N
 have r1:=rne R zp0
 have n1:@Ne Nat (s.heap.objs.size+1+1) R:=fun q=>by rw [q] at f1;rw [f1] at o1;cases o1
 have n2:@Ne Nat (s.heap.objs.size+1) R:=fun q=>by rw [q] at f2;rw [f2] at o1;cases o1
 have n3:@Ne Nat (s.heap.objs.size+1) (s.heap.objs.size+1+1):=by exact zq14
 clear rne
 obtain ⟨kk,hsz⟩:∃ k,V.toArray.size=k:=⟨_,rfl⟩
 have hlk:V.length=kk:=by simpa using hsz
 dsimp only
 k_steps
 show wpAny _ _ (call _ _) _ _ _
 refine call_tuple_list (items:=V.toArray) ⟨_,News.get N (by k_mem),rfl,_,rfl⟩ (fun h' hk'=>?_) (by simp [sizeLine];exact za hl rfl)
 have kA:∀ b o,s.heap.get? b=some o→h'.get? b=some o:=fun b o e=>hk' b o (hk b o e)
 have e0:Ext [] [] [] s { s with heap:=h',toks:=s.toks }:=Ext.more kA
 have F1:Fr (hideAll s.heap (R :: frs outer)) s.heap.objs.size (h'.push { cls:=.type "tuple",data:=.seq V.toArray }) _:=(F.keeps hk').push _
 k_steps
 refine post _ _ 0 (Ext.more fun b o e=>Heap.get?_push_of_some _ (kA b o e)) rfl (e0.fresh (Heap.get?_none_of_le (Nat.le_refl _))) (Heap.get?_push_size _ rfl)
theorem biv_zip {G:Gr}{A:Around}{outer:List Env}{d u:Nat}{s:Shared}{z TI TO i1 i2 l1 n:Nat}{xs:List Value}{Q E:Value→Shared→Prop}
  (c:Cx G A outer (d+3) (u+4) s.heap) (Z:ZSt s z TI TO i1 i2 l1 0 n xs) (hn:n≤4) (ob:∀ b∈[z,TO,i1,i2],G.base.get? b=none) (of:∀ b∈[z,TO,i1,i2],b ∉ frs outer)
  (post:∀ (s':Shared) (x dx S:Nat) (acc:List Value) (c':Nat),Ext [] [z,TO,i1,i2] [] s s'→s.heap.get? x=none→s.heap.get? dx=none→s.heap.get? S=none→@Ne Nat x dx→IsSeqV s'.heap x dx S→s'.heap.get? S=some (W.listOf acc.toArray c')→acc.length=n →
   (∀ (j:Nat) (v:Value),acc[j]?=some v→∃ T t x,v=.ref T∧xs[j]?=some x∧s.heap.get? T=none∧s'.heap.get? T=some (prObj x (.int (j:Int) t)))→Q (.ref x) s'):wpAny (model PR G.w) A (call (.ref 218) [.ref z]) Q E s:=by
 have:=@on "call type:list"
 have:=@on "call builtin:isinstance"
 refine cx_open c ?_;clear c;intro ad ag au c
 obtain ⟨oz,o1,hz⟩:∃ zo,s.heap.get? z=some zo∧zo.cls=.type "zip":=by
  rcases Z.zp with ⟨_,hz⟩ | ⟨T,f1,oT,hz,_⟩
  ·exact (wi1_2 _ hz rfl)
  ·exact (wi1_2 _ hz rfl)
 refine xe2_1 Z.to fun _ _ oTO=>?_
 have oI1:=Z.it1
 have oI2:=Z.it2
 have hex:∀ b∈[TO,i1,i2],∃ o,s.heap.get? b=some o:=fq ⟨_,oTO⟩ (fq ⟨_,oI1⟩ (fq ⟨_,oI2⟩ fn0))
 have hb:∀ a∈z :: ([TO,i1,i2]++frs outer),G.base.get? a=none:=fq (ob _ zm0) (fun a ha=>(List.mem_append.mp ha).elim (fun h=>ob a (.tail _ h)) fun h=>(frs_old c.ff a h).1)
 have X:=c.inK hb
 have T:=c.top hb
 have nL:∀ b ob,s.heap.get? b=some ob→b≠s.heap.objs.size:=fun b ob e=>Nat.ne_of_lt (Heap.lt_size e)
 have fL:s.heap.get? s.heap.objs.size=none:=Heap.get?_none_of_le (Nat.le_refl _)
 refine wpAny_call (ent X c.nolimit (by k_is) (by k_is) (by have:=c.dp;dsimp only at this ⊢;exact zq17 this) (BindsTo.of_eq rfl) (locs rfl) ?_)
 intro h₁ F hk
 have hA:∀ q∈[(z,oz)],s.heap.get? q.1=some q.2:=fq o1 fn0
 refine xe1_3 (ledger (fr:=[TO,i1,i2]++frs outer) (hid:=z :: ([TO,i1,i2]++frs outer)) hk hA rfl (fun a ha=>(List.mem_append.mp ha).elim (fun h=>hex a h) fun h=>let ⟨_,o,ho,_⟩:=frs_old c.ff a h;⟨o,ho⟩)) fun rest N rne hr=>?_
 simp only [List.cons_append,List.nil_append] at N
 have r1:=rne z zp0
 dsimp only
 k_steps
 refine bcallable (T:="zip") ⟨_,News.get N (by k_mem),hz⟩ call_zip_ ?_
 k_steps
 k_dflt refine kia_tup N_zip.kitx (by k_in) (kitAt_N (by k_asm) (by k_mem) (by assumption)) (by kit_tp) (by kit_is) (by kit_nb) ?_;k_whole;intro _;k_steps
 rename Fr _ _ _ _=>F1
 rename News _ _ _ _=>N1
 have kA:=all_kept hr hA F1 N1 (fq (by k_mem) fn0) (fun q hq=>by k_mem)
 have F1k:True→_:=fun _=>F1
 show wpAny _ _ (call _ _) _ _ _
 have Z1:∀ {h:Heap}{tk:Nat},(∀ a o,s.heap.get? a=some o→h.get? a=some o)→ZSt { s with heap:=h,toks:=tk } z TI TO i1 i2 l1 0 n xs:=fun {h tk} k=>by
  apply hide;intro _ kι;obtain ⟨hz,ti,⟨a,b,to⟩,it1,it2,⟨kl,ol⟩,ne,len⟩:=Z;apply kι
  refine ⟨?_,k _ _ ti,(xi2 a b (k _ _ to)),k _ _ it1,k _ _ it2,⟨kl,k _ _ ol⟩,ne,len⟩
  rcases hz with ⟨e,hz⟩ | ⟨T,f1,oT,hz,hT⟩
  ·exact .inl ⟨e,k _ _ hz⟩
  ·exact .inr (wi3_2 T f1 oT (k _ _ hz) (k _ _ hT))
 refine list_zip rfl (Z1 kA) (by exact zq62 hn) ?_
 intro s₂ S acc c' k1 k2 hg hd ho fS oS hl items
 have X2:∀ tk,Ext [] [z,TO,i1,i2] [] { s with heap:=_,toks:=tk } s₂:=fun tk=>⟨fun b o e hb9 _=>k1 b o (fun q=>hb9 (by simp [q])) (fun q=>hb9 (by simp [q])) (fun q=>hb9 (by simp [q])) (fun q=>hb9 (by simp [q])) e,fun b o e hb9 _=>⟨o.slots,k1 b o (fun q=>hb9 (by simp [q])) (fun q=>hb9 (by simp [q])) (fun q=>hb9 (by simp [q])) (fun q=>hb9 (by simp [q])) e⟩,fun b o e=>k2 b o e,fun g x e _=>by rw [hg];exact e,by rw [hg];exact Nat.le_refl _,hd,ho,fun h=>by rw [hg];exact h⟩
 have neq4:∀ b∈[z,TO,i1,i2],b≠s.heap.objs.size∧(hideAll s.heap (z :: ([TO,i1,i2]++frs outer))).get? b=none:=fun b hb9=>by
  refine ⟨?_,hideAll_none _ (by simp at hb9;rcases hb9 with hb9 | hb9 | hb9 | hb9 <;> replace hb9:=hb9.symm <;> subst hb9 <;> simp)⟩
  rcases (List.mem_cons.mp hb9).imp_left Eq.symm with rfl | hb9
  ·exact nL _ _ o1
  ·obtain ⟨o,e⟩:=hex b hb9;exact nL _ _ e
 have F2:=fr_next (s₁:={ s with heap:=_,toks:=_ }) (F1k trivial) (X2 0) (fun q=>(neq4 _ q).1 rfl) (fun b hb9=>(neq4 b hb9).2) fn0
 have E0:∀ tk,Ext [] [z,TO,i1,i2] [] s { s with heap:=_,toks:=tk }:=fun tk=>Ext.more kA
 have E2:=(E0 0).trans (X2 0) (fun b hb9=>.inl hb9) fn0
 refine xe1_3 (ledger2 (g:=hideAll s.heap (z :: ([TO,i1,i2]++frs outer))) (L:=s.heap.objs.size) (h:=s₂.heap) (ex:=[]) fn0) fun rest2 N2 _ hr2=>?_
 simp only [List.nil_append] at N2
 have F2k:True→_:=fun _=>F2
 k_steps
 rename Fr _ _ _ _=>F3
 rename News _ _ _ _=>N3
 have x23:=fun tk=>ext_led (fr:=[]) (fp:=[]) (tk:=tk) (F2k trivial) F3 N3 hr2 fn0 (fun q hq=>by k_mem)
 have E3:=fun tk=>E2.trans (x23 tk) (fun b hb9=>by rw [List.mem_singleton.mp hb9];exact .inr fL) fn0
 have kfr:∀ a∈frs outer,∃ o,s.heap.get? a=some o∧∃ sl,_=some { o with slots:=sl }:=fun a ha=>by
  apply hide;intro _ kι;obtain ⟨_,o,ho,_⟩:=frs_old c.ff a ha;apply kι
  exact (wi1_2 o ho ⟨o.slots,(E3 0).keep a o ho (fun q=>of a q ha) fnm⟩)
 refine mk_seq (G:=G) (d:=d) (u:=u) (Cx.inner (d:=d+2) (u:=u+1) c F3 hb kfr rfl rfl) fun s₄ x dx y fx fdx ne it=>?_
 have fS':s.heap.get? S=none:=(E0 0).fresh fS
 have neSL:S≠s.heap.objs.size:=fun q=>by
  refine xe3_2 ((F1k trivial).ns) fun oL _ _ hL _=>?_
  rw [q,hL] at fS;exact nsf fS.symm
 have E4:=(E3 _).trans (gp':=[]) y fn0 fn0
 refine post s₄ x dx S acc c' E4 ((E3 0).fresh fx) ((E3 0).fresh fdx) fS' ne it (y.keep _ _ ((x23 0).keep _ _ oS (by simpa using neSL) fnm) fnm fnm) hl fun j v hj=>?_
 refine xe3_5 (items j v hj) fun T9 t9 x9 e1 e2 e3 e4 e5=>?_
 have nT:T9≠s.heap.objs.size:=fun q=>by
  refine xe3_2 ((F1k trivial).ns) fun oL _ _ hL _=>?_
  rw [q,hL] at e3;exact nsf e3.symm
 exact (wi3_4 T9 t9 x9 e1 e2 ((E0 0).fresh e3) (y.keep _ _ ((x23 0).keep _ _ e5 (by simpa using nT) fnm) fnm fnm))
noncomputable def lawDef:Stmt:=(⟨_,rfl⟩:{st:Stmt // PySem.Challenge.pw_ln0024_01.main.body.getLast?=some st}).1
noncomputable def lawP:{p:List Stmt × Scope // ∃ a b c d e f g h,lawDef=.FunctionDef a b p.1 c d e p.2 f g h}:=⟨(_,_),_,_,_,_,_,_,_,_,rfl⟩
noncomputable def lawScope:Scope:=lawP.1.2
noncomputable def lawB:List Stmt:=lawP.1.1
noncomputable def lw0:Stmt:=(⟨_,rfl⟩:{st:Stmt // lawB[0]?=some st}).1
noncomputable def lw1:Stmt:=(⟨_,rfl⟩:{st:Stmt // lawB[1]?=some st}).1
noncomputable def lw2:Stmt:=(⟨_,rfl⟩:{st:Stmt // lawB[2]?=some st}).1
noncomputable def lw3:Stmt:=(⟨_,rfl⟩:{st:Stmt // lawB[3]?=some st}).1
noncomputable def lw4:Stmt:=(⟨_,rfl⟩:{st:Stmt // lawB[4]?=some st}).1
noncomputable def lw5:Stmt:=(⟨_,rfl⟩:{st:Stmt // lawB[5]?=some st}).1
noncomputable def lw6:Stmt:=(⟨_,rfl⟩:{st:Stmt // lawB[6]?=some st}).1
noncomputable def lw7:Stmt:=(⟨_,rfl⟩:{st:Stmt // lawB[7]?=some st}).1
noncomputable def lw8:Stmt:=(⟨_,rfl⟩:{st:Stmt // lawB[8]?=some st}).1
noncomputable def lw9:Stmt:=(⟨_,rfl⟩:{st:Stmt // lawB[9]?=some st}).1
noncomputable def lw10:Stmt:=(⟨_,rfl⟩:{st:Stmt // lawB[10]?=some st}).1
noncomputable def lw11:Stmt:=(⟨_,rfl⟩:{st:Stmt // lawB[11]?=some st}).1
noncomputable def lw12:Stmt:=(⟨_,rfl⟩:{st:Stmt // lawB[12]?=some st}).1
noncomputable def lw13:Stmt:=(⟨_,rfl⟩:{st:Stmt // lawB[13]?=some st}).1
noncomputable def lw14:Stmt:=(⟨_,rfl⟩:{st:Stmt // lawB[14]?=some st}).1
noncomputable def lwFor:{l:List Stmt // ∃ a b c d,lw11=.For a b l c d}:=⟨_,_,_,_,_,rfl⟩
noncomputable def lb0:Stmt:=(⟨_,rfl⟩:{st:Stmt // lwFor.1[0]?=some st}).1
noncomputable def lb1:Stmt:=(⟨_,rfl⟩:{st:Stmt // lwFor.1[1]?=some st}).1
noncomputable def lb2:Stmt:=(⟨_,rfl⟩:{st:Stmt // lwFor.1[2]?=some st}).1
noncomputable def lb3:Stmt:=(⟨_,rfl⟩:{st:Stmt // lwFor.1[3]?=some st}).1
noncomputable def lb4:Stmt:=(⟨_,rfl⟩:{st:Stmt // lwFor.1[4]?=some st}).1
noncomputable def lb5:Stmt:=(⟨_,rfl⟩:{st:Stmt // lwFor.1[5]?=some st}).1
section
variable {prog:Program}{w:World}{A:Around}{E:Value→Shared→Prop}{s:Shared}{env:Env}
noncomputable abbrev nsObj0:Obj:={ cls:=.type "dict",data:=.dict #[] }
noncomputable def compS (scope:Scope) (s₂:Shared):Shared:={ s₂ with heap:=pushCells ((s₂.heap.push (lstObj #[] 0)).push nsObj0) scope.names }
noncomputable def compE (scope:Scope) (cl:List (Str × Addr)) (env:Env) (D:Nat):Env:=compEnvC scope (cellsFrom (D+1+1) scope.names cl) (D+1) env
theorem comp_env {scope:Scope}{cl:List (Str × Addr)}{Q:Env→Shared→Prop}
  (h:Q { scope:=scope,locals:=s.heap.objs.size,globals:=env.globals,cells:=cellsFrom (s.heap.objs.size+1) scope.names cl,qual:=env.qual,func:=none,code:=env.code,frame:=env.frame,builtins:=env.builtins }
   { s with heap:=pushCells (s.heap.push nsObj0) scope.names }) :
  wpAny (model prog w) A (newFunctionEnv scope env.globals cl [] env.qual none .none (some env)) Q E s:=by
 simp only [newFunctionEnv,Option.isSome_some,if_true]
 refine wpAny_bind (wpAny_alloc ?_)
 refine wpAny_bind (wpAny_layCells _ (fun name kind cells=>by cases hkc:kind == NameKind.cell <;> simp [hkc]) _ _ _ _ ?_)
 rw [show ({ s with heap:=s.heap.push { cls:=.type "dict",data:=.dict #[] } }:Shared).heap.objs.size=s.heap.objs.size+1 from Heap.size_push ..]
 exact wpAny_pure h
theorem comp_open {elt iter:PySem.Expr}{x:Str}{px:Pos}{scope:Scope}{cl:List (Str × Addr)}{pos ip:Pos}{first:Sem Value}{use:Option (Value→Sem Unit)}{Q:Value→Shared→Prop}
  (hs:∀ x,foldedSetIterable iter env x=pure x) (hclos:closureFor scope env=pure cl)
  (hkind:scope.kind=.function) (hnames:∀ x∈scope.names,x.2=.local→scope.names.lookup x.1=some .local)
  (h:wpAny (model prog w) A first (fun xv s₁=>wpAny (model prog w) A (pyIter xv) (fun it s₂=>wpAny (model prog w) A (pyIter it) (fun it' s'=>it'=it∧s'=compS scope s₂) (fun _ _=>False) (compS scope s₂) ∧
    codeAny (model prog w) A (.compLoop (.ListComp elt [⟨.Name x px,iter,[],0⟩] scope pos) 0 it (.ref s₂.heap.objs.size) (compE scope cl env s₂.heap.objs.size)) (compPost (model prog w) A E use Q (.ref s₂.heap.objs.size) (s₂.heap.objs.size+1)) (compS scope s₂)) E s₁) E s) :
  wpAny (model prog w) A (comprehension (.ListComp elt [⟨.Name x px,iter,[],0⟩] scope pos) scope env ip (newList []) false first use) Q E s:=by
 refine wpAny_comprehension_free rfl hs hclos hkind hnames (wpAny_mono h (fun xv s₁ h₁=>wpAny_mono h₁ (fun it s₂ h₂=>?_) fun _ _ e=>e) fun _ _ e=>e)
 refine wpAny_newObj_type ?_
 refine comp_env ?_
 obtain ⟨h3,h4⟩:=h₂
 have sz:(s₂.heap.push { cls:=.type "list",data:=.seq ([]:List Value).toArray }).objs.size=s₂.heap.objs.size+1:=Heap.size_push ..
 dsimp only
 rw [sz]
 refine codeAny_compStart_list h4 (wpAny_mono h3 (fun it' s' hh=>?_) fun _ _ z=>z.elim)
 obtain ⟨rfl,rfl⟩:=hh
 exact h4
theorem comp_rule {elt iter target:PySem.Expr}{scope:Scope}{pos:Pos}{it acc:Value}{R:Result→Shared→Prop}(J:Nat→Shared→Prop) (n:Nat) (ht:∀ v,letOwnedTupleGo target it v=pure ())
  (item:∀ i s,i < n→J i s→wpAny (model prog w) A (pyNext it) (fun r s₁=>∃ v,r=some v∧wpAny (model prog w) A (assign target env v) (fun _ s₂=>wpAny (model prog w) A (eval elt env) (fun y s₃ =>
   wpAny (model prog w) A (call (.builtin "list.append") [acc,y]) (fun _ s₄=>J (i+1) s₄) (fun _ _=>False) s₃) (fun _ _=>False) s₂) (fun _ _=>False) s₁) (fun _ _=>False) s)
  (done:∀ s,J n s→wpAny (model prog w) A (pyNext it) (fun r s₁=>r=none∧R (.ok .next) s₁) (fun _ _=>False) s)
  (h:J 0 s):codeAny (model prog w) A (.compLoop (.ListComp elt [⟨target,iter,[],0⟩] scope pos) 0 it acc env) R s:=by
 refine codeAny_compLoop_list (I:=fun k s=>∃ i,i≤n∧k=n - i∧J i s) (fun k s hI=>?_) n (wi1_3 0 (Nat.zero_le _) rfl h) ht
 (refine xe1_3 hI ?_;rintro i hi rfl hJ)
 rcases Nat.lt_or_ge i n with hlt | hge
 ·refine wpAny_mono (item i s hlt hJ) (fun r s₁ hr=>?_) fun _ _ z=>z.elim
  (refine xe1_2 hr ?_;rintro v rfl h1)
  refine wpAny_mono h1 (fun _ s₂ h2=>wpAny_mono h2 (fun y s₃ h3=>wpAny_mono h3 (fun _ s₄ h4=>(wi1_2 (n - (i+1)) (by exact zq33 hlt) ⟨i+1,hlt,rfl,h4⟩)) fun _ _ z=>z.elim) fun _ _ z=>z.elim) fun _ _ z=>z.elim
 ·obtain rfl:i=n:=Nat.le_antisymm hi hge
  refine wpAny_mono (done s hJ) (fun r s₁ hr=>?_) fun _ _ z=>z.elim
  obtain ⟨rfl,h1⟩:=hr
  exact h1
end
noncomputable def szOf (ns:List Int) (k:Nat):Nat:=match ns[k]? with | some x=>(x.fmod 5).toNat | none=>3
theorem szOf_le (ns:List Int) (k:Nat):szOf ns k≤4:=by
 unfold szOf
 split
 ·rename_i x _
  have h1:=Int.fmod_nonneg_of_pos x (b:=5) (by decide)
  have h2:=Int.fmod_lt_of_pos x (b:=5) (by decide)
  exact Int.toNat_le.2 (Int.le_of_lt_add_one h2)
 ·exact Nat.le_of_ble_eq_true rfl
theorem size_ {G:Gr}{A:Around}{outer:List Env}{d u:Nat}{s:Shared}{nl k1 k t:Nat}{nv:List Value}{ns:List Int}{Q E:Value→Shared→Prop}
  (c:Cx G A outer (d+1) (u+3) s.heap) (o1:s.heap.get? nl=some (W.listOf nv.toArray k1)) (ob:G.base.get? nl=none) (hI:IntsAre nv ns) (hl:nv.length < 1000) (hk5:k < 5)
  (post:∀ s' t',Ext [] [] [] s s'→s'.gens=s.gens→Q (.int (szOf ns k:Nat) t') s'):wpAny (model PR G.w) A (call (.ref 233) [.ref nl,.int (k:Nat) t]) Q E s:=by
 refine cx_open c ?_;clear c;intro ad ag au c
 have hb:∀ a∈nl :: frs outer,G.base.get? a=none:=fq ob (fun a ha=>(frs_old c.ff a ha).1)
 have X:=c.inK hb
 have T:=c.top hb
 refine wpAny_call (ent X c.nolimit (by k_is) (by k_is) (by have:=c.dp;dsimp only at this ⊢;exact zq2 this) (BindsTo.of_eq rfl) (locs rfl) ?_)
 intro h₁ F hk
 have hA:∀ q∈[(nl,W.listOf nv.toArray k1)],s.heap.get? q.1=some q.2:=fq o1 fn0
 refine xe1_3 (ledger (fr:=frs outer) (hid:=nl :: frs outer) hk hA rfl (fun a ha=>let ⟨_,o,ho,_⟩:=frs_old c.ff a ha;⟨o,ho⟩)) fun rest N rne hr=>?_
 simp only [List.cons_append,List.nil_append] at N
 obtain ⟨kk,hsz⟩:∃ k,nv.toArray.size=k:=⟨_,rfl⟩
 have hlk:nv.length=kk:=by simpa using hsz
 dsimp only
 k_steps
 ·have e:(ns.getD (k:Int).toNat 0).fmod 5=((szOf ns k:Nat):Int):=by
   rename (k:Int) < _=>hlt
   have hl':=hI.length
   have hki:k < ns.length:=by omega
   have h1:=Int.fmod_nonneg_of_pos (ns[k]) (b:=5) (by decide)
   simp only [szOf,List.getElem?_eq_getElem hki,Int.toNat_natCast,List.getD_eq_getElem?_getD,Option.getD_some]
   exact Int.eq_natCast_toNat.mpr h1
  rw [e]
  exact post _ _ (Ext.more hk) rfl
 ·have e:(3:Int)=((szOf ns k:Nat):Int):=by
   rename ¬ (k:Int) < _=>hlt
   have hl':=hI.length
   have hki:ns.length≤k:=by omega
   simp only [szOf,List.getElem?_eq_none hki];rfl
  rw [e]
  exact post _ _ (Ext.more hk) rfl
theorem pushCells_get {names:List (Str × NameKind)}{h:Heap}{b:Nat}{o:Obj}(e:h.get? b=some o):(pushCells h names).get? b=some o:=pushCells_keeps names h b o e
section
variable {prog:Program}{w:World}{A:Around}{E:Value→Shared→Prop}{s:Shared}{env:Env}
theorem comp_range {elt iter:PySem.Expr}{x:Str}{px:Pos}{scope:Scope}{cl:List (Str × Addr)}{pos:Pos}{use:Option (Value→Sem Unit)}{Q:Value→Shared→Prop}{r n:Nat}{t1 t2 t3:Tok}
  (hh:A.handled=none) (rg:IsRange s.heap r 0 (n:Int) 1 t1 t2 t3) (hn:n < 1000000) (J:Nat→List Value→Shared→Prop)
  (start:∀ s',(∀ b o,s.heap.get? b=some o→s'.heap.get? b=some o)→s'=compS scope { s with heap:=s.heap.push (rngObj 0 n) }→J 0 [] s')
  (stab:∀ i ys (s':Shared) h' tk,J i ys s'→(∀ b o,s'.heap.get? b=some o→b≠s.heap.objs.size→b≠s.heap.objs.size+1→h'.get? b=some o)→J i ys { s' with heap:=h',toks:=tk })
  (turn:∀ i ys s' t,i < n→J i ys s'→ys.length=i→(∃ o,s'.heap.get? s.heap.objs.size=some o)→(∃ o,s'.heap.get? (s.heap.objs.size+1)=some o)→wpAny (model prog w) A (storeName (compE scope cl env (s.heap.objs.size+1)) x (.int (i:Nat) t)) (fun _ s₂=>wpAny (model prog w) A (eval elt (compE scope cl env (s.heap.objs.size+1))) (fun y s₃ =>
   s₃.heap.get? s.heap.objs.size=s'.heap.get? s.heap.objs.size∧s₃.heap.get? (s.heap.objs.size+1)=s'.heap.get? (s.heap.objs.size+1)∧J (i+1) (ys++[y]) s₃) (fun _ _=>False) s₂) (fun _ _=>False) s')
  (done:∀ ys s',J n ys s'→ys.length=n→(∃ k,s'.heap.get? (s.heap.objs.size+1)=some (lstObj ys.toArray k))→compPost (model prog w) A E use Q (.ref (s.heap.objs.size+1)) (s.heap.objs.size+1+1) (.ok .next) s') :
  wpAny (model prog w) A (pyIter (.ref r)) (fun it s₂=>wpAny (model prog w) A (pyIter it) (fun it' s'=>it'=it∧s'=compS scope s₂) (fun _ _=>False) (compS scope s₂) ∧
    codeAny (model prog w) A (.compLoop (.ListComp elt [⟨.Name x px,iter,[],0⟩] scope pos) 0 it (.ref s₂.heap.objs.size) (compE scope cl env s₂.heap.objs.size)) (compPost (model prog w) A E use Q (.ref s₂.heap.objs.size) (s₂.heap.objs.size+1)) (compS scope s₂)) E s:=by
 refine wpAny_pyIter_range rg (small_one (by exact zq57) (by decide) (Int.le_trans (by decide) (Int.natCast_nonneg n)) (Int.ofNat_lt.2 (Nat.lt_trans hn (Nat.le_of_ble_eq_true rfl)))) ?_
 have sz:Builtin.Range.rangeSize 0 (n:Int) 1=(n:Int):=by rw [rangeSize_nat];simp
 rw [sz]
 have e0:({ cls:=.type "range_iterator",data:=.fields #[rawInt 0,rawInt (n:Int),rawInt 1] }:Obj)=rngObj 0 n:=by simp [rngObj]
 rw [e0]
 have sz1:(s.heap.push (rngObj 0 n)).objs.size=s.heap.objs.size+1:=Heap.size_push ..
 have sz2:((s.heap.push (rngObj 0 n)).push (lstObj #[] 0)).objs.size=s.heap.objs.size+1+1:=by rw [Heap.size_push,sz1]
 have hI:(compS scope { s with heap:=s.heap.push (rngObj 0 n) }).heap.get? s.heap.objs.size=some (rngObj 0 n):=pushCells_get (Heap.get?_push_of_some _ (Heap.get?_push_of_some _ (Heap.get?_push_size _ rfl)))
 have hD:(compS scope { s with heap:=s.heap.push (rngObj 0 n) }).heap.get? (s.heap.objs.size+1)=some (lstObj #[] 0):=by
  refine pushCells_get (Heap.get?_push_of_some _ ?_)
  rw [← sz1]
  exact Heap.get?_push_size _ rfl
 have hk:∀ b o,s.heap.get? b=some o→(compS scope { s with heap:=s.heap.push (rngObj 0 n) }).heap.get? b=some o:=fun b o e=>pushCells_get (Heap.get?_push_of_some _ (Heap.get?_push_of_some _ (Heap.get?_push_of_some _ e)))
 have nID:s.heap.objs.size≠s.heap.objs.size+1:=by exact zq120
 constructor
 ·refine (Walks.range (prog:=prog) (w:=w) hh s.heap.objs.size 0 1 n).self 0 _ _ _ ?_ ⟨rfl,rfl⟩
  have:IsRangeIter (compS scope { s with heap:=s.heap.push (rngObj 0 n) }).heap s.heap.objs.size (0:Int) ((n:Int) - (0:Nat)) 1:=hI
  simpa using this
 ·show codeAny _ _ (.compLoop _ 0 (.ref s.heap.objs.size) (.ref (s.heap.push (rngObj 0 n)).objs.size) (compE scope cl env (s.heap.push (rngObj 0 n)).objs.size)) _ _
  dsimp only
  rw [sz1]
  refine comp_rule (J:=fun i s'=>∃ ys k,ys.length=i∧J i ys s'∧s'.heap.get? s.heap.objs.size=some (rngObj i n)∧s'.heap.get? (s.heap.objs.size+1)=some (lstObj ys.toArray k)) n (fun _=>rfl) ?item ?done ?start
  case start=>exact (wi2_4 [] 0 rfl (start _ hk rfl) hI hD)
  case item =>
   (intro i s' hi q3;apply hide;intro _ kι;obtain ⟨ys,k,hl,hJ,qI,qD⟩:=q3;apply kι)
   refine wpAny_pyNext_range_item (x:=(i:Int)) (left:=(n:Int) - (i:Int)) (step:=1) qI (Int.sub_pos_of_lt (Int.ofNat_lt.2 hi)) fun h' hit hs=>?_
   refine (wi1_2 _ rfl (wpAny_assign_Name ?_))
   have e1:((n:Int) - (i:Int) - 1)=(n:Int) - ((i+1:Nat):Int):=Int.sub_sub _ _ _
   have e2:((i:Int)+1)=((i+1:Nat):Int):=rfl
   have hit':h'.get? s.heap.objs.size=some (rngObj (i+1) n):=by rw [hit,e1,e2]
   have hD':h'.get? (s.heap.objs.size+1)=some (lstObj ys.toArray k):=(hs.2 _ (Ne.symm nID)).trans qD
   refine wpAny_mono (turn i ys { s' with heap:=h',toks:=s'.toks+1 } _ hi (stab _ _ _ _ _ hJ fun b o e h1 _=>(hs.2 b h1).trans e) hl ⟨_,hit'⟩ ⟨_,hD'⟩) (fun _ s₂ h2=>wpAny_mono h2 (fun y s₃ h3=>?_) fun _ _ z=>z) fun _ _ z=>z
   refine xe0_3 h3 fun q1 q2 q3=>?_
   refine append_at (hsz:=by show ys.toArray.size≤sizeLine;rw [List.size_toArray,hl];simp only [sizeLine];exact za (Nat.le_of_lt (Nat.lt_trans hi hn)) rfl) (q2.trans hD') fun h₅ hs₅ hD₅=>?_
   refine (wi2_4 (ys++[y]) (k+1) (by rw [List.length_append,List.length_singleton,hl]) (stab _ _ _ _ s₃.toks q3 fun b o e _ h2=>(hs₅.2 b h2).trans e) ((hs₅.2 _ nID).trans (q1.trans hit')) ?_)
   rw [hD₅];simp [lstObj]
  case done =>
   (intro s' q1;apply hide;intro _ kι;obtain ⟨ys,k,hl,hJ,qI,qD⟩:=q1;apply kι)
   refine wpAny_pyNext_range_end (x:=(n:Int)) (left:=(n:Int) - (n:Int)) (step:=1) hh qI (Int.le_of_eq (Int.sub_self _)) fun h' he=>⟨rfl,?_⟩
   exact done ys _ (stab _ _ _ _ s'.toks hJ fun b o e h1 _=>he b o h1 e) hl ⟨k,he _ _ (Ne.symm nID) qD⟩
end
noncomputable abbrev LE (L fa:Nat) (cd:Value):Env:=envOfC (Str.ofString "law") lawScope L fa cd
noncomputable def rowP:{p:PySem.Expr × Scope // ∃ a b c d,lw1=.Assign a (.ListComp p.1 b p.2 c) d}:=⟨(_,_),_,_,_,_,rfl⟩
noncomputable def rowX:PySem.Expr:=rowP.1.1
noncomputable def rowSc:Scope:=rowP.1.2
noncomputable abbrev tup2 (a b:Value) (n:Nat):Obj:={ cls:=.type "tuple",data:=.seq #[a,b] n }
theorem row_ {G:Gr}{A:Around}{outer:List Env}{d u:Nat}{s:Shared}{L fa nl k1 k t C cN cn:Nat}{cd:Value}{nv:List Value}{ns:List Int}{m:Str→Option Value}{Q:Value→Shared→Prop}{E:Value→Shared→Prop}
  (c:Cx G A (LE L fa cd :: outer) (d+1) (u+3) s.heap) (F:Fr G.base L s.heap m) (o1:s.heap.get? nl=some (W.listOf nv.toArray k1)) (ob:G.base.get? nl=none) (hI:IntsAre nv ns) (hl:nv.length < 1000) (hk5:k < 5)
  (c1:s.heap.IsCell cN (some (.ref nl))) (c2:s.heap.IsCell cn (some (.int (k:Nat) t))) (ob1:G.base.get? cN=none) (ob2:G.base.get? cn=none) (n1:cN≠L) (n2:cn≠L)
  (post:∀ s' r n (V:List Value),Ext [] [] [] s s'→s'.gens=s.gens→s.heap.get? r=none→s'.heap.get? r=some (lstObj V.toArray n)→V.length=szOf ns k→(∀ (j:Nat) (v:Value),V[j]?=some v→∃ T ta tb n,v=.ref T∧s.heap.get? T=none∧s'.heap.get? T=some (tup2 (.int (k:Nat) ta) (.int (j:Nat) tb) n))→Q (.ref r) s') :
  wpAny (model PR G.w) A (eval rowX (compEnvC rowSc [(Str.ofString "name",cn),(Str.ofString "numbers",cN)] C (LE L fa cd))) Q E s:=by
 refine cx_open c ?_;clear c;intro ad ag au c
 have X:=G.X
 have T:=G.T
 refine xe1_2 (id c1) fun oN hoN hdN=>?_
 refine xe1_2 (id c2) fun on hon hdn=>?_
 refine xe1_3 (ledger2 (g:=G.base) (L:=L) (h:=s.heap) (ex:=[(cN,oN),(cn,on)]) (fq (yi3 hoN n1 ob1) (fq (yi3 hon n2 ob2) fn0))) fun rest N _ hr=>?_
 simp only [List.cons_append,List.nil_append] at N
 unfold rowX rowSc rowP
 dsimp only
 rw [eval_ListComp]
 refine comp_open (fun _=>rfl) (cl:=[(Str.ofString "name",cn)]) rfl rfl (by decide) ?_
 dsimp only [firstIter]
 k_steps
 refine size_ c o1 ob hI hl hk5 fun s1 t1 x1 g1=>?_
 have F1:Fr G.base L s1.heap m:=⟨x1.ns F.ns fnm,fun b o e=>x1.keep b o (F.keep b o e) fnm fnm,F.above⟩
 refine xe1_3 (ledger2 (g:=G.base) (L:=L) (h:=s1.heap) (ex:=[]) fn0) fun rest1 N1 _ hr1=>?_
 simp only [List.nil_append] at N1
 clear N hr
 obtain ⟨sz,hsz⟩:∃ sz,szOf ns k=sz:=⟨_,rfl⟩
 have hsz4:sz≤4:=hsz▸szOf_le ns k
 rw [hsz]
 k_steps
 rename IsRange _ _ _ _ _ _ _ _=>rg
 rename Fr _ _ _ _=>F2
 rename News _ _ _ _=>N2
 rename_i h2 tk2 tt1 tt2 tt3 k2
 clear N2 hr1
 have x2:∀ h' tk,(∀ b o,h2.get? b=some o→h'.get? b=some o)→Ext [] [] [] s { s1 with heap:=h',toks:=tk }:=fun h' tk kk=>x1.trans (Ext.more (fr:=[]) (fp:=[]) (gp:=[]) fun b o e=>kk b o (k2 b o e)) fn0 fn0
 obtain ⟨I0,hI0⟩:∃ I0,h2.objs.size=I0:=⟨_,rfl⟩
 have fI:∀ j,I0≤j→s.heap.get? j=none:=fun j hj=>(x2 h2 0 fun _ _ e=>e).fresh (b:=j) (Heap.get?_none_of_le (by rw [hI0];exact hj))
 refine comp_range (s:={ s1 with heap:=h2,toks:=tk2 }) (n:=sz) rfl rg (by exact Nat.lt_of_le_of_lt hsz4 (by decide)) (J:=fun i ys s'=>Ext [] [] [] s s'∧s'.gens=s.gens∧(∃ mc,s'.heap.Ns (h2.objs.size+1+1) mc) ∧
  ∀ (j:Nat) (v:Value),ys[j]?=some v→∃ T ta tb n,v=.ref T∧s.heap.get? T=none∧@Ne Nat T (h2.objs.size+1+1)∧@Ne Nat T h2.objs.size∧@Ne Nat T (h2.objs.size+1)∧s'.heap.get? T=some (tup2 (.int (k:Nat) ta) (.int (j:Nat) tb) n)) ?start ?stab ?turn ?done
 case start =>
  rintro s' kk rfl
  refine (yi4 (x2 _ _ kk) g1 ⟨fun _=>none,?_⟩ (fun j v h=>by simp at h))
  have sz1:(h2.push (rngObj 0 sz)).objs.size=h2.objs.size+1:=Heap.size_push ..
  have sz2:((h2.push (rngObj 0 sz)).push (lstObj #[] 0)).objs.size=h2.objs.size+1+1:=by rw [Heap.size_push,sz1]
  have:(((h2.push (rngObj 0 sz)).push (lstObj #[] 0)).push nsObj0).Ns (h2.objs.size+1+1) (fun _=>none):=by
   have:=Heap.Ns.new ((h2.push (rngObj 0 sz)).push (lstObj #[] 0)) (.type "dict")
   rw [sz2] at this
   exact this
  exact this.keeps (pushCells_keeps _ _)
 case stab =>
  rintro i ys s' h' tk ⟨y1,y2,⟨mc,y3⟩,y4⟩ kk
  have kk':∀ b ob,s'.heap.get? b=some ob→(∃ o0,s.heap.get? b=some o0)→h'.get? b=some ob:=fun b ob e ⟨o0,e0⟩=>kk b ob e (fun q=>by rw [q,fI _ (by show I0≤h2.objs.size;exact zq11 hI0)] at e0;exact nsf e0) (fun q=>by rw [q,fI _ (by show I0≤h2.objs.size+1;exact zq65 hI0)] at e0;exact nsf e0)
  refine (yi4 (y1.skip (fun b ob e e0 _=>kk' b ob e e0) (fun _ _ _ h=>nomatch h) rfl rfl rfl) y2 ⟨mc,y3.at' fun o e=>kk _ o e (by show h2.objs.size+1+1≠h2.objs.size;exact zq37) (by show h2.objs.size+1+1≠h2.objs.size+1;exact zq35)⟩ (fun j v hj=>?_))
  refine xe4_6 (y4 j v hj) fun T ta tb n e f n1 n2 n3 g=>?_
  exact (xi4 T ta tb n (yi6 e f n1 n2 n3 (kk _ _ g n2 n3)))
 case done =>
  rintro ys s' ⟨y1,y2,⟨mc,y3⟩,y4⟩ hl ⟨kz,hD⟩
  refine ⟨mc,y3,fun h' hs'=>?_⟩
  have ne:h2.objs.size+1≠h2.objs.size+1+1:=by exact zq14
  refine post _ _ kz ys (y1.skip (fun b ob e ⟨o0,e0⟩ _=>(hs'.2 b (fun q=>by rw [q,fI _ (by show I0≤h2.objs.size+1+1;exact zq66 hI0)] at e0;exact nsf e0)).trans e) (fun _ _ _ h=>nomatch h) rfl rfl rfl) y2 (fI _ (by show I0≤h2.objs.size+1;exact zq65 hI0)) ((hs'.2 _ ne).trans hD) (hl.trans hsz.symm) fun j v hj=>?_
  refine xe4_6 (y4 j v hj) fun T ta tb n e f n1 n2 n3 g=>?_
  exact (xi4 T ta tb n (yi3 e f ((hs'.2 _ n1).trans g)))
 case turn =>
  rintro i ys s' t' hi ⟨y1,y2,⟨mc,y3⟩,y4⟩ hl ⟨oI,qI⟩ ⟨oD,qD⟩
  refine wpAny_storeName_local (m:=mc) rfl y3 (fun h' hn' hs'=>?_) rfl
  have kC:∀ b ob,s'.heap.get? b=some ob→b≠h2.objs.size+1+1→h'.get? b=some ob:=fun b ob e ne=>(hs'.2 b ne).trans e
  have old:∀ b ob,s.heap.get? b=some ob→h'.get? b=some ob:=fun b ob e=>kC b ob (y1.keep b ob e fnm fnm) (fun q=>by rw [q,fI _ (by show I0≤h2.objs.size+1+1;exact zq66 hI0)] at e;exact nsf e)
  refine wpAny_Tuple (wpAny_items_cons ?_)
  refine wpAny_Name (wpAny_loadName_cell rfl rfl rfl (c:=cn) (v:=.int (k:Nat) t) ⟨on,old _ _ hon,hdn⟩ ?_)
  refine wpAny_items_cons (wpAny_Name (wpAny_loadName_local rfl rfl hn' (if_pos rfl) ?_))
  refine wpAny_items_nil ⟨by simp [sizeLine],?_⟩
  have kp:∀ b ob,h'.get? b=some ob→(h'.push (tup2 (.int (k:Nat) t) (.int (i:Nat) t') 0)).get? b=some ob:=fun b ob e=>Heap.get?_push_of_some _ e
  have lt1:∀ b ob,h'.get? b=some ob→@Ne Nat h'.objs.size b:=fun b ob e=>Nat.ne_of_gt (Heap.lt_size e)
  have qI':=kC _ _ qI (by show h2.objs.size≠h2.objs.size+1+1;exact zq121)
  have qD':=kC _ _ qD (by show h2.objs.size+1≠h2.objs.size+1+1;exact zq14)
  refine xe3_2 (id hn') fun oC _ _ hoC _=>?_
  have fT:s.heap.get? h'.objs.size=none:=by
   cases q:s.heap.get? h'.objs.size with
   | none=>rfl
   | some o=>exact absurd (Heap.lt_size (old _ _ q)) (Nat.lt_irrefl _)
  refine (yi6 ?_ ?_ ?_ y2 ⟨_,hn'.keeps kp⟩ (fun j v hj=>?_))
  ·exact (kp _ _ qI').trans qI.symm
  ·exact (kp _ _ qD').trans qD.symm
  ·exact y1.skip (fun b ob e ⟨o0,e0⟩ _=>kp _ _ (kC b ob e (fun q=>by rw [q,fI _ (by show I0≤h2.objs.size+1+1;exact zq66 hI0)] at e0;exact nsf e0))) (fun _ _ _ h=>nomatch h) rfl rfl rfl
  ·rcases Nat.lt_trichotomy j ys.length with h | h | h
   ·rw [List.getElem?_append_left h] at hj
    refine xe4_6 (y4 j v hj) fun T ta tb n e f n1 n2 n3 g=>?_
    exact (xi4 T ta tb n (yi6 e f n1 n2 n3 (kp _ _ (kC _ _ g n1))))
   ·subst h
    rw [List.getElem?_append_right (Nat.le_refl _)] at hj
    simp at hj
    subst hj
    exact (xi4 _ t t' 0 (yi6 rfl fT (lt1 _ _ hoC) (lt1 _ _ qI') (lt1 _ _ qD') (by rw [hl];exact Heap.get?_push_size _ rfl)))
   ·rw [List.getElem?_eq_none (by rw [List.length_append,List.length_singleton];exact zq24 h)] at hj;exact nsf hj
noncomputable def PairAt (N:Nat→Prop) (h:Heap) (k j:Nat) (v:Value):Prop:=∃ T ta tb n,v=.ref T∧N T∧h.get? T=some (tup2 (.int (k:Nat) ta) (.int (j:Nat) tb) n)
noncomputable def RowAt (N:Nat→Prop) (h:Heap) (k len:Nat) (r:Nat) (V:List Value):Prop:=N r∧(∃ n,h.get? r=some (lstObj V.toArray n))∧V.length=len∧∀ (j:Nat) (v:Value),V[j]?=some v→PairAt N h k j v
theorem RowAt.mono {N N':Nat→Prop}{h h':Heap}{k len r:Nat}{V:List Value}(x:RowAt N h k len r V) (hN:∀ b,N b→N' b) (kk:∀ b ob,N b→h.get? b=some ob→h'.get? b=some ob):RowAt N' h' k len r V:=by
 (refine xe0_4 x ?_;rintro x1 ⟨n,x2⟩ x3 x4)
 refine ⟨hN _ x1,⟨n,kk _ _ x1 x2⟩,x3,fun j v hj=>?_⟩
 refine xe4_3 (x4 j v hj) fun T ta tb n' e q1 q2=>?_
 exact ⟨T,ta,tb,n',e,hN _ q1,kk _ _ q1 q2⟩
noncomputable def RowsAt (N:Nat→Prop) (h:Heap) (ns:List Int) (ys:List Value):Prop:=∀ (k:Nat) (v:Value),ys[k]?=some v→∃ r V,v=.ref r∧RowAt N h k (szOf ns k) r V
theorem RowsAt.mono {N N':Nat→Prop}{h h':Heap}{ns:List Int}{ys:List Value}(x:RowsAt N h ns ys) (hN:∀ b,N b→N' b) (kk:∀ b ob,N b→h.get? b=some ob→h'.get? b=some ob):RowsAt N' h' ns ys:=fun k v hk=>by
 refine xe2_2 (x k v hk) fun r V e y=>?_
 exact (wi2_2 r V e (y.mono hN kk))
theorem RowsAt.snoc {N:Nat→Prop}{h:Heap}{ns:List Int}{ys:List Value}{r:Nat}{V:List Value}(x:RowsAt N h ns ys) (y:RowAt N h ys.length (szOf ns ys.length) r V):RowsAt N h ns (ys++[.ref r]):=fun k v hk=>by
 rcases Nat.lt_trichotomy k ys.length with h | h | h
 ·rw [List.getElem?_append_left h] at hk
  exact x k v hk
 ·subst h
  rw [List.getElem?_append_right (Nat.le_refl _)] at hk
  simp at hk
  subst hk
  exact (wi2_2 r V rfl y)
 ·rw [List.getElem?_eq_none (by rw [List.length_append,List.length_singleton];exact zq24 h)] at hk;exact nsf hk
theorem Fr.ext {g:Heap}{L:Addr}{m:Str→Option Value}{fr fp:List Addr}{gp:List Nat}{s s':Shared}(F:Fr g L s.heap m) (x:Ext fr fp gp s s') (hL:L ∉ fp) (hb:∀ a∈fp,g.get? a=none) (hf:∀ a∈fr,g.get? a=none):Fr g L s'.heap m :=
 ⟨x.ns F.ns hL,fun b o e=>x.keep b o (F.keep b o e) (fun h=>by rw [hb b h] at e;cases e) (fun h=>by rw [hf b h] at e;cases e),F.above⟩
theorem rows_ {G:Gr}{A:Around}{outer:List Env}{d u:Nat}{s:Shared}{L fa nl k1:Nat}{cd:Value}{nv:List Value}{ns:List Int}{m:Str→Option Value}{Q:Flow→Shared→Prop}{E:Value→Shared→Prop}
  (c:Cx G A (LE L fa cd :: outer) (d+1) (u+3) s.heap) (F:Fr G.base L s.heap m) (o1:s.heap.get? nl=some (W.listOf nv.toArray k1)) (ob:G.base.get? nl=none) (hI:IntsAre nv ns) (hl:nv.length < 1000)
  (c1:s.heap.IsCell (L+1) (some (.ref nl))) (c2:s.heap.IsCell (L+1+1) none) (ob1:G.base.get? (L+1)=none)
  (post:∀ s' D n ys,Ext [] [L+1+1] [] s s'→s'.gens=s.gens→s'.heap.IsCell (L+1+1) (some (.ref D))→s.heap.get? D=none→s'.heap.get? D=some (lstObj ys.toArray n)→ys.length=5→RowsAt (fun b=>s.heap.get? b=none) s'.heap ns ys→Q .next s'):wpAny (model PR G.w) A (exec lw1 (LE L fa cd)) Q E s:=by
 refine cx_open c ?_;clear c;intro ad ag au c
 have X:=G.X
 have T:=G.T
 refine xe1_3 (ledger2 (g:=G.base) (L:=L) (h:=s.heap) (ex:=[]) fn0) fun rest N _ hr=>?_
 simp only [List.nil_append] at N
 have Fk:True→Fr G.base L s.heap m:=fun _=>F
 unfold lw1
 dsimp only
 refine wpAny_Assign_Name ?_
 rw [eval_ListComp]
 refine comp_open (fun _=>rfl) (cl:=[(Str.ofString "numbers",L+1)]) rfl rfl (by decide) ?_
 dsimp only [firstIter]
 k_steps
 rename IsRange _ _ _ _ _ _ _ _=>rg
 rename Fr _ _ _ _=>F2
 rename News _ _ _ _=>N2
 rename_i h2 tk2 tt1 tt2 tt3 k2
 clear N2 hr
 have F0:=Fk trivial
 have x2:∀ h' tk,(∀ b o,h2.get? b=some o→h'.get? b=some o)→Ext [] [] [] s { s with heap:=h',toks:=tk }:=fun h' tk kk=>Ext.more (fr:=[]) (fp:=[]) (gp:=[]) fun b o e=>kk b o (k2 b o e)
 have fI:∀ j,h2.objs.size≤j→s.heap.get? j=none:=fun j hj=>(x2 h2 0 fun _ _ e=>e).fresh (b:=j) (Heap.get?_none_of_le hj)
 refine comp_range (s:={ s with heap:=h2,toks:=tk2 }) (n:=5) rfl rg (by exact zq122) (J:=fun i ys s'=>Ext [] [] [] s s'∧s'.gens=s.gens∧(∃ mc,s'.heap.Ns (h2.objs.size+1+1) mc)∧(∃ v0,s'.heap.IsCell (h2.objs.size+1+1+1) v0) ∧
  RowsAt (fun b=>s.heap.get? b=none∧b≠h2.objs.size∧b≠h2.objs.size+1∧b≠h2.objs.size+1+1∧b≠h2.objs.size+1+1+1) s'.heap ns ys) ?start ?stab ?turn ?done
 case start =>
  rintro s' kk rfl
  have sz1:(h2.push (rngObj 0 5)).objs.size=h2.objs.size+1:=Heap.size_push ..
  have sz2:((h2.push (rngObj 0 5)).push (lstObj #[] 0)).objs.size=h2.objs.size+1+1:=by rw [Heap.size_push,sz1]
  have sz3:(((h2.push (rngObj 0 5)).push (lstObj #[] 0)).push nsObj0).objs.size=h2.objs.size+1+1+1:=by rw [Heap.size_push,sz2]
  refine (yi5 (x2 _ _ kk) rfl ⟨fun _=>none,?_⟩ ⟨none,?_⟩ (fun j v h=>by simp at h))
  ·have:(((h2.push (rngObj 0 5)).push (lstObj #[] 0)).push nsObj0).Ns (h2.objs.size+1+1) (fun _=>none):=by
    have:=Heap.Ns.new ((h2.push (rngObj 0 5)).push (lstObj #[] 0)) (.type "dict")
    rw [sz2] at this
    exact this
   exact this.keeps (pushCells_keeps _ _)
  ·refine ⟨{ cls:=.type "cell",data:=.cell none },?_,rfl⟩
   show ((((h2.push (rngObj 0 5)).push (lstObj #[] 0)).push nsObj0).push { cls:=.type "cell",data:=.cell none }).get? _=_
   rw [← sz3]
   exact Heap.get?_push_size _ rfl
 case stab =>
  (intro i ys s' h' tk q5 kk;apply hide;intro _ kι;obtain ⟨y1,y2,⟨mc,y3⟩,⟨v0,y5⟩,y4⟩:=q5;apply kι)
  have kk':∀ b ob,s'.heap.get? b=some ob→(∃ o0,s.heap.get? b=some o0)→h'.get? b=some ob:=fun b ob e ⟨o0,e0⟩=>kk b ob e (fun q=>by rw [q,fI _ (by show h2.objs.size≤h2.objs.size;exact zq216)] at e0;exact nsf e0) (fun q=>by rw [q,fI _ (by show h2.objs.size≤h2.objs.size+1;exact zq16)] at e0;exact nsf e0)
  refine (yi5 (y1.skip (fun b ob e e0 _=>kk' b ob e e0) (fun _ _ _ h=>nomatch h) rfl rfl rfl) y2 ⟨mc,y3.at' fun o e=>kk _ o e (by show h2.objs.size+1+1≠h2.objs.size;exact zq37) (by show h2.objs.size+1+1≠h2.objs.size+1;exact zq35)⟩ ⟨v0,?_⟩ (y4.mono (fun _ h=>h) fun b ob hb e=>kk _ _ e hb.2.1 hb.2.2.1))
  refine xe1_2 y5 fun oc ec hc=>?_
  exact ⟨oc,kk _ _ ec (by show h2.objs.size+1+1+1≠h2.objs.size;exact zq67) (by show h2.objs.size+1+1+1≠h2.objs.size+1;exact zq217),hc⟩
 case done =>
  (intro ys s' q2 hl5 q4;apply hide;intro _ kι;obtain ⟨y1,y2,⟨mc,y3⟩,⟨v0,y5⟩,y4⟩:=q2;apply kι;apply hide;intro _ kι;obtain ⟨kz,hD⟩:=q4;apply kι)
  refine ⟨mc,y3,fun h' hs'=>?_⟩
  have kC:∀ b ob,s'.heap.get? b=some ob→b≠h2.objs.size+1+1→h'.get? b=some ob:=fun b ob e ne=>(hs'.2 b ne).trans e
  have old:∀ b ob,s.heap.get? b=some ob→h'.get? b=some ob:=fun b ob e=>kC b ob (y1.keep b ob e fnm fnm) (fun q=>by rw [q,fI _ (by show h2.objs.size≤h2.objs.size+1+1;exact zq34)] at e;exact nsf e)
  have y1':Ext [] [] [] s { s' with heap:=h',toks:=s'.toks }:=y1.skip (fun b ob e ⟨o0,e0⟩ _=>kC b ob e (fun q=>by rw [q,fI _ (by show h2.objs.size≤h2.objs.size+1+1;exact zq34)] at e0;exact nsf e0)) (fun _ _ _ h=>nomatch h) rfl rfl rfl
  refine xe1_2 (id c2) fun oc2 ec2 hc2=>?_
  refine wpAny_storeName_cell (v₀:=none) rfl rfl rfl (c:=L+1+1) ⟨oc2,old _ _ ec2,hc2⟩ fun h3 hc3 hs3=>?_
  refine xe1_2 (id hc3) fun oc3 ec3 _=>?_
  have nL:∀ b,s.heap.get? b=none→b≠L+1+1:=fun b e q=>by rw [← q,e] at ec2;exact nsf ec2
  have xe:Ext [] [L+1+1] [] s { s' with heap:=h3,toks:=s'.toks }:=(y1'.weak (fp'':=[L+1+1]) (gp'':=[]) (fr':=[]) fn0 fn0 fn0).trans (Ext.one (fr:=[]) (fp:=[L+1+1]) (gp:=[]) (s:={ s' with heap:=h',toks:=s'.toks }) hs3 zm0 ⟨_,ec3⟩) (fun b hb=>.inl hb) fn0
  have fD:s.heap.get? (h2.objs.size+1)=none:=fI _ (by exact zq16)
  have k3:∀ b ob,s'.heap.get? b=some ob→s.heap.get? b=none→b≠h2.objs.size+1+1→h3.get? b=some ob:=fun b ob e f ne=>(hs3.2 b (nL b f)).trans (kC b ob e ne)
  exact post _ (h2.objs.size+1) kz ys xe y2 hc3 fD (k3 (h2.objs.size+1) _ hD fD (by show h2.objs.size+1≠h2.objs.size+1+1;exact zq14)) hl5 (y4.mono (fun _ h=>h.1) fun b ob hb e=>k3 b ob e hb.1 hb.2.2.2.1)
 case turn =>
  (intro i ys s' t' hi q5 hli q7 q8;apply hide;intro _ kι;obtain ⟨y1,y2,⟨mc,y3⟩,⟨v0,y5⟩,y4⟩:=q5;apply kι;apply hide;intro _ kι;obtain ⟨oI,qI⟩:=q7;apply kι;apply hide;intro _ kι;obtain ⟨oD,qD⟩:=q8;apply kι)
  refine wpAny_storeName_cell (v₀:=v0) rfl rfl rfl (c:=h2.objs.size+1+1+1) y5 fun h3 hc3 hs3=>?_
  have kC:∀ b ob,s'.heap.get? b=some ob→b≠h2.objs.size+1+1+1→h3.get? b=some ob:=fun b ob e ne=>(hs3.2 b ne).trans e
  have x3:Ext [] [] [] s { s' with heap:=h3,toks:=s'.toks }:=y1.skip (fun b ob e ⟨o0,e0⟩ _=>kC b ob e (fun q=>by rw [q,fI _ (by show h2.objs.size≤h2.objs.size+1+1+1;exact zq68)] at e0;exact nsf e0)) (fun _ _ _ h=>nomatch h) rfl rfl rfl
  have old:∀ b ob,s.heap.get? b=some ob→h3.get? b=some ob:=fun b ob e=>x3.keep b ob e fnm fnm
  have nb:∀ j,s.heap.get? j=none→G.base.get? j=none:=fun j hj=>none_st c.st hj
  refine xe1_2 (id c1) fun oc1 ec1 hc1=>?_
  refine xe3_2 (id F0.ns) fun oL _ _ eL _=>?_
  refine row_ (s:={ s' with heap:=h3 }) (d:=d) (u:=u) (L:=L) (m:=m) (k:=i) (cN:=L+1) (cn:=h2.objs.size+1+1+1) (c.next (x3.weak fn0 fn0 fn0) (fp:=[]) (gp:=[]) fn0 fn0) (Fr.ext F0 x3 fnm fn0 fn0) (old _ _ o1) ob hI hl hi ⟨oc1,old _ _ ec1,hc1⟩ hc3 ob1 (nb _ (fI _ (by show h2.objs.size≤h2.objs.size+1+1+1;exact zq68))) (by exact zq69) (fun q=>by rw [← q,fI _ (by show h2.objs.size≤h2.objs.size+1+1+1;exact zq68)] at eL;exact nsf eL) fun s4 r n V x4 g4 fr hr4 hV hT=>?_
  have k4:∀ b ob,h3.get? b=some ob→s4.heap.get? b=some ob:=fun b ob e=>x4.keep b ob e fnm fnm
  have qI':=k4 _ _ (kC _ _ qI (by show h2.objs.size≠h2.objs.size+1+1+1;exact zq123))
  have qD':=k4 _ _ (kC _ _ qD (by show h2.objs.size+1≠h2.objs.size+1+1+1;exact zq70))
  have y3':=y3.at' (h':=s4.heap) fun o e=>k4 _ _ (kC (h2.objs.size+1+1) o e (by show h2.objs.size+1+1≠h2.objs.size+1+1+1;exact zq71))
  refine xe3_2 (id y3) fun oC _ _ eC _=>?_
  have eC':=kC _ _ eC (by show h2.objs.size+1+1≠h2.objs.size+1+1+1;exact zq71)
  have qI3:=kC _ _ qI (by show h2.objs.size≠h2.objs.size+1+1+1;exact zq123)
  have qD3:=kC _ _ qD (by show h2.objs.size+1≠h2.objs.size+1+1+1;exact zq70)
  refine xe1_2 (id hc3) fun occ ecc hcc=>?_
  have nw:∀ b,h3.get? b=none→s.heap.get? b=none∧b≠h2.objs.size∧b≠h2.objs.size+1∧b≠h2.objs.size+1+1∧b≠h2.objs.size+1+1+1:=fun b e=>by
   refine (yi5 (x3.fresh e) ?_ ?_ ?_ ?_)
   ·intro q;rw [q] at e;exact absurd (e.symm.trans qI3) (by simp)
   ·intro q;rw [q] at e;exact absurd (e.symm.trans qD3) (by simp)
   ·intro q;rw [q] at e;exact absurd (e.symm.trans eC') (by simp)
   ·intro q;rw [q] at e;exact absurd (e.symm.trans ecc) (by simp)
  refine (yi7 (qI'.trans qI.symm) (qD'.trans qD.symm) (x3.trans x4 fn0 fn0) (g4.trans y2) ⟨_,y3'⟩ ⟨_,occ,k4 _ _ ecc,hcc⟩ ?_)
  refine RowsAt.snoc (V:=V) (y4.mono (fun _ h=>h) fun b ob hb e=>k4 _ _ (kC _ _ e hb.2.2.2.2)) ?_
  refine ⟨nw _ fr,⟨n,hr4⟩,by rw [hli];exact hV,fun j v hj=>?_⟩
  refine xe4_3 (hT j v hj) fun T ta tb n' e q1 q2=>?_
  exact ⟨T,ta,tb,n',e,nw _ q1,by rw [hli];exact q2⟩
noncomputable def viewP:{p:PySem.Expr × Scope // ∃ a b c d,lw3=.Assign a (.ListComp p.1 b p.2 c) d}:=⟨(_,_),_,_,_,_,rfl⟩
noncomputable def viewX:PySem.Expr:=viewP.1.1
noncomputable def viewSc:Scope:=viewP.1.2
theorem velt_ {G:Gr}{A:Around}{outer:List Env}{d u:Nat}{s:Shared}{L fa k t C cR cM rl ml k1 k2 rk mk:Nat}{cd:Value}{ys ms:List Value}{m mc:Str→Option Value}{Q:Value→Shared→Prop}{E:Value→Shared→Prop}
  (c:Cx G A (LE L fa cd :: outer) d u s.heap) (F:Fr G.base L s.heap m) (o1:s.heap.get? rl=some (W.listOf ys.toArray k1)) (o2:s.heap.get? ml=some (W.listOf ms.toArray k2)) (hk5:k < 5) (hy:ys.length=5) (hm:ms.length=2)
  (c1:s.heap.IsCell cR (some (.ref rl))) (c2:s.heap.IsCell cM (some (.ref ml))) (hC:s.heap.Ns C mc) (hmc:mc (Str.ofString "name")=some (.int (k:Nat) t)) (ob:∀ b∈[cR,cM,rl,ml,C],G.base.get? b=none) (nL:∀ b∈[cR,cM,rl,ml,C],b≠L)
  (hrk:ys[k]?=some (.ref rk)) (hmk:ms[k % 2]?=some (.ref mk))
  (h:∀ tk t',wpAny (model PR G.w) A (call (.ref 268) [.int (k:Nat) t',.ref rk,.ref mk]) (fun v s₁=>G.base.StaysIn s₁.heap∧wpAny (model PR G.w) A (call (.ref 218) [v]) Q E s₁) E { s with toks:=tk }) :
  wpAny (model PR G.w) A (eval viewX (compEnvC viewSc [(Str.ofString "rows",cR),(Str.ofString "made",cM)] C (LE L fa cd))) Q E s:=by
 have:=@on "sub"
 apply hide;intro _ kι;obtain ⟨ah,ad,af,ag,au⟩:=A;apply kι
 obtain rfl:ah=none:=c.hd
 obtain rfl:af=some (LE L fa cd :: outer):=c.fr
 have X:=G.X
 have T:=G.T
 refine xe1_2 (id c1) fun oR hoR hdR=>?_
 refine xe1_2 (id c2) fun oM hoM hdM=>?_
 refine xe1_2 (LCg.ns_obj hC) fun oC hoC hdC=>?_
 apply hide;intro _ kι;obtain ⟨rest,N,_,hr⟩:=ledger2 (g:=G.base) (L:=L) (h:=s.heap) (ex:=[(cR,oR),(cM,oM),(rl,W.listOf ys.toArray k1),(ml,W.listOf ms.toArray k2),(C,oC)]) (fq (yi3 hoR (nL _ zm0) (ob _ zm0)) (fq (yi3 hoM (nL _ zm1) (ob _ zm1)) (fq (yi3 o1 (nL _ zm2) (ob _ zm2)) (fq (yi3 o2 (nL _ zm3) (ob _ zm3)) (fq (yi3 hoC (nL _ zm4) (ob _ zm4)) fn0)))));apply kι
 simp only [List.cons_append,List.nil_append] at N
 have hrk':ys[((k:Nat):Int).toNat]?=some (.ref rk):=by rw [Int.toNat_natCast];exact hrk
 have hmk':ms[(((k:Nat):Int).fmod 2).toNat]?=some (.ref mk):=by rw [show (((k:Nat):Int).fmod 2).toNat=k % 2 by rw [Int.fmod_eq_emod_of_nonneg _ (by decide)];omega];exact hmk
 have hsy:ys.toArray.size=5:=by simpa using hy
 have hsm:ms.toArray.size=2:=by simpa using hm
 have f0:=Int.fmod_nonneg_of_pos ((k:Nat):Int) (b:=2) (by decide)
 have f1:=Int.fmod_lt_of_pos ((k:Nat):Int) (b:=2) (by decide)
 unfold viewX viewSc viewP
 dsimp only
 k_steps
 iterate 2 (refine kim_list (by k_asm) (by k_dflt k_mem) rfl rfl (by omega) (by omega) (by with_reducible assumption) ?_;k_steps)
 exact wpAny_mono (h _ _) (fun v s₁ h₁=>wpAny_items_nil ⟨G.X.keeps h₁.1,h₁.2⟩) (fun _ _ z=>z)
noncomputable def Pairs (o:Own) (h:Heap) (k len:Nat) (W:List Value):Prop:=W.length=len∧∀ (j:Nat) (v:Value),W[j]?=some v→PairAt (fun b=>o.a b=1) h k j v
theorem Pairs.mono {o o':Own}{s s':Shared}{k len:Nat}{W:List Value}(x:Pairs o s.heap k len W) (kk:∀ b ob,s.heap.get? b=some ob→o.a b=1→s'.heap.get? b=some ob∧o'.a b=o.a b):Pairs o' s'.heap k len W:=by
 refine ⟨x.1,fun j v hj=>?_⟩
 refine xe4_3 (x.2 j v hj) fun T ta tb n e q1 q2=>?_
 obtain ⟨r1,r2⟩:=kk _ _ q2 q1
 exact ⟨T,ta,tb,n,e,r2.trans q1,r1⟩
noncomputable def VOk (G:Gr) (o:Own) (s:Shared) (k len v:Nat) (V:List Value) (mm:Nat):Prop :=
 if k≤1 then ∃ dv f,Fac G k o s V v dv f mm none else ∃ dv q W T,SeqB G o s W v dv q T∧Pairs o s.heap k len W∧SeqT T
noncomputable def T263 (k:Nat) (h:Heap):Prop:=if k=0 then h.get? 263=some (tabObj #[]) else if k=1 then ∃ c0,h.get? 263=some (tabObj (tb0 c0)) else ∃ tb,h.get? 263=some (tabObj tb)
theorem VOk.mono {G:Gr}{o o':Own}{s s':Shared}{k len v mm:Nat}{V:List Value}(x:VOk G o s k len v V mm) (K:Kp (fun t=>FM 0 t∨FM 1 t) o s o' s'):VOk G o' s' k len v V mm:=by
 unfold VOk at x ⊢
 have k1:∀ b ob,s.heap.get? b=some ob→o.a b=1→s'.heap.get? b=some ob∧o'.a b=o.a b:=fun b ob e t=>K.k b ob e (.inr t)
 split at x
 ·rename_i h
  refine xe2_1 x fun dv f F=>?_
  rw [if_pos h]
  refine (xi2 dv f (F.mono (by exact zq73 h) (K.up fun t ht=>?_)))
  obtain rfl | rfl:k=0∨k=1:=by exact zq73 h
  ·exact .inl ht
  ·exact .inr ht
 ·rename_i h
  refine xe4_3 x fun dv q W T B P hT=>?_
  rw [if_neg h]
  exact (xi4 dv q W T (yi3 (B.mono k1) (P.mono k1) hT))
theorem refs_of {V:List Value}:(∀ v∈V,∃ T:Nat,v=Value.ref T)→∃ its:List Nat,V=its.map Value.ref:=by
 induction V with
 | nil=>exact fun _=>⟨[],rfl⟩
 | cons v r ih =>
  intro h
  obtain ⟨T,e⟩:=h v (.head _)
  obtain ⟨its,e'⟩:=ih fun v hv=>h v (.tail _ hv)
  exact ⟨T :: its,by rw [e,e'];rfl⟩
theorem lamc {G:Gr}{A:Around}{outer:List Env}{d u:Nat}{s s1:Shared}(c:Cx G A outer d u s.heap) {fp:List Addr}(hb:∀ a∈fp,G.base.get? a=none) (hf:∀ a∈fp,a ∉ frs outer) (x:Ext [] fp [] s s1):Cx G A outer d u s1.heap :=
 c.next (x.weak (fr':=frs outer) (fp'':=fp) (gp'':=[]) (fun _ h=>.inl h) fn0 fn0) hb hf
theorem view_ {G:Gr}{A:Around}{outer:List Env}{d u:Nat}{s:Shared}{k R mm tn len:Nat}{V:List Value}{o:Own}{Q E:Value→Shared→Prop}(hk:k < 5)
  (c:Cx G A outer (d+3) (u+4) s.heap) (ok:OwnOk G o) (row:RowAt (fun b=>o.a b=1) s.heap k len R V) (hlen:len≤4) (t263:T263 k s.heap) (om:k≤1→(∃ n,s.heap.get? mm=some (W.listOf #[] n))∧o.a mm=2+k) (tt:TabT G s.heap none) (t249:o.a 249=103)
  (post:∀ s' v o',Ext [] [263] [] s s'→Agree o o' s→OwnOk G o'→VOk G o' s' k len v V mm→T263 (k+1) s'.heap→s.heap.get? v=none→Q (.ref v) s') :
  wpAny (model PR G.w) A (call (.ref 268) [.int (k:Nat) tn,.ref R,.ref mm]) (fun v s₁=>G.base.StaysIn s₁.heap∧wpAny (model PR G.w) A (call (.ref 218) [v]) Q E s₁) E s:=by
 (refine xe0_4 (id row) ?_;rintro tR ⟨nR,oR⟩ lR pR)
 have nR0:G.base.get? R=none:=ok R (by rw [tR];exact zq5)
 have hV4:V.length≤4:=by exact le_of_eq_of_le lR hlen
 have n263:∀ {ob},s.heap.get? 263=some ob→(∃ vs,ob.data=.fields vs)→263 ∉ frs outer:=fun e ⟨vs,h⟩ q=>by apply hide;intro _ kι;obtain ⟨_,o',e',h'⟩:=frs_old c.ff _ q;apply kι;rw [e] at e';(replace e':=Eq.symm e';cases e');exact h' _ h
 have cext:∀ {s1:Shared},Ext [] [] [] s s1→Cx G A outer (d+3) (u+4) s1.heap:=fun x=>lamc c (fp:=[]) fn0 fn0 x
 have up:∀ {s1:Shared},Ext [] [] [] s s1→Ext [] [263] [] s s1:=fun x=>x.weak fn0 fn0 fn0
 have ag1:=Own.with_agree o s (fun _=>1) (fun _=>0)
 have ok1:OwnOk G (o.with s (fun _=>1) (fun _=>0)):=Own.with_ok ok c.st
 have tk1:∀ {s1:Shared}{k'},k≠0→k≠1→k'=k+1→Ext [] [] [] s s1→T263 k' s1.heap:=fun {s1 k'} h0 h1 e x=>by
  subst e
  unfold T263 at t263 ⊢
  rw [if_neg h0,if_neg h1] at t263
  rw [if_neg (by exact zq220),if_neg (by exact Nat.add_one_ne_add_one_iff.mpr h0)]
  obtain ⟨ob,e⟩:=t263
  exact ⟨ob,x.keep _ _ e fnm fnm⟩
 have seqv:∀ {s1 s2:Shared}{x dx l:Nat}{T:String},1 < k→Ext [] [] [] s s2→s.heap.get? x=none→s.heap.get? dx=none→s.heap.get? l=none→IsSeqV s2.heap x dx l→SeqAt s2.heap l V T→VOk G (o.with s (fun _=>1) (fun _=>0)) s2 k len x V mm:=fun {s1 s2 x dx l T} h1 x2 fx fdx fl sv sq=>by
  unfold VOk
  rw [if_neg (by exact Nat.not_le_of_lt h1)]
  refine (xi4 dx l V T (yi3 ⟨sv,sq,fq (Own.with_new o fx) (fq (Own.with_new o fdx) (fq (Own.with_new o fl) fn0))⟩ ⟨lR,fun j v hj=>?_⟩ sq.seqT))
  refine xe4_3 (pR j v hj) fun T' ta tb n e q1 q2=>?_
  exact ⟨T',ta,tb,n,e,(ag1.1 _ _ q2).trans q1,x2.keep _ _ q2 fnm fnm⟩
 obtain rfl | rfl | rfl | rfl | rfl:k=0∨k=1∨k=2∨k=3∨k=4:=by exact zq44 hk
 ·obtain ⟨⟨nm,omm⟩,tmm⟩:=om (by exact zq18)
  have nf:=n263 t263 ⟨_,rfl⟩
  refine given0_ (d:=d+2) (u:=u+4) c t263 fun s1 f ci cm c' tb' x1 ff fci fcm fc' lam hci hcm t263' etb g1 ncc=>?_
  have c1:Cx G A outer (d+3) (u+4) s1.heap:=lamc c (fun a ha=>by rw [List.mem_singleton.mp ha];exact G.n2) (fun a ha=>by rw [List.mem_singleton.mp ha];exact nf) x1
  apply hide;intro _ kι;obtain ⟨⟨obc,vsc,ec',hdc'⟩,fo,fd,efo,hfd,hfc⟩:=lam_code lam;apply kι
  refine ⟨c1.st,biv_fn c1 efo hfd hfc (none_st c.st ff) fun s2 x dx x2 fx fdx nxx isf=>?_⟩
  have x2':Ext [] [263] [] s s2:=x1.trans (x2.weak (fp'':=[]) (gp'':=[]) (fr':=[]) fn0 fn0 fn0) fn0 fn0
  have k2:∀ b ob,s1.heap.get? b=some ob→s2.heap.get? b=some ob:=fun b ob e=>x2.keep b ob e fnm fnm
  have ks:∀ b ob,s.heap.get? b=some ob→b≠263→s2.heap.get? b=some ob:=fun b ob e ne=>x2'.keep b ob e (by simpa using ne) fnm
  have fx':=x1.fresh fx
  have fdx':=x1.fresh fdx
  have ag:=Own.with_agree o s (fun b=>if b=x∨b=dx then 100+0 else 1) (fun _=>0)
  have old1:∀ b ob,s1.heap.get? b=some ob→¬ (b=x∨b=dx):=fun b ob e q=>by
   rcases q with q | q <;> replace q:=q.symm <;> subst q
   ·rw [fx] at e;cases e
   ·rw [fdx] at e;cases e
  refine xe1_2 (id hci) fun oci eci hdci=>?_
  refine xe1_2 (id hcm) fun ocm ecm hdcm=>?_
  have ne263:∀ b ob,s.heap.get? b=some ob→(∀ vs,ob.data≠.fields vs)→b≠263:=fun b ob e h q=>by
   rw [q,t263] at e;(replace e:=Eq.symm e;cases e);exact h _ rfl
  refine post s2 x _ x2' ag (Own.with_ok ok c.st) ?_ ?_ fx'
  ·unfold VOk
   rw [if_pos (by exact zq18)]
   have omm2:s2.heap.get? mm=some (W.listOf #[] nm):=ks _ _ omm (ne263 _ _ omm (by intro vs;simp))
   refine (xi2 dx f ⟨(Own.with_new o fx').trans (if_pos (.inl rfl)),(Own.with_new o fdx').trans (if_pos (.inr rfl)),(ag.1 _ _ omm).trans tmm,hV4,(fun _ e=>nomatch e),fun _=>(yi3 isf ⟨nm,omm2⟩ ?_),fun q e=>by cases e⟩)
   refine ⟨cm,ci,c',R,nR,?_,⟨oci,k2 _ _ eci,hdci⟩,⟨ocm,k2 _ _ ecm,hdcm⟩,ks _ _ oR (ne263 _ _ oR (by intro vs;simp)),?_,ncc,?_⟩
   ·apply hide;intro _ kι;obtain ⟨qn,ps,b,sc,pos,name,qual,pm,ctv,e0,o2,cr⟩:=id lam;apply kι
    exact ⟨qn,ps,b,sc,pos,name,qual,pm,ctv,e0,k2 _ _ o2,codeRec_kept cr fun ob e=>k2 _ _ e⟩
   ·exact fq ((Own.with_new o ff).trans (if_neg (old1 _ _ efo))) (fq ((Own.with_new o fci).trans (if_neg (old1 _ _ eci))) (fq ((Own.with_new o fcm).trans (if_neg (old1 _ _ ecm))) (fq ((Own.with_new o fc').trans (if_neg (old1 _ _ ec'))) (fq ((ag.1 _ _ oR).trans tR) fn0))))
   ·intro hk0
    obtain ⟨tb9,e9⟩:∃ tb,s.heap.get? 249=some (tabObj tb):=by refine xe6_3 (id tt) fun _ _ _ _ _ tb _ h _=>?_;exact ⟨_,h⟩
    refine (yi3 ?_ ((ag.1 _ _ e9).trans t249) ⟨none,tt.kept (fun ob e=>ks _ _ e (by decide)) (fun c' e=>by cases e),fun c'' e=>by cases e⟩)
    have:∀ v∈V,∃ T,v=Value.ref T:=fun v hv=>by
     obtain ⟨j,hj⟩:=List.getElem?_of_mem hv
     refine xe4_2 (pR j v hj) fun T _ _ _ e _=>?_
     exact ⟨T,e⟩
    exact refs_of this
  ·exact ⟨c',by rw [← etb];exact k2 _ _ t263'⟩
 ·obtain ⟨⟨nm,omm⟩,tmm⟩:=om (by exact zq124)
  obtain ⟨c0,t263⟩:∃ c0,s.heap.get? 263=some (tabObj (tb0 c0)):=t263
  have nf:=n263 t263 ⟨_,rfl⟩
  refine given1_ (d:=d+2) (u:=u+4) c t263 fun s1 f ci cm c' tb' x1 ff fci fcm fc' lam hci hcm t263' _ g1 ncc=>?_
  have c1:Cx G A outer (d+3) (u+4) s1.heap:=lamc c (fun a ha=>by rw [List.mem_singleton.mp ha];exact G.n2) (fun a ha=>by rw [List.mem_singleton.mp ha];exact nf) x1
  apply hide;intro _ kι;obtain ⟨⟨obc,vsc,ec',hdc'⟩,fo,fd,efo,hfd,hfc⟩:=lam_code lam;apply kι
  refine ⟨c1.st,biv_fn c1 efo hfd hfc (none_st c.st ff) fun s2 x dx x2 fx fdx nxx isf=>?_⟩
  have x2':Ext [] [263] [] s s2:=x1.trans (x2.weak (fp'':=[]) (gp'':=[]) (fr':=[]) fn0 fn0 fn0) fn0 fn0
  have k2:∀ b ob,s1.heap.get? b=some ob→s2.heap.get? b=some ob:=fun b ob e=>x2.keep b ob e fnm fnm
  have ks:∀ b ob,s.heap.get? b=some ob→b≠263→s2.heap.get? b=some ob:=fun b ob e ne=>x2'.keep b ob e (by simpa using ne) fnm
  have fx':=x1.fresh fx
  have fdx':=x1.fresh fdx
  have ag:=Own.with_agree o s (fun b=>if b=x∨b=dx then 100+1 else 1) (fun _=>0)
  have old1:∀ b ob,s1.heap.get? b=some ob→¬ (b=x∨b=dx):=fun b ob e q=>by
   rcases q with q | q <;> replace q:=q.symm <;> subst q
   ·rw [fx] at e;cases e
   ·rw [fdx] at e;cases e
  refine xe1_2 (id hci) fun oci eci hdci=>?_
  refine xe1_2 (id hcm) fun ocm ecm hdcm=>?_
  have ne263:∀ b ob,s.heap.get? b=some ob→(∀ vs,ob.data≠.fields vs)→b≠263:=fun b ob e h q=>by
   rw [q,t263] at e;(replace e:=Eq.symm e;cases e);exact h _ rfl
  refine post s2 x _ x2' ag (Own.with_ok ok c.st) ?_ ?_ fx'
  ·unfold VOk
   rw [if_pos (by exact zq124)]
   have omm2:s2.heap.get? mm=some (W.listOf #[] nm):=ks _ _ omm (ne263 _ _ omm (by intro vs;simp))
   refine (xi2 dx f ⟨(Own.with_new o fx').trans (if_pos (.inl rfl)),(Own.with_new o fdx').trans (if_pos (.inr rfl)),(ag.1 _ _ omm).trans tmm,hV4,(fun _ e=>nomatch e),fun _=>(yi3 isf ⟨nm,omm2⟩ ?_),fun q e=>by cases e⟩)
   refine ⟨cm,ci,c',R,nR,?_,⟨oci,k2 _ _ eci,hdci⟩,⟨ocm,k2 _ _ ecm,hdcm⟩,ks _ _ oR (ne263 _ _ oR (by intro vs;simp)),?_,ncc,?_⟩
   ·apply hide;intro _ kι;obtain ⟨qn,ps,b,sc,pos,name,qual,pm,ctv,e0,o2,cr⟩:=id lam;apply kι
    exact ⟨qn,ps,b,sc,pos,name,qual,pm,ctv,e0,k2 _ _ o2,codeRec_kept cr fun ob e=>k2 _ _ e⟩
   ·exact fq ((Own.with_new o ff).trans (if_neg (old1 _ _ efo))) (fq ((Own.with_new o fci).trans (if_neg (old1 _ _ eci))) (fq ((Own.with_new o fcm).trans (if_neg (old1 _ _ ecm))) (fq ((Own.with_new o fc').trans (if_neg (old1 _ _ ec'))) (fq ((ag.1 _ _ oR).trans tR) fn0))))
   ·intro hk0
    cases hk0
  ·exact ⟨_,k2 _ _ t263'⟩
 ·refine given2_ (d:=d+2) (u:=u+1) c oR nR0 hV4 fun s1 z TI TO i1 i2 l1 xs x1 g1 Z hx fz=>?_
  have c1:=cext x1
  have fz':∀ b∈[z,TO,i1,i2],s.heap.get? b=none:=fq (fz _ zm0) (fq (fz _ zm2) (fq (fz _ zm3) (fq (fz _ zm4) fn0)))
  refine ⟨c1.st,biv_zip c1 Z hV4 (fun b hb=>none_st c.st (fz' b hb)) (fun b hb q=>?_) fun s2 x dx S acc c' x2 fx fdx fS ne sv oS la pa=>?_⟩
  ·apply hide;intro _ kι;obtain ⟨_,ob,e,_⟩:=frs_old c.ff b q;apply kι
   rw [fz' b hb] at e;exact nsf e
  ·have x2':Ext [] [] [] s s2:=x1.trans x2 (fun b hb=>.inr (fz' b hb)) fn0
   refine post s2 x _ (up x2') ag1 ok1 ?_ (tk1 (by exact zq125) (by exact Nat.add_one_add_one_ne_one) rfl x2') (x1.fresh fx)
   unfold VOk
   rw [if_neg (by exact Nat.not_succ_le_self 1)]
   refine (xi4 dx S acc ("list_iterator") (yi3 ⟨sv,⟨_,_,oS,rfl,.inl ⟨rfl,rfl⟩⟩,fq (Own.with_new o (x1.fresh fx)) (fq (Own.with_new o (x1.fresh fdx)) (fq (Own.with_new o (x1.fresh fS)) fn0))⟩ ⟨la.trans lR,fun j v hj=>?_⟩ (.inl rfl)))
   refine xe3_4 (pa j v hj) fun T t xx e hxj fT oT=>?_
   obtain ⟨t',rfl⟩:=hx xx (List.mem_of_getElem? hxj)
   exact ⟨T,t',t,_,e,Own.with_new o (x1.fresh fT),oT⟩
 ·refine given3_ (d:=d+2) (u:=u+1) c oR nR0 hV4 fun s1 l n x1 g1 fl ol=>?_
  have c1:=cext x1
  refine ⟨c1.st,biv_seq c1 ol (none_st c.st fl) fun s2 x dx x2 fx fdx ne sv=>?_⟩
  have x2':Ext [] [] [] s s2:=x1.trans x2 fn0 fn0
  exact post s2 x _ (up x2') ag1 ok1 (seqv (s1:=s1) (T:="list_iterator") (by exact Nat.one_lt_succ_succ 1) x2' (x1.fresh fx) (x1.fresh fdx) fl sv ⟨_,_,x2.keep _ _ ol fnm fnm,rfl,.inl ⟨rfl,rfl⟩⟩) (tk1 (by exact zq126) (by exact Nat.add_one_add_one_ne_one) rfl x2') (x1.fresh fx)
 ·refine given4_ (d:=d+2) (u:=u+1) c oR nR0 hV4 fun s1 l n x1 g1 fl ol=>?_
  have c1:=cext x1
  refine ⟨c1.st,biv_tup c1 ol (none_st c.st fl) fun s2 x dx x2 fx fdx ne sv=>?_⟩
  have x2':Ext [] [] [] s s2:=x1.trans x2 fn0 fn0
  exact post s2 x _ (up x2') ag1 ok1 (seqv (s1:=s1) (T:="tuple_iterator") (by exact Nat.one_lt_succ_succ 2) x2' (x1.fresh fx) (x1.fresh fdx) fl sv ⟨_,_,x2.keep _ _ ol fnm fnm,rfl,.inr ⟨rfl,rfl⟩⟩) (tk1 (by exact zq228) (by exact Ne.symm (Nat.ne_of_beq_eq_false rfl)) rfl x2') (x1.fresh fx)
noncomputable def Own.mark (o:Own) (b t:Nat):Own:=⟨fun x=>if x=b then t else o.a x,o.g⟩
theorem Own.mark_at (o:Own) (b t:Nat):(o.mark b t).a b=t:=if_pos rfl
theorem Own.mark_ne (o:Own) {b t x:Nat}(h:x≠b):(o.mark b t).a x=o.a x:=if_neg h
theorem Own.mark_ok {G:Gr}{o:Own}{b t:Nat}(ok:OwnOk G o) (h:G.base.get? b=none):OwnOk G (o.mark b t):=fun a q=>by
 by_cases e:a=b
 ·rw [e];exact h
 ·rw [o.mark_ne e] at q;exact ok a q
theorem Own.mark_kp {o:Own}{s:Shared}{b t:Nat}(M:Nat→Prop) (h0:o.a b=0) (hM:¬ M 0):Kp M o s (o.mark b t) s :=
 ⟨fun x ob e q=>⟨e,o.mark_ne fun h=>by rw [h,h0] at q;exact q.elim hM (by exact zq9)⟩,fun g x e _=>⟨e,rfl⟩⟩
theorem Kp.trans {M:Nat→Prop}{o o' o'':Own}{s s' s'':Shared}(x:Kp M o s o' s') (y:Kp M o' s' o'' s''):Kp M o s o'' s'' :=
 ⟨fun b ob e t=>let ⟨e1,t1⟩:=x.k b ob e t;let ⟨e2,t2⟩:=y.k b ob e1 (t1▸t);⟨e2,t2.trans t1⟩,fun g v e t=>let ⟨e1,t1⟩:=x.g g v e t;let ⟨e2,t2⟩:=y.g g v e1 (t1▸t);⟨e2,t2.trans t1⟩⟩
noncomputable def FM2 (t:Nat):Prop:=FM 0 t∨FM 1 t
theorem fm2_0:¬ FM2 0:=fun h=>h.elim (fun h=>(fm_ok (.inl rfl) 0 h).1 rfl) (fun h=>(fm_ok (.inr rfl) 0 h).1 rfl)
theorem views_ {G:Gr}{A:Around}{outer:List Env}{d u:Nat}{s:Shared}{L fa rl ml k1 k2 m0 m1:Nat}{cd:Value}{ys:List Value}{ns:List Int}{m:Str→Option Value}{o:Own}{rr:Nat→Nat}{VV:Nat→List Value}{Q:Flow→Shared→Prop}{E:Value→Shared→Prop}
  (c:Cx G A (LE L fa cd :: outer) (d+3) (u+4) s.heap) (F:Fr G.base L s.heap m) (ok:OwnOk G o) (o1:s.heap.get? rl=some (W.listOf ys.toArray k1)) (o2:s.heap.get? ml=some (W.listOf #[.ref m0,.ref m1] k2)) (hy:ys.length=5)
  (c1:s.heap.IsCell (L+1+1) (some (.ref rl))) (c2:s.heap.IsCell (L+1+1+1) (some (.ref ml))) (tg:∀ b∈[L+1+1,L+1+1+1,rl,ml],o.a b=1) (tL:o.a L=0) (t263m:o.a 263=0) (t249:o.a 249=103) (hrow:∀ k,k < 5→ys[k]?=some (.ref (rr k))∧RowAt (fun b=>o.a b=1) s.heap k (szOf ns k) (rr k) (VV k))
  (e0:∃ n,s.heap.get? m0=some (W.listOf #[] n)) (e1:∃ n,s.heap.get? m1=some (W.listOf #[] n)) (tm0:o.a m0=2) (tm1:o.a m1=3) (t263:s.heap.get? 263=some (tabObj #[])) (tt:TabT G s.heap none)
  (post:∀ s' D n o' (vs:List Value),Ext [] [263,L] [] s s'→Fr G.base L s'.heap (fun z=>if z=Str.ofString "views" then some (.ref D) else m z)→Agree o o' s→OwnOk G o'→s.heap.get? D=none→o'.a D=1→s'.heap.get? D=some (lstObj vs.toArray n)→vs.length=5 →
   (∀ (k:Nat) (v:Value),vs[k]?=some v→∃ a,v=.ref a∧VOk G o' s' k (szOf ns k) a (VV k) (if k % 2=0 then m0 else m1)∧s.heap.get? a=none)→(∃ tb,s'.heap.get? 263=some (tabObj tb))→Q .next s'):wpAny (model PR G.w) A (exec lw3 (LE L fa cd)) Q E s:=by
 refine cx_open c ?_;clear c;intro ad ag au c
 have X:=G.X
 have T:=G.T
 refine xe1_3 (ledger2 (g:=G.base) (L:=L) (h:=s.heap) (ex:=[]) fn0) fun rest N _ hr=>?_
 simp only [List.nil_append] at N
 have Fk:True→Fr G.base L s.heap m:=fun _=>F
 unfold lw3
 dsimp only
 rw [exec_Assign_Name_used _ _ _ _ rfl]
 refine wpAny_bind (wpAny_standAt (wpAny_bind ?_))
 show wpAny _ _ (comprehension _ _ _ _ (newList []) false _ (some _) >>= fun _=>pure ()) _ _ s
 refine wpAny_bind ?_
 refine comp_open (fun _=>rfl) (cl:=[(Str.ofString "rows",L+1+1),(Str.ofString "made",L+1+1+1)]) rfl rfl (by decide) ?_
 dsimp only [firstIter]
 k_steps
 rename IsRange _ _ _ _ _ _ _ _=>rg
 rename Fr _ _ _ _=>F2
 rename News _ _ _ _=>N2
 rename_i h2 tk2 tt1 tt2 tt3 kk2
 clear N2 hr
 have F0:=Fk trivial
 have x2:∀ h' tk,(∀ b o,h2.get? b=some o→h'.get? b=some o)→Ext [] [263] [] s { s with heap:=h',toks:=tk }:=fun h' tk kk=>Ext.more (fr:=[]) (fp:=[263]) (gp:=[]) fun b o e=>kk b o (kk2 b o e)
 have fI:∀ j,h2.objs.size≤j→s.heap.get? j=none:=fun j hj=>(x2 h2 0 fun _ _ e=>e).fresh (b:=j) (Heap.get?_none_of_le hj)
 have fI0:=fI h2.objs.size (Nat.le_refl _)
 have fI1:=fI (h2.objs.size+1) (by exact zq16)
 have fI2:=fI (h2.objs.size+1+1) (by exact zq34)
 have nb:∀ j,s.heap.get? j=none→G.base.get? j=none:=fun j hj=>none_st c.st hj
 have ne63:∀ b,o.a b≠0→b≠263:=fun b h q=>h (q▸t263m)
 obtain ⟨n0,e0⟩:=e0
 obtain ⟨n1,e1⟩:=e1
 refine xe1_2 (id c1) fun oc1 ec1 hc1=>?_
 refine xe1_2 (id c2) fun oc2 ec2 hc2=>?_
 refine xe3_2 (id F0.ns) fun oL _ _ eL _=>?_
 have nL63:L≠263:=fun q=>by
  refine xe3_3 (id F0.ns) fun oL' es ep eL' hdL _=>?_
  rw [q,t263] at eL';(replace eL':=Eq.symm eL';cases eL');cases hdL
 have n63:263 ∉ frs (LE L fa cd :: outer):=fun q=>by apply hide;intro _ kι;obtain ⟨_,o',e',h'⟩:=frs_old c.ff _ q;apply kι;rw [t263] at e';(replace e':=Eq.symm e';cases e');exact h' _ rfl
 have nz:∀ {b:Nat}{ob:Obj}{j:Nat},s.heap.get? b=some ob→s.heap.get? j=none→b≠j:=fun e f q=>by rw [q,f] at e;exact nsf e
 refine comp_range (s:={ s with heap:=h2,toks:=tk2 }) (n:=5) rfl rg (by exact zq122) (J:=fun i ys' s'=>∃ oi,Ext [] [263] [] s s'∧Agree o oi s∧OwnOk G oi∧(∃ mc,s'.heap.Ns (h2.objs.size+1+1) mc)∧oi.a h2.objs.size=0∧oi.a (h2.objs.size+1)=0∧oi.a (h2.objs.size+1+1)=0∧T263 i s'.heap ∧
  ∀ (k:Nat) (v:Value),ys'[k]?=some v→∃ a,v=.ref a∧VOk G oi s' k (szOf ns k) a (VV k) (if k % 2=0 then m0 else m1)∧s.heap.get? a=none) ?start ?stab ?turn ?done
 case start =>
  rintro s' kk rfl
  have sz1:(h2.push (rngObj 0 5)).objs.size=h2.objs.size+1:=Heap.size_push ..
  have sz2:((h2.push (rngObj 0 5)).push (lstObj #[] 0)).objs.size=h2.objs.size+1+1:=by rw [Heap.size_push,sz1]
  refine (wi1_9 (o.reset s) (x2 _ _ kk) (Own.reset_agree ..) (Own.with_ok ok c.st) ⟨fun _=>none,?_⟩ (Own.reset_new o fI0) (Own.reset_new o fI1) (Own.reset_new o fI2) (kk _ _ (kk2 _ _ t263)) (fun j v h=>by simp at h))
  have:(((h2.push (rngObj 0 5)).push (lstObj #[] 0)).push nsObj0).Ns (h2.objs.size+1+1) (fun _=>none):=by
   have:=Heap.Ns.new ((h2.push (rngObj 0 5)).push (lstObj #[] 0)) (.type "dict")
   rw [sz2] at this
   exact this
  exact this.keeps (pushCells_keeps _ _)
 case stab =>
  (intro i ys' s' h' tk q5 kk;apply hide;intro _ kι;obtain ⟨oi,y1,y2,y3,⟨mc,y4⟩,y5,y6,y7,y8,y9⟩:=q5;apply kι)
  have K:Kp FM2 oi s' oi { s' with heap:=h',toks:=tk }:=⟨fun b ob e t=>⟨kk b ob e (fun q=>by rw [q] at t;erw [y5] at t;exact t.elim fm2_0 (by exact zq9)) (fun q=>by rw [q] at t;erw [y6] at t;exact t.elim fm2_0 (by exact zq9)),rfl⟩,fun g x e _=>⟨e,rfl⟩⟩
  have k0:∀ b ob,s'.heap.get? b=some ob→(∃ o0,s.heap.get? b=some o0)→h'.get? b=some ob:=fun b ob e ⟨o0,q⟩=>kk b ob e (nz q fI0) (nz q fI1)
  refine (wi1_9 oi (y1.skip (fun b ob e e0 _=>k0 b ob e e0) (fun _ _ _ h=>nomatch h) rfl rfl rfl) y2 y3 ⟨mc,y4.at' fun o e=>kk _ o e (by show h2.objs.size+1+1≠h2.objs.size;exact zq37) (by show h2.objs.size+1+1≠h2.objs.size+1;exact zq35)⟩ y5 y6 y7 ?_ (fun k v hk=>?_))
  ·unfold T263 at y8 ⊢
   split
   ·rename_i h;rw [if_pos h] at y8;exact k0 _ _ y8 ⟨_,t263⟩
   ·rename_i h
    rw [if_neg h] at y8
    split
    ·rename_i h';rw [if_pos h'] at y8;obtain ⟨c0,q⟩:=y8;exact ⟨c0,k0 _ _ q ⟨_,t263⟩⟩
    ·rename_i h';rw [if_neg h'] at y8;obtain ⟨c0,q⟩:=y8;exact ⟨c0,k0 _ _ q ⟨_,t263⟩⟩
  ·refine xe1_3 (y9 k v hk) fun a e vo f=>?_
   exact (wi1_3 a e (vo.mono K) f)
 case done =>
  (intro ys' s' q2 hl5 q4;apply hide;intro _ kι;obtain ⟨oi,y1,y2,y3,⟨mc,y4⟩,y5,y6,y7,y8,y9⟩:=q2;apply kι;apply hide;intro _ kι;obtain ⟨kz,hD⟩:=q4;apply kι)
  refine wpAny_assign_Name (wpAny_storeName_local (m:=m) rfl (F0.ns.at' fun ob e=>y1.keep _ _ e (by simpa using nL63) fnm) (fun h3 hn3 hs3=>?_) rfl)
  have hs3:Heap.SameBut L s'.heap h3:=hs3
  have hn3:h3.Ns L (fun z=>if z=Str.ofString "views" then some (.ref (h2.objs.size+1)) else m z):=hn3
  obtain ⟨tb63,g63⟩:∃ tb,s'.heap.get? 263=some (tabObj tb):=by unfold T263 at y8;rw [if_neg (by decide),if_neg (by decide)] at y8;exact y8
  have nCL:h2.objs.size+1+1≠L:=fun q=>nz eL fI2 q.symm
  have nDL:h2.objs.size+1≠L:=fun q=>nz eL fI1 q.symm
  refine (wi1_2 mc (y4.at' fun ob e=>(hs3.2 _ nCL).trans e) (fun h4 hs4=>?_))
  have hs4:Heap.SameBut (h2.objs.size+1+1) h3 h4:=hs4
  have k4:∀ b ob,s'.heap.get? b=some ob→b≠L→b≠h2.objs.size+1+1→h4.get? b=some ob:=fun b ob e q1 q2=>(hs4.2 b q2).trans ((hs3.2 b q1).trans e)
  refine xe3_2 (id hn3) fun oL3 _ _ eL3 _=>?_
  have x4:∀ tk,Ext [] [263,L] [] s { s' with heap:=h4,toks:=tk }:=fun tk=>by
   have a1:Ext [] [263,L] [] s s':=y1.weak (fun b hb=>.inl (by simp at hb;simp [hb])) fn0 fn0
   have a2:Ext [] [263,L] [] s { s' with heap:=h3,toks:=tk }:=a1.trans (Ext.one (fr:=[]) (fp:=[L]) (gp:=[]) hs3 zm0 ⟨_,eL3⟩) (fun b hb=>.inl (by simp at hb;simp [hb])) fn0
   exact a2.skip (fun b ob e ⟨o0,q⟩ _=>(hs4.2 b (nz q fI2)).trans e) (fun _ _ _ h=>nomatch h) rfl rfl rfl
  have K:∀ tk,Kp FM2 oi s' oi { s' with heap:=h4,toks:=tk }:=fun tk=>⟨fun b ob e t=>⟨k4 b ob e (fun q=>by rw [q,y2.1 _ _ eL,tL] at t;exact t.elim fm2_0 (by exact zq9)) (fun q=>by rw [q,y7] at t;exact t.elim fm2_0 (by exact zq9)),rfl⟩,fun g x e _=>⟨e,rfl⟩⟩
  have K2:∀ tk,Kp FM2 oi s' (oi.mark (h2.objs.size+1) 1) { s' with heap:=h4,toks:=tk }:=fun tk=>(K tk).trans (Own.mark_kp FM2 y6 fm2_0)
  refine wpAny_pure (wpAny_pure ?_)
  refine post _ (h2.objs.size+1) kz (oi.mark (h2.objs.size+1) 1) ys' (x4 _) ⟨hn3.at' fun ob e=>(hs4.2 _ (fun q=>nCL q.symm)).trans e,fun b ob e=>?_,F0.above⟩ ⟨fun b ob e=>(Own.mark_ne _ (nz e fI1)).trans (y2.1 b ob e),y2.2⟩ (Own.mark_ok y3 (nb _ fI1)) fI1 (Own.mark_at ..) (k4 (h2.objs.size+1) _ hD nDL (by show h2.objs.size+1≠h2.objs.size+1+1;exact zq14)) hl5 (fun k v hk=>?_) ⟨_,k4 263 _ g63 nL63.symm (nz t263 fI2)⟩
  ·exact (x4 0).keep b ob (c.st _ _ e) (fun q=>by
    simp at q
    rcases q with q | q <;> replace q:=q.symm <;> subst q
    ·rw [G.n2] at e;exact nsf e
    ·have h1:=Heap.lt_size e;have h2:=F0.above;exact Nat.lt_irrefl _ (Nat.lt_of_lt_of_le h1 h2)) fnm
  ·refine xe1_3 (y9 k v hk) fun a e vo f=>?_
   exact (wi1_3 a e (vo.mono (K2 _)) f)
 case turn =>
  (intro i ys' s' t' hi q5 hli q7 q8;apply hide;intro _ kι;obtain ⟨oi,y1,y2,y3,⟨mc,y4⟩,y5,y6,y7,y8,y9⟩:=q5;apply kι;apply hide;intro _ kι;obtain ⟨oI,qI⟩:=q7;apply kι;apply hide;intro _ kι;obtain ⟨oD,qD⟩:=q8;apply kι)
  refine wpAny_storeName_local (m:=mc) rfl y4 (fun h3 hn3 hs3=>?_) rfl
  have hs3:Heap.SameBut (h2.objs.size+1+1) s'.heap h3:=hs3
  have x3:∀ tk,Ext [] [263] [] s { s' with heap:=h3,toks:=tk }:=fun tk=>y1.skip (fun b ob e ⟨o0,q⟩ _=>(hs3.2 b (nz q fI2)).trans e) (fun _ _ _ h=>nomatch h) rfl rfl rfl
  have old:∀ b ob,s.heap.get? b=some ob→b≠263→h3.get? b=some ob:=fun b ob e q=>(x3 0).keep b ob e (by simpa using q) fnm
  have tgk:∀ b,o.a b≠0→∀ ob,s.heap.get? b=some ob→h3.get? b=some ob:=fun b h ob e=>old b ob e (ne63 b h)
  have K3:∀ tk,Kp FM2 oi s' oi { s' with heap:=h3,toks:=tk }:=fun tk=>⟨fun b ob e t=>⟨(hs3.2 b (fun q=>by rw [q,y7] at t;exact t.elim fm2_0 (by exact zq9))).trans e,rfl⟩,fun g x e _=>⟨e,rfl⟩⟩
  have c3:∀ tk,Cx G { depth:=ad,frames:=some (LE L fa cd :: outer),guards:=ag,units:=au } (LE L fa cd :: outer) (d+3) (u+4) ({ s' with heap:=h3,toks:=tk }:Shared).heap:=fun tk=>lamc c (fp:=[263]) (fun a ha=>by rw [List.mem_singleton.mp ha];exact G.n2) (fun a ha=>by rw [List.mem_singleton.mp ha];exact n63) (x3 tk)
  have t1:=tg (L+1+1) zm0
  have t2:=tg (L+1+1+1) zm1
  have t3:=tg rl zm2
  have t4:=tg ml zm3
  obtain ⟨hyi,rowi⟩:=hrow i hi
  have hmi:[Value.ref m0,Value.ref m1][i % 2]?=some (.ref (if i % 2=0 then m0 else m1)):=by
   rcases Nat.mod_two_eq_zero_or_one i with h | h <;> simp [h]
  refine velt_ (s:={ s' with heap:=h3,toks:=s'.toks+1 }) (d:=d+3) (u:=u+4) (ys:=ys) (ms:=[.ref m0,.ref m1]) (k:=i) (t:=t') (m:=m) (c3 _) (Fr.ext F0 (x3 (s'.toks+1)) (by simpa using nL63) (fun a ha=>by rw [List.mem_singleton.mp ha];exact G.n2) fn0) (tgk _ (by rw [t3];exact zq5) _ o1) (tgk _ (by rw [t4];exact zq5) _ o2) hi hy rfl ⟨oc1,tgk _ (by rw [t1];exact zq5) _ ec1,hc1⟩ ⟨oc2,tgk _ (by rw [t2];exact zq5) _ ec2,hc2⟩ hn3 (if_pos rfl) ?_ ?_ hyi hmi fun tk t''=>?_
  ·exact fq (ok _ (by rw [t1];exact zq5)) (fq (ok _ (by rw [t2];exact zq5)) (fq (ok _ (by rw [t3];exact zq5)) (fq (ok _ (by rw [t4];exact zq5)) (fq (nb _ fI2) fn0))))
  ·have ml':∀ b,o.a b=1→b≠L:=fun b h q=>by rw [q,tL] at h;exact absurd h (by decide)
   exact fq (ml' _ t1) (fq (ml' _ t2) (fq (ml' _ t3) (fq (ml' _ t4) (fq (fun q=>nz eL fI2 q.symm) fn0))))
  ·have row3:RowAt (fun b=>oi.a b=1) h3 i (szOf ns i) (rr i) (VV i):=by
    (refine xe0_4 rowi ?_;rintro q1 ⟨qn,q2⟩ q3 q4)
    refine ⟨(y2.1 _ _ q2).trans q1,⟨qn,tgk _ (by rw [q1];exact zq5) _ q2⟩,q3,fun j v hj=>?_⟩
    refine xe4_3 (q4 j v hj) fun T ta tb n e r1 r2=>?_
    exact ⟨T,ta,tb,n,e,(y2.1 _ _ r2).trans r1,tgk _ (by rw [r1];exact zq5) _ r2⟩
   have n63C:(263:Nat)≠h2.objs.size+1+1:=nz t263 fI2
   have t263':T263 i h3:=by
    unfold T263 at y8 ⊢
    split
    ·rename_i h;rw [if_pos h] at y8;exact (hs3.2 _ n63C).trans y8
    ·rename_i h
     rw [if_neg h] at y8
     split
     ·rename_i h';rw [if_pos h'] at y8;obtain ⟨c0,q⟩:=y8;exact ⟨c0,(hs3.2 _ n63C).trans q⟩
     ·rename_i h';rw [if_neg h'] at y8;obtain ⟨c0,q⟩:=y8;exact ⟨c0,(hs3.2 _ n63C).trans q⟩
   obtain ⟨tb9,e9⟩:∃ tb,s.heap.get? 249=some (tabObj tb):=by refine xe6_3 (id tt) fun _ _ _ _ _ tb _ h _=>?_;exact ⟨_,h⟩
   refine view_ (s:={ s' with heap:=h3,toks:=tk }) (d:=d) (u:=u) (o:=oi) (len:=szOf ns i) (V:=VV i) hi (c3 tk) y3 row3 (szOf_le ns i) t263' ?_ (tt.kept (fun ob e=>tgk _ (by rw [t249];exact Ne.symm (Nat.zero_ne_add_one 102)) _ e) (fun c' e=>by cases e)) ((y2.1 _ _ e9).trans t249) fun s5 v o5 x5 ag5 ok5 vo5 t5 f5=>?_
   ·intro hi1
    obtain rfl | rfl:i=0∨i=1:=by exact zq73 hi1
    ·exact ⟨⟨n0,tgk m0 (by rw [tm0];exact zq125) _ e0⟩,(y2.1 m0 _ e0).trans tm0⟩
    ·exact ⟨⟨n1,tgk m1 (by rw [tm1];exact zq126) _ e1⟩,(y2.1 m1 _ e1).trans tm1⟩
   ·have q63:∀ b,s.heap.get? b=none→b≠263:=fun b e q=>nz t263 e q.symm
    have qI3:h3.get? h2.objs.size=some oI:=(hs3.2 _ (by show h2.objs.size≠h2.objs.size+1+1;exact zq121)).trans qI
    have qD3:h3.get? (h2.objs.size+1)=some oD:=(hs3.2 _ (by show h2.objs.size+1≠h2.objs.size+1+1;exact zq14)).trans qD
    have k5:∀ b ob,h3.get? b=some ob→b≠263→s5.heap.get? b=some ob:=fun b ob e q=>x5.keep b ob e (by simpa using q) fnm
    refine xe3_2 (id hn3) fun oC _ _ eC _=>?_
    have xx:Ext [] [263] [] s s5:=(x3 tk).trans x5 (fun b hb=>.inl hb) fn0
    have K5:Kp FM2 oi { s' with heap:=h3,toks:=tk } o5 s5:=⟨fun b ob e t=>⟨k5 b ob e (fun q=>by
      have:oi.a 263=0:=(y2.1 _ _ t263).trans t263m
      rw [q,this] at t;exact t.elim fm2_0 (by exact zq9)),ag5.1 b ob e⟩,fun g x e _=>⟨x5.gkeep g x e fnm,ag5.2 g x e⟩⟩
    refine (yi3 ((k5 _ _ qI3 (q63 _ fI0)).trans qI.symm) ((k5 _ _ qD3 (q63 _ fI1)).trans qD.symm) ⟨o5,xx,⟨fun b ob e=>?_,fun g x e=>?_⟩,ok5,⟨_,hn3.at' fun ob e=>k5 _ _ e (q63 _ fI2)⟩,(ag5.1 _ _ qI3).trans y5,(ag5.1 _ _ qD3).trans y6,(ag5.1 _ _ eC).trans y7,t5,fun k v' hk=>?_⟩)
    ·obtain ⟨ob',e'⟩:=(x3 tk).there b ob e
     exact (ag5.1 b ob' e').trans (y2.1 b ob e)
    ·have:g < ({ s' with heap:=h3,toks:=tk }:Shared).gens.size:=Nat.lt_of_lt_of_le (gens_lt e) (x3 tk).gsize
     exact (ag5.2 g _ (Array.getElem?_eq_getElem this)).trans (y2.2 g x e)
    ·rcases Nat.lt_trichotomy k ys'.length with h | h | h
     ·rw [List.getElem?_append_left h] at hk
      refine xe1_3 (y9 k v' hk) fun a e vo f=>?_
      exact (wi1_3 a e ((vo.mono (K3 tk)).mono K5) f)
     ·subst h
      rw [List.getElem?_append_right (Nat.le_refl _)] at hk
      simp at hk
      subst hk
      exact (wi1_3 v rfl (by rw [hli];exact vo5) ((x3 tk).fresh f5))
     ·rw [List.getElem?_eq_none (by rw [List.length_append,List.length_singleton];exact zq24 h)] at hk;exact nsf hk
theorem ItSpec.lift {G:Gr}{P M:Nat→Prop}{σ:Nat}{it0:Value}{V:List Value}{W WR WJ:Type}{Gw:W→W→Nat→Prop}{B:W→Own→Shared→Prop}{I:Nat→W→Own→Shared→Nat→List Nat→Prop}
  (sp:ItSpec G P M σ it0 V Gw B I) (π:WJ→W) (ρ:WJ→WR) (mk:W→WR→WJ) (hπ:∀ a b,π (mk a b)=a) (hρ:∀ a b,ρ (mk a b)=b)
  {Rest:WR→Own→Shared→Prop}{MR PJ MJ:Nat→Prop}(rm:∀ {b o s o' s'},Rest b o s→Kp MR o s o' s'→Rest b o' s') (pm:∀ t,P t→¬ MR t∧t≠1) (mr:∀ t,MR t→t≠0∧¬ (5≤t∧t < 100))
  (pj:∀ t,P t→PJ t) (pj0:∀ t,PJ t→t≠0∧t≠1) (mj:∀ t,M t∨MR t→MJ t) (mjok:∀ t,MJ t→t≠0∧¬ (5≤t∧t < 100))
  {BJ:WJ→Own→Shared→Prop}(hB:∀ w o s,BJ w o s ↔ B (π w) o s∧Rest (ρ w) o s) :
  ItSpec G PJ MJ σ it0 V (fun w w' c=>Gw (π w) (π w') c∧ρ w'=ρ w) BJ (fun p w o s y obs=>I p (π w) o s y obs) where
 tau:=sp.tau
 p0:=pj0
 pσ:=pj _ sp.pσ
 mok:=mjok
 iter:=fun {A outer d u s o w Q E} c ok fo b post=>by
  obtain ⟨b1,b2⟩:=(hB _ _ _).mp b
  refine sp.iter c ok fo b1 fun s' o' w' y obs mv g b' i f=>?_
  refine post s' o' (mk w' (ρ w)) y obs (mv.up pj) ⟨by rw [hπ];exact g,hρ _ _⟩ ((hB _ _ _).mpr ⟨by rw [hπ];exact b',by rw [hρ];exact rm b2 (mv.kp fo pm mr)⟩) (by rw [hπ];exact i) f
 next:=fun {A outer d u s o w p y obs Q E} c ok fo b hi nobs item stop=>by
  obtain ⟨b1,b2⟩:=(hB _ _ _).mp b
  refine sp.next c ok fo b1 hi nobs (fun z s' o' w' hz mv g b' i=>?_) (fun hp e s' o' w' mv g b' st=>?_)
  ·exact item z s' o' (mk w' (ρ w)) hz (mv.up pj) ⟨by rw [hπ];exact g,hρ _ _⟩ ((hB _ _ _).mpr ⟨by rw [hπ];exact b',by rw [hρ];exact rm b2 (mv.kp fo pm mr)⟩) (by rw [hπ];exact i)
  ·exact stop hp e s' o' (mk w' (ρ w)) (mv.up pj) ⟨by rw [hπ];exact g,hρ _ _⟩ ((hB _ _ _).mpr ⟨by rw [hπ];exact b',by rw [hρ];exact rm b2 (mv.kp fo pm mr)⟩) st
 itag:=fun hi=>sp.itag hi
 iex:=fun hi=>sp.iex hi
 ikeep:=fun hi k=>sp.ikeep hi k
 igrow:=fun hi g=>sp.igrow hi g.1
 bmono:=fun b K=>by
  obtain ⟨b1,b2⟩:=(hB _ _ _).mp b
  exact (hB _ _ _).mpr ⟨sp.bmono b1 (K.up fun t h=>mj t (.inl h)),rm b2 (K.up fun t h=>mj t (.inr h))⟩
 gtrans:=fun g1 g2=>⟨sp.gtrans g1.1 g2.1,g2.2.trans g1.2⟩
 gsat:=fun h1 h2 g=>⟨sp.gsat h1 h2 g.1,g.2⟩
 gfull:=fun g h=>⟨sp.gfull g.1 h,rfl⟩
 gstay:=fun g1 g2=>⟨sp.gstay g1.1 g2.1,rfl⟩
structure Lw where
 va:Nat→Nat
 dv:Nat→Nat
 f:Nat→Nat
 mm:Nat→Nat
 q:Nat→Nat
 T:Nat→String
 WV:Nat→List Value
noncomputable abbrev WJ:=Option VS × Option VS
noncomputable def Seq3 (G:Gr) (P:Lw) (o:Own) (s:Shared):Prop:=∀ k,2≤k→k < 5→SeqB G o s (P.WV k) (P.va k) (P.dv k) (P.q k) (P.T k)
noncomputable def FacK (G:Gr) (P:Lw) (k:Nat) (w:Option VS) (o:Own) (s:Shared):Prop:=Fac G k o s (P.WV k) (P.va k) (P.dv k) (P.f k) (P.mm k) w
structure BJ (G:Gr) (P:Lw) (w:WJ) (o:Own) (s:Shared):Prop where
 f0:FacK G P 0 w.1 o s
 f1:FacK G P 1 w.2 o s
 sq:Seq3 G P o s
noncomputable def GJ (P:Lw) (k:Nat) (w w':WJ) (c:Nat):Prop:=if k=0 then GwF (P.WV 0).length w.1 w'.1 c∧w'.2=w.2 else if k=1 then GwF (P.WV 1).length w.2 w'.2 c∧w'.1=w.1 else w'=w
noncomputable def IJ (P:Lw) (k σ:Nat) (p:Nat) (w:WJ) (o:Own) (s:Shared) (y:Nat) (obs:List Nat):Prop:=if k=0 then IF σ p w.1 o s y obs else if k=1 then IF σ p w.2 o s y obs else IS σ (P.WV k).length (P.q k) (P.T k) p () o s y obs
noncomputable def PJ (σ t:Nat):Prop:=t=σ∨FM2 t
theorem fm2_ok:∀ t,FM2 t→t≠0∧¬ (5≤t∧t < 100):=fun t h=>h.elim (fm_ok (.inl rfl) t) (fm_ok (.inr rfl) t)
theorem fm0_iff {t:Nat}:FM 0 t ↔ t=2∨t=100∨150≤t∨t=103:=by
 show (t=2+0∨t=100+0∨(150≤t∨t=2)∨(0=0∧t=103)) ↔ _
 exact ⟨fun h=>h.elim Or.inl fun h=>h.elim (fun h=>Or.inr (Or.inl h)) fun h=>h.elim (fun h=>h.elim (fun h=>Or.inr (Or.inr (Or.inl h))) Or.inl) fun h=>Or.inr (Or.inr (Or.inr h.2)),Or.imp id (Or.imp id (Or.imp Or.inl fun h=>⟨rfl,h⟩))⟩
theorem fm1_iff {t:Nat}:FM 1 t ↔ t=3∨t=101∨t=102:=by
 show (t=2+1∨t=100+1∨(t=102)∨(1=0∧t=103)) ↔ _
 exact ⟨Or.imp id (Or.imp id fun h=>h.elim id fun h=>nomatch h.1),Or.imp id (Or.imp id Or.inl)⟩
theorem fm2_iff {t:Nat}:FM2 t ↔ t=2∨t=100∨150≤t∨t=103∨t=3∨t=101∨t=102:=by
 show FM 0 t∨FM 1 t ↔ _
 rw [fm0_iff,fm1_iff];exact zq322
theorem Seq3.mono {G:Gr}{P:Lw}{o o':Own}{s s':Shared}{M:Nat→Prop}(x:Seq3 G P o s) (K:Kp M o s o' s'):Seq3 G P o' s':=fun k h1 h2=>(x k h1 h2).mono fun b ob e t=>K.k b ob e (.inr t)
theorem BJ.mono {G:Gr}{P:Lw}{w:WJ}{o o':Own}{s s':Shared}(x:BJ G P w o s) (K:Kp FM2 o s o' s'):BJ G P w o' s' :=
 ⟨Fac.mono (.inl rfl) x.f0 (K.up fun _ h=>.inl h),Fac.mono (.inr rfl) x.f1 (K.up fun _ h=>.inr h),x.sq.mono K⟩
theorem jspec {G:Gr}{P:Lw}{σ:Nat}(hσ:5≤σ∧σ < 100) (hT:∀ k,2≤k→k < 5→SeqT (P.T k)) {k:Nat}(hk:k < 5):ItSpec G (PJ σ) FM2 σ (.ref (P.va k)) (P.WV k) (GJ P k) (BJ G P) (IJ P k σ):=by
 have pj0:∀ t,PJ σ t→t≠0∧t≠1:=fun t h=>by
  rcases h with h | h
  ·exact zq84 hσ h
  ·rw [fm2_iff] at h;exact ⟨tc (tb h) rfl,tc (tb h) rfl⟩
 obtain rfl | rfl | hk2:k=0∨k=1∨2≤k:=by exact zq86
 ·refine (facSpec (G:=G) (.inl rfl) (v:=P.va 0) (dv:=P.dv 0) (f:=P.f 0) (mm:=P.mm 0) (V:=P.WV 0) hσ).lift (WR:=Option VS) (WJ:=WJ) (fun w=>w.1) (fun w=>w.2) (fun a b=>(a,b)) (fun _ _=>rfl) (fun _ _=>rfl)
   (Rest:=fun w1 o s=>FacK G P 1 w1 o s∧Seq3 G P o s) (MR:=FM 1) (fun h K=>⟨Fac.mono (.inr rfl) h.1 K,h.2.mono K⟩) (fun t h=>?_) (fm_ok (.inr rfl)) (fun t h=>?_) pj0 (fun t h=>h) fm2_ok (fun w o s=>⟨fun h=>⟨h.f0,h.f1,h.sq⟩,fun h=>⟨h.1,h.2.1,h.2.2⟩⟩)
  ·rw [fm1_iff]
   rcases h with h | h
   ·exact zq324 hσ h
   ·rw [fm0_iff] at h;exact zq325 h
  ·exact h.imp_right .inl
 ·refine (facSpec (G:=G) (.inr rfl) (v:=P.va 1) (dv:=P.dv 1) (f:=P.f 1) (mm:=P.mm 1) (V:=P.WV 1) hσ).lift (WR:=Option VS) (WJ:=WJ) (fun w=>w.2) (fun w=>w.1) (fun a b=>(b,a)) (fun _ _=>rfl) (fun _ _=>rfl)
   (Rest:=fun w0 o s=>FacK G P 0 w0 o s∧Seq3 G P o s) (MR:=FM 0) (fun h K=>⟨Fac.mono (.inl rfl) h.1 K,h.2.mono K⟩) (fun t h=>?_) (fm_ok (.inl rfl)) (fun t h=>?_) pj0 (fun t h=>h.symm) fm2_ok (fun w o s=>⟨fun h=>⟨h.f1,h.f0,h.sq⟩,fun h=>⟨h.2.1,h.1,h.2.2⟩⟩)
  ·rw [fm0_iff]
   rcases h with h | h
   ·exact zq326 hσ h
   ·rw [fm1_iff] at h;exact zq327 h
  ·exact h.imp_right .inr
 ·have sp:=(seqSpec (G:=G) (v:=P.va k) (dv:=P.dv k) (q:=P.q k) (V:=P.WV k) hσ (hT k hk2 hk)).lift (WR:=WJ) (WJ:=WJ) (fun _=>()) (fun w=>w) (fun _ b=>b) (fun _ _=>rfl) (fun _ _=>rfl)
   (Rest:=fun w o s=>BJ G P w o s) (MR:=FM2) (PJ:=PJ σ) (MJ:=FM2) (fun h K=>h.mono K) (fun t h=>?_) fm2_ok (fun t h=>.inl h) pj0 (fun t h=>h.elim (fun z=>z.elim) id) fm2_ok (BJ:=BJ G P) (fun w o s=>⟨fun h=>⟨h.sq k hk2 hk,h⟩,fun h=>h.2⟩)
  ·have e1:GJ P k=fun w w' _=>True∧w'=w:=by
    funext w w' c
    simp only [GJ,if_neg (show ¬ k=0 by exact zq50 hk2),if_neg (show ¬ k=1 by exact zq51 hk2),true_and]
   have e2:IJ P k σ=fun p w o s y obs=>IS σ (P.WV k).length (P.q k) (P.T k) p () o s y obs:=by
    funext p w o s y obs
    simp only [IJ,if_neg (show ¬ k=0 by exact zq50 hk2),if_neg (show ¬ k=1 by exact zq51 hk2)]
   rw [e1,e2]
   exact sp
  ·rw [fm2_iff]
   have:t=σ:=h
   exact zq328 hσ h
noncomputable def It (n:Nat) (h:Heap) (v:Value) (d:Dat):Prop:=(∃ as,Reads h v (kqdP d) as)∧kqdOk n d=true
inductive Its (n:Nat) (h:Heap):List Value→List Dat→Prop
 | nil:Its n h [] []
 | cons {v d vs ds}:It n h v d→Its n h vs ds→Its n h (v :: vs) (d :: ds)
theorem Its.reads {n:Nat}{h:Heap}{vs:List Value}{ds:List Dat}(x:Its n h vs ds):(∃ as,ReadsAll h vs (kqdPs ds) as)∧∀ d∈ds,kqdOk n d=true:=by
 induction x with
 | nil=>exact ⟨⟨_,ReadsAll.nil⟩,fn0⟩
 | cons h1 _ ih =>
  obtain ⟨⟨as,r⟩,k⟩:=h1
  obtain ⟨⟨bs,q⟩,k'⟩:=ih
  exact ⟨⟨_,by rw [kqdPs];exact ReadsAll.cons r q⟩,fq k k'⟩
theorem Its.list {n:Nat}{h:Heap}{a:Nat}{vs:List Value}{ds:List Dat}{k:Nat}(x:Its n h vs ds) (e:h.get? a=some (W.listOf vs.toArray k)):It (n+1) h (.ref a) (.list ds):=by
 obtain ⟨⟨as,r⟩,q⟩:=x.reads
 refine ⟨⟨_,by rw [kqdP];exact reads_list_at e rfl rfl (by simpa [W.listOf] using r)⟩,by simpa [kqdOk] using q⟩
section
variable {prog:Program}{w:World}{A:Around}{E:Value→Shared→Prop}{s:Shared}{a b:Value}{d e:Dat}{n k:Nat}{Q:Value→Shared→Prop}
theorem it_shaped {h:Heap}{v:Value}(x:It n h v d) (hn:n≤60):SeqAt.shaped (kqdP d)=true:=by
 have la:=kqd_lay n d x.2
 unfold SeqAt.shaped;rw [la.1,Bool.true_and];exact decide_eq_true (Nat.le_trans la.2 (by exact za hn rfl))
open Classical in
theorem it_eqv {h:Heap}{v v':Value}(x:It n h v d) (y:It k h v' e):PyData.eqv (kqdP d) (kqdP e)=decide (d=e):=by
 have q:=kqd_eqv n d e k x.2 y.2
 by_cases hq:d=e
 ·rw [decide_eq_true hq];exact q.mpr hq
 ·rw [decide_eq_false hq];exact Bool.eq_false_iff.mpr fun x=>hq (q.mp x)
open Classical in
theorem it_ne (x:It n s.heap a d) (y:It k s.heap b e) (hn:n≤60) (hk:k≤60) (hu:A.units+64 < cLine) (h:Q (.bool (!decide (d=e))) s):wpAny (model prog w) A (compareOp .NotEq a b) Q E s:=by
 obtain ⟨⟨as,ra⟩,_⟩:=id x
 obtain ⟨⟨bs,rb⟩,_⟩:=id y
 exact ne_dataH ra rb (it_shaped x hn) (it_shaped y hk) hu (by rw [it_eqv x y];exact h)
open Classical in
theorem it_eq (x:It n s.heap a d) (y:It k s.heap b e) (hn:n≤60) (hk:k≤60) (hu:A.units+64 < cLine) (h:Q (.bool (decide (d=e))) s):wpAny (model prog w) A (compareOp .Eq a b) Q E s:=by
 obtain ⟨⟨as,ra⟩,_⟩:=id x
 obtain ⟨⟨bs,rb⟩,_⟩:=id y
 exact eq_dataH ra rb (it_shaped x hn) (it_shaped y hk) hu (by rw [it_eqv x y];exact h)
end
noncomputable def ItO (G:Gr) (o:Own) (h:Heap) (v:Value) (d:Dat):Prop:=(∃ k j:Nat,PairAt (fun b=>o.a b=1) h k j v∧d=.tuple [.int (k:Int),.int (j:Int)])∨∀ h',G.base.StaysIn h'→It 1 h' v d
theorem ItO.it {G:Gr}{o:Own}{h:Heap}{v:Value}{d:Dat}(x:ItO G o h v d) (st:G.base.StaysIn h):It 1 h v d:=by
 rcases x with ⟨k,j,⟨T,ta,tb,n,rfl,_,e⟩,rfl⟩ | x
 ·refine ⟨⟨_,by rw [kqdP];exact reads_tuple_at e rfl rfl (xs:=kqdPs [.int (k:Int),.int (j:Int)]) (by simp only [kqdPs,kqdP];exact ReadsAll.cons (Reads.int _ _) (ReadsAll.cons (Reads.int _ _) ReadsAll.nil))⟩,by simp [kqdOk]⟩
 ·exact x h st
theorem ItO.mono {G:Gr}{o o':Own}{h h':Heap}{v:Value}{d:Dat}(x:ItO G o h v d) (kk:∀ b ob,h.get? b=some ob→o.a b=1→h'.get? b=some ob∧o'.a b=o.a b):ItO G o' h' v d:=by
 rcases x with ⟨k,j,⟨T,ta,tb,n,e,q1,q2⟩,rfl⟩ | x
 ·obtain ⟨r1,r2⟩:=kk _ _ q2 q1
  exact .inl (wi2_2 k j ⟨T,ta,tb,n,e,r2.trans q1,r1⟩ rfl)
 ·exact .inr x
inductive ItOs (G:Gr) (o:Own) (h:Heap):List Value→List Dat→Prop
 | nil:ItOs G o h [] []
 | cons {v d vs ds}:ItO G o h v d→ItOs G o h vs ds→ItOs G o h (v :: vs) (d :: ds)
theorem ItOs.its {G:Gr}{o:Own}{h:Heap}{vs:List Value}{ds:List Dat}(x:ItOs G o h vs ds) (st:G.base.StaysIn h):Its 1 h vs ds:=by
 induction x with
 | nil=>exact .nil
 | cons h1 _ ih=>exact .cons (h1.it st) ih
theorem ItOs.mono {G:Gr}{o o':Own}{h h':Heap}{vs:List Value}{ds:List Dat}(x:ItOs G o h vs ds) (kk:∀ b ob,h.get? b=some ob→o.a b=1→h'.get? b=some ob∧o'.a b=o.a b):ItOs G o' h' vs ds:=by
 induction x with
 | nil=>exact .nil
 | cons h1 _ ih=>exact .cons (h1.mono kk) ih
theorem ItOs.app {G:Gr}{o:Own}{h:Heap}{vs vs':List Value}{ds ds':List Dat}(x:ItOs G o h vs ds) (y:ItOs G o h vs' ds'):ItOs G o h (vs++vs') (ds++ds'):=by
 induction x with
 | nil=>exact y
 | cons h1 _ ih=>exact .cons h1 ih
noncomputable def rowD (k i:Nat):Nat→List Dat
 | 0=>[]
 | n+1=>.tuple [.int (k:Int),.int (i:Int)] :: rowD k (i+1) n
theorem rowD_len (k n:Nat):∀ i,(rowD k i n).length=n:=by
 induction n with
 | zero=>exact fun _=>rfl
 | succ n ih=>exact fun i=>congrArg (·+1) (ih (i+1))
theorem pairs_its {G:Gr}{o:Own}{h:Heap}{k:Nat}{W:List Value}:∀ {i:Nat},(∀ (j:Nat) (v:Value),W[j]?=some v→PairAt (fun b=>o.a b=1) h k (i+j) v)→ItOs G o h W (rowD k i W.length):=by
 induction W with
 | nil=>exact fun _=>.nil
 | cons v W ih=>exact fun {i} x=>.cons (.inl (wi2_2 k i (x 0 v rfl) rfl)) (ih (i:=i+1) fun j v hj=>zq330 (a:=i)▸x (j+1) v hj)
theorem Pairs.its {G:Gr}{o:Own}{h:Heap}{k len:Nat}{W:List Value}(x:Pairs o h k len W):ItOs G o h W (rowD k 0 len):=by
 have:=pairs_its (G:=G) (i:=0) fun j v hj=>by rw [Nat.zero_add];exact x.2 j v hj
 rwa [x.1] at this
section
variable {prog:Program}{w:World}{A:Around}{E:Value→Shared→Prop}{h:Heap}{g:Array GenState}{d:Drawn}{t:Nat}{os:OsState}
theorem sub_ae:isSubtype (.type "AttributeError") (.type "AttributeError")=pure true:=by rw [isSubtype_type];kernel_rfl
theorem attr_raise {α:Type}{v:Value}{name msg:Str}{Q:α→Shared→Prop}(hm:msg.length≤sizeLine) (hh:A.handled=none)
  (hq:∀ h' e tk',(∀ b ob,h.get? b=some ob→h'.get? b=some ob)→h.get? e=none→(∃ oe,h'.get? e=some oe∧oe.cls=.type "AttributeError")→E (.ref e) ⟨h',g,d,tk',os⟩) :
  wpAny (model prog w) A (raiseAttrError v name msg:Sem α) Q E ⟨h,g,d,t,os⟩:=by
 have f1:=sub_ae
 unfold raiseAttrError
 refine wpAny_bind (wpAny_mkStr (hx:=hm) ?_)
 unfold newExc newTuple
 refine wpAny_bind (wpAny_bind (wpAny_newObj_type ?_ (by size_fits)))
 refine wpAny_bind (m:=firstArgMember _ _) (wpAny_of_eq (a:=Value.none) (by simp only [firstArgMember];kernel_rfl) ?_)
 refine wpAny_newObj_type ?_ (by size_fits)
 dsimp only
 generalize hh1:(h.push _)=h1
 have k1:∀ b ob,h.get? b=some ob→h1.get? b=some ob:=fun b ob e=>by rw [← hh1];exact Heap.get?_push_of_some _ e
 have s1:h1.objs.size=h.objs.size+1:=by rw [← hh1];exact Heap.size_push ..
 rw [show ownMembersOf (.type "AttributeError") _=#[unsetMember,unsetMember] from rfl]
 generalize hoe:({ cls:=Value.type "AttributeError",data:=Data.fields (#[Value.ref h.objs.size,Value.none,Value.none,Value.none,Value.bool false,Value.none]++#[unsetMember,unsetMember]) }:Obj)=oe
 have he:(h1.push oe).get? h1.objs.size=some oe:=Heap.get?_push_size _ (by rw [← hoe];rfl)
 have hd:oe.data=.fields #[.ref h.objs.size,.none,.none,.none,.bool false,.none,unsetMember,unsetMember]:=by rw [← hoe];rfl
 have hT:(⟨h1.push oe,g,d,t+1+1,os⟩:Shared).TypeIs (.ref h1.objs.size) "AttributeError":=⟨_,he,by rw [← hoe]⟩
 refine wpAny_bind (wpAny_mkText ?_)
 refine wpAny_bind ?_
 unfold noteAttr lacksNameAndObj
 dsimp only
 refine wpAny_bind (wpAny_bind (wpAny_isInstance (T:="AttributeError") (b:=true) hT f1 ?_))
 rw [if_neg (by decide)]
 refine wpAny_bind (wpAny_load he ?_)
 rw [hd]
 dsimp only
 refine wpAny_pure ?_
 rw [if_pos (by decide)]
 refine wpAny_bind (wpAny_rule ?_)
 refine wpAny_bind (wpAny_typeOf hT ?_)
 dsimp only
 refine wpAny_layMembers he hd ?_
 refine wpAny_raiseNew_none hh (hq _ _ _ (fun b ob e=>?_) (Heap.get?_none_of_le (by exact Nat.le.intro (id (Eq.symm s1)))) (wi1_2 _ (Heap.get?_update_self _ he (Obj.isFreed_of_fields (Obj.data_mapFields hd _))) ((Obj.cls_mapFields ..).trans (by rw [← hoe]))))
 exact (Heap.get?_update_other _ _ (fun q=>absurd (Heap.lt_size e) (by rw [← q,s1];exact Nat.not_lt.mpr (Nat.le_succ _)))).trans (Heap.get?_push_of_some _ (k1 b ob e))
end
namespace N_enum
theorem slot_ga:Slot "enumerate" "__getattribute__" "enumerate.__getattribute__":=F.slot_enumerate_getattribute
theorem entry_ga:entryFor table "enumerate.__getattribute__"=some Builtin.«object.__getattribute__» :=
 entryFor_alias (id':="object.__getattribute__") (by kernel_rfl) (by first | rfl | decide +kernel) (by decide +kernel) (by kernel_rfl)
theorem lk_keys:typeLookup (.type "enumerate") "keys"=pure none:=by rw [typeLookup_type,builtinLookup_eq_fast];kernel_rfl
theorem lk_hook:typeLookup (.type "enumerate") "__getattr__"=pure none:=by rw [typeLookup_type,builtinLookup_eq_fast];kernel_rfl
section
variable {prog:Program}{w:World}{A:Around}{E:Value→Shared→Prop}{h:Heap}{g:Array GenState}{d:Drawn}{t:Nat}{os:OsState}{a:Addr}{o:Obj}
theorem keys_entry {tk:Tok}{Q:Fin→Shared→Prop}{fs:Array Value}(hx:h.get? a=some { cls:=.type "enumerate",dict:=none,data:=.fields fs,slots:=#[] }) (hh:A.handled=none)
  (hq:∀ h' e tk',(∀ b ob,h.get? b=some ob→h'.get? b=some ob)→h.get? e=none→(∃ oe,h'.get? e=some oe∧oe.cls=.type "AttributeError")→E (.ref e) ⟨h',g,d,tk',os⟩) :
  wpAny (model prog w) A (Builtin.«object.__getattribute__» ⟨[.ref a,.str "keys" tk],[]⟩) Q E ⟨h,g,d,t,os⟩:=by
 have hT:(⟨h,g,d,t,os⟩:Shared).TypeIs (.ref a) "enumerate":=⟨_,hx,rfl⟩
 have f4:=lk_keys
 repeat (any_goals (first | assumption | wp_step))
 exact attr_raise (by decide) hh hq
theorem keys_call {tk:Tok}{R:Result→Shared→Prop}{fs:Array Value}(hx:h.get? a=some { cls:=.type "enumerate",dict:=none,data:=.fields fs,slots:=#[] }) (hh:A.handled=none)
  (hq:∀ h' e tk',(∀ b ob,h.get? b=some ob→h'.get? b=some ob)→h.get? e=none→(∃ oe,h'.get? e=some oe∧oe.cls=.type "AttributeError")→R (.error (.ref e)) ⟨h',g,d,tk',os⟩) :
  codeAny (model prog w) A (.call (.builtin "enumerate.__getattribute__") ⟨[.ref a,.str "keys" tk],[]⟩) R ⟨h,g,d,t,os⟩ :=
 codeAny_call_builtin slot_ga.plain entry_ga (slot_ga.check _ _ _ _ _ _ _ _ (show (⟨h,g,d,t,os⟩:Shared).TypeIs (.ref a) "enumerate" from ⟨_,hx,rfl⟩) (F.args_enumerate_getattribute_2 _ _) (keys_entry hx hh hq))
theorem keys_by {tk:Tok}{Q:Value→Shared→Prop}{fs:Array Value}(hx:h.get? a=some { cls:=.type "enumerate",dict:=none,data:=.fields fs,slots:=#[] }) (hh:A.handled=none)
  (hq:∀ h' e tk',(∀ b ob,h.get? b=some ob→h'.get? b=some ob)→h.get? e=none→(∃ oe,h'.get? e=some oe∧oe.cls=.type "AttributeError")→E (.ref e) ⟨h',g,d,tk',os⟩):wpAny (model prog w) A (getAttrBy (.ref a) (.str "keys" tk) false) Q E ⟨h,g,d,t,os⟩:=by
 have hT:(⟨h,g,d,t,os⟩:Shared).TypeIs (.ref a) "enumerate":=⟨_,hx,rfl⟩
 have f1:=sub_ae
 have f2:=slot_ga.lookup
 have f3:=slot_ga.bind (.ref a)
 have f4:=lk_hook
 repeat (any_goals (first | assumption | wp_step))
 refine keys_call hx hh fun h' e tk' q1 q2 q3=>?_
 refine xe1_2 (id q3) fun oe e1 e2=>?_
 have hT2:(⟨h',g,d,tk',os⟩:Shared).TypeIs (.ref e) "AttributeError":=⟨oe,e1,e2⟩
 repeat (any_goals (first | assumption | wp_step))
 exact hq h' e tk' q1 q2 q3
theorem keys_attr {Q:Option Value→Shared→Prop}{fs:Array Value}(hx:h.get? a=some { cls:=.type "enumerate",dict:=none,data:=.fields fs,slots:=#[] }) (hh:A.handled=none)
  (hq:∀ h' tk',(∀ b ob,h.get? b=some ob→h'.get? b=some ob)→Q none ⟨h',g,d,tk',os⟩):wpAny (model prog w) A (getAttr? (.ref a) "keys") Q E ⟨h,g,d,t,os⟩:=by
 have f1:=sub_ae
 unfold getAttr? getAttrBy?
 refine wpAny_bind (wpAny_mkText (wpAny_bind (wpAny_attempt (keys_by hx hh fun h' e tk' q1 q2 q3=>?_))))
 refine xe1_2 (id q3) fun oe e1 e2=>?_
 exact wpAny_bind (wpAny_isInstance (T:="AttributeError") (b:=true) ⟨oe,e1,e2⟩ f1 (wpAny_pure (hq h' tk' q1)))
end
end N_enum
noncomputable abbrev enObj (f0:Value) (f1:Bool) (it i:Nat) (old:Value):Obj:={ cls:=.type "enumerate",dict:=none,data:=.fields #[f0,.bool f1,.ref it,rawInt (i:Int),.none,old],slots:=#[] }
section
variable {prog:Program}{w:World}{A:Around}{E:Value→Shared→Prop}{s:Shared}
structure ESt (s:Shared) (e it l i:Nat) (xs:List Value):Prop where
 ep:∃ f0 f1 old,s.heap.get? e=some (enObj f0 f1 it i old)∧(f0=.none∨∃ T oT,f0=rawInt ((T:Nat):Int)∧s.heap.get? T=some oT)
 il:s.heap.get? it=some (itObj "list_iterator" (.ref l) i)
 ol:∃ k,s.heap.get? l=some (W.listOf xs.toArray k)
theorem ESt.nes {e it l i:Nat}{xs:List Value}(h:ESt s e it l i xs):@Ne Nat it e∧@Ne Nat l e∧@Ne Nat l it:=by
 apply hide;intro _ kι;obtain ⟨⟨f0,f1,old,he,_⟩,il,k,ol⟩:=h;apply kι
 exact (yi3 (ne_cls il he (by simp)) (ne_cls ol he (by simp)) (ne_cls ol il (by simp)))
noncomputable def EKeep (s s':Shared) (e it:Nat):Prop:=(∀ c o,c≠e→c≠it→s.heap.get? c=some o→s'.heap.get? c=some o)∧(∀ c o,s.heap.get? c=some o→∃ o',s'.heap.get? c=some o')∧s'.gens=s.gens∧s'.drawn=s.drawn∧s'.os=s.os
theorem enum_free {e it i:Nat}{f0 old:Value}{f1:Bool}{Q:Bool→Shared→Prop}(he:s.heap.get? e=some (enObj f0 f1 it i old)) (hf:f0=.none∨∃ T oT,f0=rawInt ((T:Nat):Int)∧s.heap.get? T=some oT)
  (hQ:∀ b h' f1',h'.get? e=some (enObj f0 f1' it i old)→Heap.SameBut e s.heap h'→Q b { s with heap:=h' }):wpAny (model prog w) A (Builtin.SmallTypes.ownedTupleIsFree (.ref e)) Q E s:=by
 unfold Builtin.SmallTypes.ownedTupleIsFree
 rcases hf with rfl | ⟨T,oT,rfl,hT⟩
 ·exact wpAny_bind (wpAny_field he rfl (x:=.none) rfl (wpAny_pure (hQ true _ f1 he (Heap.SameBut.refl ..))))
 ·refine wpAny_bind (wpAny_field he rfl (x:=rawInt (T:Nat)) rfl ?_)
  show wpAny _ _ (loadIfAlive ((T:Nat):Int).toNat >>= _) _ _ _
  rw [Int.toNat_natCast]
  refine wpAny_bind (wpAny_loadIfAlive hT ?_)
  rw [if_neg (by simp)]
  refine wpAny_bind (wpAny_field he rfl (x:=.bool f1) rfl ?_)
  cases f1 with
  | false =>
   rw [if_pos (by decide)]
   exact wpAny_bind (wpAny_setField_rec he (by simp) fun h₁ he₁ hs₁=>wpAny_pure (hQ false h₁ true he₁ hs₁))
  | true =>
   rw [if_neg (by decide)]
   exact wpAny_pure (hQ false _ true he (Heap.SameBut.refl ..))
theorem enum_item {e it l i:Nat}{xs:List Value}{x:Value}{Q:Value→Shared→Prop}(D:ESt s e it l i xs) (hx:xs[i]?=some x)
  (hQ:∀ s' T t,EKeep s s' e it→ESt s' e it l (i+1) xs→s.heap.get? T=none→s'.heap.get? T=some (prObj (.int (i:Int) t) x)→Q (.ref T) s'):NextIs prog w A (.ref e) Q E s:=by
 refine xe0_3 D.nes fun nie nle nli=>?_
 apply hide;intro _ kι;obtain ⟨⟨f0,f1,old,he,hf⟩,il,kl,ol⟩:=D;apply kι
 have te:s.TypeIs (.ref e) "enumerate":=⟨_,he,rfl⟩
 refine wpAny_callSpecial?_slot (name:=Str.ofString "__next__") te F.slot_enumerate_next (wpAny_call_entry F.slot_enumerate_next te F.entry_enumerate_next ?_ (F.args_enumerate_next_1 _))
 show wpAny _ _ (field (.ref e) 2 >>= _) _ _ _
 refine wpAny_bind (wpAny_field he rfl (x:=.ref it) rfl ?_)
 refine wpAny_bind (nextOf_of (next_item (.inl rfl) il ol rfl (x:=x) (by simpa using hx) fun h₁ q₁ hs₁=>?_))
 replace hs₁:Heap.SameBut it s.heap h₁:=hs₁
 have he₁:h₁.get? e=some (enObj f0 f1 it i old):=(hs₁.2 e nie.symm).trans he
 show wpAny _ _ (field (.ref e) 3 >>= _) _ _ _
 refine wpAny_bind (wpAny_field he₁ rfl (x:=rawInt i) rfl ?_)
 show wpAny _ _ (field (.ref e) 4 >>= _) _ _ _
 refine wpAny_bind (wpAny_field he₁ rfl (x:=.none) rfl ?_)
 show wpAny _ _ (mkInt i >>= _) _ _ _
 refine wpAny_bind (wpAny_mkInt ?_)
 show wpAny _ _ (setField (.ref e) 3 (rawInt ((i:Int)+1)) >>= _) _ _ _
 refine wpAny_bind (wpAny_setField_rec he₁ (by simp) fun h₂ he₂ hs₂=>?_)
 replace hs₂:Heap.SameBut e h₁ h₂:=hs₂
 replace he₂:h₂.get? e=some (enObj f0 f1 it (i+1) old):=by rw [he₂];simp [rawInt]
 show wpAny _ _ (setField (.ref e) 4 .none >>= _) _ _ _
 refine wpAny_bind (wpAny_setField_rec he₂ (by simp) fun h₃ he₃ hs₃=>?_)
 replace hs₃:Heap.SameBut e h₂ h₃:=hs₃
 replace he₃:h₃.get? e=some (enObj f0 f1 it (i+1) old):=he₃
 show wpAny _ _ (newTuple [.int i s.toks,x] >>= _) _ _ _
 refine wpAny_bind (wpAny_newTuple ?_)
 have hsz:h₃.objs.size=s.heap.objs.size:=by rw [hs₃.1,hs₂.1,hs₁.1]
 have k₃:∀ c o,c≠e→c≠it→s.heap.get? c=some o→h₃.get? c=some o:=fun c o c1 c2 q=>(hs₃.2 c c1).trans ((hs₂.2 c c1).trans ((hs₁.2 c c2).trans q))
 have il₃:h₃.get? it=some (itObj "list_iterator" (.ref l) (i+1)):=(hs₃.2 _ nie).trans ((hs₂.2 _ nie).trans q₁)
 have th₃:∀ c o,s.heap.get? c=some o→∃ o',h₃.get? c=some o':=fun c o q=>by
  by_cases c1:c=e
  ·exact ⟨_,c1▸he₃⟩
  ·by_cases c2:c=it
   ·exact ⟨_,c2▸il₃⟩
   ·exact ⟨_,k₃ c o c1 c2 q⟩
 have fT:s.heap.get? h₃.objs.size=none:=by rw [hsz];exact Heap.get?_none_of_le (Nat.le_refl _)
 dsimp only
 generalize hh4:(h₃.push _)=h₄
 have k34:∀ c o,h₃.get? c=some o→h₄.get? c=some o:=fun c o q=>by rw [← hh4];exact Heap.get?_push_of_some _ q
 have hT₄:h₄.get? h₃.objs.size=some (prObj (.int (i:Int) s.toks) x):=by rw [← hh4];exact Heap.get?_push_size _ rfl
 have nTe:h₃.objs.size≠e:=fun q=>by rw [q] at fT;rw [fT] at he;exact nsf he
 have nTi:h₃.objs.size≠it:=fun q=>by rw [q] at fT;rw [fT] at il;exact nsf il
 refine wpAny_bind (enum_free (f1:=f1) (k34 _ _ he₃) ?hf ?kk)
 case hf=>exact hf.imp id fun ⟨T,oT,q1,q2⟩=>let ⟨oT',q3⟩:=th₃ T oT q2;⟨T,oT',q1,k34 _ _ q3⟩
 intro b h₅ f1' he₅ hs₅
 replace hs₅:Heap.SameBut e h₄ h₅:=hs₅
 have fin:∀ h' f0' f1'' old',h'.get? e=some (enObj f0' f1'' it (i+1) old')→Heap.SameBut e h₅ h'→(f0'=.none∨∃ T oT,f0'=rawInt ((T:Nat):Int)∧h'.get? T=some oT)→∀ tk,Q (.ref h₃.objs.size) { s with heap:=h',toks:=tk }:=fun h' f0' f1'' old' q1 q2 q3 tk=>by
  have up:∀ c o,c≠e→h₄.get? c=some o→h'.get? c=some o:=fun c o c1 q=>(q2.2 c c1).trans ((hs₅.2 c c1).trans q)
  refine hQ _ _ s.toks ⟨fun c o c1 c2 q=>up c o c1 (k34 _ _ (k₃ c o c1 c2 q)),fun c o q=>?_,rfl,rfl,rfl⟩ ⟨(wi3_2 f0' f1'' old' q1 q3),up _ _ nie (k34 _ _ il₃),kl,up _ _ nle (k34 _ _ (k₃ _ _ nle nli ol))⟩ fT (up _ _ nTe hT₄)
  by_cases c1:c=e
  ·exact ⟨_,c1▸q1⟩
  ·obtain ⟨o',q'⟩:=th₃ c o q
   exact ⟨o',up c o' c1 (k34 _ _ q')⟩
 cases b with
 | true =>
  rw [if_pos rfl]
  refine wpAny_bind (wpAny_rule ?_)
  refine wpAny_bind (wpAny_field he₅ rfl (x:=old) rfl ?_)
  refine wpAny_bind (wpAny_setField_rec he₅ (by simp) fun h₆ he₆ hs₆=>?_)
  replace hs₆:Heap.SameBut e h₅ h₆:=hs₆
  replace he₆:h₆.get? e=some (enObj f0 f1' it (i+1) x):=he₆
  show wpAny _ _ (Builtin.SmallTypes.ownedTupleHandOut (.ref e) (.ref h₃.objs.size) >>= _) _ _ _
  refine wpAny_bind ?_
  unfold Builtin.SmallTypes.ownedTupleHandOut
  refine wpAny_bind (wpAny_setField_rec he₆ (by simp) fun h₇ he₇ hs₇=>?_)
  replace hs₇:Heap.SameBut e h₆ h₇:=hs₇
  replace he₇:h₇.get? e=some (enObj (rawInt h₃.objs.size) f1' it (i+1) x):=he₇
  refine wpAny_setField_rec he₇ (by simp) fun h₈ he₈ hs₈=>?_
  replace hs₈:Heap.SameBut e h₇ h₈:=hs₈
  replace he₈:h₈.get? e=some (enObj (rawInt h₃.objs.size) false it (i+1) x):=he₈
  refine wpAny_bind (wpAny_letGo (wpAny_pure (wi1_2 _ rfl ?_)))
  have hT₈:h₈.get? h₃.objs.size=some _:=(hs₈.2 _ nTe).trans ((hs₇.2 _ nTe).trans ((hs₆.2 _ nTe).trans ((hs₅.2 _ nTe).trans hT₄)))
  exact (wi1_2 _ rfl (fin h₈ _ false x he₈ ((hs₆.trans hs₇).trans hs₈) (.inr (wi2_2 _ _ rfl hT₈)) _))
 | false =>
  rw [if_neg (by decide)]
  refine wpAny_pure (wi1_2 _ rfl ⟨_,rfl,fin h₅ _ f1' old he₅ (Heap.SameBut.refl ..) ?_ _⟩)
  rcases hf with rfl | ⟨T,oT,q1,q2⟩
  ·exact .inl rfl
  ·obtain ⟨oT',q3⟩:=th₃ T oT q2
   by_cases c1:T=e
   ·exact .inr (wi2_2 T _ q1 (c1▸he₅))
   ·exact .inr (wi2_2 T oT' q1 ((hs₅.2 T c1).trans (k34 _ _ q3)))
theorem enum_end {e it l i:Nat}{xs:List Value}{Q:Value→Shared→Prop}(hh:A.handled=none) (D:ESt s e it l i xs) (hx:xs[i]?=none)
  (hE:∀ s' ex,EKeep s s' e it→Stops (.ref ex) s'→E (.ref ex) s'):NextIs prog w A (.ref e) Q E s:=by
 refine xe0_3 D.nes fun nie nle nli=>?_
 apply hide;intro _ kι;obtain ⟨⟨f0,f1,old,he,hf⟩,il,kl,ol⟩:=D;apply kι
 have te:s.TypeIs (.ref e) "enumerate":=⟨_,he,rfl⟩
 refine wpAny_callSpecial?_slot (name:=Str.ofString "__next__") te F.slot_enumerate_next (wpAny_call_entry F.slot_enumerate_next te F.entry_enumerate_next ?_ (F.args_enumerate_next_1 _))
 show wpAny _ _ (field (.ref e) 2 >>= _) _ _ _
 refine wpAny_bind (wpAny_field he rfl (x:=.ref it) rfl ?_)
 refine wpAny_bind (nextOf_of (next_end (A:=A.in1) (.inl rfl) hh il ol rfl (by simpa using hx) fun h₂ h₃ ex q1 q2 nx hz3=>?_))
 refine hE _ ex ⟨fun c o c1 c2 q=>nx.keeps _ _ ((q2.2 c c2).trans q),fun c o q=>?_,rfl,rfl,rfl⟩ (raw_stops (s:={ s with heap:=h₃ }) (raw_of nx))
 by_cases c2:c=it
 ·exact ⟨_,c2▸nx.keeps _ _ q1⟩
 ·exact ⟨_,nx.keeps _ _ ((q2.2 c c2).trans q)⟩
end
noncomputable def enK:Nat→List Value→List (Int × Value)
 | _,[]=>[]
 | i,x :: r=>((i:Int),x) :: enK (i+1) r
theorem enK_snoc (xs:List Value):∀ (i:Nat) (x:Value),enK i (xs++[x])=enK i xs++[(((i+xs.length:Nat):Int),x)]:=by
 induction xs with
 | nil=>exact fun i x=>rfl
 | cons y r ih =>
  intro i x
  exact congrArg _ ((ih (i+1) x).trans (by rw [show i+1+r.length=i+(y :: r).length from (Nat.succ_add_eq_add_succ _ _)];rfl))
theorem enK_at (xs:List Value):∀ (i:Nat) (k:Int),valueAt (enK i xs) k=if (i:Int)≤k then xs[(k - i).toNat]? else none:=by
 induction xs with
 | nil=>exact fun i k=>(ite_self _).symm
 | cons y r ih =>
  intro i k
  by_cases h:(i:Int)=k
  ·subst h
   rw [if_pos (Int.le_refl _),Int.sub_self]
   exact congrArg (Option.map _) (List.find?_cons_of_pos (by exact decide_eq_true rfl))
  ·refine (congrArg (Option.map _) (List.find?_cons_of_neg (by exact fun z=>h (of_decide_eq_true z)))).trans ((ih (i+1) k).trans ?_)
   by_cases h2:(i:Int)≤k
   ·rw [if_pos h2,if_pos (zq192 h h2),zq193 h h2,List.getElem?_cons_succ]
   ·rw [if_neg h2,if_neg ((fun h=>h2 (Int.le_trans (Int.ofNat_le.2 (Nat.le_succ _)) h)))]
theorem plain_upd_loop:plainId "dict.update.loop"=true:=by decide +kernel
theorem entry_upd_loop:entryFor table "dict.update.loop"=some Builtin.«dict.update.loop»:=entryFor_of_tree (by kernel_rfl)
section
variable {prog:Program}{w:World}{A:Around}{E:Value→Shared→Prop}{s:Shared}
noncomputable def DKeep (s s':Shared) (e it d:Nat):Prop:=(∀ c o,c≠e→c≠it→c≠d→s.heap.get? c=some o→s'.heap.get? c=some o)∧(∀ c o,s.heap.get? c=some o→∃ o',s'.heap.get? c=some o')∧s'.gens=s.gens∧s'.drawn=s.drawn∧s'.os=s.os
theorem DKeep.trans {s s' s'':Shared}{e it d:Nat}(x:DKeep s s' e it d) (y:DKeep s' s'' e it d):DKeep s s'' e it d :=
 ⟨fun c o c1 c2 c3 q=>y.1 c o c1 c2 c3 (x.1 c o c1 c2 c3 q),fun c o q=>let ⟨o',q'⟩:=x.2.1 c o q;y.2.1 c o' q',y.2.2.1.trans x.2.2.1,y.2.2.2.1.trans x.2.2.2.1,y.2.2.2.2.trans x.2.2.2.2⟩
theorem EKeep.d {s s':Shared}{e it:Nat}(x:EKeep s s' e it) (d:Nat):DKeep s s' e it d:=⟨fun c o c1 c2 _ q=>x.1 c o c1 c2 q,x.2⟩
theorem ESt.same {s:Shared}{e it l i d tk:Nat}{xs:List Value}{h':Heap}(D:ESt s e it l i xs) (hs:Heap.SameBut d s.heap h') (hd:∃ o,h'.get? d=some o) (n1:d≠e) (n2:d≠it) (n3:d≠l):ESt { s with heap:=h',toks:=tk } e it l i xs:=by
 apply hide;intro _ kι;obtain ⟨⟨f0,f1,old,he,hf⟩,il,kl,ol⟩:=D;apply kι
 refine ⟨⟨f0,f1,old,(hs.2 _ n1.symm).trans he,hf.imp id fun ⟨T,oT,q1,q2⟩=>?_⟩,(hs.2 _ n2.symm).trans il,kl,(hs.2 _ n3.symm).trans ol⟩
 obtain ⟨oT',q3⟩:=Ext.sameThere hs hd T oT q2
 exact (wi2_2 T oT' q1 q3)
theorem upd_loop {e it l d:Nat}{xs:List Value}(hh:A.handled=none) (n1:d≠e) (n2:d≠it) (n3:d≠l) (hn:xs.length≤1000) {R:Result→Shared→Prop} :
  ∀ (k:Nat) (s:Shared) (i:Nat),xs.length - i=k→i≤xs.length→ESt s e it l i xs→s.heap.DictOf (intKind prog w) d (enK 0 (xs.take i)) →
  (∀ s',DKeep s s' e it d→s'.heap.DictOf (intKind prog w) d (enK 0 xs)→R (.ok (.ret .none)) s')→codeAny (model prog w) A (.builtin "dict.update.loop" ⟨[.ref d,.ref e,rawInt (i:Int),.none],[]⟩) R s:=by
 intro k
 induction k with
 | zero =>
  intro s i hk hi D hd hR
  have hx:xs[i]?=none:=List.getElem?_eq_none (by exact zq94 hk)
  refine codeAny_builtin entry_upd_loop ?_
  rw [Around.under_plainId plain_upd_loop _]
  show wpAny _ A.in1 (pyNext (.ref e) >>= _) _ _ s
  refine wpAny_bind (pyNext_of (enum_end hh D hx fun s' ex K st=>⟨st,?_⟩))
  show wpAny _ _ (Builtin.Dict.addKeywords d [] >>= _) _ _ _
  refine wpAny_bind (wpAny_pure (wpAny_pure (hR s' (K.d d) ?_)))
  rw [List.take_of_length_le (by exact zq94 hk)] at hd
  refine xe3_2 (id hd) fun o es ep ho _=>?_
  exact hd.at fun o q=>K.1 d o n1 n2 q
 | succ k ih =>
  intro s i hk hi D hd hR
  have hlt:i < xs.length:=by exact zq95 hk
  refine codeAny_builtin entry_upd_loop ?_
  rw [Around.under_plainId plain_upd_loop _]
  show wpAny _ A.in1 (pyNext (.ref e) >>= _) _ _ s
  refine wpAny_bind (pyNext_of (enum_item D (List.getElem?_eq_getElem hlt) fun s' T t K D' fT hT=>?_))
  have nTd:T≠d:=fun q=>by refine xe3_2 (id hd) fun o es ep ho _=>?_;rw [q] at fT;rw [fT] at ho;exact nsf ho
  have hd':s'.heap.DictOf (intKind prog w) d (enK 0 (xs.take i)):=hd.at fun o q=>K.1 d o n1 n2 q
  dsimp only
  refine wpAny_bind (wpAny_holding ?_)
  refine wpAny_bind (wpAny_tryCatch ?_)
  have hTT:s'.TypeIs (.ref T) "tuple":=⟨_,hT,rfl⟩
  unfold Builtin.Dict.pairItems
  refine wpAny_bind (wpAny_typeOf hTT ?_)
  rw [if_pos (by decide)]
  refine wpAny_bind (wpAny_seqItems hT rfl (wpAny_pure ?_))
  simp only [Option.getD_some]
  show wpAny _ _ (holding [.int (i:Int) t,xs[i]] (dictSet d (.int (i:Int) t) xs[i])) _ _ _
  refine wpAny_holding ?_
  refine wpAny_dictSet_pairs (knd:=intKind prog w) (k:=(i:Int)) (by simp [intKind,Value.isInt]) hd' (fun h' hd2 hs=>?_) ?_
  ·have lenk:∀ (ys:List Value) (j:Nat),(enK j ys).length=ys.length:=fun ys=>by
    induction ys with
    | nil=>intro j;rfl
    | cons y r ih=>intro j;simp [enK,ih]
   have e1:stored (enK 0 (xs.take i)) (i:Int) xs[i]=enK 0 (xs.take (i+1)):=by
    rw [stored_absent,List.take_add_one,List.getElem?_eq_getElem hlt]
    ·simp only [Option.toList_some]
     rw [enK_snoc,List.length_take,Nat.min_eq_left hi,Nat.zero_add]
    ·rw [enK_at,if_pos (by omega)]
     refine List.getElem?_eq_none ?_
     rw [List.length_take];omega
   rw [e1] at hd2
   refine xe3_2 (id hd2) fun o es ep ho _=>?_
   have K2:DKeep s' { s' with heap:=h',toks:=s'.toks+1 } e it d:=⟨fun c o _ _ c3 q=>(hs.2 c c3).trans q,fun c o q=>Ext.sameThere hs ⟨_,ho⟩ c o q,rfl,rfl,rfl⟩
   refine wpAny_pure ⟨plainId_quiet plain_upd_loop _,?_⟩
   have e2:rawInt ((i:Int)+1)=rawInt ((i+1:Nat):Int):=by simp
   show codeAny _ _ (.builtin "dict.update.loop" ⟨[.ref d,.ref e,rawInt ((i:Int)+1),.none],[]⟩) _ _
   rw [e2]
   exact ih _ (i+1) (by exact zq96 hk) (by exact zq24 hlt) (D'.same hs ⟨_,ho⟩ n1 n2 n3) hd2 fun s'' K3 hd3=>hR s'' (((K.d d).trans K2).trans K3) hd3
  ·have lenk:∀ (ys:List Value) (j:Nat),(enK j ys).length=ys.length:=fun ys=>by
    induction ys with
    | nil=>intro j;rfl
    | cons y r ih=>intro j;simp [enK,ih]
   rw [lenk,List.length_take];simp only [sizeLine];exact za (Nat.le_trans (Nat.min_le_right _ _) hn) rfl
theorem dict_enum {e it l:Nat}{xs:List Value}{Q:Value→Shared→Prop}(hh:A.handled=none) (D:ESt s e it l 0 xs) (hn:xs.length≤1000)
  (hQ:∀ s',DKeep s s' e it s.heap.objs.size→s'.heap.DictOf (intKind prog w) s.heap.objs.size (enK 0 xs)→Q (.ref s.heap.objs.size) s') :
  wpAny (model prog w) A (call (.type "dict") [.ref e]) Q E s:=by
 refine callType_codes (Q₁:=fun obj s₁=>obj=.ref s.heap.objs.size∧s₁={ s with heap:=s.heap.push { cls:=.type "dict",data:=.dict #[] } }) F.kt_called_dict (F.kt_typeCall_dict_1 _) F.entry_dict_init (kt_code_dict_new _ ⟨rfl,rfl⟩) ?_
 rintro obj s₁ ⟨rfl,rfl⟩
 have hnew:(s.heap.push { cls:=.type "dict",data:=.dict #[] }).DictOf (intKind prog w) s.heap.objs.size []:=Heap.DictOf.new s.heap
 refine (yi3 hnew.typeIs (F.args_dict_init_2 _ _) ?_)
 unfold Builtin.«dict.__init__»
 refine wpAny_bind ?_
 unfold Builtin.Dict.selfAndRest
 refine wpAny_bind (wpAny_notOrdered_dict hnew.typeIs ?_)
 show wpAny _ _ (pure (s.heap.objs.size,[Value.ref e])) _ _ _
 refine wpAny_pure ?_
 show wpAny _ _ (Builtin.Dict.updateFrom "dict.__init__" s.heap.objs.size (.ref e) [] .none) _ _ _
 apply hide;intro _ kι;obtain ⟨⟨f0,f1,old,he,hf⟩,il,kl,ol⟩:=id D;apply kι
 have up:∀ c o,s.heap.get? c=some o→(s.heap.push { cls:=.type "dict",data:=.dict #[] }).get? c=some o:=fun c o q=>Heap.get?_push_of_some _ q
 have he₁:=up _ _ he
 have te:Shared.TypeIs { s with heap:=s.heap.push { cls:=.type "dict",data:=.dict #[] } } (.ref e) "enumerate":=⟨_,he₁,rfl⟩
 unfold Builtin.Dict.updateFrom
 refine wpAny_bind (wpAny_typeOf te ?_)
 rw [if_pos (by decide)]
 refine wpAny_bind (N_enum.keys_attr he₁ hh fun h' tk' k'=>?_)
 simp only [Option.isNone_none,if_true]
 refine wpAny_bind (wpAny_rule ?_)
 have D':ESt ⟨h',s.gens,s.drawn,tk',s.os⟩ e it l 0 xs:=⟨⟨f0,f1,old,k' _ _ he₁,hf.imp id fun ⟨T,oT,q1,q2⟩=>⟨T,oT,q1,k' _ _ (up _ _ q2)⟩⟩,k' _ _ (up _ _ il),kl,k' _ _ (up _ _ ol)⟩
 have te':Shared.TypeIs ⟨h',s.gens,s.drawn,tk',s.os⟩ (.ref e) "enumerate":=⟨_,k' _ _ he₁,rfl⟩
 refine wpAny_bind (wpAny_pyIter_slot te' F.slot_enumerate_iter (wpAny_call_entry F.slot_enumerate_iter te' F.entry_enumerate_iter ?_ (F.args_enumerate_iter_1 _)))
 show wpAny _ _ (ret (.ref e)) _ _ _
 refine wpAny_pure (wi1_2 _ rfl ⟨"enumerate",_,te',F.slot_enumerate_next.lookup,?_⟩)
 refine wpAny_pure ⟨plainId_quiet plain_upd_loop _,?_⟩
 have lt:∀ c o,s.heap.get? c=some o→s.heap.objs.size≠c:=fun c o q=>Nat.ne_of_gt (Heap.lt_size q)
 refine upd_loop (A:=A.in1) (R:=wants (fun r s₂=>r=.none∧Q (.ref s.heap.objs.size) s₂) E) hh (lt _ _ he) (lt _ _ il) (lt _ _ ol) hn _ _ 0 rfl (Nat.zero_le _) D' (by simpa [enK] using hnew.at fun o q=>k' _ _ q) fun s' K hd=>⟨rfl,hQ s' ⟨fun c o c1 c2 c3 q=>K.1 c o c1 c2 c3 (k' _ _ (up _ _ q)),fun c o q=>K.2.1 c o (k' _ _ (up _ _ q)),K.2.2⟩ hd⟩
end
noncomputable def lateV:List (Int × Value):=[(0,.ref 221),(3,.ref 224),(5,.ref 226)]
noncomputable def lateD (k:Nat):List Dat:=if k=0 then [.tuple [.str (Str.ofString "late"),.int 0]] else if k=3 then [.tuple [.str (Str.ofString "late"),.int 3],.tuple [.str (Str.ofString "later"),.int 3]] else if k=5 then [.tuple [.str (Str.ofString "late"),.int 5]] else []
noncomputable def lateW (k:Nat):List Value:=if k=0 then [.ref 220] else if k=3 then [.ref 222,.ref 223] else if k=5 then [.ref 225] else []
noncomputable def lateA (k:Nat):Nat:=if k=0 then 221 else if k=3 then 224 else 226
theorem late_dict (G:Gr):∃ oa,G.base.get? 219=some oa∧oa.IsDictOf (intKind PR G.w) lateV:=by
 refine (wi1_2 ({ cls:=.type "dict",data:=.dict #[{ hash:=0,key:=.int 0 448,val:=.ref 221 },{ hash:=3,key:=.int 3 451,val:=.ref 224 },{ hash:=5,key:=.int 5 456,val:=.ref 226 }] 3 }) (G.X _ _ (by kernel_rfl)) ⟨_,_,⟨rfl,rfl,rfl⟩,rfl,?_,?_,by decide⟩)
 ·intro e he
  simp only [List.mem_toArray,List.mem_cons,List.not_mem_nil,or_false] at he
  rcases he with he | he | he <;> replace he:=he.symm <;> subst he
  ·exact (wi1_2 0 rfl (show (0:Int)=hashInt 0 by decide +kernel))
  ·exact (wi1_2 3 rfl (show (3:Int)=hashInt 3 by decide +kernel))
  ·exact (wi1_2 5 rfl (show (5:Int)=hashInt 5 by decide +kernel))
 ·exact .cons rfl rfl (.cons rfl rfl (.cons rfl rfl .nil))
theorem late_list (G:Gr) (k:Nat) (hk:k=0∨k=3∨k=5):G.base.get? (lateA k)=some (W.listOf (lateW k).toArray 0):=by
 rcases hk with hk | hk | hk <;> replace hk:=hk.symm <;> subst hk <;> exact G.X _ _ (by kernel_rfl)
noncomputable abbrev lateO (x:Str) (k:Int) (t1 t2:Nat):Obj:={ cls:=.type "tuple",data:=.seq #[.str x t1,.int k t2] }
theorem late_tup {G:Gr}{T:Nat}{x:Str}{k:Int}{t1 t2:Nat}(hx:PyData.strOk x=true) (e:G.base.get? T=some (lateO x k t1 t2)):∀ h',G.base.StaysIn h'→It 1 h' (.ref T) (.tuple [.str x,.int k]):=fun h' st =>
 ⟨⟨_,by rw [kqdP];exact reads_tuple_at (st _ _ e) rfl rfl (xs:=kqdPs [.str x,.int k]) (by simp only [kqdPs,kqdP];exact ReadsAll.cons (Reads.str _ _) (ReadsAll.cons (Reads.int _ _) ReadsAll.nil))⟩,by simp [kqdOk,hx]⟩
theorem late_its (G:Gr) (o:Own) (h:Heap) (k:Nat):ItOs G o h (lateW k) (lateD k):=by
 unfold lateW lateD
 split
 ·exact .cons (.inr (late_tup (by decide +kernel) (G.X 220 (lateO (Str.ofString "late") 0 449 450) (by kernel_rfl)))) .nil
 ·split
  ·exact .cons (.inr (late_tup (by decide +kernel) (G.X 222 (lateO (Str.ofString "late") 3 452 453) (by kernel_rfl)))) (.cons (.inr (late_tup (by decide +kernel) (G.X 223 (lateO (Str.ofString "later") 3 454 455) (by kernel_rfl)))) .nil)
  ·split
   ·exact .cons (.inr (late_tup (by decide +kernel) (G.X 225 (lateO (Str.ofString "late") 5 457 458) (by kernel_rfl)))) .nil
   ·exact .nil
theorem late_val (k:Nat) (h:k=0∨k=3∨k=5):valueAt lateV (k:Int)=some (.ref (lateA k)):=by rcases h with h | h | h <;> replace h:=h.symm <;> subst h <;> rfl
theorem late_none (k:Nat) (h:¬ (k=0∨k=3∨k=5)):valueAt lateV (k:Int)=none:=by
 have:¬ ((0:Int)=(k:Int)):=fun e=>h (.inl (Int.ofNat.inj e).symm)
 have:¬ ((3:Int)=(k:Int)):=fun e=>h (.inr (.inl (Int.ofNat.inj e).symm))
 have:¬ ((5:Int)=(k:Int)):=fun e=>h (.inr (.inr (Int.ofNat.inj e).symm))
 simp [valueAt,lateV,List.find?, *]
theorem call_enum {prog:Program}{w:World}{A:Around}{E:Value→Shared→Prop}{s:Shared}{l n:Nat}{items:Array Value}{Q:Value→Shared→Prop}(hl:s.heap.get? l=some (lstObj items n))
  (h:∀ h':Heap,h'.get? (s.heap.objs.size+1)=some (enObj .none false s.heap.objs.size 0 .none)→h'.get? s.heap.objs.size=some (itObj "list_iterator" (.ref l) 0)→h'.objs.size=s.heap.objs.size+2→(∀ b o,s.heap.get? b=some o→h'.get? b=some o)→Q (.ref (s.heap.objs.size+1)) { s with heap:=h' }) :
  wpAny (model prog w) A (call (.type "enumerate") [.ref l]) Q E s:=by
 refine callType_new F.called_enumerate (by decide) (F.typeCall_enumerate_1 _) (F.newCall_enumerate_1 _) (fun obj=>F.args_object_init_2 obj _) F.entry_enumerate_new (meets_enumerate_new l items n) ⟨hl,?_⟩
 have hz:(s.heap.push (itObj "list_iterator" (.ref l) 0)).objs.size=s.heap.objs.size+1:=Heap.size_push ..
 show _∧_
 erw [hz]
 have he:((s.heap.push (itObj "list_iterator" (.ref l) 0)).push (enObj .none false s.heap.objs.size 0 .none)).get? (s.heap.objs.size+1)=some (enObj .none false s.heap.objs.size 0 .none):=by
  rw [← hz];exact Heap.get?_push_size _ rfl
 exact ⟨⟨_,he,rfl⟩,h _ he (Heap.get?_push_of_some _ (Heap.get?_push_size _ rfl)) (by rw [Heap.size_push];exact congrArg (·+1) hz) fun b o e=>Heap.get?_push_of_some _ (Heap.get?_push_of_some _ e)⟩
theorem bare_ {G:Gr}{A:Around}{outer:List Env}{d u:Nat}{s:Shared}{L fa vw n:Nat}{cd:Value}{vs:List Value}{m:Str→Option Value}{Q:Flow→Shared→Prop}{E:Value→Shared→Prop}
  (c:Cx G A (LE L fa cd :: outer) (d+2) (u+1) s.heap) (F:Fr G.base L s.heap (fun z=>if z=Str.ofString "views" then some (.ref vw) else m z)) (ov:s.heap.get? vw=some (lstObj vs.toArray n)) (hv:vs.length≤1000)
  (post:∀ s' x dx md ad,Ext [] [L] [] s s'→Fr G.base L s'.heap (fun z=>if z=Str.ofString "bare" then some (.ref x) else if z=Str.ofString "views" then some (.ref vw) else m z)→(∀ b∈[x,dx,md,ad],s.heap.get? b=none)→@Ne Nat x dx→@Ne Nat x md→@Ne Nat dx md→IsMap s'.heap x dx md ad →
   (∃ om,s'.heap.get? md=some om∧om.IsDictOf (intKind PR G.w) (enK 0 vs))→(md == sysModules)=false→(∃ oa,s'.heap.get? ad=some oa∧oa.IsDictOf (intKind PR G.w) [])→(ad == sysModules)=false→Q .next s'):wpAny (model PR G.w) A (exec lw4 (LE L fa cd)) Q E s:=by
 have:=@on "call type:dict"
 have:=@on "call type:enumerate"
 refine cx_open c ?_;clear c;intro ad ag au c
 have X:=G.X
 have T:=G.T
 (refine xe1_3 (ledger2 (g:=G.base) (L:=L) (h:=s.heap) (ex:=[]) fn0) ?_;rintro rest N - hr)
 simp only [List.nil_append] at N
 have Fk:True→Fr G.base L s.heap _:=fun _=>F
 unfold lw4
 dsimp only
 k_steps
 clear N hr
 have F0:=Fk trivial
 refine xe3_2 (id F0.ns) fun oL _ _ eL _=>?_
 refine call_enum ov fun h1 he hi hz kk=>?_
 have x1:∀ tk,Ext [] [] [] s { s with heap:=h1,toks:=tk }:=fun tk=>Ext.more kk
 have D0:∀ tk,ESt { s with heap:=h1,toks:=tk } (s.heap.objs.size+1) s.heap.objs.size vw 0 vs:=fun tk=>⟨(wi3_2 .none false .none he (.inl rfl)),hi,n,kk _ _ ov⟩
 have F1:=Fr.ext F0 (x1 s.toks) fnm fn0 fn0
 (refine xe1_3 (ledger2 (g:=G.base) (L:=L) (h:=h1) (ex:=[]) fn0) ?_;rintro rest N - hr)
 simp only [List.nil_append] at N
 clear F0
 k_steps
 have F0:=Fk trivial
 have f0:s.heap.get? s.heap.objs.size=none:=Heap.get?_none_of_le (Nat.le_refl _)
 have f1:s.heap.get? (s.heap.objs.size+1)=none:=Heap.get?_none_of_le (Nat.le_succ _)
 have f2:s.heap.get? h1.objs.size=none:=Heap.get?_none_of_le (by rw [hz];exact zq87)
 refine dict_enum rfl (D0 _) hv fun s2 K hd=>?_
 have x2:Ext [] [] [] s s2:=by
  have y:Ext [] [s.heap.objs.size+1,s.heap.objs.size,h1.objs.size] [] { s with heap:=h1,toks:=s.toks } s2:=⟨fun b o e hb _=>K.1 b o (fun q=>hb (by simp [q])) (fun q=>hb (by simp [q])) (fun q=>hb (by simp [q])) e,fun b o e hb _=>⟨o.slots,K.1 b o (fun q=>hb (by simp [q])) (fun q=>hb (by simp [q])) (fun q=>hb (by simp [q])) e⟩,fun b o e=>K.2.1 b o e,fun g x e _=>by rw [K.2.2.1];exact e,by rw [K.2.2.1];exact Nat.le_refl _,K.2.2.2.1,K.2.2.2.2,fun z=>by rw [K.2.2.1];exact z⟩
  refine ((x1 s.toks).trans y (fun b hb=>?_) fn0)
  simp only [List.mem_cons,List.not_mem_nil,or_false] at hb
  rcases hb with hb | hb | hb <;> replace hb:=hb.symm <;> subst hb
  ·exact .inr f1
  ·exact .inr f0
  ·exact .inr f2
 have F2:=Fr.ext F0 x2 fnm fn0 fn0
 have F2k:True→Fr G.base L s2.heap _:=fun _=>F2
 have nsm:=Fr.notModules F1 (modules_low G.T.nolimit)
 clear F0 F1 N hr rest
 (refine xe1_3 (ledger2 (g:=G.base) (L:=L) (h:=s2.heap) (ex:=[]) fn0) ?_;rintro rest N - hr)
 simp only [List.nil_append] at N
 k_steps
 have c2:Cx G _ (LE L fa cd :: outer) (d+2) (u+1) s2.heap:=lamc c (fp:=[]) fn0 fn0 x2
 refine mk_map0 (d:=d) (u:=u) c2 fun s3 x1' dx ad1 x fx fdx fad ne im ia nsa=>?_
 have x3:=x2.trans x fn0 fn0
 have F3:=Fr.ext F2 x fnm fn0 fn0
 have F3k:True→Fr G.base L s3.heap _:=fun _=>F3
 clear F2 N hr rest
 (refine xe1_3 (ledger2 (g:=G.base) (L:=L) (h:=s3.heap) (ex:=[]) fn0) ?_;rintro rest N - hr)
 simp only [List.nil_append] at N
 k_steps
 rename Fr _ _ _ _=>F4
 rename News _ _ _ _=>N4
 rename_i h4
 have x4:∀ tk,Ext [] [L] [] s3 { s3 with heap:=h4,toks:=tk }:=fun tk=>ext_led (fr:=[]) (fp:=[]) (tk:=tk) (F3k trivial) F4 N4 hr fn0 (fun q hq=>by k_mem)
 have xx:=fun tk=>(x3.weak (fr':=[]) (fp'':=[L]) (gp'':=[]) fn0 fn0 fn0).trans (x4 tk) (fun b hb=>.inl hb) fn0
 refine xe1_2 (Heap.dictOf_iff.mp hd) fun om eom hom=>?_
 have old:∀ b ob,s3.heap.get? b=some ob→s.heap.get? b=none→h4.get? b=some ob:=fun b ob e f=>(x4 0).keep b ob e (fun q=>by rw [List.mem_singleton.mp q,eL] at f;cases f) fnm
 apply hide;intro _ kι;obtain ⟨i1,i2,i3,i4,i5,i6,i7,i8⟩:=im;apply kι
 have eom3:=x.keep _ _ eom fnm fnm
 have nx:∀ b,s2.heap.get? b=none→@Ne Nat b h1.objs.size:=fun b f q=>by rw [q,eom] at f;exact nsf f.symm
 refine xe1_2 ia fun oa eoa hoa=>?_
 refine post _ x1' dx h1.objs.size ad1 (xx _) F4 (fq (x2.fresh fx) (fq (x2.fresh fdx) (fq f2 (fq (x2.fresh fad) fn0)))) ne (nx _ fx) (nx _ fdx) ⟨old _ _ i1 (x2.fresh fx),_,_,_,_,_,_,old _ _ i8 (x2.fresh fdx)⟩ (wi1_2 om (old _ _ eom3 f2) hom) nsm (wi1_2 oa (old _ _ eoa (x2.fresh fad)) hoa) nsa
theorem shown_ {G:Gr}{A:Around}{outer:List Env}{d u:Nat}{s:Shared}{L fa vw ba n:Nat}{cd:Value}{vs:List Value}{m:Str→Option Value}{Q:Flow→Shared→Prop}{E:Value→Shared→Prop}
  (c:Cx G A (LE L fa cd :: outer) (d+2) (u+1) s.heap) (F:Fr G.base L s.heap (fun z=>if z=Str.ofString "bare" then some (.ref ba) else if z=Str.ofString "views" then some (.ref vw) else m z)) (ov:s.heap.get? vw=some (lstObj vs.toArray n)) (hv:vs.length≤1000)
  (post:∀ s' x dx md ,Ext [] [L] [] s s'→Fr G.base L s'.heap (fun z=>if z=Str.ofString "shown" then some (.ref x) else if z=Str.ofString "bare" then some (.ref ba) else if z=Str.ofString "views" then some (.ref vw) else m z)→(∀ b∈[x,dx,md],s.heap.get? b=none)→@Ne Nat x dx→@Ne Nat x md→@Ne Nat dx md→IsMap s'.heap x dx md 219 →
   (∃ om,s'.heap.get? md=some om∧om.IsDictOf (intKind PR G.w) (enK 0 vs))→(md == sysModules)=false→Q .next s'):wpAny (model PR G.w) A (exec lw5 (LE L fa cd)) Q E s:=by
 have:=@on "call type:dict"
 have:=@on "call type:enumerate"
 refine cx_open c ?_;clear c;intro ad ag au c
 have X:=G.X
 have T:=G.T
 (refine xe1_3 (ledger2 (g:=G.base) (L:=L) (h:=s.heap) (ex:=[]) fn0) ?_;rintro rest N - hr)
 simp only [List.nil_append] at N
 have Fk:True→Fr G.base L s.heap _:=fun _=>F
 unfold lw5
 dsimp only
 k_steps
 clear N hr
 have F0:=Fk trivial
 refine xe3_2 (id F0.ns) fun oL _ _ eL _=>?_
 refine call_enum ov fun h1 he hi hz kk=>?_
 have x1:∀ tk,Ext [] [] [] s { s with heap:=h1,toks:=tk }:=fun tk=>Ext.more kk
 have D0:∀ tk,ESt { s with heap:=h1,toks:=tk } (s.heap.objs.size+1) s.heap.objs.size vw 0 vs:=fun tk=>⟨(wi3_2 .none false .none he (.inl rfl)),hi,n,kk _ _ ov⟩
 have F1:=Fr.ext F0 (x1 s.toks) fnm fn0 fn0
 (refine xe1_3 (ledger2 (g:=G.base) (L:=L) (h:=h1) (ex:=[]) fn0) ?_;rintro rest N - hr)
 simp only [List.nil_append] at N
 clear F0
 k_steps
 have F0:=Fk trivial
 have f0:s.heap.get? s.heap.objs.size=none:=Heap.get?_none_of_le (Nat.le_refl _)
 have f1:s.heap.get? (s.heap.objs.size+1)=none:=Heap.get?_none_of_le (Nat.le_succ _)
 have f2:s.heap.get? h1.objs.size=none:=Heap.get?_none_of_le (by rw [hz];exact zq87)
 refine dict_enum rfl (D0 _) hv fun s2 K hd=>?_
 have x2:Ext [] [] [] s s2:=by
  have y:Ext [] [s.heap.objs.size+1,s.heap.objs.size,h1.objs.size] [] { s with heap:=h1,toks:=s.toks } s2:=⟨fun b o e hb _=>K.1 b o (fun q=>hb (by simp [q])) (fun q=>hb (by simp [q])) (fun q=>hb (by simp [q])) e,fun b o e hb _=>⟨o.slots,K.1 b o (fun q=>hb (by simp [q])) (fun q=>hb (by simp [q])) (fun q=>hb (by simp [q])) e⟩,fun b o e=>K.2.1 b o e,fun g x e _=>by rw [K.2.2.1];exact e,by rw [K.2.2.1];exact Nat.le_refl _,K.2.2.2.1,K.2.2.2.2,fun z=>by rw [K.2.2.1];exact z⟩
  refine ((x1 s.toks).trans y (fun b hb=>?_) fn0)
  simp only [List.mem_cons,List.not_mem_nil,or_false] at hb
  rcases hb with hb | hb | hb <;> replace hb:=hb.symm <;> subst hb
  ·exact .inr f1
  ·exact .inr f0
  ·exact .inr f2
 have F2:=Fr.ext F0 x2 fnm fn0 fn0
 have F2k:True→Fr G.base L s2.heap _:=fun _=>F2
 have nsm:=Fr.notModules F1 (modules_low G.T.nolimit)
 clear F0 F1 N hr rest
 (refine xe1_3 (ledger2 (g:=G.base) (L:=L) (h:=s2.heap) (ex:=[]) fn0) ?_;rintro rest N - hr)
 simp only [List.nil_append] at N
 k_steps
 have c2:Cx G _ (LE L fa cd :: outer) (d+2) (u+1) s2.heap:=lamc c (fp:=[]) fn0 fn0 x2
 refine xe1_2 (late_dict G) fun oa eoa hoa=>?_
 refine mk_map (d:=d) (u:=u) c2 (F2.keep _ _ eoa) hoa (by simp [lateV]) (by simp [lateV]) (by decide) fun s3 x1' dx x fx fdx ne im=>?_
 have x3:=x2.trans x fn0 fn0
 have F3:=Fr.ext F2 x fnm fn0 fn0
 have F3k:True→Fr G.base L s3.heap _:=fun _=>F3
 clear F2 N hr rest
 (refine xe1_3 (ledger2 (g:=G.base) (L:=L) (h:=s3.heap) (ex:=[]) fn0) ?_;rintro rest N - hr)
 simp only [List.nil_append] at N
 k_steps
 rename Fr _ _ _ _=>F4
 rename News _ _ _ _=>N4
 rename_i h4
 have x4:∀ tk,Ext [] [L] [] s3 { s3 with heap:=h4,toks:=tk }:=fun tk=>ext_led (fr:=[]) (fp:=[]) (tk:=tk) (F3k trivial) F4 N4 hr fn0 (fun q hq=>by k_mem)
 have xx:=fun tk=>(x3.weak (fr':=[]) (fp'':=[L]) (gp'':=[]) fn0 fn0 fn0).trans (x4 tk) (fun b hb=>.inl hb) fn0
 refine xe1_2 (Heap.dictOf_iff.mp hd) fun om eom hom=>?_
 have old:∀ b ob,s3.heap.get? b=some ob→s.heap.get? b=none→h4.get? b=some ob:=fun b ob e f=>(x4 0).keep b ob e (fun q=>by rw [List.mem_singleton.mp q,eL] at f;cases f) fnm
 apply hide;intro _ kι;obtain ⟨i1,i2,i3,i4,i5,i6,i7,i8⟩:=im;apply kι
 have eom3:=x.keep _ _ eom fnm fnm
 have nx:∀ b,s2.heap.get? b=none→@Ne Nat b h1.objs.size:=fun b f q=>by rw [q,eom] at f;exact nsf f.symm
 refine post _ x1' dx h1.objs.size  (xx _) F4 (fq (x2.fresh fx) (fq (x2.fresh fdx) (fq f2 fn0))) ne (nx _ fx) (nx _ fdx) ⟨old _ _ i1 (x2.fresh fx),_,_,_,_,_,_,old _ _ i8 (x2.fresh fdx)⟩ (wi1_2 om (old _ _ eom3 f2) hom) nsm
theorem mo_cons (k:Int) (q:Int × Nat) (r:List (Int × Nat)) (m:Int):mostOf k (q :: r) m=mostOf k r (if q.1=k then max m (q.2:Int) else m):=rfl
theorem mo_max (k a:Int) (l:List (Int × Nat)):∀ m:Int,mostOf k l (max m a)=max (mostOf k l m) a:=by
 induction l with
 | nil=>exact fun _=>rfl
 | cons p r ih =>
  intro m
  rw [mo_cons,mo_cons,← ih]
  by_cases h:p.1=k
  ·rw [if_pos h,if_pos h,Int.max_assoc,Int.max_comm a,← Int.max_assoc]
  ·rw [if_neg h,if_neg h]
theorem mo_app (k j:Int) (l:List (Int × Nat)) {m:Int}(hm:0≤m):mostOf k (l++[(j,0)]) m=mostOf k l m:=by
 have:=mostOf_ge (name:=k) l m
 simp only [mostOf,List.foldl_append,List.foldl_cons,List.foldl_nil] at this ⊢
 split
 ·have:((0:Nat):Int)=0:=rfl
  exact Int.max_eq_left (Int.le_trans hm (by assumption))
 ·rfl
theorem mo_set (k:Int) (l:List (Int × Nat)):∀ (i:Nat) (j:Int) (p:Nat) (m:Int),l[i]?=some (j,p)→mostOf k (l.set i (j,p+1)) m=if j=k then max (mostOf k l m) ((p:Int)+1) else mostOf k l m:=by
 induction l with
 | nil=>exact fun i j p m h=>nomatch h
 | cons q r ih =>
  intro i j p m h
  cases i with
  | zero =>
   rw [show q=(j,p) from Option.some.inj h,List.set_cons_zero,mo_cons,mo_cons]
   by_cases hj:j=k
   ·rw [if_pos hj,if_pos hj,if_pos hj,← mo_max];exact congrArg _ zq349
   ·rw [if_neg hj,if_neg hj,if_neg hj]
  | succ i=>rw [List.set_cons_succ,mo_cons,mo_cons];exact ih i j p _ h
theorem mo_le (k:Int) (l:List (Int × Nat)):∀ (i:Nat) (p:Nat) (m:Int),l[i]?=some (k,p)→(p:Int)≤mostOf k l m:=by
 induction l with
 | nil=>exact fun i p m h=>nomatch h
 | cons q r ih =>
  intro i p m h
  rw [mo_cons]
  cases i with
  | zero=>rw [show q=(k,p) from Option.some.inj h,if_pos rfl];exact Int.le_trans (Int.le_max_right _ _) (mostOf_ge _ _)
  | succ i=>exact ih i p _ h
structure Cs where
 L:Nat
 nl:Nat
 rl:Nat
 ml:Nat
 rr:Nat→Nat
 VV:Nat→List Value
 ns:List Int
 vw:Nat
 ba:Nat
 dba:Nat
 mba:Nat
 aba:Nat
 sh:Nat
 dsh:Nat
 msh:Nat
 rd:Nat
 wh:Nat
 wo:Nat
 gt:Nat
 ak:Nat
 P:Lw
structure RdG where
 k:Nat
 sh:Bool
 a:Nat
 lr:Value
 p:Nat
 ga:Nat
 wa:Nat
noncomputable def RdG.late (r:RdG):List Value:=if r.sh then lateW r.k else []
noncomputable def szJ (ns:List Int) (k:Nat):Nat:=if k < 5 then szOf ns k else 0
noncomputable def wdat (ns:List Int) (k:Nat) (sh:Bool):List Dat:=rowD k 0 (szJ ns k)++if sh then lateD k else []
noncomputable def RdG.wd (ns:List Int) (r:RdG):List Dat:=wdat ns r.k r.sh
noncomputable abbrev vaL (P:Lw):List Value:=[.ref (P.va 0),.ref (P.va 1),.ref (P.va 2),.ref (P.va 3),.ref (P.va 4)]
noncomputable abbrev rrL (C:Cs):List Value:=[.ref (C.rr 0),.ref (C.rr 1),.ref (C.rr 2),.ref (C.rr 3),.ref (C.rr 4)]
noncomputable abbrev LM (C:Cs) (x:Str→Option Value):Str→Option Value:=fun z =>
 if z=Str.ofString "asked" then some (.ref C.ak) else if z=Str.ofString "got" then some (.ref C.gt) else if z=Str.ofString "whole" then some (.ref C.wo) else if z=Str.ofString "whose" then some (.ref C.wh) else if z=Str.ofString "readers" then some (.ref C.rd) else
 if z=Str.ofString "shown" then some (.ref C.sh) else if z=Str.ofString "bare" then some (.ref C.ba) else if z=Str.ofString "views" then some (.ref C.vw) else x z
structure St1 (G:Gr) (C:Cs) (o:Own) (s:Shared):Prop where
 c1:s.heap.IsCell (C.L+1) (some (.ref C.nl))
 c2:s.heap.IsCell (C.L+1+1) (some (.ref C.rl))
 c3:s.heap.IsCell (C.L+1+1+1) (some (.ref C.ml))
 onl:∃ nv n,IntsAre nv C.ns∧s.heap.get? C.nl=some (W.listOf nv.toArray n)∧nv.length≤30
 orl:∃ n,s.heap.get? C.rl=some (lstObj (rrL C).toArray n)
 oml:∃ n,s.heap.get? C.ml=some (lstObj #[.ref (C.P.mm 0),.ref (C.P.mm 1)] n)
 rows:∀ k,k < 5→RowAt (fun b=>o.a b=1) s.heap k (szOf C.ns k) (C.rr k) (C.VV k)
 pr:∀ k,k < 5→Pairs o s.heap k (szOf C.ns k) (C.P.WV k)
 ovw:∃ n,s.heap.get? C.vw=some (lstObj (vaL C.P).toArray n)
 mb:IsMap s.heap C.ba C.dba C.mba C.aba
 db:∃ om,s.heap.get? C.mba=some om∧om.IsDictOf (intKind PR G.w) (enK 0 (vaL C.P))
 ab:∃ oa,s.heap.get? C.aba=some oa∧oa.IsDictOf (intKind PR G.w) []
 ms:IsMap s.heap C.sh C.dsh C.msh 219
 ds:∃ om,s.heap.get? C.msh=some om∧om.IsDictOf (intKind PR G.w) (enK 0 (vaL C.P))
 t1:∀ b∈[C.L+1,C.L+1+1,C.L+1+1+1,C.nl,C.rl,C.ml,C.vw,C.ba,C.dba,C.mba,C.aba,C.sh,C.dsh,C.msh],o.a b=1
 nb:@Ne Nat C.ba C.dba∧@Ne Nat C.ba C.mba∧@Ne Nat C.dba C.mba∧@Ne Nat C.sh C.dsh∧@Ne Nat C.sh C.msh∧@Ne Nat C.dsh C.msh
 ny:(C.mba == sysModules)=false∧(C.aba == sysModules)=false∧(C.msh == sysModules)=false
 sq:∀ k,2≤k→k < 5→SeqT (C.P.T k)
 m63:o.a 263=1
 e63:∃ tb,s.heap.get? 263=some (tabObj tb)
theorem IsMap.kept {h h':Heap}{x dx md ad:Nat}(y:IsMap h x dx md ad) (k1:∀ ob,h.get? x=some ob→h'.get? x=some ob) (k2:∀ ob,h.get? dx=some ob→h'.get? dx=some ob):IsMap h' x dx md ad:=by
 apply hide;intro _ kι;obtain ⟨o1,a,b,c,d,e,f,o2⟩:=y;apply kι
 exact ⟨k1 _ o1,a,b,c,d,e,f,k2 _ o2⟩
theorem St1.mono {G:Gr}{C:Cs}{o o':Own}{s s':Shared}(x:St1 G C o s) (k:∀ b ob,s.heap.get? b=some ob→o.a b=1→s'.heap.get? b=some ob∧o'.a b=o.a b):St1 G C o' s':=by
 have t:=x.t1
 have kk:∀ b∈[C.L+1,C.L+1+1,C.L+1+1+1,C.nl,C.rl,C.ml,C.vw,C.ba,C.dba,C.mba,C.aba,C.sh,C.dsh,C.msh],∀ ob,s.heap.get? b=some ob→s'.heap.get? b=some ob:=fun b hb ob e=>(k b ob e (t b hb)).1
 have ex:∀ b∈[C.L+1,C.L+1+1,C.L+1+1+1,C.nl,C.rl,C.ml,C.vw,C.ba,C.dba,C.mba,C.aba,C.sh,C.dsh,C.msh],∃ ob,s.heap.get? b=some ob:=by
  refine xe1_2 x.c1 fun o1 e1 _=>?_;refine xe1_2 x.c2 fun o2 e2 _=>?_;refine xe1_2 x.c3 fun o3 e3 _=>?_
  refine xe2_3 x.onl fun _ _ _ e4 _=>?_;obtain ⟨_,e5⟩:=x.orl;obtain ⟨_,e6⟩:=x.oml;obtain ⟨_,e7⟩:=x.ovw
  apply hide;intro _ kι;obtain ⟨e8,_,_,_,_,_,_,e9⟩:=x.mb;apply kι;refine xe1_2 x.db fun _ e10 _=>?_;refine xe1_2 x.ab fun _ e11 _=>?_;apply hide;intro _ kι;obtain ⟨e12,_,_,_,_,_,_,e13⟩:=x.ms;apply kι;refine xe1_2 x.ds fun _ e14 _=>?_
  exact fq (⟨_,e1⟩) (fq (⟨_,e2⟩) (fq (⟨_,e3⟩) (fq (⟨_,e4⟩) (fq (⟨_,e5⟩) (fq (⟨_,e6⟩) (fq (⟨_,e7⟩) (fq (⟨_,e8⟩) (fq (⟨_,e9⟩) (fq (⟨_,e10⟩) (fq (⟨_,e11⟩) (fq (⟨_,e12⟩) (fq (⟨_,e13⟩) (fq (⟨_,e14⟩) fn0)))))))))))))
 refine ⟨isCell_kept x.c1 (kk _ zm0),isCell_kept x.c2 (kk _ zm1),isCell_kept x.c3 (kk _ zm2),?_,?_,?_,fun q hq=>?_,fun q hq=>(x.pr q hq).mono k,?_,x.mb.kept (kk _ zm7) (kk _ zm8),?_,?_,x.ms.kept (kk _ zm11) (kk _ zm12),?_,fun b hb=>?_,x.nb,x.ny,x.sq,(let ⟨_,e⟩:=x.e63;(k _ _ e x.m63).2.trans x.m63),(let ⟨tb,e⟩:=x.e63;⟨tb,(k _ _ e x.m63).1⟩)⟩
 ·refine xe2_3 x.onl fun nv n hi e hl=>?_;exact (wi2_3 nv n hi (kk _ zm3 _ e) hl)
 ·obtain ⟨n,e⟩:=x.orl;exact ⟨n,kk _ zm4 _ e⟩
 ·obtain ⟨n,e⟩:=x.oml;exact ⟨n,kk _ zm5 _ e⟩
 ·(refine xe0_4 (x.rows q hq) ?_;rintro q1 ⟨qn,q2⟩ q3 q4)
  obtain ⟨r1,r2⟩:=k _ _ q2 q1
  refine ⟨r2.trans q1,⟨qn,r1⟩,q3,fun j v hj=>?_⟩
  refine xe4_3 (q4 j v hj) fun T ta tb n e p1 p2=>?_
  obtain ⟨z1,z2⟩:=k _ _ p2 p1
  exact ⟨T,ta,tb,n,e,z2.trans p1,z1⟩
 ·obtain ⟨n,e⟩:=x.ovw;exact ⟨n,kk _ zm6 _ e⟩
 ·refine xe1_2 x.db fun om e h=>?_;exact (wi1_2 om (kk _ zm9 _ e) h)
 ·refine xe1_2 x.ab fun om e h=>?_;exact (wi1_2 om (kk _ zm10 _ e) h)
 ·refine xe1_2 x.ds fun om e h=>?_;exact (wi1_2 om (kk _ zm13 _ e) h)
 ·obtain ⟨ob,e⟩:=ex b hb
  exact (k b ob e (t b hb)).2.trans (t b hb)
structure LI (G:Gr) (C:Cs) (rs:List RdG) (az:List Int) (o:Own) (s:Shared):Prop where
 ord:∃ n,s.heap.get? C.rd=some (lstObj (rs.map fun r=>Value.ref r.a).toArray n)
 owh:∃ wv n,s.heap.get? C.wh=some (lstObj wv.toArray n)∧IntsAre wv (rs.map fun r=>(r.k:Int))
 owo:∃ n,s.heap.get? C.wo=some (lstObj (rs.map fun r=>Value.ref r.wa).toArray n)
 ogt:∃ n,s.heap.get? C.gt=some (lstObj (rs.map fun r=>Value.ref r.ga).toArray n)
 oak:∃ av n,s.heap.get? C.ak=some (lstObj av.toArray n)∧IntsAre av az
 got:∀ r∈rs,∃ gv n,s.heap.get? r.ga=some (lstObj gv.toArray n)∧ItOs G o s.heap gv ((r.wd C.ns).take r.p)
 whl:∀ r∈rs,∃ wv n,s.heap.get? r.wa=some (lstObj wv.toArray n)∧ItOs G o s.heap wv (r.wd C.ns)∧o.a r.wa=1
 t4:∀ b∈[C.rd,C.wh,C.wo,C.gt,C.ak]++rs.map (·.ga),o.a b=4
 nd:([C.rd,C.wh,C.wo,C.gt,C.ak]++rs.map (·.ga)).Nodup
 pl:∀ r∈rs,r.p≤(r.wd C.ns).length
 n2:2≤rs.length
theorem LI.mono {G:Gr}{C:Cs}{rs:List RdG}{az:List Int}{o o':Own}{s s':Shared}(x:LI G C rs az o s) (K:Kp (·=4) o s o' s'):LI G C rs az o' s':=by
 have t:=x.t4
 have k1:∀ b ob,s.heap.get? b=some ob→o.a b=1→s'.heap.get? b=some ob∧o'.a b=o.a b:=fun b ob e q=>K.k b ob e (.inr q)
 have kk:∀ b∈[C.rd,C.wh,C.wo,C.gt,C.ak]++rs.map (·.ga),∀ ob,s.heap.get? b=some ob→s'.heap.get? b=some ob:=fun b hb ob e=>(K.k b ob e (.inl (t b hb))).1
 have mg:∀ r∈rs,r.ga∈[C.rd,C.wh,C.wo,C.gt,C.ak]++rs.map (·.ga):=fun r hr=>List.mem_append_right _ (List.mem_map_of_mem hr)
 refine ⟨?_,?_,?_,?_,?_,fun r hr=>?_,fun r hr=>?_,fun b hb=>?_,x.nd,x.pl,x.n2⟩
 ·obtain ⟨n,e⟩:=x.ord;exact ⟨n,kk _ (by simp) _ e⟩
 ·refine xe2_2 x.owh fun wv n e h=>?_;exact (wi2_2 wv n (kk _ (by simp) _ e) h)
 ·obtain ⟨n,e⟩:=x.owo;exact ⟨n,kk _ (by simp) _ e⟩
 ·obtain ⟨n,e⟩:=x.ogt;exact ⟨n,kk _ (by simp) _ e⟩
 ·refine xe2_2 x.oak fun wv n e h=>?_;exact (wi2_2 wv n (kk _ (by simp) _ e) h)
 ·refine xe2_2 (x.got r hr) fun gv n e h=>?_;exact (wi2_2 gv n (kk _ (mg r hr) _ e) (h.mono k1))
 ·refine xe2_3 (x.whl r hr) fun wv n e h q=>?_
  obtain ⟨e',q'⟩:=k1 _ _ e q
  exact (wi2_3 wv n e' (h.mono k1) (q'.trans q))
 ·obtain ⟨ob,e⟩:∃ ob,s.heap.get? b=some ob:=by
   obtain ⟨_,e1⟩:=x.ord;refine xe2_2 x.owh fun _ _ e2 _=>?_;obtain ⟨_,e3⟩:=x.owo;obtain ⟨_,e4⟩:=x.ogt;refine xe2_2 x.oak fun _ _ e5 _=>?_
   rcases List.mem_append.mp hb with h | h
   ·simp only [List.mem_cons,List.not_mem_nil,or_false] at h
    rcases h with h | h | h | h | h <;> replace h:=h.symm <;> subst h
    ·exact ⟨_,e1⟩
    ·exact ⟨_,e2⟩
    ·exact ⟨_,e3⟩
    ·exact ⟨_,e4⟩
    ·exact ⟨_,e5⟩
   ·(refine xe1_2 (List.mem_map.mp h) ?_;rintro r hr rfl)
    refine xe2_2 (x.got r hr) fun _ _ e _=>?_
    exact ⟨_,e⟩
  exact (K.k b ob e (.inl (t b hb))).2.trans (t b hb)
noncomputable def RdX (G:Gr) (P:Lw) (i:Nat) (r:RdG) (w:WJ) (o:Own) (s:Shared):Prop :=
 (r.k < 5∧Rd G (5+i) (50+i) (.ref (P.va r.k)) (P.WV r.k) (GJ P r.k) (IJ P r.k (50+i)) r.lr r.late r.a w o s r.p) ∨
 (r.k=5∧r.sh=true∧o.a r.a=5+i∧((r.p≤1∧s.heap.get? r.a=some (itObj "list_iterator" (.ref 226) r.p))∨∃ j,s.heap.get? r.a=some (itObj "list_iterator" .none j)∧r.p=1))
theorem Rd.cast {G:Gr}{τ σ:Nat}{it0:Value}{V:List Value}{W:Type}{Gw:W→W→Nat→Prop}{I:Nat→W→Own→Shared→Nat→List Nat→Prop}{lr:Value}{late:List Value}{a:Nat}{w w':W}{o:Own}{s:Shared}{p:Nat}(x:Rd G τ σ it0 V Gw I lr late a w o s p)
  (hI:∀ p y obs,I p w o s y obs→I p w' o s y obs) (hG:Gw w w V.length→Gw w' w' V.length):Rd G τ σ it0 V Gw I lr late a w' o s p:=by
 cases x with
 | fresh h1 h2 h3 h4 h5 t1 t2 t3 ne hl=>exact .fresh h1 h2 h3 h4 h5 t1 t2 t3 ne hl
 | one h1 h2 h3 h4 h5 t1 t2 t3 ne hl hi n1 n2=>exact .one h1 h2 h3 h4 h5 t1 t2 t3 ne hl (hI _ _ _ hi) n1 n2
 | two h1 h2 h3 h4 h5 h6 h7 h8 h9 t1 t2 t3 t4 n1 n2 n3 hg=>exact .two h1 h2 h3 h4 h5 h6 h7 h8 h9 t1 t2 t3 t4 n1 n2 n3 (hG hg)
 | done h1 h2 t1 t2 hg=>exact .done h1 h2 t1 t2 (hG hg)
theorem gj_cast {G:Gr}{P:Lw}{k k' σ τ:Nat}{lr:Value}{late:List Value}{a:Nat}{w w':WJ}{o:Own}{s:Shared}{p c:Nat}(hk:k < 5) (hne:k≠k') (g:GJ P k' w w' c)
  (x:Rd G τ σ (.ref (P.va k)) (P.WV k) (GJ P k) (IJ P k σ) lr late a w o s p):Rd G τ σ (.ref (P.va k)) (P.WV k) (GJ P k) (IJ P k σ) lr late a w' o s p:=by
 unfold GJ at g
 by_cases h0:k=0
 ·(replace h0:=Eq.symm h0;subst h0)
  have e:w'.1=w.1:=by
   rw [if_neg (fun h=>hne h.symm)] at g
   split at g
   ·exact g.2
   ·rw [g]
  exact x.cast (fun p y obs h=>by simp only [IJ,if_true] at h ⊢;rw [e];exact h) (fun h=>by simp only [GJ,if_true] at h ⊢;rw [e];exact ⟨h.1,trivial⟩)
 ·by_cases h1:k=1
  ·subst h1
   have e:w'.2=w.2:=by
    split at g
    ·exact g.2
    ·rw [if_neg (fun h=>hne h.symm)] at g;rw [g]
   exact x.cast (fun p y obs h=>by simp only [IJ,if_neg (show ¬ (1:Nat)=0 by decide),if_true] at h ⊢;rw [e];exact h) (fun h=>by simp only [GJ,if_neg (show ¬ (1:Nat)=0 by decide),if_true] at h ⊢;rw [e];exact ⟨h.1,trivial⟩)
  ·exact x.cast (fun p y obs h=>by simp only [IJ,if_neg h0,if_neg h1] at h ⊢;exact h) (fun h=>by simp only [GJ,if_neg h0,if_neg h1])
theorem RdX.keep {G:Gr}{P:Lw}(hT:∀ k,2≤k→k < 5→SeqT (P.T k)) {i:Nat}(hi:i < 45) {r:RdG}{w:WJ}{o o':Own}{s s':Shared}(x:RdX G P i r w o s) (st:G.base.StaysIn s.heap) (st':G.base.StaysIn s'.heap) (K:Kp (fun t=>t=5+i∨t=50+i) o s o' s'):RdX G P i r w o' s':=by
 rcases x with ⟨hk,x⟩ | ⟨h1,h2,h3,h4⟩
 ·exact .inl ⟨hk,Rd.other (jspec (G:=G) (σ:=50+i) (by exact zq88 hi) hT hk) x st st' K (.inl rfl)⟩
 ·refine .inr (yi4 h1 h2 ?_ ?_)
  ·rcases h4 with ⟨_,e⟩ | ⟨j,e,_⟩ <;> exact (K.k _ _ e (.inl (.inl h3))).2.trans h3
  ·rcases h4 with ⟨hp,e⟩ | ⟨j,e,hp⟩
   ·exact .inl ⟨hp,(K.k _ _ e (.inl (.inl h3))).1⟩
   ·exact .inr (wi1_2 j ((K.k _ _ e (.inl (.inl h3))).1) hp)
theorem RdX.other {G:Gr}{P:Lw}(hT:∀ k,2≤k→k < 5→SeqT (P.T k)) {i k' c:Nat}(hi:i < 45) {r:RdG}{w w':WJ}{o o':Own}{s s':Shared}(x:RdX G P i r w o s) (st:G.base.StaysIn s.heap) (st':G.base.StaysIn s'.heap) (K:Kp (fun t=>t=5+i∨t=50+i) o s o' s') (g:GJ P k' w w' c):RdX G P i r w' o' s':=by
 have y:=x.keep hT hi st st' K
 rcases y with ⟨hk,y⟩ | y
 ·by_cases e:r.k=k'
  ·rcases x with ⟨hk',x⟩ | ⟨h1,_⟩
   ·exact .inl ⟨hk,Rd.other (jspec (G:=G) (σ:=50+i) (by exact zq88 hi) hT hk) x st st' K (.inr ⟨c,by rw [e];exact g⟩)⟩
   ·omega
  ·exact .inl ⟨hk,gj_cast hk e g y⟩
 ·exact .inr y
noncomputable def mostR (k:Nat) (rs:List RdG) (az:List Int):Int:=mostOf (k:Int) (rs.map fun r=>((r.k:Int),r.p)) (if (k:Int)∈az then 1 else 0)
structure CntOk (C:Cs) (w:WJ) (rs:List RdG) (az:List Int):Prop where
 c0:cnt w.1=min (C.P.WV 0).length (mostR 0 rs az).toNat
 c1:w.2=none→mostR 1 rs az≤0
 c2:w.2≠none→C.P.WV 1=[]∨1≤mostR 1 rs az
theorem va_at (P:Lw) {k:Nat}(hk:k < 5):valueAt (enK 0 (vaL P)) (k:Int)=some (.ref (P.va k)):=by
 obtain rfl | rfl | rfl | rfl | rfl:k=0∨k=1∨k=2∨k=3∨k=4:=by exact zq44 hk
 all_goals rfl
theorem va_none (P:Lw):valueAt (enK 0 (vaL P)) ((5:Nat):Int)=none:=rfl
theorem St1.tb {G:Gr}{C:Cs}{o:Own}{s:Shared}(x:St1 G C o s):∀ b∈[C.ba,C.dba,C.mba],o.a b=1:=fq (x.t1 _ zm7) (fq (x.t1 _ zm8) (fq (x.t1 _ zm9) fn0))
theorem St1.ts {G:Gr}{C:Cs}{o:Own}{s:Shared}(x:St1 G C o s):∀ b∈[C.sh,C.dsh,C.msh],o.a b=1:=fq (x.t1 _ zm11) (fq (x.t1 _ zm12) (fq (x.t1 _ zm13) fn0))
theorem open_gen {G:Gr}{A:Around}{outer:List Env}{d u:Nat}{s:Shared}{o:Own}{w:WJ}{P:Lw}{i k t x dx md ad la:Nat}{om oa:Obj}{ads:List (Int × Value)}{late:List Value}{Q E:Value→Shared→Prop}
  (c:Cx G A outer (d+3) (u+6) s.heap) (ok:OwnOk G o) (hk:k < 5) (mp:IsMap s.heap x dx md ad) (o3:s.heap.get? md=some om) (hm:om.IsDictOf (intKind PR G.w) (enK 0 (vaL P))) (o4:s.heap.get? ad=some oa) (ha:oa.IsDictOf (intKind PR G.w) ads)
  (tg:∀ b∈[x,dx,md],o.a b=1) (nsm:(md == sysModules)=false) (nsa:(ad == sysModules)=false) (d1:@Ne Nat x dx) (d2:@Ne Nat x md) (d3:@Ne Nat dx md)
  (hl:(valueAt ads (k:Int)=some (.ref la)∧G.base.get? la=some (W.listOf late.toArray 0))∨(valueAt ads (k:Int)=none∧late=[]))
  (post:∀ s' a lr o',Ext [] [] [] s s'→Agree o o' s→OwnOk G o'→s.heap.get? a=none→Rd G (5+i) (50+i) (.ref (P.va k)) (P.WV k) (GJ P k) (IJ P k (50+i)) lr late a w o' s' 0→Q (.ref a) s') :
  wpAny (model PR G.w) A (call (.ref 106) [.ref x,.int (k:Nat) t]) Q E s:=by
 refine getitem_ok (d:=d) (u:=u) c mp o3 hm (va_at P hk) o4 ha (fun b hb=>ok b (by rw [tg b hb];decide)) nsm nsa d1 d2 d3 fun s' a L e n nm qn m x1 fa fL fe nal oa' og gs ns m1 m2 he=>?_
 refine xe3_3 (id ns) fun oL es ep eL hdL _=>?_
 have nea:@Ne Nat e a:=ne_cls he oa' (by simp)
 have neL:@Ne Nat e L:=fun q=>by rw [q,eL] at he;cases he;cases hdL
 have ag:=Own.with_agree o s (fun b=>if b=a∨b=L then 5+i else if b=e then 1 else 0) (fun _=>5+i)
 have ok':OwnOk G (o.with s (fun b=>if b=a∨b=L then 5+i else if b=e then 1 else 0) (fun _=>5+i)):=Own.with_ok ok c.st
 have ta:(o.with s (fun b=>if b=a∨b=L then 5+i else if b=e then 1 else 0) (fun _=>5+i)).a a=5+i:=(Own.with_new o fa).trans (if_pos (.inl rfl))
 have tL:(o.with s (fun b=>if b=a∨b=L then 5+i else if b=e then 1 else 0) (fun _=>5+i)).a L=5+i:=(Own.with_new o fL).trans (if_pos (.inr rfl))
 have te:(o.with s (fun b=>if b=a∨b=L then 5+i else if b=e then 1 else 0) (fun _=>5+i)).a e=1:=(Own.with_new o fe).trans ((if_neg (fun h=>h.elim (fun q=>nea q) (fun q=>neL q))).trans (if_pos rfl))
 have tg':(o.with s (fun b=>if b=a∨b=L then 5+i else if b=e then 1 else 0) (fun _=>5+i)).g s.gens.size=5+i:=by simp [Own.with]
 refine post s' a ((valueAt ads (k:Int)).getD (.ref e)) _ x1 ag ok' fa (.fresh oa' og ns m1 m2 ta tL tg' nal ?_)
 rcases hl with ⟨h1,h2⟩ | ⟨h1,rfl⟩
 ·rw [h1]
  exact ⟨la,"list_iterator",rfl,⟨_,0,x1.keep _ _ (c.st _ _ h2) fnm fnm,rfl,.inl ⟨rfl,rfl⟩⟩,.inr ⟨_,h2⟩⟩
 ·rw [h1]
  exact ⟨e,"tuple_iterator",rfl,⟨_,n,he,rfl,.inr ⟨rfl,rfl⟩⟩,.inl te⟩
section
variable {G:Gr}{A:Around}{outer:List Env}{d u:Nat}{s:Shared}{o:Own}{w:WJ}{C:Cs}{i k t:Nat}{Q E:Value→Shared→Prop}
theorem open_bare (c:Cx G A outer (d+3) (u+6) s.heap) (ok:OwnOk G o) (hk:k < 5) (st:St1 G C o s)
  (post:∀ s' a lr o',Ext [] [] [] s s'→Agree o o' s→OwnOk G o'→s.heap.get? a=none→(∀ ga wa,RdX G C.P i ⟨k,false,a,lr,0,ga,wa⟩ w o' s')→Q (.ref a) s') :
  wpAny (model PR G.w) A (call (.ref 106) [.ref C.ba,.int (k:Nat) t]) Q E s:=by
 refine xe1_2 st.db fun om e1 h1=>?_
 refine xe1_2 st.ab fun oa e2 h2=>?_
 exact open_gen (d:=d) (u:=u) (w:=w) (i:=i) (la:=0) c ok hk st.mb e1 h1 e2 h2 st.tb st.ny.1 st.ny.2.1 st.nb.1 st.nb.2.1 st.nb.2.2.1 (.inr ⟨rfl,rfl⟩) fun s' a lr o' x ag ok' fa rd=>post s' a lr o' x ag ok' fa fun ga wa=>.inl ⟨hk,rd⟩
theorem open_shown (c:Cx G A outer (d+3) (u+6) s.heap) (ok:OwnOk G o) (hk:k < 5) (st:St1 G C o s)
  (post:∀ s' a lr o',Ext [] [] [] s s'→Agree o o' s→OwnOk G o'→s.heap.get? a=none→(∀ ga wa,RdX G C.P i ⟨k,true,a,lr,0,ga,wa⟩ w o' s')→Q (.ref a) s') :
  wpAny (model PR G.w) A (call (.ref 106) [.ref C.sh,.int (k:Nat) t]) Q E s:=by
 refine xe1_2 st.ds fun om e1 h1=>?_
 refine xe1_2 (late_dict G) fun oa e2 h2=>?_
 refine open_gen (d:=d) (u:=u) (w:=w) (i:=i) (la:=lateA k) (late:=lateW k) c ok hk st.ms e1 h1 (c.st _ _ e2) h2 st.ts st.ny.2.2 (by decide) st.nb.2.2.2.1 st.nb.2.2.2.2.1 st.nb.2.2.2.2.2 ?_ fun s' a lr o' x ag ok' fa rd=>post s' a lr o' x ag ok' fa fun ga wa=>.inl ⟨hk,rd⟩
 by_cases h:k=0∨k=3∨k=5
 ·exact .inl ⟨late_val k h,late_list G k h⟩
 ·refine .inr ⟨late_none k h,?_⟩
  unfold lateW
  rw [if_neg (by exact zq165 h),if_neg (by exact zq166 h),if_neg (by exact Nat.ne_of_lt hk)]
theorem open_late (c:Cx G A outer (d+3) (u+6) s.heap) (ok:OwnOk G o) (f0:∀ b∈frs outer,o.a b=0) (st:St1 G C o s)
  (post:∀ s' a lr o',Ext (frs outer) [] [] s s'→Agree o o' s→OwnOk G o'→s.heap.get? a=none→(∀ ga wa,RdX G C.P i ⟨5,true,a,lr,0,ga,wa⟩ w o' s')→Q (.ref a) s') :
  wpAny (model PR G.w) A (call (.ref 106) [.ref C.sh,.int ((5:Nat):Int) t]) Q E s:=by
 refine xe1_2 st.ds fun om e1 h1=>?_
 refine xe1_2 (late_dict G) fun oa e2 h2=>?_
 refine getitem_late (d:=d) (u:=u) c st.ms e1 h1 (va_none C.P) e2 h2 (late_val 5 (by exact zq89)) (late_list G 5 (by exact zq89)) (fun b hb=>ok b (by rw [st.ts b hb];decide)) (fun b hb q=>?_) st.ny.2.2 st.nb.2.2.2.1 st.nb.2.2.2.2.1 st.nb.2.2.2.2.2 fun s' y x fy ey hg=>?_
 ·have h1:=f0 b q
  rw [st.ts b (by simp only [List.mem_cons,List.not_mem_nil,or_false] at hb ⊢;rcases hb with h | h <;> simp [h])] at h1;cases h1
 ·have ag:=Own.with_agree o s (fun b=>if b=y then 5+i else 0) (fun _=>0)
  exact post s' y .none _ x ag (Own.with_ok ok c.st) fy fun ga wa=>.inr ⟨rfl,rfl,(Own.with_new o fy).trans (if_pos rfl),.inl ⟨Nat.zero_le _,ey⟩⟩
end
theorem new2 {g h h':Heap}{L a:Addr}{o':Obj}{ex rest news:List (Addr × Obj)}(hr:∀ b o,h.get? b=some o→g.get? b=none→b=L∨b∈ex.map (·.1)∨(b,o)∈rest) (N:News g L h' news) (hm:(a,o')∈news) (hx:∀ p∈ex,p.1 < a) (hl:∀ p∈rest,p.1 < a):h.get? a=none:=by
 cases q:h.get? a with
 | none=>rfl
 | some o =>
  refine xe0_3 (N _ hm) fun _ n1 n2=>?_
  rcases hr a o q n2 with e | e | e
  ·exact absurd e n1
  ·refine xe1_2 (List.mem_map.mp e) fun p hp e=>?_
   exact absurd (hx p hp) (by rw [e];exact Nat.lt_irrefl _)
  ·exact absurd (hl _ e) (Nat.lt_irrefl _)
theorem cell_store {G:Gr}{A:Around}{L fa c:Nat}{cd:Value}{x:Str}{v:Value}{v0:Option Value}{s s1:Shared}{m:Str→Option Value}{E:Value→Shared→Prop}{Q:Flow→Shared→Prop}(x1:Ext [] [L] [] s s1) (F1:Fr G.base L s1.heap m) (c1:s.heap.IsCell c v0) (ob1:G.base.get? c=none) (nL:c≠L)
  (q1:(LE L fa cd).kindOf x=some .cell) (q2:(LE L fa cd).cells.lookup x=some c)
  (post:∀ s',Ext [] [L,c] [] s s'→Fr G.base L s'.heap m→s'.heap.IsCell c (some v)→(∀ b ob,s1.heap.get? b=some ob→b≠c→s'.heap.get? b=some ob)→Q .next s'):wpAny (model PR G.w) A (storeName (LE L fa cd) x v) (fun _=>Q .next) E s1:=by
 refine xe1_2 c1 fun oc ec hc=>?_
 refine wpAny_storeName_cell (v₀:=v0) rfl q1 q2 ⟨oc,x1.keep _ _ ec (by simpa using nL) fnm,hc⟩ fun h3 hc3 hs3=>?_
 refine xe1_2 (id hc3) fun o3 e3 _=>?_
 refine post _ ((x1.weak (fp'':=[L,c]) (gp'':=[]) (fr':=[]) (fun b hb=>.inl (by simp at hb;simp [hb])) fn0 fn0).trans (Ext.one (fr:=[]) (fp:=[c]) (gp:=[]) hs3 zm0 ⟨_,e3⟩) (fun b hb=>.inl (by simp at hb;simp [hb])) fn0) ⟨F1.ns.at' fun o e=>(hs3.2 _ nL.symm).trans e,fun b o e=>?_,F1.above⟩ hc3 fun b ob e ne=>(hs3.2 b ne).trans e
 exact (hs3.2 b (fun q=>by rw [q,ob1] at e;exact nsf e)).trans (F1.keep b o e)
section
variable {G:Gr}{A:Around}{outer:List Env}{d u:Nat}{s:Shared}{L fa:Nat}{cd:Value}{m:Str→Option Value}{Q:Flow→Shared→Prop}{E:Value→Shared→Prop}
theorem numbers_ {sa:Nat}{sv:List Value}{ss:List Int}{v0:Option Value}
  (c:Cx G A (LE L fa cd :: outer) d u s.heap) (F:Fr G.base L s.heap (fun z=>if z=Str.ofString "script" then some (.ref sa) else m z)) (hs:G.base.IsList sa sv.toArray) (hI:IntsAre sv ss) (hl:sv.length≤63) (c1:s.heap.IsCell (L+1) v0) (ob1:G.base.get? (L+1)=none)
  (post:∀ s' nl nv n,Ext [] [L,L+1] [] s s'→Fr G.base L s'.heap (fun z=>if z=Str.ofString "script" then some (.ref sa) else m z)→s'.heap.IsCell (L+1) (some (.ref nl))→s.heap.get? nl=none→s'.heap.get? nl=some (W.listOf nv.toArray n)→IntsAre nv (ss.take 30)→nv.length≤30→Q .next s'):wpAny (model PR G.w) A (exec lw0 (LE L fa cd)) Q E s:=by
 have:=@on "storeName"
 refine cx_open c ?_;clear c;intro ad ag au c
 have X:=G.X
 have T:=G.T
 (refine xe1_3 (ledger2 (g:=G.base) (L:=L) (h:=s.heap) (ex:=[]) fn0) ?_;rintro rest N - hr)
 simp only [List.nil_append] at N
 have Fk:True→Fr G.base L s.heap _:=fun _=>F
 unfold lw0
 dsimp only
 k_steps
 rename News _ _ _ _=>N1
 rename Fr _ _ _ _=>F1
 rename IntsAre _ (List.take 30 ss)=>hI1
 rename_i D1 ws1 h1 l1 hC hL
 have x1:=fun tk=>ext_led (s₂:=s) (fr:=[]) (fp:=[]) (tk:=tk) (Fk trivial) F1 N1 hr fn0 (fun q hq=>by k_mem)
 have fD:s.heap.get? D1=none:=new2 hr N1 (.head _) fn0 l1
 have ne:D1≠L+1:=fun q=>by refine xe1_2 c1 fun oc ec _=>?_;rw [← q,fD] at ec;exact nsf ec
 refine cell_store (x1 _) F1 c1 ob1 (by exact zq69) rfl rfl fun s' x F' hc k=>post s' D1 ws1 0 x F' hc fD (k _ _ (News.get N1 (.head _)) ne) hI1 ?_
 have:=hI1.length
 exact Nat.le_trans (Nat.le_of_eq (this.trans hC)) (Nat.min_le_left 30 _)
theorem made_ {v0:Option Value}
  (c:Cx G A (LE L fa cd :: outer) d u s.heap) (F:Fr G.base L s.heap m) (c1:s.heap.IsCell (L+1+1+1) v0) (ob1:G.base.get? (L+1+1+1)=none)
  (post:∀ s' ml m0 m1,Ext [] [L,L+1+1+1] [] s s'→Fr G.base L s'.heap m→s'.heap.IsCell (L+1+1+1) (some (.ref ml))→(∀ b∈[ml,m0,m1],s.heap.get? b=none)→@Ne Nat m0 m1→s'.heap.get? ml=some (W.listOf #[.ref m0,.ref m1] 0)→s'.heap.get? m0=some (W.listOf #[] 0)→s'.heap.get? m1=some (W.listOf #[] 0)→Q .next s'):wpAny (model PR G.w) A (exec lw2 (LE L fa cd)) Q E s:=by
 have:=@on "storeName"
 refine cx_open c ?_;clear c;intro ad ag au c
 have X:=G.X
 have T:=G.T
 (refine xe1_3 (ledger2 (g:=G.base) (L:=L) (h:=s.heap) (ex:=[]) fn0) ?_;rintro rest N - hr)
 simp only [List.nil_append] at N
 have Fk:True→Fr G.base L s.heap _:=fun _=>F
 unfold lw2
 dsimp only
 k_steps
 rename News _ _ _ _=>N1
 rename Fr _ _ _ _=>F1
 rename_i m0 h2 l0 m1 h3 l1 ml h1 l2
 have x1:=fun tk=>ext_led (s₂:=s) (fr:=[]) (fp:=[]) (tk:=tk) (Fk trivial) F1 N1 hr fn0 (fun q hq=>by k_mem)
 have f0:s.heap.get? m0=none:=new2 (o':=W.listOf #[] 0) hr N1 (.tail _ (.tail _ (.head _))) fn0 l0
 have f1:s.heap.get? m1=none:=new2 (o':=W.listOf #[] 0) hr N1 (.tail _ (.head _)) fn0 (allLt_mem l1.2)
 have fm:s.heap.get? ml=none:=new2 hr N1 (.head _) fn0 (allLt_mem l2.2.2)
 refine xe1_2 (id c1) fun oc ec _=>?_
 have ne:∀ b,s.heap.get? b=none→b≠L+1+1+1:=fun b f q=>by rw [← q,f] at ec;exact nsf ec
 exact cell_store (x1 _) F1 c1 ob1 (by exact zq67) rfl rfl fun s' x F' hc k=>post s' ml m0 m1 x F' hc (fq fm (fq f0 (fq f1 fn0))) (Nat.ne_of_lt l1.1) (k _ _ (News.get N1 (.head _)) (ne _ fm)) (k _ _ (News.get N1 (.tail _ (.tail _ (.head _)))) (ne _ f0)) (k _ _ (News.get N1 (.tail _ (.head _))) (ne _ f1))
end
noncomputable abbrev LM3 (C:Cs) (x:Str→Option Value):Str→Option Value:=fun z=>if z=Str.ofString "shown" then some (.ref C.sh) else if z=Str.ofString "bare" then some (.ref C.ba) else if z=Str.ofString "views" then some (.ref C.vw) else x z
noncomputable abbrev exM (C:Cs) (p1 p2 p3 r1 r2 r3:Int) (p4 p5 p6 r4 r5 r6:Nat):List (Addr × Obj):=[(C.ba,instObj 123 C.dba),(C.dba,mapObj (.ref C.mba) (.ref 240) (.ref C.aba) p1 p2 p3 p4 p5 p6),(C.sh,instObj 123 C.dsh),(C.dsh,mapObj (.ref C.msh) (.ref 240) (.ref 219) r1 r2 r3 r4 r5 r6)]
theorem St1.led {G:Gr}{C:Cs}{o:Own}{s:Shared}(st:St1 G C o s) (ok:OwnOk G o) (tL:o.a C.L=0):∃ p1 p2 p3 p4 p5 p6 r1 r2 r3 r4 r5 r6 rest,News G.base C.L s.heap ((C.ba,instObj 123 C.dba) :: (C.dba,mapObj (.ref C.mba) (.ref 240) (.ref C.aba) p1 p2 p3 p4 p5 p6) :: (C.sh,instObj 123 C.dsh) :: (C.dsh,mapObj (.ref C.msh) (.ref 240) (.ref 219) r1 r2 r3 r4 r5 r6) :: rest) ∧
  (∀ q∈exM C p1 p2 p3 r1 r2 r3 p4 p5 p6 r4 r5 r6,s.heap.get? q.1=some q.2)∧∀ b ob,s.heap.get? b=some ob→G.base.get? b=none→b=C.L∨b∈(exM C p1 p2 p3 r1 r2 r3 p4 p5 p6 r4 r5 r6).map (·.1)∨(b,ob)∈rest:=by
 apply hide;intro _ kι;obtain ⟨e1,p1,p2,p3,p4,p5,p6,e2⟩:=id st.mb;apply kι
 apply hide;intro _ kι;obtain ⟨e3,r1,r2,r3,r4,r5,r6,e4⟩:=id st.ms;apply kι
 have hA:∀ q∈exM C p1 p2 p3 r1 r2 r3 p4 p5 p6 r4 r5 r6,s.heap.get? q.1=some q.2:=fq e1 (fq e2 (fq e3 (fq e4 fn0)))
 have hT:∀ q∈exM C p1 p2 p3 r1 r2 r3 p4 p5 p6 r4 r5 r6,o.a q.1=1:=fq (st.t1 _ zm7) (fq (st.t1 _ zm8) (fq (st.t1 _ zm11) (fq (st.t1 _ zm12) fn0)))
 (refine xe1_3 (ledger2 (g:=G.base) (L:=C.L) (h:=s.heap) (ex:=exM C p1 p2 p3 r1 r2 r3 p4 p5 p6 r4 r5 r6) (fun q hq=>(yi3 (hA q hq) (fun e=>by have:=hT q hq;rw [e,tL] at this;(replace this:=Eq.symm this;cases this)) (ok _ (by rw [hT q hq];decide))))) ?_;rintro rest N - hr)
 simp only [List.cons_append,List.nil_append] at N
 exact (xi13 p1 p2 p3 p4 p5 p6 r1 r2 r3 r4 r5 r6 rest (yi3 N hA hr))
theorem St1.tok {G:Gr}{C:Cs}{o:Own}{s:Shared}(st:St1 G C o s) (h:Heap) (e:h=s.heap) (g:Array GenState) (d:Drawn) (t:Nat) (os:OsState):St1 G C o ⟨h,g,d,t,os⟩:=st.mono (s':=⟨h,g,d,t,os⟩) fun b ob q _=>⟨by rw [e];exact q,rfl⟩
theorem ext_kp {o o':Own}{s s':Shared}(x:Ext [] [] [] s s') (ag:Agree o o' s) (M:Nat→Prop):Kp M o s o' s':=⟨fun b ob e _=>⟨x.keep b ob e fnm fnm,ag.1 b ob e⟩,fun g v e _=>⟨x.gkeep g v e fnm,ag.2 g v e⟩⟩
theorem Kp.one {M:Nat→Prop}{o o':Own}{s s':Shared}(K:Kp M o s o' s'):∀ b ob,s.heap.get? b=some ob→o.a b=1→s'.heap.get? b=some ob∧o'.a b=o.a b:=fun b ob e t=>K.k b ob e (.inr t)
theorem Ext.tok {fr fp:List Addr}{gp:List Nat}{s s':Shared}(x:Ext fr fp gp s s') (t:Nat):Ext fr fp gp s { s' with toks:=t }:=⟨x.keep,x.slot,x.there,x.gkeep,x.gsize,x.drawn,x.os,x.bare⟩
theorem ext_frs {fr:List Addr}{s s':Shared}(x:Ext [] [] [] s s'):Ext fr [] [] s s':=x.weak fn0 fn0 fn0
section
variable {G:Gr}{A:Around}{outer:List Env}{d u:Nat}{s:Shared}{fa:Nat}{cd:Value}{m:Str→Option Value}{C:Cs}{o:Own}{w:WJ}{Q:Flow→Shared→Prop}{E:Value→Shared→Prop}
theorem readers_ (c:Cx G A (LE C.L fa cd :: outer) (d+3) (u+7) s.heap) (F:Fr G.base C.L s.heap (LM3 C m)) (ok:OwnOk G o) (st:St1 G C o s) (hB:BJ G C.P w o s) (tL:o.a C.L=0)
  (post:∀ s2 o2 a0 lr0 a1 lr1,Ext [] [] [] s s2→Agree o o2 s→OwnOk G o2→BJ G C.P w o2 s2→St1 G C o2 s2→(∀ ga wa,RdX G C.P 0 ⟨0,false,a0,lr0,0,ga,wa⟩ w o2 s2)→(∀ ga wa,RdX G C.P 1 ⟨0,true,a1,lr1,0,ga,wa⟩ w o2 s2) →
   ∀ s' rd n,Ext [] [C.L] [] s2 s'→Fr G.base C.L s'.heap (fun z=>if z=Str.ofString "readers" then some (.ref rd) else LM3 C m z)→s2.heap.get? rd=none→s'.heap.get? rd=some (W.listOf #[.ref a0,.ref a1] n)→s'.gens=s2.gens→Q .next s'):wpAny (model PR G.w) A (exec lw6 (LE C.L fa cd)) Q E s:=by
 refine cx_open c ?_;clear c;intro ad ag au c
 have X:=G.X
 have T:=G.T
 apply hide;intro _ kι;obtain ⟨p1,p2,p3,p4,p5,p6,r1,r2,r3,r4,r5,r6,rest,N,-,hr⟩:=st.led ok tL;apply kι
 have Fk:True→Fr G.base C.L s.heap _:=fun _=>F
 unfold lw6
 dsimp only
 k_steps
 refine open_bare (i:=0) (k:=0) (w:=w) (d:=d) (u:=u) (o:=o) (Cx.in1 (u:=u+6) c) ok (by decide) (st.tok _ rfl _ _ _ _) fun s2 a0 lr0 o2 x2 ag2 ok2 fa0 rd0=>?_
 have x2:Ext [] [] [] s s2:=(Ext.more (fr:=[]) (fp:=[]) (gp:=[]) (s:=s) (tk:=s.toks+1) fun b ob e=>e).trans x2 fn0 fn0
 have K2:=ext_kp (s:=s) x2 ag2
 have st2:=st.mono (K2 (fun _=>True)).one
 have tL2:o2.a C.L=0:=by refine xe3_2 ((Fk trivial).ns) fun oL _ _ eL _=>?_;exact (ag2.1 _ _ eL).trans tL
 have F2:=Fr.ext (Fk trivial) x2 fnm fn0 fn0
 have F2k:True→Fr G.base C.L s2.heap _:=fun _=>F2
 clear F N hr
 apply hide;intro _ kι;obtain ⟨p1,p2,p3,p4,p5,p6,r1,r2,r3,r4,r5,r6,rest,N,-,hr⟩:=st2.led ok2 tL2;apply kι
 k_steps
 refine open_shown (i:=1) (k:=0) (w:=w) (d:=d) (u:=u) (o:=o2) (lamc (Cx.in1 (u:=u+6) c) (fp:=[]) fn0 fn0 (x2.tok _)) ok2 (by decide) (st2.tok _ rfl _ _ _ _) fun s3 a1 lr1 o3 x3 ag3 ok3 fa1 rd1=>?_
 have x3:Ext [] [] [] s2 s3:=(Ext.more (fr:=[]) (fp:=[]) (gp:=[]) (s:=s2) (tk:=s2.toks+1) fun b ob e=>e).trans x3 fn0 fn0
 have K3:=ext_kp (s:=s2) x3 ag3
 have x13:=x2.trans x3 fn0 fn0
 have ag13:=Mv.agree_trans x2 ag2 ag3
 have F3:=Fr.ext (F2k trivial) x3 fnm fn0 fn0
 have F3k:True→Fr G.base C.L s3.heap _:=fun _=>F3
 clear F2 N hr
 (refine xe1_3 (ledger2 (g:=G.base) (L:=C.L) (h:=s3.heap) (ex:=[]) fn0) ?_;rintro rest N - hr)
 simp only [List.nil_append] at N
 have cs2:G.base.StaysIn s2.heap:=fun b ob e=>x2.keep b ob (c.st b ob e) fnm fnm
 have cs3:G.base.StaysIn s3.heap:=fun b ob e=>x3.keep b ob (cs2 b ob e) fnm fnm
 k_steps
 rename Fr _ _ _ _=>F4
 rename News _ _ _ _=>N4
 rename_i rd h3 l1 h4
 have xf:=fun tk=>ext_led (s₂:=s3) (fr:=[]) (fp:=[]) (tk:=tk) (F3k trivial) F4 N4 hr fn0 (fun q hq=>by k_mem)
 have fd:s3.heap.get? rd=none:=new2 hr N4 (.head _) fn0 l1
 refine post s3 o3 a0 lr0 a1 lr1 x13 ag13 ok3 (hB.mono (ext_kp (s:=s) x13 ag13 _)) (st.mono (ext_kp (s:=s) x13 ag13 (fun _=>True)).one) (fun ga wa=>(rd0 ga wa).keep st.sq (by decide) cs2 cs3 (K3 _)) rd1 _ rd _ (xf _) F4 fd (News.get N4 (.head _)) rfl
end
theorem add_ls {prog:Program}{w:World}{A:Around}{E:Value→Shared→Prop}{s:Shared}{h₀:Heap}{L a b n k:Nat}{m:Str→Option Value}{news:List (Addr × Obj)}{xs ys:List Value}{Q:Value→Shared→Prop}(F:Fr h₀ L s.heap m) (N:News h₀ L s.heap news) (ea:s.heap.get? a=some (W.listOf xs.toArray n)) (eb:s.heap.get? b=some (W.listOf ys.toArray k)) (hz:xs.length+ys.length≤1000)
  (h:∀ D h',Fr h₀ L h' m→News h₀ L h' ((D,W.listOf (xs++ys).toArray 0) :: news)→(∀ p∈news,p.1 < D)→Q (.ref D) { s with heap:=h' }):wpAny (model prog w) A (binaryOp .Add (.ref a) (.ref b)) Q E s :=
 add_arrays (its:=xs.toArray) (its2:=ys.toArray) F N ⟨_,ea,rfl,_,rfl⟩ ⟨_,eb,rfl,_,rfl⟩ (fun h' F' N'=>h _ h' F' N' fun p hp=>Heap.lt_size (N p hp).1) (by simp only [List.size_toArray,sizeLine];exact za hz rfl)
theorem item_dict {prog:Program}{w:World}{A:Around}{E:Value→Shared→Prop}{s:Shared}{value slice:PySem.Expr}{d:Nat}{o:Obj}{kvs:List (Int × Value)}{k:Int}{t:Nat}{v:Value}{Q:Value→Shared→Prop}(e:s.heap.get? d=some o) (hd:o.IsDictOf (intKind prog w) kvs) (hl:valueAt kvs k=some v) (h:Q v { s with toks:=s.toks+1 })
  (hs:subscripted slice false (.ref d) (.int k t)=operate [.ref d,.int k t] (getItem (.ref d) (.int k t)):=by with_unfolding_all rfl) (hg:∀ r,letTemporaryGo value (.ref d) r=pure ():=by intro _;with_unfolding_all rfl):wpAny (model prog w) A (subscriptTail value slice (.ref d) (.int k t)) Q E s :=
 have hD:s.heap.DictOf (intKind prog w) d kvs:=Heap.dictOf_iff.mpr (wi1_2 o e hd)
 subscriptTail_builtin hD.typeIs slot_dict_getitem.lookup (wpAny_getItem_of (by simp [intKind,Value.isInt]) hD.mapOf hl h) hs hg
section
variable {G:Gr}{A:Around}{outer:List Env}{d u:Nat}{s:Shared}{L fa:Nat}{cd:Value}{m:Str→Option Value}{Q:Flow→Shared→Prop}{E:Value→Shared→Prop}
theorem whose_ (c:Cx G A (LE L fa cd :: outer) d u s.heap) (F:Fr G.base L s.heap m)
  (post:∀ s' a t1 t2,Ext [] [L] [] s s'→Fr G.base L s'.heap (fun z=>if z=Str.ofString "whose" then some (.ref a) else m z)→s.heap.get? a=none→s'.heap.get? a=some (lstObj #[.int 0 t1,.int 0 t2] 0)→Q .next s'):wpAny (model PR G.w) A (exec lw7 (LE L fa cd)) Q E s:=by
 refine cx_open c ?_;clear c;intro ad ag au c
 have X:=G.X
 have T:=G.T
 (refine xe1_3 (ledger2 (g:=G.base) (L:=L) (h:=s.heap) (ex:=[]) fn0) ?_;rintro rest N - hr)
 simp only [List.nil_append] at N
 have Fk:True→Fr G.base L s.heap _:=fun _=>F
 unfold lw7
 dsimp only
 k_steps
 rename Fr _ _ _ _=>F1
 rename News _ _ _ _=>N1
 rename_i a h1 l1 h2
 exact post _ a _ _ (ext_led (s₂:=s) (fr:=[]) (fp:=[]) (Fk trivial) F1 N1 hr fn0 (fun q hq=>by k_mem)) F1 (new2 hr N1 (.head _) fn0 l1) (News.get N1 (.head _))
theorem got_ (c:Cx G A (LE L fa cd :: outer) d u s.heap) (F:Fr G.base L s.heap m)
  (post:∀ s' a g0 g1,Ext [] [L] [] s s'→Fr G.base L s'.heap (fun z=>if z=Str.ofString "got" then some (.ref a) else m z)→(∀ b∈[a,g0,g1],s.heap.get? b=none)→@Ne Nat g0 g1→@Ne Nat g0 a→@Ne Nat g1 a→s'.heap.get? a=some (lstObj #[.ref g0,.ref g1] 0)→s'.heap.get? g0=some (lstObj #[] 0)→s'.heap.get? g1=some (lstObj #[] 0)→Q .next s'):wpAny (model PR G.w) A (exec lw9 (LE L fa cd)) Q E s:=by
 refine cx_open c ?_;clear c;intro ad ag au c
 have X:=G.X
 have T:=G.T
 (refine xe1_3 (ledger2 (g:=G.base) (L:=L) (h:=s.heap) (ex:=[]) fn0) ?_;rintro rest N - hr)
 simp only [List.nil_append] at N
 have Fk:True→Fr G.base L s.heap _:=fun _=>F
 unfold lw9
 dsimp only
 k_steps
 rename Fr _ _ _ _=>F1
 rename News _ _ _ _=>N1
 rename_i g0 h1 l1 g1 h2 l2 a h3 l3 h4
 exact post _ a g0 g1 (ext_led (s₂:=s) (fr:=[]) (fp:=[]) (Fk trivial) F1 N1 hr fn0 (fun q hq=>by k_mem)) F1 (fq (new2 hr N1 (.head _) fn0 (allLt_mem l3.2.2)) (fq (new2 (o':=W.listOf #[] 0) hr N1 (.tail _ (.tail _ (.head _))) fn0 l1) (fq (new2 (o':=W.listOf #[] 0) hr N1 (.tail _ (.head _)) fn0 (allLt_mem l2.2)) fn0)))
  (Nat.ne_of_lt l2.1) (Nat.ne_of_lt l3.2.1) (Nat.ne_of_lt l3.1) (News.get N1 (.head _)) (News.get N1 (.tail _ (.tail _ (.head _)))) (News.get N1 (.tail _ (.head _)))
theorem asked_ (c:Cx G A (LE L fa cd :: outer) d u s.heap) (F:Fr G.base L s.heap m)
  (post:∀ s' a,Ext [] [L] [] s s'→Fr G.base L s'.heap (fun z=>if z=Str.ofString "asked" then some (.ref a) else m z)→s.heap.get? a=none→s'.heap.get? a=some (lstObj #[] 0)→Q .next s'):wpAny (model PR G.w) A (exec lw10 (LE L fa cd)) Q E s:=by
 refine cx_open c ?_;clear c;intro ad ag au c
 have X:=G.X
 have T:=G.T
 (refine xe1_3 (ledger2 (g:=G.base) (L:=L) (h:=s.heap) (ex:=[]) fn0) ?_;rintro rest N - hr)
 simp only [List.nil_append] at N
 have Fk:True→Fr G.base L s.heap _:=fun _=>F
 unfold lw10
 dsimp only
 k_steps
 rename Fr _ _ _ _=>F1
 rename News _ _ _ _=>N1
 rename_i a h1 l1 h2
 exact post _ a (ext_led (s₂:=s) (fr:=[]) (fp:=[]) (Fk trivial) F1 N1 hr fn0 (fun q hq=>by k_mem)) F1 (new2 hr N1 (.head _) fn0 l1) (News.get N1 (.head _))
theorem whole_ {rl r0 kr k0:Nat}{ys V:List Value}(c:Cx G A (LE L fa cd :: outer) d u s.heap) (F:Fr G.base L s.heap m) (c2:s.heap.IsCell (L+1+1) (some (.ref rl))) (o1:s.heap.get? rl=some (lstObj ys.toArray kr)) (h0:ys[(0:Int).toNat]?=some (.ref r0)) (o2:s.heap.get? r0=some (lstObj V.toArray k0)) (hV:V.length≤4) (ob:∀ b∈[L+1+1,rl,r0],G.base.get? b=none) (nL:∀ b∈[L+1+1,rl,r0],b≠L)
  (post:∀ s' a w1,Ext [] [L] [] s s'→Fr G.base L s'.heap (fun z=>if z=Str.ofString "whole" then some (.ref a) else m z)→(∀ b∈[a,w1],s.heap.get? b=none)→@Ne Nat w1 a→s'.heap.get? a=some (lstObj #[.ref r0,.ref w1] 0)→s'.heap.get? w1=some (lstObj (V++lateW 0).toArray 0)→Q .next s'):wpAny (model PR G.w) A (exec lw8 (LE L fa cd)) Q E s:=by
 have:=@on "binaryOp Add ref ref"
 have:=@on "sub"
 refine cx_open c ?_;clear c;intro ad ag au c
 have X:=G.X
 have T:=G.T
 refine xe1_2 (id c2) fun oc ec hc=>?_
 apply hide;intro _ kι;obtain ⟨rest,N,-,hr⟩:=ledger2 (g:=G.base) (L:=L) (h:=s.heap) (ex:=[(L+1+1,oc),(rl,lstObj ys.toArray kr),(r0,lstObj V.toArray k0)]) (fq (yi3 ec (nL _ zm0) (ob _ zm0)) (fq (yi3 o1 (nL _ zm1) (ob _ zm1)) (fq (yi3 o2 (nL _ zm2) (ob _ zm2)) fn0)));apply kι
 simp only [List.cons_append,List.nil_append] at N
 have Fk:True→Fr G.base L s.heap _:=fun _=>F
 unfold lw8
 dsimp only
 k_steps
 iterate 2 (refine kim_list (by k_asm) (by k_dflt k_mem) rfl rfl (by omega) (by omega) (by with_reducible assumption) ?_;k_steps)
 have F0:=Fk trivial
 refine xe1_2 (late_dict G) fun oa ea ha=>?_
 refine item_dict (F0.keep _ _ ea) ha (late_val 0 (by exact zq162)) ?_
 k_steps
 refine add_ls (xs:=V) (ys:=lateW 0) F0 N o2 (F0.keep _ _ (late_list G 0 (by exact zq162))) (by simp [lateW];exact za hV rfl) fun w1 h1 F1 N1 l1=>?_
 clear F0 N
 k_steps
 rename Fr _ _ _ _=>F2
 rename News _ _ _ _=>N2
 rename_i a h2 l2 h3
 have hA:∀ p∈[(L+1+1,oc),(rl,lstObj ys.toArray kr),(r0,lstObj V.toArray k0)],s.heap.get? p.1=some p.2:=fq ec (fq o1 (fq o2 fn0))
 have lx:∀ p∈[(L+1+1,oc),(rl,lstObj ys.toArray kr),(r0,lstObj V.toArray k0)],p.1 < w1:=fq (l1 _ (.head _)) (fq (l1 _ (.tail _ (.head _))) (fq (l1 _ (.tail _ (.tail _ (.head _)))) fn0))
 have lw:w1 < a:=l2.1
 exact post _ a w1 (ext_led (s₂:=s) (fr:=[]) (fp:=[]) (Fk trivial) F2 N2 hr (fun p hp=>⟨hA p hp,.inl (by simp only [List.mem_cons,List.not_mem_nil,or_false] at hp;rcases hp with hp | hp | hp <;> replace hp:=hp.symm <;> subst hp <;> k_mem)⟩) (fun q hq=>by k_mem)) F2 (fq (new2 hr N2 (.head _) (fun p hp=>Nat.lt_trans (lx p hp) lw) (fun p hp=>Nat.lt_trans (l1 p (.tail _ (.tail _ (.tail _ hp)))) lw)) (fq (new2 (o':=W.listOf (V++lateW 0).toArray 0) hr N2 (.tail _ (.head _)) lx (fun p hp=>l1 p (.tail _ (.tail _ (.tail _ hp))))) fn0)) (Nat.ne_of_lt lw) (News.get N2 (.head _)) (News.get N2 (.tail _ (.head _)))
end
theorem Cx.at1 {G:Gr}{A:Around}{d u L fa:Nat}{cd:Value}{h h':Heap}{m:Str→Option Value}(c:Cx G A [LE L fa cd] d u h) (F:Fr G.base L h' m):Cx G A [LE L fa cd] d u h':=by
 (refine hide fun Zq kZ=>?_;refine xe0_3 c.ff ?_;rintro hk ⟨L',o,hf,hn,ho,hd⟩ hr;all_goals (refine kZ ?_;clear kZ Zq))
 obtain rfl:L=L':=Option.some.inj hf
 refine xe3_3 F.ns fun oL es ep eL hdL _=>?_
 exact ⟨F.keep,c.hd,c.fr,⟨hk,(wi2_4 L oL rfl hn eL (fun vs q=>by rw [hdL] at q;(replace q:=Eq.symm q;cases q))),trivial⟩,c.dp,c.un⟩
theorem extL_kp {o o':Own}{s s':Shared}{fp:List Nat}(x:Ext [] fp [] s s') (ag:Agree o o' s) (M:Nat→Prop) (h:∀ b∈fp,¬ M (o.a b)∧o.a b≠1):Kp M o s o' s' :=
 ⟨fun b ob e t=>⟨x.keep b ob e (fun q=>by have:=h b q;exact t.elim this.1 this.2) fnm,ag.1 b ob e⟩,fun g v e _=>⟨x.gkeep g v e fnm,ag.2 g v e⟩⟩
structure Pre (G:Gr) (C:Cs) (o:Own) (s:Shared):Prop where
 ok:OwnOk G o
 tL:o.a C.L=0
 c1:s.heap.IsCell (C.L+1) (some (.ref C.nl))
 c2:s.heap.IsCell (C.L+1+1) (some (.ref C.rl))
 c3:s.heap.IsCell (C.L+1+1+1) (some (.ref C.ml))
 onl:∃ nv n,IntsAre nv C.ns∧s.heap.get? C.nl=some (W.listOf nv.toArray n)∧nv.length≤30
 orl:∃ n,s.heap.get? C.rl=some (lstObj (rrL C).toArray n)
 oml:∃ n,s.heap.get? C.ml=some (lstObj #[.ref (C.P.mm 0),.ref (C.P.mm 1)] n)
 rows:∀ k,k < 5→RowAt (fun b=>o.a b=1) s.heap k (szOf C.ns k) (C.rr k) (C.VV k)
 pr:∀ k,k < 5→Pairs o s.heap k (szOf C.ns k) (C.P.WV k)
 ovw:∃ n,s.heap.get? C.vw=some (lstObj (vaL C.P).toArray n)
 t1:∀ b∈[C.L+1,C.L+1+1,C.L+1+1+1,C.nl,C.rl,C.ml,C.vw],o.a b=1
 sq:∀ k,2≤k→k < 5→SeqT (C.P.T k)
 bj:BJ G C.P (none,none) o s
 m63:o.a 263=1
 e63:∃ tb,s.heap.get? 263=some (tabObj tb)
noncomputable def own3 (base:Heap) (L m0 m1:Nat):Own:=⟨open Classical in fun b=>if b=249 then 103 else if b=m0 then 2 else if b=m1 then 3 else if b=L∨b=263∨(∃ ob,base.get? b=some ob) then 0 else 1,fun _=>0⟩
theorem tabT0 {G:Gr}{h:Heap}(e:h.get? 249=some (tabObj #[])):TabT G h none:=by
 obtain ⟨⟨qn,ps,b,sc,pos⟩,q⟩:∃ x,lamIn ((hd.heap_1 G.w.params).lookup 254) 0=some x:=Option.isSome_iff_exists.mp (by kernel_rfl)
 exact ⟨qn,ps,b,sc,pos,#[],q,e,.inl ⟨rfl,rfl⟩⟩
theorem list5 {vs:List Value}(h:vs.length=5) {f:Nat→Nat}(hf:∀ k,k < 5→vs[k]?=some (.ref (f k))):vs=[.ref (f 0),.ref (f 1),.ref (f 2),.ref (f 3),.ref (f 4)]:=by
 refine List.ext_getElem? fun k=>?_
 by_cases hk:k < 5
 ·rw [hf k hk]
  rcases zq44 hk with h | h | h | h | h <;> rw [h] <;> rfl
 ·rw [List.getElem?_eq_none (by rw [h];exact Nat.le_of_not_lt hk)]
  exact (List.getElem?_eq_none (Nat.le_of_not_lt hk)).symm
theorem setupA {G:Gr}{A:Around}{d u L fa sa:Nat}{cd:Value}{s:Shared}{sv:List Value}{ss:List Int}{m:Str→Option Value}{r:List Stmt}{Q:Flow→Shared→Prop}{E:Value→Shared→Prop}
  (c:Cx G A [LE L fa cd] (d+3) (u+4) s.heap) (F:Fr G.base L s.heap (fun z=>if z=Str.ofString "script" then some (.ref sa) else m z)) (hs:G.base.IsList sa sv.toArray) (hI:IntsAre sv ss) (hl:sv.length≤63)
  (c1:s.heap.IsCell (L+1) none) (c2:s.heap.IsCell (L+1+1) none) (c3:s.heap.IsCell (L+1+1+1) none) (ob:∀ b∈[L+1,L+1+1,L+1+1+1],G.base.get? b=none) (nL:G.base.get? L=none) (e9:s.heap.get? 249=some (tabObj #[])) (e3:s.heap.get? 263=some (tabObj #[]))
  (post:∀ s' C o,C.L=L→C.ns=ss.take 30→Ext [] [L,L+1,L+1+1,L+1+1+1,263] [] s s'→Pre G C o s'→Fr G.base L s'.heap (fun z=>if z=Str.ofString "views" then some (.ref C.vw) else if z=Str.ofString "script" then some (.ref sa) else m z)→wpAny (model PR G.w) A (execs r (LE L fa cd)) Q E s') :
  wpAny (model PR G.w) A (execs (lw0 :: lw1 :: lw2 :: lw3 :: r) (LE L fa cd)) Q E s:=by
 have ob1:=ob (L+1) zm0
 have ob2:=ob (L+1+1) zm1
 have ob3:=ob (L+1+1+1) zm2
 have n1L:@Ne Nat (L+1) L:=by exact zq69
 have n2L:@Ne Nat (L+1+1) L:=by exact zq37
 have n3L:@Ne Nat (L+1+1+1) L:=by exact zq67
 have n12:@Ne Nat (L+1) (L+1+1):=by exact zq14
 have n13:@Ne Nat (L+1) (L+1+1+1):=by exact zq70
 have n23:@Ne Nat (L+1+1) (L+1+1+1):=by exact zq71
 refine xe1_2 (id c1) fun oc1 ec1 hc1=>?_
 refine xe1_2 (id c2) fun oc2 ec2 hc2=>?_
 refine xe1_2 (id c3) fun oc3 ec3 hc3=>?_
 refine xe3_3 (id F.ns) fun oL es ep eL hdL _=>?_
 have nz:∀ {h:Heap}{a b:Nat}{oa:Obj},h.get? a=some oa→h.get? b=none→a≠b:=fun e f q=>by rw [q,f] at e;exact nsf e
 refine wpAny_execs_cons (numbers_ c F hs hI hl c1 ob1 fun s1 nl nv nn x1 F1 k1 fnl onl hI1 hl1=>?_)
 have keep1:∀ b ob,s.heap.get? b=some ob→b≠L→b≠L+1→s1.heap.get? b=some ob:=fun b ob e q1 q2=>x1.keep b ob e (by simp [q1,q2]) fnm
 have cx1:=c.at1 F1
 refine wpAny_execs_cons (rows_ (d:=d+2) (u:=u+1) cx1 F1 onl (none_st c.st fnl) hI1 (by exact zb hl1 rfl) k1 ⟨oc2,keep1 _ _ ec2 n2L n12.symm,hc2⟩ ob1 fun s2 rl nr ys x2 g2 k2 frl orl hy hrows=>?_)
 have F2:=Fr.ext F1 x2 (by simpa using n2L.symm) (fun b hb=>by rw [List.mem_singleton.mp hb];exact ob2) fn0
 have keep2:∀ b ob,s1.heap.get? b=some ob→b≠L+1+1→s2.heap.get? b=some ob:=fun b ob e q=>x2.keep b ob e (by simp [q]) fnm
 refine wpAny_execs_cons (made_ (c.at1 F2) F2 ⟨oc3,keep2 _ _ (keep1 _ _ ec3 n3L n13.symm) n23.symm,hc3⟩ ob3 fun s3 ml m0 m1 x3 F3 k3 fm n01 oml om0 om1=>?_)
 have keep3:∀ b ob,s2.heap.get? b=some ob→b≠L→b≠L+1+1+1→s3.heap.get? b=some ob:=fun b ob e q1 q2=>x3.keep b ob e (by simp [q1,q2]) fnm
 have fml:=fm ml zm0;have fm0:=fm m0 zm1;have fm1:=fm m1 zm2
 have st2:G.base.StaysIn s2.heap:=F2.keep
 have b249:s2.heap.get? 249=some (tabObj #[]):=keep2 _ _ (keep1 _ _ e9 (fun q=>by rw [← q,e9] at eL;(replace eL:=Eq.symm eL;cases eL);cases hdL) (fun q=>by rw [← q,e9] at ec1;cases ec1;cases hc1)) (fun q=>by rw [← q,e9] at ec2;cases ec2;cases hc2)
 have b263:s2.heap.get? 263=some (tabObj #[]):=keep2 _ _ (keep1 _ _ e3 (fun q=>by rw [← q,e3] at eL;(replace eL:=Eq.symm eL;cases eL);cases hdL) (fun q=>by rw [← q,e3] at ec1;(replace ec1:=Eq.symm ec1;cases ec1);cases hc1)) (fun q=>by rw [← q,e3] at ec2;(replace ec2:=Eq.symm ec2;cases ec2);cases hc2)
 have c249:s3.heap.get? 249=some (tabObj #[]):=keep3 _ _ b249 (fun q=>by rw [← q,e9] at eL;(replace eL:=Eq.symm eL;cases eL);cases hdL) (fun q=>by rw [← q,e9] at ec3;(replace ec3:=Eq.symm ec3;cases ec3);cases hc3)
 have c263:s3.heap.get? 263=some (tabObj #[]):=keep3 _ _ b263 (fun q=>by rw [← q,e3] at eL;(replace eL:=Eq.symm eL;cases eL);cases hdL) (fun q=>by rw [← q,e3] at ec3;cases ec3;cases hc3)
 have F3k:=F3.keep
 have ok3:OwnOk G (own3 G.base L m0 m1):=fun a h=>by
  unfold own3 at h
  dsimp only at h
  split at h
  ·rename_i q;rw [q];exact G.n1
  ·split at h
   ·rename_i q;rw [q];exact none_st st2 fm0
   ·split at h
    ·rename_i q;rw [q];exact none_st st2 fm1
    ·split at h
     ·exact absurd rfl h
     ·rename_i q
      cases e:G.base.get? a with
      | none=>rfl
      | some ob=>exact absurd (.inr (.inr ⟨ob,e⟩)) q
 have one:∀ b,b≠249→b≠m0→b≠m1→b≠L→b≠263→G.base.get? b=none→(own3 G.base L m0 m1).a b=1:=fun b q1 q2 q3 q4 q5 q6=>by
  unfold own3
  dsimp only
  rw [if_neg q1,if_neg q2,if_neg q3,if_neg]
  rintro (h | h | ⟨ob,h⟩)
  ·exact q4 h
  ·exact q5 h
  ·rw [q6] at h;exact nsf h
 refine xe3_3 (id F2.ns) fun oL2 es2 ep2 eL2 hdL2 _=>?_
 have tL:(own3 G.base L m0 m1).a L=0:=by
  unfold own3
  dsimp only
  rw [if_neg (fun q=>by rw [q,b249] at eL2;(replace eL2:=Eq.symm eL2;cases eL2);cases hdL2),if_neg (nz eL2 fm0),if_neg (nz eL2 fm1),if_pos (.inl rfl)]
 have t263:(own3 G.base L m0 m1).a 263=0:=by
  unfold own3
  dsimp only
  rw [if_neg (by decide),if_neg (nz b263 fm0),if_neg (nz b263 fm1),if_pos (.inr (.inl rfl))]
 have t249:(own3 G.base L m0 m1).a 249=103:=by unfold own3;dsimp only;exact if_pos rfl
 have tm0:(own3 G.base L m0 m1).a m0=2:=by
  unfold own3
  dsimp only
  rw [if_neg (nz b249 fm0).symm,if_pos rfl]
 have tm1:(own3 G.base L m0 m1).a m1=3:=by
  unfold own3
  dsimp only
  rw [if_neg (nz b249 fm1).symm,if_neg n01.symm,if_pos rfl]
 have kc:∀ c' oc,s.heap.get? c'=some oc→(∃ v,oc.data=.cell v)→G.base.get? c'=none→(own3 G.base L m0 m1).a c'=1:=fun c' oc e ⟨v,hd⟩ hb=>by
  obtain ⟨o1,q1⟩:=x1.there _ _ e
  obtain ⟨o2,q2⟩:=x2.there _ _ q1
  refine one c' (fun q=>by rw [q,e9] at e;cases e;cases hd) (nz q2 fm0) (nz q2 fm1) (fun q=>by rw [q,eL] at e;(replace e:=Eq.symm e;cases e);rw [hd] at hdL;(replace hdL:=Eq.symm hdL;cases hdL)) (fun q=>by rw [q,e3] at e;cases e;cases hd) hb
 have t1:=kc _ _ ec1 ⟨_,hc1⟩ ob1
 have t2:=kc _ _ ec2 ⟨_,hc2⟩ ob2
 have t3:=kc _ _ ec3 ⟨_,hc3⟩ ob3
 have old2:∀ b ob,s.heap.get? b=none→s2.heap.get? b=some ob→(own3 G.base L m0 m1).a b=1:=fun b ob f e=>one b (fun q=>by rw [q,e9] at f;exact nsf f.symm) (nz e fm0) (nz e fm1) (nz eL f).symm (fun q=>by rw [q,e3] at f;exact nsf f.symm) (none_st c.st f)
 have onl2:=keep2 _ _ onl (nz ec2 fnl).symm
 have onl3:=keep3 _ _ onl2 (nz eL fnl).symm (nz ec3 fnl).symm
 have frl0:=x1.fresh frl
 have orl3:=keep3 _ _ orl (nz eL frl0).symm (nz ec3 frl0).symm
 have tnl:=old2 nl _ fnl onl2
 have trl:=old2 rl _ frl0 orl
 have n249ml:(249:Nat)≠ml:=nz b249 fml
 have tml:(own3 G.base L m0 m1).a ml=1:=one ml n249ml.symm (fun q=>by rw [q,om0] at oml;(replace oml:=Eq.symm oml;cases oml)) (fun q=>by rw [q,om1] at oml;(replace oml:=Eq.symm oml;cases oml)) (nz eL2 fml).symm (nz b263 fml).symm (none_st st2 fml)
 have hy5:∀ k,k < 5→∃ rV:Nat × List Value,ys[k]?=some (.ref rV.1)∧RowAt (fun b=>(own3 G.base L m0 m1).a b=1) s3.heap k (szOf (ss.take 30) k) rV.1 rV.2:=fun k hk=>by
  obtain ⟨v,hv⟩:∃ v,ys[k]?=some v:=⟨_,List.getElem?_eq_getElem (by exact zq163 hy hk)⟩
  (refine xe2_2 (hrows k v hv) ?_;rintro r V rfl row)
  refine (wi1_2 (r,V) hv ?_)
  (refine xe0_4 row ?_;rintro q1 ⟨qn,q2⟩ q3 q4)
  have up:∀ b ob,s1.heap.get? b=none→s2.heap.get? b=some ob→(own3 G.base L m0 m1).a b=1∧s3.heap.get? b=some ob:=fun b ob f e=>⟨old2 b ob (x1.fresh f) e,keep3 _ _ e (nz eL (x1.fresh f)).symm (nz ec3 (x1.fresh f)).symm⟩
  refine ⟨(up _ _ q1 q2).1,⟨qn,(up _ _ q1 q2).2⟩,q3,fun j v hj=>?_⟩
  refine xe4_3 (q4 j v hj) fun T ta tb n e p1 p2=>?_
  exact ⟨T,ta,tb,n,e,(up _ _ p1 p2).1,(up _ _ p1 p2).2⟩
 obtain ⟨rV,hrV⟩:∃ rV:Nat→Nat × List Value,∀ k,k < 5→ys[k]?=some (.ref (rV k).1)∧RowAt (fun b=>(own3 G.base L m0 m1).a b=1) s3.heap k (szOf (ss.take 30) k) (rV k).1 (rV k).2 :=
  ⟨fun k=>if h:k < 5 then (hy5 k h).choose else (0,[]),fun k hk=>by simp only [dif_pos hk];exact (hy5 k hk).choose_spec⟩
 have k2':s3.heap.IsCell (L+1+1) (some (.ref rl)):=by refine xe1_2 k2 fun o e h=>?_;exact ⟨o,keep3 _ _ e n2L n23,h⟩
 refine wpAny_execs_cons (views_ (d:=d) (u:=u) (rr:=fun k=>(rV k).1) (VV:=fun k=>(rV k).2) (c.at1 F3) F3 ok3 orl3 oml hy k2' k3 (fq t2 (fq t3 (fq trl (fq tml fn0)))) tL t263 t249 hrV ⟨_,om0⟩ ⟨_,om1⟩ tm0 tm1 c263 (tabT0 c249) fun s4 vw nv4 o4 vs x4 F4 ag4 ok4 fvw tvw ovw hvs hV g63=>?_)
 have m63:o4.a 263=0:=(ag4.1 _ _ c263).trans t263
 have K63:Kp FM2 o4 s4 (o4.mark 263 1) s4:=Own.mark_kp FM2 m63 fm2_0
 have hV:∀ (k:Nat) (v:Value),vs[k]?=some v→∃ a,v=.ref a∧VOk G (o4.mark 263 1) s4 k (szOf (ss.take 30) k) a (rV k).2 (if k % 2=0 then m0 else m1)∧s3.heap.get? a=none:=fun k v hv=>let ⟨a,e,vo,f⟩:=hV k v hv;⟨a,e,vo.mono K63,f⟩
 have ok4:=Own.mark_ok (t:=1) ok4 G.n2
 have agm:∀ b ob,s3.heap.get? b=some ob→b≠263→(o4.mark 263 1).a b=(own3 G.base L m0 m1).a b:=fun b ob e h=>(Own.mark_ne _ h).trans (ag4.1 b ob e)
 have tvw:=(Own.mark_ne o4 (b:=263) (t:=1) (x:=vw) (fun q=>by rw [q] at fvw;rw [c263] at fvw;exact nsf fvw.symm)).trans tvw
 have t63:(o4.mark 263 1).a 263=1:=Own.mark_at ..
 obtain ⟨o5,ho5⟩:∃ o5,o4.mark 263 1=o5:=⟨_,rfl⟩
 rw [ho5] at ok4 tvw t63
 simp only [ho5] at hV agm
 have keep4:∀ b ob,s3.heap.get? b=some ob→(own3 G.base L m0 m1).a b=1→s4.heap.get? b=some ob∧o5.a b=(own3 G.base L m0 m1).a b:=fun b ob e t=>⟨x4.keep b ob e (fun q=>by
  simp only [List.mem_cons,List.not_mem_nil,or_false] at q
  rcases q with q | q <;> replace q:=q.symm <;> subst q
  ·rw [t263] at t;(replace t:=Eq.symm t;cases t)
  ·rw [tL] at t;(replace t:=Eq.symm t;cases t)) fnm,agm b ob e (fun q=>by rw [q,t263] at t;(replace t:=Eq.symm t;cases t))⟩
 have hV5:∀ k,k < 5→∃ a,vs[k]?=some (.ref a)∧VOk G o5 s4 k (szOf (ss.take 30) k) a (rV k).2 (if k % 2=0 then m0 else m1):=fun k hk=>by
  obtain ⟨v,hv⟩:∃ v,vs[k]?=some v:=⟨_,List.getElem?_eq_getElem (by exact zq163 hvs hk)⟩
  (refine xe1_3 (hV k v hv) ?_;rintro a rfl vo _)
  exact (wi1_2 a hv vo)
 obtain ⟨va,hva⟩:∃ va:Nat→Nat,∀ k,k < 5→vs[k]?=some (.ref (va k))∧VOk G o5 s4 k (szOf (ss.take 30) k) (va k) (rV k).2 (if k % 2=0 then m0 else m1) :=
  ⟨fun k=>if h:k < 5 then (hV5 k h).choose else 0,fun k hk=>by simp only [dif_pos hk];exact (hV5 k hk).choose_spec⟩
 obtain ⟨dv0,f0,fac0⟩:∃ dv f,Fac G 0 o5 s4 (rV 0).2 (va 0) dv f m0 none:=by have:=(hva 0 (by decide)).2;unfold VOk at this;simpa using this
 obtain ⟨dv1,f1,fac1⟩:∃ dv f,Fac G 1 o5 s4 (rV 1).2 (va 1) dv f m1 none:=by have:=(hva 1 (by decide)).2;unfold VOk at this;simpa using this
 have hS:∀ k,2≤k→k < 5→∃ x:Nat × Nat × List Value × String,SeqB G o5 s4 x.2.2.1 (va k) x.1 x.2.1 x.2.2.2∧Pairs o5 s4.heap k (szOf (ss.take 30) k) x.2.2.1∧SeqT x.2.2.2:=fun k h2 hk=>by
  have:=(hva k hk).2
  unfold VOk at this
  rw [if_neg (by exact zq164 h2)] at this
  refine xe4_3 this fun dv q W T h1 h2 h3=>?_
  exact (wi1_3 (dv,q,W,T) h1 h2 h3)
 obtain ⟨S,hS⟩:∃ S:Nat→Nat × Nat × List Value × String,∀ k,2≤k→k < 5→SeqB G o5 s4 (S k).2.2.1 (va k) (S k).1 (S k).2.1 (S k).2.2.2∧Pairs o5 s4.heap k (szOf (ss.take 30) k) (S k).2.2.1∧SeqT (S k).2.2.2 :=
  ⟨fun k=>if h:2≤k∧k < 5 then (hS k h.1 h.2).choose else (0,0,[],""),fun k h2 hk=>by have hh:2≤k∧k < 5:=⟨h2,hk⟩;simp only [dif_pos hh];exact (hS k h2 hk).choose_spec⟩
 have rows4:∀ k,k < 5→RowAt (fun b=>o5.a b=1) s4.heap k (szOf (ss.take 30) k) (rV k).1 (rV k).2:=fun k hk=>by
  (refine xe0_4 ((hrV k hk).2) ?_;rintro q1 ⟨qn,q2⟩ q3 q4)
  refine ⟨(keep4 _ _ q2 q1).2.trans q1,⟨qn,(keep4 _ _ q2 q1).1⟩,q3,fun j v hj=>?_⟩
  refine xe4_3 (q4 j v hj) fun T ta tb n e p1 p2=>?_
  exact ⟨T,ta,tb,n,e,(keep4 _ _ p2 p1).2.trans p1,(keep4 _ _ p2 p1).1⟩
 have cell4:∀ b v,s3.heap.IsCell b v→(own3 G.base L m0 m1).a b=1→s4.heap.IsCell b v:=fun b v ⟨o,e,h⟩ t=>⟨o,(keep4 _ _ e t).1,h⟩
 have k13:s3.heap.IsCell (L+1) (some (.ref nl)):=by refine xe1_2 k1 fun o e h=>?_;exact ⟨o,keep3 _ _ (keep2 _ _ e n12) n1L n13,h⟩
 have t4:∀ b,(own3 G.base L m0 m1).a b=1→(∃ ob,s3.heap.get? b=some ob)→o5.a b=1:=fun b t ⟨ob,e⟩=>(keep4 b ob e t).2.trans t
 refine xe1_2 (id k13) fun _ ek1 _=>?_
 refine xe1_2 (id k2') fun _ ek2 _=>?_
 refine xe1_2 (id k3) fun _ ek3 _=>?_
 have tL4:o5.a L=0:=by refine xe3_3 F3.ns fun oL3 _ _ eL3 hdL3 _=>?_;exact (agm _ _ eL3 (fun q=>by rw [q,c263] at eL3;(replace eL3:=Eq.symm eL3;cases eL3);cases hdL3)).trans tL
 let P:Lw:={ va:=va,dv:=fun k=>if k=0 then dv0 else if k=1 then dv1 else (S k).1,f:=fun k=>if k=0 then f0 else f1,mm:=fun k=>if k=0 then m0 else m1,q:=fun k=>(S k).2.1,T:=fun k=>(S k).2.2.2,WV:=fun k=>if k≤1 then (rV k).2 else (S k).2.2.1 }
 let C:Cs:={ L:=L,nl:=nl,rl:=rl,ml:=ml,rr:=fun k=>(rV k).1,VV:=fun k=>(rV k).2,ns:=ss.take 30,vw:=vw,ba:=0,dba:=0,mba:=0,aba:=0,sh:=0,dsh:=0,msh:=0,rd:=0,wh:=0,wo:=0,gt:=0,ak:=0,P:=P }
 have X:Ext [] [L,L+1,L+1+1,L+1+1+1,263] [] s s4:=by
  have mm5:∀ b,b∈[L,L+1]→b∈[L,L+1,L+1+1,L+1+1+1,263]:=fun b hb=>by simp only [List.mem_cons,List.not_mem_nil,or_false] at hb ⊢;rcases hb with h | h <;> simp only [h,true_or,or_true]
  have mm6:∀ b,b∈[L+1+1]→b∈[L,L+1,L+1+1,L+1+1+1,263]:=fun b hb=>by rw [List.mem_singleton.mp hb];simp only [List.mem_cons,true_or,or_true]
  have mm7:∀ b,b∈[L,L+1+1+1]→b∈[L,L+1,L+1+1,L+1+1+1,263]:=fun b hb=>by simp only [List.mem_cons,List.not_mem_nil,or_false] at hb ⊢;rcases hb with h | h <;> simp only [h,true_or,or_true]
  have mm8:∀ b,b∈[263,L]→b∈[L,L+1,L+1+1,L+1+1+1,263]:=fun b hb=>by simp only [List.mem_cons,List.not_mem_nil,or_false] at hb ⊢;rcases hb with h | h <;> simp only [h,true_or,or_true]
  have e1:Ext [] [L,L+1,L+1+1,L+1+1+1,263] [] s s1:=x1.weak (fun b hb=>.inl (mm5 b hb)) fn0 fn0
  have e2:=e1.trans x2 (fun b hb=>.inl (mm6 b hb)) fn0
  have e3:=e2.trans x3 (fun b hb=>.inl (mm7 b hb)) fn0
  exact e3.trans x4 (fun b hb=>.inl (mm8 b hb)) fn0
 refine post s4 C o5 rfl rfl X ⟨ok4,tL4,cell4 _ _ k13 t1,cell4 _ _ k2' t2,cell4 _ _ k3 t3,(wi2_3 nv nn hI1 ((keep4 _ _ onl3 tnl).1) hl1),⟨nr,?_⟩,⟨0,(keep4 _ _ oml tml).1⟩,rows4,fun k hk=>?_,⟨nv4,?_⟩,?_,fun k h2 hk=>(hS k h2 hk).2.2,⟨fac0,fac1,fun k h2 hk=>?_⟩,t63,g63⟩ F4
 ·show s4.heap.get? rl=some (lstObj (List.toArray [.ref (rV 0).1,.ref (rV 1).1,.ref (rV 2).1,.ref (rV 3).1,.ref (rV 4).1]) nr)
  rw [← list5 hy (f:=fun k=>(rV k).1) fun k hk=>(hrV k hk).1]
  exact (keep4 _ _ orl3 trl).1
 ·show Pairs o5 s4.heap k (szOf (ss.take 30) k) (if k≤1 then (rV k).2 else (S k).2.2.1)
  split
  ·refine xe0_4 (rows4 k hk) fun _ _ q3 q4=>?_
   exact ⟨q3,q4⟩
  ·exact (hS k (by exact Nat.not_le.1 (by assumption)) hk).2.1
 ·show s4.heap.get? vw=some (lstObj (List.toArray [.ref (va 0),.ref (va 1),.ref (va 2),.ref (va 3),.ref (va 4)]) nv4)
  rw [← list5 hvs (f:=va) fun k hk=>(hva k hk).1]
  exact ovw
 ·exact fq (t4 _ t1 ⟨_,ek1⟩) (fq (t4 _ t2 ⟨_,ek2⟩) (fq (t4 _ t3 ⟨_,ek3⟩) (fq (t4 _ tnl ⟨_,onl3⟩) (fq (t4 _ trl ⟨_,orl3⟩) (fq (t4 _ tml ⟨_,oml⟩) (fq tvw fn0))))))
 ·show SeqB G o5 s4 (if k≤1 then (rV k).2 else (S k).2.2.1) (va k) (if k=0 then dv0 else if k=1 then dv1 else (S k).1) (S k).2.1 (S k).2.2.2
  rw [if_neg (by exact zq164 h2),if_neg (by exact zq50 h2),if_neg (by exact zq51 h2)]
  exact (hS k h2 hk).1
structure MI (G:Gr) (C:Cs) (o:Own) (w:WJ) (rs:List RdG) (az:List Int) (s:Shared):Prop where
 ok:OwnOk G o
 tL:o.a C.L=0
 st:St1 G C o s
 li:LI G C rs az o s
 bj:BJ G C.P w o s
 rx:∀ i r,rs[i]?=some r→RdX G C.P i r w o s
 ct:CntOk C w rs az
theorem Pre.mono {G:Gr}{C:Cs}{o o':Own}{s s':Shared}(x:Pre G C o s) (ok':OwnOk G o') (tL':o'.a C.L=0) (K:Kp FM2 o s o' s'):Pre G C o' s':=by
 have k:=K.one
 have t:=x.t1
 refine xe1_2 (id x.c1) fun _ e1 _=>?_;refine xe1_2 (id x.c2) fun _ e2 _=>?_;refine xe1_2 (id x.c3) fun _ e3 _=>?_
 refine xe2_3 x.onl fun nv nn hi e4 hl=>?_;obtain ⟨n5,e5⟩:=x.orl;obtain ⟨n6,e6⟩:=x.oml;obtain ⟨n7,e7⟩:=x.ovw
 have c:∀ b ob,s.heap.get? b=some ob→b∈[C.L+1,C.L+1+1,C.L+1+1+1,C.nl,C.rl,C.ml,C.vw]→s'.heap.get? b=some ob∧o'.a b=1:=fun b ob e hb=>let r:=k b ob e (t b hb);⟨r.1,r.2.trans (t b hb)⟩
 refine ⟨ok',tL',isCell_kept x.c1 (fun ob e=>(c _ _ e zm0).1),isCell_kept x.c2 (fun ob e=>(c _ _ e zm1).1),isCell_kept x.c3 (fun ob e=>(c _ _ e zm2).1),(wi2_3 nv nn hi ((c _ _ e4 zm3).1) hl),⟨n5,(c _ _ e5 zm4).1⟩,⟨n6,(c _ _ e6 zm5).1⟩,fun q hq=>?_,fun q hq=>(x.pr q hq).mono k,⟨n7,(c _ _ e7 zm6).1⟩,?_,x.sq,x.bj.mono K,(let ⟨_,e⟩:=x.e63;(k _ _ e x.m63).2.trans x.m63),(let ⟨tb,e⟩:=x.e63;⟨tb,(k _ _ e x.m63).1⟩)⟩
 ·(refine xe0_4 (x.rows q hq) ?_;rintro q1 ⟨qn,q2⟩ q3 q4)
  obtain ⟨r1,r2⟩:=k _ _ q2 q1
  refine ⟨r2.trans q1,⟨qn,r1⟩,q3,fun j v hj=>?_⟩
  refine xe4_3 (q4 j v hj) fun T ta tb n e p1 p2=>?_
  obtain ⟨z1,z2⟩:=k _ _ p2 p1
  exact ⟨T,ta,tb,n,e,z2.trans p1,z1⟩
 ·exact fq ((c _ _ e1 zm0).2) (fq ((c _ _ e2 zm1).2) (fq ((c _ _ e3 zm2).2) (fq ((c _ _ e4 zm3).2) (fq ((c _ _ e5 zm4).2) (fq ((c _ _ e6 zm5).2) (fq ((c _ _ e7 zm6).2) fn0))))))
theorem setupB {G:Gr}{A:Around}{d u fa:Nat}{cd:Value}{s:Shared}{C:Cs}{o:Own}{m:Str→Option Value}{r:List Stmt}{Q:Flow→Shared→Prop}{E:Value→Shared→Prop}
  (c:Cx G A [LE C.L fa cd] (d+3) (u+7) s.heap) (pre:Pre G C o s) (F:Fr G.base C.L s.heap (fun z=>if z=Str.ofString "views" then some (.ref C.vw) else m z))
  (post:∀ s' C' o' w rs,C'.L=C.L→C'.ns=C.ns→Ext [] [C.L] [] s s'→MI G C' o' w rs [] s'→rs.length=2→Fr G.base C.L s'.heap (LM C' m)→wpAny (model PR G.w) A (execs r (LE C.L fa cd)) Q E s') :
  wpAny (model PR G.w) A (execs (lw4 :: lw5 :: lw6 :: lw7 :: lw8 :: lw9 :: lw10 :: r) (LE C.L fa cd)) Q E s:=by
 obtain ⟨nv,ovw⟩:=pre.ovw
 refine xe3_3 (id F.ns) fun oL es ep eL hdL _=>?_
 have exL:∀ {s1:Shared}{m1:Str→Option Value},Fr G.base C.L s1.heap m1→∃ ob,s1.heap.get? C.L=some ob:=fun F1=>let ⟨o,_,_,e,_⟩:=F1.ns;⟨o,e⟩
 have neL:∀ {s1:Shared}{m1:Str→Option Value}{b:Nat},Fr G.base C.L s1.heap m1→s1.heap.get? b=none→b≠C.L:=fun F1 f q=>by obtain ⟨ob,e⟩:=exL F1;rw [q,e] at f;exact nsf f.symm
 have kpL:∀ {o o':Own}{s1 s2:Shared}(M:Nat→Prop),¬ M 0→Ext [] [C.L] [] s1 s2→Agree o o' s1→o.a C.L=0→Kp M o s1 o' s2:=fun M hM x ag tL=>extL_kp x ag M fun b hb=>by rw [List.mem_singleton.mp hb,tL];exact ⟨hM,by decide⟩
 refine wpAny_execs_cons (bare_ (d:=d+1) (u:=u+6) c F ovw (by simp) fun s5 ba dba mba aba x5 F5 f5 n51 n52 n53 mp5 dm5 nm5 da5 na5=>?_)
 have ag5:=Own.with_agree o s (fun b=>if b=ba∨b=dba∨b=mba∨b=aba then 1 else 0) (fun _=>0)
 have ok5:OwnOk G (o.with s (fun b=>if b=ba∨b=dba∨b=mba∨b=aba then 1 else 0) (fun _=>0)):=Own.with_ok pre.ok c.st
 have t5:∀ b,s.heap.get? b=none→(b=ba∨b=dba∨b=mba∨b=aba)→(o.with s (fun b=>if b=ba∨b=dba∨b=mba∨b=aba then 1 else 0) (fun _=>0)).a b=1:=fun b f h=>(Own.with_new o f).trans (if_pos h)
 generalize o.with s (fun b=>if b=ba∨b=dba∨b=mba∨b=aba then 1 else 0) (fun _=>0)=o5 at ag5 ok5 t5
 have tL5:o5.a C.L=0:=(ag5.1 _ _ eL).trans pre.tL
 have pre5:=pre.mono ok5 tL5 (kpL FM2 fm2_0 x5 ag5 pre.tL)
 obtain ⟨nv5,ovw5⟩:=pre5.ovw
 refine wpAny_execs_cons (shown_ (d:=d+1) (u:=u+6) (c.at1 F5) F5 ovw5 (by simp) fun s6 sh dsh msh x6 F6 f6 n61 n62 n63 mp6 dm6 nm6=>?_)
 have ag6:=Own.with_agree o5 s5 (fun b=>if b=sh∨b=dsh∨b=msh then 1 else 0) (fun _=>0)
 have ok6:OwnOk G (o5.with s5 (fun b=>if b=sh∨b=dsh∨b=msh then 1 else 0) (fun _=>0)):=Own.with_ok ok5 F5.keep
 have t6:∀ b,s5.heap.get? b=none→(b=sh∨b=dsh∨b=msh)→(o5.with s5 (fun b=>if b=sh∨b=dsh∨b=msh then 1 else 0) (fun _=>0)).a b=1:=fun b f h=>(Own.with_new o5 f).trans (if_pos h)
 generalize o5.with s5 (fun b=>if b=sh∨b=dsh∨b=msh then 1 else 0) (fun _=>0)=o6 at ag6 ok6 t6
 obtain ⟨oL5,eL5⟩:=exL F5
 have tL6:o6.a C.L=0:=(ag6.1 _ _ eL5).trans tL5
 have K6:=fun M hM=>kpL M hM x6 ag6 tL5
 have pre6:=pre5.mono ok6 tL6 (K6 FM2 fm2_0)
 let C6:Cs:={ C with ba:=ba,dba:=dba,mba:=mba,aba:=aba,sh:=sh,dsh:=dsh,msh:=msh }
 have k56:∀ b ob,s5.heap.get? b=some ob→s.heap.get? b=none→(b=ba∨b=dba∨b=mba∨b=aba)→s6.heap.get? b=some ob∧o6.a b=1:=fun b ob e f h=>let r:=(K6 (fun _=>False) id).one b ob e (t5 b f h);⟨r.1,r.2.trans (t5 b f h)⟩
 have st6:St1 G C6 o6 s6:=by
  apply hide;intro _ kι;obtain ⟨i1,p1,p2,p3,p4,p5,p6,i2⟩:=mp5;apply kι
  refine xe1_2 dm5 fun om5 e5 h5=>?_
  refine xe1_2 da5 fun oa5 e5' h5'=>?_
  apply hide;intro _ kι;obtain ⟨j1,q1,q2,q3,q4,q5,q6,j2⟩:=id mp6;apply kι
  have a1:=k56 _ _ i1 (f5 _ zm0) (.inl rfl)
  have a2:=k56 _ _ i2 (f5 _ zm1) (.inr (.inl rfl))
  have a3:=k56 _ _ e5 (f5 _ zm2) (.inr (.inr (.inl rfl)))
  have a4:=k56 _ _ e5' (f5 _ zm3) (.inr (.inr (.inr rfl)))
  have b1:=t6 sh (f6 _ zm0) (.inl rfl)
  have b2:=t6 dsh (f6 _ zm1) (.inr (.inl rfl))
  have b3:=t6 msh (f6 _ zm2) (.inr (.inr rfl))
  have pt:=pre6.t1
  refine ⟨pre6.c1,pre6.c2,pre6.c3,pre6.onl,pre6.orl,pre6.oml,pre6.rows,pre6.pr,pre6.ovw,⟨a1.1,_,_,_,_,_,_,a2.1⟩,(wi1_2 om5 a3.1 h5),(wi1_2 oa5 a4.1 h5'),mp6,dm6,?_,(yi6 n51 n52 n53 n61 n62 n63),(yi3 nm5 na5 nm6),pre6.sq,pre6.m63,pre6.e63⟩
  exact fq (pt (C.L+1) zm0) (fq (pt (C.L+1+1) zm1) (fq (pt (C.L+1+1+1) zm2) (fq (pt C.nl zm3) (fq (pt C.rl zm4) (fq (pt C.ml zm5) (fq (pt C.vw zm6) (fq a1.2 (fq a2.2 (fq a3.2 (fq a4.2 (fq b1 (fq b2 (fq b3 fn0)))))))))))))
 refine wpAny_execs_cons (readers_ (C:=C6) (m:=m) (d:=d) (u:=u) (w:=(none,none)) (c.at1 F6) F6 ok6 st6 pre6.bj tL6 fun s7 o7 a0 lr0 a1 lr1 x7 ag7 ok7 bj7 st7 rd0 rd1 s7' rd nrd y7 F7 frd ord hg7=>?_)
 have x7L:Ext [] [C.L] [] s6 s7:=x7.weak fn0 fn0 fn0
 obtain ⟨oL6,eL6⟩:=exL F6
 have tL7:o7.a C.L=0:=(ag7.1 _ _ eL6).trans tL6
 have eL7:s7.heap.get? C.L=some oL6:=x7.keep _ _ eL6 fnm fnm
 have st7k:G.base.StaysIn s7.heap:=fun b ob e=>x7.keep b ob (F6.keep b ob e) fnm fnm
 refine wpAny_execs_cons (whose_ (c.at1 F7) F7 fun s8 wh tw1 tw2 y8 F8 fwh owh=>?_)
 have z8:Ext [] [C.L] [] s7 s8:=y7.trans y8 (fun b hb=>.inl hb) fn0
 have agr:Agree o7 o7 s7:=⟨fun _ _ _=>rfl,fun _ _ _=>rfl⟩
 have st8:=st7.mono (kpL (fun _=>False) id z8 agr tL7).one
 obtain ⟨kr,orl8⟩:=st8.orl
 (refine xe0_4 (st8.rows 0 (by decide)) ?_;rintro tr0 ⟨k0,or0⟩ lr0' _)
 have t8:∀ b∈[C.L+1+1,C.rl,C.rr 0],o7.a b=1:=fq (st8.t1 (C.L+1+1) (by simp [C6])) (fq (st8.t1 C.rl (by simp [C6])) (fq tr0 fn0))
 refine wpAny_execs_cons (whole_ (c.at1 F8) F8 st8.c2 orl8 (r0:=C.rr 0) rfl or0 (by rw [lr0'];exact szOf_le _ _) (fun b hb=>ok7 b (by rw [t8 b hb];decide)) (fun b hb q=>by have:=t8 b hb;rw [q,tL7] at this;(replace this:=Eq.symm this;cases this)) fun s9 wo w1 y9 F9 f9 nw1 owo ow1=>?_)
 refine wpAny_execs_cons (got_ (c.at1 F9) F9 fun s10 gt g0 g1 y10 F10 f10 ng01 ng0 ng1 ogt og0 og1=>?_)
 refine wpAny_execs_cons (asked_ (c.at1 F10) F10 fun s11 ak y11 F11 fak oak=>?_)
 have y89:Ext [] [C.L] [] s8 s10:=y9.trans y10 (fun b hb=>.inl hb) fn0
 have z10:Ext [] [C.L] [] s7' s10:=y8.trans y89 (fun b hb=>.inl hb) fn0
 have z11:Ext [] [C.L] [] s7' s11:=z10.trans y11 (fun b hb=>.inl hb) fn0
 have z811:Ext [] [C.L] [] s8 s11:=y89.trans y11 (fun b hb=>.inl hb) fn0
 have z911:Ext [] [C.L] [] s9 s11:=y10.trans y11 (fun b hb=>.inl hb) fn0
 have zall:Ext [] [C.L] [] s7 s11:=y7.trans z11 (fun b hb=>.inl hb) fn0
 have up:∀ {sa sb:Shared},Ext [] [C.L] [] sa sb→∀ b ob,sa.heap.get? b=some ob→b≠C.L→sb.heap.get? b=some ob:=fun x b ob e n=>x.keep b ob e (by simpa using n) fnm
 have frs7:∀ b,s7.heap.get? b=none→b≠C.L:=fun b f q=>by rw [q,eL7] at f;exact nsf f.symm
 have nz:∀ {h:Heap}{a b:Nat}{oa:Obj},h.get? a=some oa→h.get? b=none→@Ne Nat a b:=fun e f q=>by rw [q,f] at e;exact nsf e
 have fwh7:=y7.fresh fwh
 have fwo8:=f9 wo zm0;have fw18:=f9 w1 zm1
 have fwo7:=z8.fresh fwo8;have fw17:=z8.fresh fw18
 have z9:Ext [] [C.L] [] s7 s9:=z8.trans y9 (fun b hb=>.inl hb) fn0
 have fgt9:=f10 gt zm0;have fg09:=f10 g0 zm1;have fg19:=f10 g1 zm2
 have fgt7:=z9.fresh fgt9;have fg07:=z9.fresh fg09;have fg17:=z9.fresh fg19
 have z710:Ext [] [C.L] [] s7 s10:=y7.trans z10 (fun b hb=>.inl hb) fn0
 have fak7:=z710.fresh fak
 have ord8:=up y8 _ _ ord (frs7 _ frd)
 have ord9:=up y9 _ _ ord8 (frs7 _ frd)
 have ord10:=up y10 _ _ ord9 (frs7 _ frd)
 have owh9:=up y9 _ _ owh (frs7 _ fwh7)
 have owh10:=up y10 _ _ owh9 (frs7 _ fwh7)
 have owo10:=up y10 _ _ owo (frs7 _ fwo7)
 have agF:=Own.with_agree o7 s7 (fun b=>if b∈[rd,wh,wo,gt,ak,g0,g1] then 4 else if b=w1 then 1 else 0) (fun _=>0)
 have okF:OwnOk G (o7.with s7 (fun b=>if b∈[rd,wh,wo,gt,ak,g0,g1] then 4 else if b=w1 then 1 else 0) (fun _=>0)):=Own.with_ok ok7 st7k
 have t4:∀ b,s7.heap.get? b=none→b∈[rd,wh,wo,gt,ak,g0,g1]→(o7.with s7 (fun b=>if b∈[rd,wh,wo,gt,ak,g0,g1] then 4 else if b=w1 then 1 else 0) (fun _=>0)).a b=4:=fun b f h=>(Own.with_new o7 f).trans (if_pos h)
 have tw1':(o7.with s7 (fun b=>if b∈[rd,wh,wo,gt,ak,g0,g1] then 4 else if b=w1 then 1 else 0) (fun _=>0)).a w1=1:=by
  refine (Own.with_new o7 fw17).trans ((if_neg ?_).trans (if_pos rfl))
  simp only [List.mem_cons,List.not_mem_nil,or_false]
  rintro (h | h | h | h | h | h | h)
  ·exact nz ord8 fw18 h.symm
  ·exact nz owh fw18 h.symm
  ·exact nw1 h
  ·exact nz ow1 fgt9 h
  ·exact nz (up y10 _ _ ow1 (frs7 _ fw17)) fak h
  ·exact nz ow1 fg09 h
  ·exact nz ow1 fg19 h
 generalize o7.with s7 (fun b=>if b∈[rd,wh,wo,gt,ak,g0,g1] then 4 else if b=w1 then 1 else 0) (fun _=>0)=oF at agF okF t4 tw1'
 have KF:=fun M hM=>kpL M hM zall agF tL7
 let C':Cs:={ C6 with rd:=rd,wh:=wh,wo:=wo,gt:=gt,ak:=ak }
 have stF6:St1 G C6 oF s11:=st7.mono (KF (fun _=>False) id).one
 have stF:St1 G C' oF s11:=⟨stF6.c1,stF6.c2,stF6.c3,stF6.onl,stF6.orl,stF6.oml,stF6.rows,stF6.pr,stF6.ovw,stF6.mb,stF6.db,stF6.ab,stF6.ms,stF6.ds,stF6.t1,stF6.nb,stF6.ny,stF6.sq,stF6.m63,stF6.e63⟩
 have cs11:G.base.StaysIn s11.heap:=F11.keep
 (refine xe0_4 (stF.rows 0 (by decide)) ?_;rintro trF ⟨kF,orF⟩ lF pF)
 have prF:Pairs oF s11.heap 0 (szOf C.ns 0) (C.VV 0):=⟨lF,pF⟩
 have bjF:BJ G C'.P (none,none) oF s11:=bj7.mono (KF FM2 fm2_0)
 have hx:Ext [] [C.L] [] s s11:=((x5.trans x6 (fun b hb=>.inl hb) fn0).trans x7L (fun b hb=>.inl hb) fn0).trans zall (fun b hb=>.inl hb) fn0
 have hVV:C.VV 0=(C.VV 0):=rfl
 have VV9:(C6.VV 0)=C.VV 0:=rfl
 refine post s11 C' oF (none,none) [⟨0,false,a0,lr0,0,g0,C.rr 0⟩,⟨0,true,a1,lr1,0,g1,w1⟩] rfl rfl hx ⟨okF,(agF.1 _ _ eL7).trans tL7,stF,?li,bjF,?rx,?ct⟩ rfl F11
 case rx =>
  intro i r hr
  match i,hr with
  | 0,hr =>
   obtain rfl:=Option.some.inj hr
   exact (rd0 g0 (C.rr 0)).keep st7.sq (by decide) st7k cs11 (KF _ (by exact of_decide_eq_false rfl))
  | 1,hr =>
   obtain rfl:=Option.some.inj hr
   exact (rd1 g1 w1).keep st7.sq (by decide) st7k cs11 (KF _ (by exact of_decide_eq_false rfl))
  | i+2,hr=>simp at hr
 case ct=>exact ⟨by simp [cnt,mostR,mostOf],fun _=>by simp [mostR,mostOf],fun h=>absurd rfl h⟩
 case li =>
  refine ⟨⟨nrd,up y11 _ _ ord10 (frs7 _ frd)⟩,(wi2_2 _ 0 (up y11 _ _ owh10 (frs7 _ fwh7)) (.cons _ _ (.cons _ _ .nil))),⟨0,up y11 _ _ owo10 (frs7 _ fwo7)⟩,⟨0,up y11 _ _ ogt (frs7 _ fgt7)⟩,(wi2_2 [] 0 oak .nil),?_,?_,?_,?_,?_,Nat.le_refl _⟩
  ·exact fq (wi2_2 [] 0 (up y11 _ _ og0 (frs7 _ fg07)) .nil) (fq (wi2_2 [] 0 (up y11 _ _ og1 (frs7 _ fg17)) .nil) fn0)
  ·refine fq (wi2_3 (C.VV 0) kF orF ?_ trF) (fq (wi2_3 _ 0 (up z911 _ _ ow1 (frs7 _ fw17)) ?_ tw1') fn0)
   ·show ItOs G oF s11.heap (C.VV 0) (rowD 0 0 (szOf C.ns 0)++[])
    rw [List.append_nil];exact prF.its
   ·exact prF.its.app (late_its G oF s11.heap 0)
  ·exact fq (t4 rd frd zm0) (fq (t4 wh fwh7 zm1) (fq (t4 wo fwo7 zm2) (fq (t4 gt fgt7 zm3) (fq (t4 ak fak7 zm4) (fq (t4 g0 fg07 zm5) (fq (t4 g1 fg17 zm6) fn0))))))
  ·have q1:=nz ord fwh;have q2:=nz ord8 fwo8;have q3:=nz ord9 fgt9;have q4:=nz ord10 fak;have q5:=nz ord9 fg09;have q6:=nz ord9 fg19
   have r1:=nz owh fwo8;have r2:=nz owh9 fgt9;have r3:=nz owh10 fak;have r4:=nz owh9 fg09;have r5:=nz owh9 fg19
   have s1:=nz owo fgt9;have s2:=nz owo10 fak;have s3:=nz owo fg09;have s4:=nz owo fg19
   have v1:=nz ogt fak;have v2:=nz og0 fak;have v3:=nz og1 fak
   show [rd,wh,wo,gt,ak,g0,g1].Nodup
   simp only [List.nodup_cons,List.mem_cons,List.not_mem_nil,or_false,not_or,not_false_eq_true,List.nodup_nil,and_true]
   exact (yi6 (yi6 q1 q2 q3 q4 q5 q6) (yi5 r1 r2 r3 r4 r5) (yi4 s1 s2 s3 s4) (yi3 v1 ng0.symm ng1.symm) ⟨v2.symm,v3.symm⟩ ng01)
  ·exact fq (Nat.zero_le _) (fq (Nat.zero_le _) fn0)
end Mine
end
section
open PySem PySem.W PySem.W.X PyProof.Rows PySem.Calls PySem.Spec
namespace Mine
noncomputable def lb3P:{p:List Stmt × List Stmt // ∃ a b,lb3=.If a p.1 p.2 b}:=⟨(_,_),_,_,rfl⟩
noncomputable def lb3b:Stmt:=(⟨_,rfl⟩:{st:Stmt // lb3P.1.2[0]?=some st}).1
noncomputable def lb3bP:{p:List Stmt × List Stmt // ∃ a b,lb3b=.If a p.1 p.2 b}:=⟨(_,_),_,_,rfl⟩
noncomputable def lb3c:Stmt:=(⟨_,rfl⟩:{st:Stmt // lb3bP.1.2[0]?=some st}).1
noncomputable def lb3cP:{p:List Stmt × List Stmt // ∃ a b,lb3c=.If a p.1 p.2 b}:=⟨(_,_),_,_,rfl⟩
noncomputable def lbA0:Stmt:=(⟨_,rfl⟩:{st:Stmt // lb3P.1.1[0]?=some st}).1
noncomputable def lbA1:Stmt:=(⟨_,rfl⟩:{st:Stmt // lb3P.1.1[1]?=some st}).1
noncomputable def lbA2:Stmt:=(⟨_,rfl⟩:{st:Stmt // lb3P.1.1[2]?=some st}).1
noncomputable def lbA3:Stmt:=(⟨_,rfl⟩:{st:Stmt // lb3P.1.1[3]?=some st}).1
noncomputable abbrev lbA:List Stmt:=[lbA0,lbA1,lbA2,lbA3]
noncomputable def lbB0:Stmt:=(⟨_,rfl⟩:{st:Stmt // lb3bP.1.1[0]?=some st}).1
noncomputable def lbB1:Stmt:=(⟨_,rfl⟩:{st:Stmt // lb3bP.1.1[1]?=some st}).1
noncomputable def lbB2:Stmt:=(⟨_,rfl⟩:{st:Stmt // lb3bP.1.1[2]?=some st}).1
noncomputable def lbB3:Stmt:=(⟨_,rfl⟩:{st:Stmt // lb3bP.1.1[3]?=some st}).1
noncomputable abbrev lbB:List Stmt:=[lbB0,lbB1,lbB2,lbB3]
noncomputable def lbC0:Stmt:=(⟨_,rfl⟩:{st:Stmt // lb3cP.1.1[0]?=some st}).1
noncomputable def lbC1:Stmt:=(⟨_,rfl⟩:{st:Stmt // lb3cP.1.1[1]?=some st}).1
noncomputable abbrev lbC:List Stmt:=[lbC0,lbC1]
noncomputable def lbD0:Stmt:=(⟨_,rfl⟩:{st:Stmt // lb3cP.1.2[0]?=some st}).1
noncomputable def lbD1:Stmt:=(⟨_,rfl⟩:{st:Stmt // lb3cP.1.2[1]?=some st}).1
noncomputable def lbD2:Stmt:=(⟨_,rfl⟩:{st:Stmt // lb3cP.1.2[2]?=some st}).1
noncomputable def lbD3:Stmt:=(⟨_,rfl⟩:{st:Stmt // lb3cP.1.2[3]?=some st}).1
noncomputable abbrev lbD:List Stmt:=[lbD0,lbD1,lbD2,lbD3]
theorem if_hold {M:Model}{A:Around}{E:Value→Shared→Prop}{s:Shared}{env:Env}{test:PySem.Expr}{body orelse:List Stmt}{pos:Pos}{Q:Flow→Shared→Prop}(h:wpAny M A (isTrue test env (eval test env)) (fun b s₂=>Hold (if b then wpAny M A (execs body env) Q E s₂ else wpAny M A (execs orelse env) Q E s₂)) E s):wpAny M A (exec (.If test body orelse pos) env) Q E s:=wpAny_If h
theorem hold_t {P R:Prop}(h:P):Hold (if true=true then P else R):=h
theorem nestQ {M:Model}{A:Around}{E:Value→Shared→Prop}{s:Shared}{env:Env}{b:List Stmt}{Q:Flow→Shared→Prop}(h:wpAny M A (execs b env) Q E s):wpAny M A (execs b env) (fun f s'=>match f with | .next=>wpAny M A (execs [] env) Q E s' | f=>Q f s') E s :=
  wpAny_mono h (fun f s' q=>by cases f <;> first | exact wpAny_execs_nil q | exact q) fun _ _ z=>z
theorem hold_d {b:Bool}{P R:Prop}(h1:b=true→P) (h2:b=false→R):Hold (if b=true then P else R):=by
  cases b
  · exact h2 rfl
  · exact h1 rfl
theorem hold_f {P R:Prop}(h:R):Hold (if false=true then P else R):=h
local macro_rules | `(tactic| walk_at "exec If")=>`(tactic| apply if_hold)
noncomputable abbrev LK (C:Cs) (kd nm wi:Value) (x:Str→Option Value):Str→Option Value:=fun z=>if z=Str.ofString "which" then some wi else if z=Str.ofString "name" then some nm else if z=Str.ofString "kind" then some kd else LM C x z
section
variable {G:Gr}{A:Around}{d u:Nat}{s:Shared}{fa:Nat}{cd:Value}{C:Cs}{Q:Flow→Shared→Prop}{E:Value→Shared→Prop}
theorem head_ {x:Str→Option Value}{rv:List Value}{n:Nat}{v:Int}{t:Nat}(c:Cx G A [LE C.L fa cd] d u s.heap) (F:Fr G.base C.L s.heap (LM C (fun z=>if z=Str.ofString "number" then some (.int v t) else x z))) (o1:s.heap.get? C.rd=some (lstObj rv.toArray n)) (h2:2≤rv.length) (h3:rv.length≤40) (ob:G.base.get? C.rd=none) (nL:C.rd≠C.L) {r:List Stmt}
    (post:∀ s' kd k wi t1 t2 t3 x',kd < 6→k < 6→wi < rv.length→Ext [] [C.L] [] s s'→s'.gens=s.gens→Fr G.base C.L s'.heap (LK C (.int (kd:Nat) t1) (.int (k:Nat) t2) (.int (wi:Nat) t3) x')→wpAny (model PR G.w) A (execs r (LE C.L fa cd)) Q E s'):wpAny (model PR G.w) A (execs (lb0 :: lb1 :: lb2 :: r) (LE C.L fa cd)) Q E s:=by
  apply hide;intro _ kι;obtain ⟨ah,ad,af,ag,au⟩:=A;apply kι
  obtain rfl:ah=none:=c.hd
  obtain rfl:af=some [LE C.L fa cd]:=c.fr
  have X:=G.X
  have T:=G.T
  obtain ⟨kk,hsz⟩:∃ k,rv.toArray.size=k:=⟨_,rfl⟩
  have hlk:rv.length=kk:=by simpa using hsz
  (refine xe1_3 (ledger2 (g:=G.base) (L:=C.L) (h:=s.heap) (ex:=[(C.rd,lstObj rv.toArray n)]) (fq ⟨o1,nL,ob⟩ fn0)) ?_;rintro rest N - hr)
  simp only [List.cons_append,List.nil_append] at N
  have Fk:True→Fr G.base C.L s.heap _:=fun _=>F
  unfold lb0 lb1 lb2
  dsimp only
  k_steps
  rename Fr _ _ _ _=>F1
  rename News _ _ _ _=>N1
  have a1:=Int.fmod_nonneg_of_pos v (b:=6) (by decide);have a2:=Int.fmod_lt_of_pos v (b:=6) (by decide)
  have b1:=Int.fmod_nonneg_of_pos (v.fdiv 6) (b:=6) (by decide);have b2:=Int.fmod_lt_of_pos (v.fdiv 6) (b:=6) (by decide)
  have c1:=Int.fmod_nonneg_of_pos (v.fdiv 6) (b:=(kk:Int)) (by omega);have c2:=Int.fmod_lt_of_pos (v.fdiv 6) (b:=(kk:Int)) (by omega)
  obtain ⟨kd,e1⟩:∃ n:Nat,v.fmod 6=(n:Int):=⟨_,(Int.toNat_of_nonneg a1).symm⟩
  obtain ⟨k,e2⟩:∃ n:Nat,(v.fdiv 6).fmod 6=(n:Int):=⟨_,(Int.toNat_of_nonneg b1).symm⟩
  obtain ⟨wi,e3⟩:∃ n:Nat,(v.fdiv 6).fmod (kk:Int)=(n:Int):=⟨_,(Int.toNat_of_nonneg c1).symm⟩
  rw [e1] at a2;rw [e2] at b2;rw [e3] at c2
  rw [e1,e2,e3] at F1
  exact post _ kd k wi _ _ _ _ (by omega) (by omega) (by omega) (ext_led (s₂:=s) (fr:=[]) (fp:=[]) (Fk trivial) F1 N1 hr (fq ⟨o1,.inl (by k_mem)⟩ fn0) (fun q hq=>by k_mem)) rfl F1
theorem tests_ {x:Str→Option Value}{kd k:Nat}{t1 t2:Nat}{wi:Value}(c:Cx G A [LE C.L fa cd] d u s.heap) (F:Fr G.base C.L s.heap (LK C (.int (kd:Nat) t1) (.int (k:Nat) t2) wi x)) (h6:k < 6)
    (hA:kd=0→k < 5→∀ tk,wpAny (model PR G.w) A (execs lbA (LE C.L fa cd)) Q E { s with toks:=tk }) (hB:∀ tk,wpAny (model PR G.w) A (execs lbB (LE C.L fa cd)) Q E { s with toks:=tk })
    (hC:k < 5→∀ tk,wpAny (model PR G.w) A (execs lbC (LE C.L fa cd)) Q E { s with toks:=tk }) (hD:∀ tk,wpAny (model PR G.w) A (execs lbD (LE C.L fa cd)) Q E { s with toks:=tk }):wpAny (model PR G.w) A (exec lb3 (LE C.L fa cd)) Q E s:=by
  apply hide;intro _ kι;obtain ⟨ah,ad,af,ag,au⟩:=A;apply kι
  obtain rfl:ah=none:=c.hd
  obtain rfl:af=some [LE C.L fa cd]:=c.fr
  have X:=G.X
  have T:=G.T
  (refine xe1_3 (ledger2 (g:=G.base) (L:=C.L) (h:=s.heap) (ex:=[]) fn0) ?_;rintro rest N - hr)
  simp only [List.nil_append] at N
  have Fk:True→Fr G.base C.L s.heap _:=fun _=>F
  unfold lb3
  dsimp only
  k_steps
  all_goals first
    | (with_reducible refine hold_t ?_
       exact hA (by omega) (by omega) _)
    | (with_reducible refine hold_f ?_
       k_steps
       all_goals first
         | (with_reducible refine hold_d ?_ ?_
            · intro _
              exact nestQ (hB _)
            · intro hd
              have hd':=of_decide_eq_false hd
              first
                | (exfalso;omega)
                | (k_steps
                   all_goals first
                     | (with_reducible refine hold_t ?_
                        have hk5:k < 5:=by omega
                        first | exact hC hk5 _ | exact nestQ (hC hk5 _) | exact nestQ (nestQ (hC hk5 _)))
                     | (with_reducible refine hold_f ?_
                        first | exact hD _ | exact nestQ (hD _) | exact nestQ (nestQ (hD _))))))
end
end Mine
end
section
open PySem PySem.W PySem.W.X PyProof.Rows PySem.Calls PySem.Spec
namespace Mine
theorem MI.mark {G:Gr}{C:Cs}{o:Own}{w:WJ}{rs:List RdG}{az:List Int}{s:Shared}(M:MI G C o w rs az s):∀ b∈[C.L,C.rd,C.wh,C.wo,C.gt,C.ak]++rs.map (·.ga),o.a b=0∨o.a b=4:=fun b hb=>by
 rcases (List.mem_cons.mp hb).imp_left Eq.symm with rfl | hb
 ·exact .inl M.tL
 ·exact .inr (M.li.t4 b hb)
theorem kp4 {o o':Own}{s s':Shared}{fp:List Nat}(x:Ext [] fp [] s s') (ag:Agree o o' s) (h:∀ b∈fp,o.a b=0∨o.a b=4) (P:Nat→Prop) (hP:¬ P 0∧¬ P 4):Kp P o s o' s' :=
 extL_kp x ag P fun b hb=>by
  rcases h b hb with q | q
  ·rw [q];exact ⟨hP.1,by decide⟩
  ·rw [q];exact ⟨hP.2,by decide⟩
theorem fm2_4:¬ FM2 4:=fun h=>by rw [fm2_iff] at h;exact tc (tb h) rfl rfl
structure Tn (C:Cs) (rs:List RdG) (o:Own) (s:Shared) (o':Own) (s':Shared):Prop where
 kit:∀ b ob,s.heap.get? b=some ob→o.a b=4→b ∉ [C.rd,C.wh,C.wo,C.gt,C.ak]++rs.map (·.ga)→s'.heap.get? b=some ob∧o'.a b=4
 drawn:s'.drawn=s.drawn
 os:s'.os=s.os
 bare:AllBare s.gens→AllBare s'.gens
theorem Tn.of {C:Cs}{rs:List RdG}{o o':Own}{s s':Shared}{fr fp:List Nat}{gp:List Nat}(x:Ext fr fp gp s s') (ag:Agree o o' s) (hf:∀ b∈fr,o.a b≠4) (hp:∀ b∈fp,o.a b≠4∨b∈[C.rd,C.wh,C.wo,C.gt,C.ak]++rs.map (·.ga)):Tn C rs o s o' s' :=
 ⟨fun b ob e t h=>⟨x.keep b ob e (fun q=>(hp b q).elim (fun z=>z t) h) (fun q=>hf b q t),(ag.1 b ob e).trans t⟩,x.drawn,x.os,x.bare⟩
theorem Tn.trans {C:Cs}{rs:List RdG}{o o' o'':Own}{s s' s'':Shared}(x:Tn C rs o s o' s') (y:Tn C rs o' s' o'' s''):Tn C rs o s o'' s'' :=
 ⟨fun b ob e t h=>let r:=x.kit b ob e t h;y.kit b ob r.1 r.2 h,y.drawn.trans x.drawn,y.os.trans x.os,fun z=>y.bare (x.bare z)⟩
theorem MI.push {G:Gr}{C:Cs}{o:Own}{w:WJ}{rs:List RdG}{az:List Int}{s s':Shared}{r:RdG}{n1 n2 n3 n4 n5 n6 t:Nat}{wv wv':List Value}(M:MI G C o w rs az s) {mm mm':Str→Option Value}(F:Fr G.base C.L s.heap mm) (F':Fr G.base C.L s'.heap mm') (hn:rs.length < 40)
  (rd:RdX G C.P rs.length r w o s) (hp:r.p=0) (x:Ext [] [C.L,C.rd,C.wh,C.wo,C.gt] [] s s')
  (g1:s'.heap.get? C.rd=some (lstObj ((rs.map fun r:RdG=>Value.ref r.a)++[Value.ref r.a]:List Value).toArray n1)) (hw:IntsAre wv (rs.map fun r=>(r.k:Int))) (g2:s'.heap.get? C.wh=some (lstObj (wv++[Value.int (r.k:Nat) t]).toArray n2)) (g3:s'.heap.get? C.wo=some (lstObj ((rs.map fun r:RdG=>Value.ref r.wa)++[Value.ref r.wa]:List Value).toArray n3))
  (g4:s'.heap.get? C.gt=some (lstObj ((rs.map fun r:RdG=>Value.ref r.ga)++[Value.ref r.ga]:List Value).toArray n4)) (fg:s.heap.get? r.ga=none) (g5:s'.heap.get? r.ga=some (lstObj #[] n5))
  (g6:s'.heap.get? r.wa=some (lstObj wv'.toArray n6)) (ht:ItOs G o s.heap wv' (r.wd C.ns)) (hwa:o.a r.wa=1∧(∃ ob,s.heap.get? r.wa=some ob)∨s.heap.get? r.wa=none∧@Ne Nat r.wa r.ga) :
  ∃ o',Agree o o' s∧MI G C o' w (rs++[r]) az s':=by
 have st:=F.keep
 have st':=F'.keep
 have ag:=Own.with_agree o s (fun b=>if b=r.ga then 4 else if b=r.wa then 1 else 0) (fun _=>0)
 have ok':OwnOk G (o.with s (fun b=>if b=r.ga then 4 else if b=r.wa then 1 else 0) (fun _=>0)):=Own.with_ok M.ok st
 have tga:(o.with s (fun b=>if b=r.ga then 4 else if b=r.wa then 1 else 0) (fun _=>0)).a r.ga=4:=(Own.with_new o fg).trans (if_pos rfl)
 have twa:(o.with s (fun b=>if b=r.ga then 4 else if b=r.wa then 1 else 0) (fun _=>0)).a r.wa=1:=by
  rcases hwa with ⟨h1,ob,h2⟩ | ⟨h1,h2⟩
  ·exact (ag.1 _ _ h2).trans h1
  ·exact (Own.with_new o h1).trans ((if_neg h2).trans (if_pos rfl))
 refine (wi1_2 (o.with s (fun b=>if b=r.ga then 4 else if b=r.wa then 1 else 0) (fun _=>0)) ag ?_)
 generalize o.with s (fun b=>if b=r.ga then 4 else if b=r.wa then 1 else 0) (fun _=>0)=o' at ag ok' tga twa ⊢
 have hm:∀ b∈[C.L,C.rd,C.wh,C.wo,C.gt],o.a b=0∨o.a b=4:=fun b hb=>M.mark b (by
  simp only [List.mem_cons,List.not_mem_nil,or_false] at hb
  rcases hb with h | h | h | h | h <;> simp [h])
 have K:=fun P hP=>kp4 x ag hm P hP
 have k1:=(K (fun _=>False) ⟨id,id⟩).one
 have li:=M.li
 have nd:=li.nd
 obtain ⟨oL,eL⟩:∃ ob,s.heap.get? C.ak=some ob:=by refine xe2_2 li.oak fun _ _ e _=>?_;exact ⟨_,e⟩
 have ex:∀ b∈[C.rd,C.wh,C.wo,C.gt,C.ak]++rs.map (·.ga),∃ ob,s.heap.get? b=some ob:=fun b hb=>by
  obtain ⟨_,e1⟩:=li.ord;refine xe2_2 li.owh fun _ _ e2 _=>?_;obtain ⟨_,e3⟩:=li.owo;obtain ⟨_,e4⟩:=li.ogt;refine xe2_2 li.oak fun _ _ e5 _=>?_
  rcases List.mem_append.mp hb with h | h
  ·simp only [List.mem_cons,List.not_mem_nil,or_false] at h
   rcases h with h | h | h | h | h <;> replace h:=h.symm <;> subst h
   ·exact ⟨_,e1⟩
   ·exact ⟨_,e2⟩
   ·exact ⟨_,e3⟩
   ·exact ⟨_,e4⟩
   ·exact ⟨_,e5⟩
  ·(refine xe1_2 (List.mem_map.mp h) ?_;rintro r' hr rfl)
   refine xe2_2 (li.got r' hr) fun _ _ e _=>?_
   exact ⟨_,e⟩
 have k4:∀ b ob,s.heap.get? b=some ob→o.a b=4→b ∉ [C.rd,C.wh,C.wo,C.gt]→s'.heap.get? b=some ob:=fun b ob e t h=>x.keep b ob e (fun q=>by
  rcases List.mem_cons.mp q with q | q
  ·rw [q,M.tL] at t;cases t
  ·exact h q) fnm
 have nd':=List.nodup_append.mp nd
 have nak:C.ak ∉ [C.rd,C.wh,C.wo,C.gt]:=fun h=>by
  have:=nd'.1
  simp only [List.nodup_cons,List.mem_cons,List.not_mem_nil,or_false,not_or] at this h
  (refine hide fun Zq kZ=>?_;refine xe0_5 this ?_;rintro ⟨a1,a2,a3,a4⟩ ⟨b1,b2,b3⟩ ⟨c1,c2⟩ d1 _;all_goals (refine kZ ?_;clear kZ Zq))
  rcases h with h | h | h | h
  ·exact a4 h.symm
  ·exact b3 h.symm
  ·exact c2 h.symm
  ·exact d1 h.symm
 have nga:∀ r'∈rs,r'.ga ∉ [C.rd,C.wh,C.wo,C.gt]:=fun r' hr h=>nd'.2.2 r'.ga (by
  simp only [List.mem_cons,List.not_mem_nil,or_false] at h ⊢
  rcases h with h | h | h | h <;> simp [h]) r'.ga (List.mem_map_of_mem hr) rfl
 refine ⟨ok',?_,M.st.mono k1,?_,M.bj.mono (K FM2 ⟨fm2_0,fm2_4⟩),fun i r' hr=>?_,?_⟩
 ·refine xe3_2 F.ns fun oL _ _ eL _=>?_
  exact (ag.1 _ _ eL).trans M.tL
 ·refine ⟨⟨n1,by simpa using g1⟩,(wi2_2 _ n2 g2 (by rw [List.map_append];exact hw.append (.cons _ _ .nil))),⟨n3,by simpa using g3⟩,⟨n4,by simpa using g4⟩,?_,fun r' hr=>?_,fun r' hr=>?_,fun b hb=>?_,?_,fun r' hr=>?_,by rw [List.length_append];have:=li.n2;exact Nat.le_add_right_of_le this⟩
  ·refine xe2_2 li.oak fun av n e h=>?_
   exact (wi2_2 av n (k4 _ _ e (li.t4 _ (by simp)) nak) h)
  ·rcases List.mem_append.mp hr with hr | hr
   ·refine xe2_2 (li.got r' hr) fun gv n e h=>?_
    exact (wi2_2 gv n (k4 _ _ e (li.t4 _ (List.mem_append_right _ (List.mem_map_of_mem hr))) (nga r' hr)) (h.mono k1))
   ·rw [List.mem_singleton.mp hr,hp]
    exact (wi2_2 [] n5 g5 (by rw [List.take_zero];exact .nil))
  ·rcases List.mem_append.mp hr with hr | hr
   ·refine xe2_3 (li.whl r' hr) fun wv n e h q=>?_
    obtain ⟨e',q'⟩:=k1 _ _ e q
    exact (wi2_3 wv n e' (h.mono k1) (q'.trans q))
   ·rw [List.mem_singleton.mp hr]
    exact (wi2_3 wv' n6 g6 (ht.mono k1) twa)
  ·rw [List.map_append,List.map_cons,List.map_nil,← List.append_assoc] at hb
   rcases List.mem_append.mp hb with hb | hb
   ·obtain ⟨ob,e⟩:=ex b hb
    exact (ag.1 b ob e).trans (li.t4 b hb)
   ·rw [List.mem_singleton.mp hb];exact tga
  ·rw [List.map_append,List.map_cons,List.map_nil,← List.append_assoc]
   refine List.nodup_append.mpr (yi3 nd (by simp) (fun a ha b hb q=>?_))
   obtain ⟨ob,e⟩:=ex a ha
   rw [q,List.mem_singleton.mp hb,fg] at e;cases e
  ·rcases List.mem_append.mp hr with hr | hr
   ·exact li.pl r' hr
   ·rw [List.mem_singleton.mp hr,hp];exact Nat.zero_le _
 ·rcases Nat.lt_or_ge i rs.length with h | h
  ·rw [List.getElem?_append_left h] at hr
   exact (M.rx i r' hr).keep M.st.sq (by exact za (Nat.lt_trans h hn) rfl) st st' (K _ ⟨by exact zq8,by exact zq29⟩)
  ·have:i=rs.length:=by
    have:=(List.getElem?_eq_some_iff.mp hr).1
    rw [List.length_append,List.length_singleton] at this;exact Nat.eq_of_le_of_lt_succ h this
   subst this
   rw [List.getElem?_append_right (Nat.le_refl _)] at hr
   simp at hr
   subst hr
   exact rd.keep M.st.sq (by exact za hn rfl) st st' (K _ ⟨by exact zq8,by exact zq29⟩)
 ·have e:∀ k,mostR k (rs++[r]) az=mostR k rs az:=fun k=>by
   unfold mostR
   rw [List.map_append,List.map_cons,List.map_nil,hp]
   exact mo_app _ _ _ (by split <;> omega)
  exact ⟨by rw [e];exact M.ct.c0,fun h=>by rw [e];exact M.ct.c1 h,fun h=>by rw [e];exact M.ct.c2 h⟩
theorem MI.keep {G:Gr}{C:Cs}{o o':Own}{w:WJ}{rs:List RdG}{az:List Int}{s s':Shared}(M:MI G C o w rs az s) (ok':OwnOk G o') (tL':o'.a C.L=0) (st:G.base.StaysIn s.heap) (st':G.base.StaysIn s'.heap) (hn:rs.length≤40) (K:∀ P:Nat→Prop,¬ P 0→Kp P o s o' s'):MI G C o' w rs az s' :=
 ⟨ok',tL',M.st.mono (K (fun _=>False) id).one,M.li.mono (K _ (by decide)),M.bj.mono (K _ fm2_0),fun i r hr=>(M.rx i r hr).keep M.st.sq (by have:=(List.getElem?_eq_some_iff.mp hr).1;exact zq7 hn this) st st' (K _ (by exact zq8)),M.ct⟩
theorem MI.tok {G:Gr}{C:Cs}{o:Own}{w:WJ}{rs:List RdG}{az:List Int}{s:Shared}(M:MI G C o w rs az s) (st:G.base.StaysIn s.heap) (hn:rs.length≤40) (t:Nat):MI G C o w rs az { s with toks:=t } :=
 M.keep M.ok M.tL st st hn fun P _=>⟨fun b ob e _=>⟨e,rfl⟩,fun g x e _=>⟨e,rfl⟩⟩
theorem Tn.tok {C:Cs}{rs:List RdG}{o o':Own}{s s':Shared}{t:Nat}(x:Tn C rs o { s with toks:=t } o' s'):Tn C rs o s o' s':=⟨x.kit,x.drawn,x.os,x.bare⟩
section
variable {G:Gr}{A:Around}{d u:Nat}{s:Shared}{o:Own}{w:WJ}{C:Cs}{rs:List RdG}{az:List Int}{k t fa:Nat}{cd:Value}{m:Str→Option Value}{Q E:Value→Shared→Prop}
theorem openB (c:Cx G A [LE C.L fa cd] (d+3) (u+6) s.heap) (M:MI G C o w rs az s) (F:Fr G.base C.L s.heap m) (hn:rs.length≤40) (hk:k < 5)
  (post:∀ s2 a lr o2,MI G C o2 w rs az s2→Fr G.base C.L s2.heap m→Tn C rs o s o2 s2→(∀ ga wa,RdX G C.P rs.length ⟨k,false,a,lr,0,ga,wa⟩ w o2 s2)→Q (.ref a) s2) :
  wpAny (model PR G.w) A (call (.ref 106) [.ref C.ba,.int (k:Nat) t]) Q E s:=by
 refine open_bare (i:=rs.length) (w:=w) (d:=d) (u:=u) c M.ok hk M.st fun s2 a lr o2 x2 ag2 ok2 fa0 rd0=>?_
 have K:=fun P=>ext_kp x2 ag2 P
 have F2:=Fr.ext F x2 fnm fn0 fn0
 refine xe3_2 F.ns fun oL _ _ eL _=>?_
 exact post s2 a lr o2 (M.keep ok2 ((ag2.1 _ _ eL).trans M.tL) F.keep F2.keep hn fun P _=>K P) F2 (Tn.of x2 ag2 fn0 fn0) rd0
theorem openS (c:Cx G A [LE C.L fa cd] (d+3) (u+6) s.heap) (M:MI G C o w rs az s) (F:Fr G.base C.L s.heap m) (hn:rs.length≤40) (hk:k < 6)
  (post:∀ s2 a lr o2,MI G C o2 w rs az s2→Fr G.base C.L s2.heap m→Tn C rs o s o2 s2→(∀ ga wa,RdX G C.P rs.length ⟨k,true,a,lr,0,ga,wa⟩ w o2 s2)→Q (.ref a) s2) :
  wpAny (model PR G.w) A (call (.ref 106) [.ref C.sh,.int (k:Nat) t]) Q E s:=by
 refine xe3_2 (id F.ns) fun oL _ _ eL _=>?_
 have ef:frs [LE C.L fa cd]=[C.L]:=rfl
 by_cases hk5:k < 5
 ·refine open_shown (i:=rs.length) (w:=w) (d:=d) (u:=u) c M.ok hk5 M.st fun s2 a lr o2 x2 ag2 ok2 fa0 rd0=>?_
  have K:=fun P=>ext_kp x2 ag2 P
  have F2:=Fr.ext F x2 fnm fn0 fn0
  exact post s2 a lr o2 (M.keep ok2 ((ag2.1 _ _ eL).trans M.tL) F.keep F2.keep hn fun P _=>K P) F2 (Tn.of x2 ag2 fn0 fn0) rd0
 ·obtain rfl:k=5:=by exact Nat.eq_of_lt_succ_of_not_lt hk hk5
  refine open_late (i:=rs.length) (w:=w) (d:=d) (u:=u) c M.ok (fun b hb=>by rw [ef] at hb;rw [List.mem_singleton.mp hb];exact M.tL) M.st fun s2 a lr o2 x2 ag2 ok2 fa0 rd0=>?_
  rw [ef] at x2
  have nL:G.base.get? C.L=none:=(frs_old c.ff C.L (by rw [ef];exact .head _)).1
  have F2:=Fr.ext F x2 fnm fn0 (fun b hb=>by rw [List.mem_singleton.mp hb];exact nL)
  refine post s2 a lr o2 (M.keep ok2 ((ag2.1 _ _ eL).trans M.tL) F.keep F2.keep hn fun P hP=>⟨fun b ob e h=>⟨x2.keep b ob e fnm (fun q=>?_),ag2.1 b ob e⟩,fun g x e _=>⟨x2.gkeep g x e fnm,ag2.2 g x e⟩⟩) F2 (Tn.of x2 ag2 (fun b hb=>by rw [List.mem_singleton.mp hb,M.tL];decide) fn0) rd0
  rw [List.mem_singleton.mp q,M.tL] at h
  exact h.elim hP (by decide)
end
theorem my_append {prog:Program}{w:World}{A:Around}{E:Value→Shared→Prop}{s:Shared}{h₀:Heap}{L D n:Nat}{m:Str→Option Value}{news news':List (Addr × Obj)}{its:List Value}{v:Value}{Q:Value→Shared→Prop}(F:Fr h₀ L s.heap m) (N:News h₀ L s.heap news)
  (U:Upd D (W.listOf its.toArray n) (W.listOf (its++[v]).toArray (n+1)) news news') (hl:its.length≤100000)
  (h:∀ h',Fr h₀ L h' m→News h₀ L h' news'→Q .none { s with heap:=h' }):wpAny (model prog w) A (call (.builtin "list.append") [.ref D,v]) Q E s :=
 append_K (its:=its.toArray) (hsz:=by simp only [List.size_toArray,sizeLine];exact za hl rfl) F N (by simpa using U) h
theorem rr_at (C:Cs) {k:Nat}(hk:k < 5):(rrL C)[((k:Nat):Int).toNat]?=some (.ref (C.rr k)):=by
 rw [Int.toNat_natCast]
 obtain rfl | rfl | rfl | rfl | rfl:k=0∨k=1∨k=2∨k=3∨k=4:=by exact zq44 hk
 all_goals rfl
section
variable {G:Gr}{A:Around}{d u:Nat}{s:Shared}{fa:Nat}{cd:Value}{C:Cs}{Q:Flow→Shared→Prop}{E:Value→Shared→Prop}{o:Own}{w:WJ}{rs:List RdG}{az:List Int}
theorem brA_ {x:Str→Option Value}{kd k:Nat}{t1 t2:Nat}{wi:Value}(c:Cx G A [LE C.L fa cd] (d+3) (u+7) s.heap) (F:Fr G.base C.L s.heap (LK C (.int (kd:Nat) t1) (.int (k:Nat) t2) wi x)) (M:MI G C o w rs az s) (hk:k < 5) (hn:rs.length < 40)
  (post:∀ s' o' r,r.k=k→MI G C o' w (rs++[r]) az s'→Tn C rs o s o' s'→Fr G.base C.L s'.heap (LK C (.int (kd:Nat) t1) (.int (k:Nat) t2) wi x)→Q .next s'):wpAny (model PR G.w) A (execs lbA (LE C.L fa cd)) Q E s:=by
 have:=zi hk rfl
 have:rs.length≤100000:=za (Nat.le_of_lt hn) rfl
 have:=@on "sub"
 have:=@on "call builtin:list.append"
 refine cx_open c ?_;clear c;intro ad ag au c
 have X:=G.X
 have T:=G.T
 apply hide;intro _ kι;obtain ⟨ok,tL,st,li,bj,rx,ct⟩:=id M;apply kι
 apply hide;intro _ kι;obtain ⟨e1,p1,p2,p3,p4,p5,p6,e2⟩:=id st.mb;apply kι
 obtain ⟨n3,e3⟩:=li.ord
 have tA:∀ b,o.a b≠0→b≠C.L∧G.base.get? b=none:=fun b h=>⟨fun q=>h (by rw [q,tL]),ok b h⟩
 apply hide;intro _ kι;obtain ⟨rest,N,-,hr⟩:=ledger2 (g:=G.base) (L:=C.L) (h:=s.heap) (ex:=[(C.ba,instObj 123 C.dba),(C.dba,mapObj (.ref C.mba) (.ref 240) (.ref C.aba) p1 p2 p3 p4 p5 p6),(C.rd,lstObj (rs.map fun r=>Value.ref r.a).toArray n3)])
  (fq ⟨e1,tA _ (by rw [st.tb _ zm0];decide)⟩ (fq ⟨e2,tA _ (by rw [st.tb _ zm1];decide)⟩ (fq ⟨e3,tA _ (by rw [li.t4 _ (by simp)];decide)⟩ fn0)));apply kι
 simp only [List.cons_append,List.nil_append] at N
 have Fk:True→Fr G.base C.L s.heap _:=fun _=>F
 unfold lbA lbA0 lbA1 lbA2 lbA3
 dsimp only
 k_steps
 refine openB (k:=k) (w:=w) (d:=d) (u:=u) (o:=o) (Cx.in1 (u:=u+6) c) (M.tok c.st (by exact zq10 hn) _) F (by exact zq10 hn) hk fun s2 a lr o2 M2 F2 x2 rd=>?_
 apply hide;intro _ kι;obtain ⟨ok2,tL2,st2,li2,-,-,-⟩:=id M2;apply kι
 have F2k:True→Fr G.base C.L s2.heap _:=fun _=>F2
 clear F N hr
 have tA2:∀ b,o2.a b≠0→b≠C.L∧G.base.get? b=none:=fun b h=>⟨fun q=>h (by rw [q,tL2]),ok2 b h⟩
 obtain ⟨m1,g1⟩:=li2.ord
 refine xe2_2 li2.owh fun wv m2 g2 hw=>?_
 obtain ⟨m3,g3⟩:=li2.owo
 obtain ⟨m4,g4⟩:=li2.ogt
 refine xe1_2 st2.c2 fun oc ec hc=>?_
 obtain ⟨m5,g5⟩:=st2.orl
 have hrk:=rr_at C hk
 have hA:∀ q∈[(C.rd,lstObj (rs.map fun r=>Value.ref r.a).toArray m1),(C.wh,lstObj wv.toArray m2),(C.wo,lstObj (rs.map fun r=>Value.ref r.wa).toArray m3),(C.gt,lstObj (rs.map fun r=>Value.ref r.ga).toArray m4),(C.L+1+1,oc),(C.rl,lstObj (rrL C).toArray m5)],s2.heap.get? q.1=some q.2 :=
  fq g1 (fq g2 (fq g3 (fq g4 (fq ec (fq g5 fn0)))))
 have hB:∀ q∈[(C.rd,lstObj (rs.map fun r=>Value.ref r.a).toArray m1),(C.wh,lstObj wv.toArray m2),(C.wo,lstObj (rs.map fun r=>Value.ref r.wa).toArray m3),(C.gt,lstObj (rs.map fun r=>Value.ref r.ga).toArray m4),(C.L+1+1,oc),(C.rl,lstObj (rrL C).toArray m5)],q.1≠C.L∧G.base.get? q.1=none :=
  fq (tA2 _ (by rw [li2.t4 _ (by simp)];decide)) (fq (tA2 _ (by rw [li2.t4 _ (by simp)];decide)) (fq (tA2 _ (by rw [li2.t4 _ (by simp)];decide)) (fq (tA2 _ (by rw [li2.t4 _ (by simp)];decide)) (fq (tA2 _ (by rw [st2.t1 _ zm1];decide)) (fq (tA2 _ (by rw [st2.t1 _ zm4];decide)) fn0)))))
 have lw:wv.length < 40:=by have:=hw.length;rw [List.length_map] at this;exact zq171 hn this
 have nd:=li2.nd
 simp only [List.cons_append,List.nil_append,List.nodup_cons,List.mem_cons,not_or] at nd
 (refine hide fun Zq kZ=>?_;refine xe0_4 nd ?_;rintro ⟨d1,d2,d3,d4,-⟩ ⟨d5,d6,d7,-⟩ ⟨d8,d9,-⟩ -;all_goals (refine kZ ?_;clear kZ Zq))
 have t41:∀ {a b:Nat},o2.a a=4→o2.a b=1→@Ne Nat a b:=fun h1 h2 q=>by rw [q,h2] at h1;cases h1
 have q1:=li2.t4 C.rd (by simp);have q2:=li2.t4 C.wh (by simp);have q3:=li2.t4 C.wo (by simp);have q4:=li2.t4 C.gt (by simp)
 have q5:=st2.t1 (C.L+1+1) zm1;have q6:=st2.t1 C.rl zm4
 have d10:=t41 q1 q5;have d11:=t41 q2 q5;have d12:=t41 q3 q5;have d13:=t41 q4 q5
 have d14:=t41 q1 q6;have d15:=t41 q2 q6;have d16:=t41 q3 q6;have d17:=t41 q4 q6
 clear t41
 refine xe1_3 (ledger2 (g:=G.base) (L:=C.L) (h:=s2.heap) (ex:=[(C.rd,lstObj (rs.map fun r=>Value.ref r.a).toArray m1),(C.wh,lstObj wv.toArray m2),(C.wo,lstObj (rs.map fun r=>Value.ref r.wa).toArray m3),(C.gt,lstObj (rs.map fun r=>Value.ref r.ga).toArray m4),(C.L+1+1,oc),(C.rl,lstObj (rrL C).toArray m5)]) (fun q hq=>⟨hA q hq,hB q hq⟩)) fun rest N rne hr=>?_
 simp only [List.cons_append,List.nil_append] at N
 have r1:=rne C.rd zp0;have r2:=rne C.wh zp1;have r3:=rne C.wo zp2;have r4:=rne C.gt zp3
 k_steps
 any_goals repeat (refine my_append (by k_asm) (by k_asm) (by k_upd) (by first | omega | (simp only [List.length_map,List.length_append,List.length_cons,List.length_nil];omega)) ?_;intro _ _ _;(try k_sweep);k_steps)
 refine kim_list (by k_asm) (by k_dflt k_mem) rfl rfl (by omega) (by omega) (by with_reducible assumption) ?_
 k_steps
 any_goals repeat (refine my_append (by k_asm) (by k_asm) (by k_upd) (by first | omega | (simp only [List.length_map,List.length_append,List.length_cons,List.length_nil];omega)) ?_;intro _ _ _;(try k_sweep);k_steps)
 rename Fr _ _ _ _=>F4
 rename News _ _ _ _=>N4
 rename_i tk4 ga h3 l3 h4
 have x4:∀ tk,Ext [] [C.L,C.rd,C.wh,C.wo,C.gt] [] s2 { s2 with heap:=h4,toks:=tk }:=fun tk=>ext_led (s₂:=s2) (fr:=[]) (fp:=[C.rd,C.wh,C.wo,C.gt]) (tk:=tk) (F2k trivial) F4 N4 hr (fq ⟨g1,.inr ⟨zm0,_,.tail _ (.head _)⟩⟩ (fq ⟨g2,.inr ⟨zm1,_,.tail _ (.tail _ (.head _))⟩⟩ (fq ⟨g3,.inr ⟨zm2,_,.tail _ (.tail _ (.tail _ (.head _)))⟩⟩ (fq ⟨g4,.inr ⟨zm3,_,.tail _ (.tail _ (.tail _ (.tail _ (.head _))))⟩⟩ (fq ⟨ec,.inl (by k_mem)⟩ (fq ⟨g5,.inl (by k_mem)⟩ fn0)))))) (fun q hq=>by k_mem)
 have fg:s2.heap.get? ga=none:=new2 hr N4 (.head _) (fq l3.1 (fq l3.2.1 (fq l3.2.2.1 (fq l3.2.2.2.1 (fq l3.2.2.2.2.1 (fq l3.2.2.2.2.2.1 fn0)))))) (allLt_mem l3.2.2.2.2.2.2)
 (refine xe0_4 (st2.rows k hk) ?_;rintro tr ⟨nr,er⟩ lr' pr')
 have pk:Pairs o2 s2.heap k (szOf C.ns k) (C.VV k):=⟨lr',pr'⟩
 have er':h4.get? (C.rr k)=some (lstObj (C.VV k).toArray nr):=(x4 0).keep _ _ er (fun q=>by
  simp only [List.mem_cons,List.not_mem_nil,or_false] at q
  rcases q with q | q | q | q | q <;> rw [q] at tr
  ·rw [tL2] at tr;cases tr
  ·rw [q1] at tr;cases tr
  ·rw [q2] at tr;cases tr
  ·rw [q3] at tr;cases tr
  ·rw [q4] at tr;cases tr) fnm
 refine xe1_2 (M2.push (s':={ s2 with heap:=h4,toks:=tk }) (r:=⟨k,false,a,lr,0,ga,C.rr k⟩) (F2k trivial) F4 hn (rd ga (C.rr k)) rfl (x4 _) (News.get N4 (.tail _ (.head _))) hw (News.get N4 (.tail _ (.tail _ (.head _)))) (News.get N4 (.tail _ (.tail _ (.tail _ (.head _))))) (News.get N4 (.tail _ (.tail _ (.tail _ (.tail _ (.head _)))))) fg (News.get N4 (.head _)) er' (by
  show ItOs G o2 s2.heap (C.VV k) (rowD k 0 (szJ C.ns k)++[])
  rw [List.append_nil,show szJ C.ns k=szOf C.ns k from if_pos hk]
  exact pk.its) (.inl ⟨tr,_,er⟩)) fun o4 ag4 M4=>?_
 refine post _ o4 _ rfl M4 (x2.tok.trans (Tn.of (x4 _) ag4 fn0 fun b hb=>?_)) F4
 simp only [List.mem_cons,List.not_mem_nil,or_false] at hb
 rcases hb with h | h | h | h | h
 ·exact .inl (by rw [h,tL2];decide)
 all_goals exact .inr (by simp [h])
end
theorem rr_at5 (C:Cs) (e0:Nat) {k:Nat}(hk:k < 6):(rrL C++[Value.ref e0])[((k:Nat):Int).toNat]?=some (.ref (if k < 5 then C.rr k else e0)):=by
 rw [Int.toNat_natCast]
 obtain rfl | rfl | rfl | rfl | rfl | rfl:k=0∨k=1∨k=2∨k=3∨k=4∨k=5:=by exact (zs (Nat.zero_le _)).imp_right fun h=>(zs h).imp_right fun h=>(zs h).imp_right fun h=>(zs h).imp_right fun h=>(zs h).imp_right fun h=>Nat.le_antisymm (Nat.le_of_lt_succ hk) h
 all_goals rfl
theorem late_getD (k e2:Nat):(valueAt lateV ((k:Nat):Int)).getD (.ref e2)=.ref (if k=0∨k=3∨k=5 then lateA k else e2):=by
 by_cases h:k=0∨k=3∨k=5
 ·rw [late_val k h,if_pos h];rfl
 ·rw [late_none k h,if_neg h];rfl
theorem rrL_len (C:Cs):(rrL C).length=5:=rfl
section
variable {G:Gr}{A:Around}{d u:Nat}{s:Shared}{fa:Nat}{cd:Value}{C:Cs}{Q:Flow→Shared→Prop}{E:Value→Shared→Prop}{o:Own}{w:WJ}{rs:List RdG}{az:List Int}
theorem brB_ {x:Str→Option Value}{kd k:Nat}{t1 t2:Nat}{wi:Value}(c:Cx G A [LE C.L fa cd] (d+3) (u+7) s.heap) (F:Fr G.base C.L s.heap (LK C (.int (kd:Nat) t1) (.int (k:Nat) t2) wi x)) (M:MI G C o w rs az s) (hk:k < 6) (hn:rs.length < 40)
  (post:∀ s' o' r,r.k=k→MI G C o' w (rs++[r]) az s'→Tn C rs o s o' s'→Fr G.base C.L s'.heap (LK C (.int (kd:Nat) t1) (.int (k:Nat) t2) wi x)→Q .next s'):wpAny (model PR G.w) A (execs lbB (LE C.L fa cd)) Q E s:=by
 have:=zi hk rfl
 have:rs.length≤100000:=za (Nat.le_of_lt hn) rfl
 have:=@on "sub"
 have:=@on "call builtin:list.append"
 have:=@on "binaryOp Add ref ref"
 refine cx_open c ?_;clear c;intro ad ag au c
 have X:=G.X
 have T:=G.T
 apply hide;intro _ kι;obtain ⟨ok,tL,st,li,bj,rx,ct⟩:=id M;apply kι
 apply hide;intro _ kι;obtain ⟨e1,p1,p2,p3,p4,p5,p6,e2⟩:=id st.ms;apply kι
 obtain ⟨n3,e3⟩:=li.ord
 have tA:∀ b,o.a b≠0→b≠C.L∧G.base.get? b=none:=fun b h=>⟨fun q=>h (by rw [q,tL]),ok b h⟩
 apply hide;intro _ kι;obtain ⟨rest,N,-,hr⟩:=ledger2 (g:=G.base) (L:=C.L) (h:=s.heap) (ex:=[(C.sh,instObj 123 C.dsh),(C.dsh,mapObj (.ref C.msh) (.ref 240) (.ref 219) p1 p2 p3 p4 p5 p6),(C.rd,lstObj (rs.map fun r=>Value.ref r.a).toArray n3)])
  (fq ⟨e1,tA _ (by rw [st.ts _ zm0];decide)⟩ (fq ⟨e2,tA _ (by rw [st.ts _ zm1];decide)⟩ (fq ⟨e3,tA _ (by rw [li.t4 _ (by simp)];decide)⟩ fn0)));apply kι
 simp only [List.cons_append,List.nil_append] at N
 have Fk:True→Fr G.base C.L s.heap _:=fun _=>F
 unfold lbB lbB0 lbB1 lbB2 lbB3
 dsimp only
 k_steps
 refine openS (k:=k) (w:=w) (d:=d) (u:=u) (o:=o) (Cx.in1 (u:=u+6) c) (M.tok c.st (by exact zq10 hn) _) F (by exact zq10 hn) hk fun s2 a lr o2 M2 F2 x2 rd=>?_
 apply hide;intro _ kι;obtain ⟨ok2,tL2,st2,li2,-,-,-⟩:=id M2;apply kι
 have F2k:True→Fr G.base C.L s2.heap _:=fun _=>F2
 clear F N hr
 have tA2:∀ b,o2.a b≠0→b≠C.L∧G.base.get? b=none:=fun b h=>⟨fun q=>h (by rw [q,tL2]),ok2 b h⟩
 obtain ⟨m1,g1⟩:=li2.ord
 refine xe2_2 li2.owh fun wv m2 g2 hw=>?_
 obtain ⟨m3,g3⟩:=li2.owo
 obtain ⟨m4,g4⟩:=li2.ogt
 refine xe1_2 st2.c2 fun oc ec hc=>?_
 obtain ⟨m5,g5⟩:=st2.orl
 have hA:∀ q∈[(C.rd,lstObj (rs.map fun r=>Value.ref r.a).toArray m1),(C.wh,lstObj wv.toArray m2),(C.wo,lstObj (rs.map fun r=>Value.ref r.wa).toArray m3),(C.gt,lstObj (rs.map fun r=>Value.ref r.ga).toArray m4),(C.L+1+1,oc),(C.rl,lstObj (rrL C).toArray m5)],s2.heap.get? q.1=some q.2 :=
  fq g1 (fq g2 (fq g3 (fq g4 (fq ec (fq g5 fn0)))))
 have hB:∀ q∈[(C.rd,lstObj (rs.map fun r=>Value.ref r.a).toArray m1),(C.wh,lstObj wv.toArray m2),(C.wo,lstObj (rs.map fun r=>Value.ref r.wa).toArray m3),(C.gt,lstObj (rs.map fun r=>Value.ref r.ga).toArray m4),(C.L+1+1,oc),(C.rl,lstObj (rrL C).toArray m5)],q.1≠C.L∧G.base.get? q.1=none :=
  fq (tA2 _ (by rw [li2.t4 _ (by simp)];decide)) (fq (tA2 _ (by rw [li2.t4 _ (by simp)];decide)) (fq (tA2 _ (by rw [li2.t4 _ (by simp)];decide)) (fq (tA2 _ (by rw [li2.t4 _ (by simp)];decide)) (fq (tA2 _ (by rw [st2.t1 _ zm1];decide)) (fq (tA2 _ (by rw [st2.t1 _ zm4];decide)) fn0)))))
 have lw:wv.length < 40:=by have:=hw.length;rw [List.length_map] at this;exact zq171 hn this
 have nd:=li2.nd
 simp only [List.cons_append,List.nil_append,List.nodup_cons,List.mem_cons,not_or] at nd
 (refine hide fun Zq kZ=>?_;refine xe0_4 nd ?_;rintro ⟨d1,d2,d3,d4,-⟩ ⟨d5,d6,d7,-⟩ ⟨d8,d9,-⟩ -;all_goals (refine kZ ?_;clear kZ Zq))
 have t41:∀ {a b:Nat},o2.a a=4→o2.a b=1→@Ne Nat a b:=fun h1 h2 q=>by rw [q,h2] at h1;cases h1
 have q1:=li2.t4 C.rd (by simp);have q2:=li2.t4 C.wh (by simp);have q3:=li2.t4 C.wo (by simp);have q4:=li2.t4 C.gt (by simp)
 have q5:=st2.t1 (C.L+1+1) zm1;have q6:=st2.t1 C.rl zm4
 have d10:=t41 q1 q5;have d11:=t41 q2 q5;have d12:=t41 q3 q5;have d13:=t41 q4 q5
 have d14:=t41 q1 q6;have d15:=t41 q2 q6;have d16:=t41 q3 q6;have d17:=t41 q4 q6
 clear t41
 refine xe1_3 (ledger2 (g:=G.base) (L:=C.L) (h:=s2.heap) (ex:=[(C.rd,lstObj (rs.map fun r=>Value.ref r.a).toArray m1),(C.wh,lstObj wv.toArray m2),(C.wo,lstObj (rs.map fun r=>Value.ref r.wa).toArray m3),(C.gt,lstObj (rs.map fun r=>Value.ref r.ga).toArray m4),(C.L+1+1,oc),(C.rl,lstObj (rrL C).toArray m5)]) (fun q hq=>⟨hA q hq,hB q hq⟩)) fun rest N rne hr=>?_
 simp only [List.cons_append,List.nil_append] at N
 have r1:=rne C.rd zp0;have r2:=rne C.wh zp1;have r3:=rne C.wo zp2;have r4:=rne C.gt zp3
 k_steps
 any_goals repeat (refine my_append (by k_asm) (by k_asm) (by k_upd) (by first | omega | (simp only [List.length_map,List.length_append,List.length_cons,List.length_nil];omega)) ?_;intro _ _ _;(try k_sweep);k_steps)
 rename Fr _ _ _ _=>F3
 rename News _ _ _ _=>N3
 rename_i tk3 e0 h3 l3 e1 h3' l3'
 refine add_ls (xs:=rrL C) (ys:=[.ref e0]) F3 N3 (News.get N3 (.tail _ (.tail _ (.tail _ (.tail _ (.tail _ (.tail _ (.tail _ (.head _))))))))) (News.get N3 (.head _)) (by rw [rrL_len,List.length_singleton];decide) fun D0 h4 F4 N4 l4=>?_
 have l4c:=l4
 k_lt l4
 have hrk:=rr_at5 C e0 hk
 clear F3 N3
 k_steps
 refine kim_list (by k_asm) (by k_dflt k_mem) rfl rfl (by omega) (by omega) (by with_reducible assumption) ?_
 k_steps
 refine xe1_2 (late_dict G) fun oa ea ha=>?_
 refine dict_getM (F4.keep _ _ ea) ha ?_
 k_steps
 rename Fr _ _ _ _=>F5
 rename News _ _ _ _=>N5
 rename_i e2 h5 l5
 refine dict_get (F5.keep _ _ ea) ha (by decide) ?_
 rw [late_getD k e2]
 obtain ⟨zl,hzl⟩:∃ z,(if k=0∨k=3∨k=5 then lateA k else e2)=z:=⟨_,rfl⟩
 obtain ⟨zx,hzx⟩:∃ z,(if k < 5 then C.rr k else e0)=z:=⟨_,rfl⟩
 rw [hzl,hzx]
 k_steps
 have trs:∀ k',k' < 5→∃ nr,s2.heap.get? (C.rr k')=some (lstObj (C.VV k').toArray nr)∧(C.rr k',lstObj (C.VV k').toArray nr)∈(C.L+1+1,oc) :: (C.rl,lstObj (rrL C).toArray m5) :: rest:=fun k' hk'=>by
  (refine xe0_4 (st2.rows k' hk') ?_;rintro tr ⟨nr,er⟩ - -)
  refine (wi1_2 nr er ?_)
  have nt:∀ b,o2.a b=4→C.rr k'≠b:=fun b h q=>by rw [q,h] at tr;cases tr
  rcases hr _ _ er (ok2 _ (by rw [tr];decide)) with h | h | h
  ·rw [h,tL2] at tr;cases tr
  ·refine xe1_2 (List.mem_map.mp h) fun q hq e=>?_
   have z:=hA q hq
   rw [e,er] at z
   have hq':(C.rr k',lstObj (C.VV k').toArray nr)=q:=by obtain ⟨q1',q2'⟩:=q;cases Option.some.inj z;rw [← e]
   rw [hq']
   simp only [List.mem_cons,List.not_mem_nil,or_false] at hq ⊢
   rcases hq with h | h | h | h | h | h
   ·exact absurd (by rw [← e,h]) (nt _ q1)
   ·exact absurd (by rw [← e,h]) (nt _ q2)
   ·exact absurd (by rw [← e,h]) (nt _ q3)
   ·exact absurd (by rw [← e,h]) (nt _ q4)
   ·exact .inl h
   ·exact .inr (.inl h)
  ·exact .tail _ (.tail _ h)
 have ezx:∃ n,h5.get? zx=some (W.listOf (if k < 5 then C.VV k else []).toArray n):=by
  by_cases h:k < 5
  ·refine xe1_2 (trs k h) fun nr _ hm=>?_
   rw [if_pos h] at hzx ⊢
   exact ⟨nr,hzx▸News.get N5 (.tail _ (.tail _ (.tail _ (.tail _ (.tail _ (.tail _ (.tail _ (.tail _ hm))))))))⟩
  ·rw [if_neg h] at hzx ⊢
   exact ⟨0,hzx▸News.get N5 (.tail _ (.tail _ (.tail _ (.head _))))⟩
 have ezl:h5.get? zl=some (W.listOf (lateW k).toArray 0):=by
  by_cases h:k=0∨k=3∨k=5
  ·rw [if_pos h] at hzl
   exact hzl▸F5.keep _ _ (late_list G k h)
  ·rw [if_neg h] at hzl
   have:lateW k=[]:=by unfold lateW;rw [if_neg (by exact zq165 h),if_neg (by exact zq166 h),if_neg (by exact zq358 h)]
   rw [this]
   exact hzl▸News.get N5 (.head _)
 obtain ⟨nzx,ezx⟩:=ezx
 have lxv:(if k < 5 then C.VV k else []).length≤4:=by
  split
  ·rename_i h
   obtain ⟨-,-,q,-⟩:=st2.rows k h
   rw [q];exact szOf_le _ _
  ·simp
 have lyv:(lateW k).length≤2:=by unfold lateW;(repeat' split) <;> simp
 obtain ⟨xv,hxv⟩:∃ x,(if k < 5 then C.VV k else [])=x:=⟨_,rfl⟩
 rw [hxv] at ezx lxv
 refine add_ls (xs:=xv) (ys:=lateW k) F5 N5 ezx ezl (by exact za (Nat.add_le_add lxv lyv) rfl) fun w1 h6 F6 N6 l6=>?_
 have l6c:=l6
 k_lt l6
 clear F5 N5
 k_steps
 any_goals repeat (refine my_append (by k_asm) (by k_asm) (by k_upd) (by first | omega | (simp only [List.length_map,List.length_append,List.length_cons,List.length_nil];omega)) ?_;intro _ _ _;(try k_sweep);k_steps)
 rename Fr _ _ _ _=>F7
 rename News _ _ _ _=>N7
 rename_i tk6 ga h7 l7 h8
 have x4:∀ tk,Ext [] [C.L,C.rd,C.wh,C.wo,C.gt] [] s2 { s2 with heap:=h8,toks:=tk }:=fun tk=>ext_led (s₂:=s2) (fr:=[]) (fp:=[C.rd,C.wh,C.wo,C.gt]) (tk:=tk) (F2k trivial) F7 N7 hr (fq ⟨g1,.inr ⟨zm0,_,.tail _ (.tail _ (.tail _ (.tail _ (.tail _ (.tail _ (.head _))))))⟩⟩ (fq ⟨g2,.inr ⟨zm1,_,.tail _ (.tail _ (.tail _ (.tail _ (.tail _ (.tail _ (.tail _ (.head _)))))))⟩⟩ (fq ⟨g3,.inr ⟨zm2,_,.tail _ (.tail _ (.tail _ (.tail _ (.tail _ (.tail _ (.tail _ (.tail _ (.head _))))))))⟩⟩ (fq ⟨g4,.inr ⟨zm3,_,.tail _ (.tail _ (.tail _ (.tail _ (.tail _ (.tail _ (.tail _ (.tail _ (.tail _ (.head _)))))))))⟩⟩ (fq ⟨ec,.inl (.tail _ (.tail _ (.tail _ (.tail _ (.tail _ (.tail _ (.tail _ (.tail _ (.tail _ (.tail _ (.head _)))))))))))⟩ (fq ⟨g5,.inl (.tail _ (.tail _ (.tail _ (.tail _ (.tail _ (.tail _ (.tail _ (.tail _ (.tail _ (.tail _ (.tail _ (.head _))))))))))))⟩ fn0)))))) (fun q hq=>.tail _ (.tail _ (.tail _ (.tail _ (.tail _ (.tail _ (.tail _ (.tail _ (.tail _ (.tail _ (.tail _ (.tail _ (hq)))))))))))))
 refine xe0_12 l7 fun la1 la2 la3 la4 la5 la6 la7 la8 la9 la10 la11 la12=>?_
 refine xe0_11 l6 fun lb1 lb2 lb3 lb4 lb5 lb6 lb7 lb8 lb9 lb10 lb11=>?_
 have fg:s2.heap.get? ga=none:=new2 hr N7 (.head _) (fq la6 (fq la7 (fq la8 (fq la9 (fq la10 (fq la11 fn0)))))) (allLt_mem la12)
 have fw:s2.heap.get? w1=none:=new2 (o':=W.listOf (xv++lateW k).toArray 0) hr N7 (.tail _ (.head _)) (fq lb5 (fq lb6 (fq lb7 (fq lb8 (fq lb9 (fq lb10 fn0)))))) (allLt_mem lb11)
 have hits:ItOs G o2 s2.heap (xv++lateW k) (rowD k 0 (szJ C.ns k)++lateD k):=by
  refine ItOs.app ?_ (late_its G o2 s2.heap k)
  rw [← hxv]
  unfold szJ
  by_cases h:k < 5
  ·apply hide;intro _ kι;obtain ⟨-,-,q3,q4⟩:=st2.rows k h;apply kι
   rw [if_pos h,if_pos h]
   exact Pairs.its ⟨q3,q4⟩
  ·rw [if_neg h,if_neg h];exact .nil
 refine xe1_2 (M2.push (s':={ s2 with heap:=h8,toks:=tk }) (r:=⟨k,true,a,lr,0,ga,w1⟩) (F2k trivial) F7 hn (rd ga w1) rfl (x4 _) (News.get N7 (.tail _ (.tail _ (.tail _ (.tail _ (.tail _ (.tail _ (.head _)))))))) hw (News.get N7 (.tail _ (.tail _ (.tail _ (.tail _ (.tail _ (.tail _ (.tail _ (.head _))))))))) (News.get N7 (.tail _ (.tail _ (.tail _ (.tail _ (.tail _ (.tail _ (.tail _ (.tail _ (.head _)))))))))) (News.get N7 (.tail _ (.tail _ (.tail _ (.tail _ (.tail _ (.tail _ (.tail _ (.tail _ (.tail _ (.head _))))))))))) fg (News.get N7 (.head _)) (News.get N7 (.tail _ (.head _))) hits (.inr ⟨fw,Nat.ne_of_lt la1⟩)) fun o4 ag4 M4=>?_
 refine post _ o4 _ rfl M4 (x2.tok.trans (Tn.of (x4 _) ag4 fn0 fun b hb=>?_)) F7
 simp only [List.mem_cons,List.not_mem_nil,or_false] at hb
 rcases hb with h | h | h | h | h
 ·exact .inl (by rw [h,tL2];decide)
 all_goals exact .inr (by simp [h])
end
structure MI0 (G:Gr) (C:Cs) (o:Own) (w:WJ) (rs:List RdG) (az:List Int) (s:Shared):Prop where
 ok:OwnOk G o
 tL:o.a C.L=0
 st:St1 G C o s
 li:LI G C rs az o s
 bj:BJ G C.P w o s
 rx:∀ i r,rs[i]?=some r→RdX G C.P i r w o s
theorem MI.m0 {G:Gr}{C:Cs}{o:Own}{w:WJ}{rs:List RdG}{az:List Int}{s:Shared}(M:MI G C o w rs az s):MI0 G C o w rs az s:=⟨M.ok,M.tL,M.st,M.li,M.bj,M.rx⟩
theorem MI0.mi {G:Gr}{C:Cs}{o:Own}{w:WJ}{rs:List RdG}{az:List Int}{s:Shared}(M:MI0 G C o w rs az s) (ct:CntOk C w rs az):MI G C o w rs az s:=⟨M.ok,M.tL,M.st,M.li,M.bj,M.rx,ct⟩
theorem MI0.keep {G:Gr}{C:Cs}{o o':Own}{w:WJ}{rs:List RdG}{az:List Int}{s s':Shared}(M:MI0 G C o w rs az s) (ok':OwnOk G o') (tL':o'.a C.L=0) (st:G.base.StaysIn s.heap) (st':G.base.StaysIn s'.heap) (hn:rs.length≤40) (K:∀ P:Nat→Prop,¬ P 0→Kp P o s o' s'):MI0 G C o' w rs az s' :=
 ⟨ok',tL',M.st.mono (K (fun _=>False) id).one,M.li.mono (K _ (by decide)),M.bj.mono (K _ fm2_0),fun i r hr=>(M.rx i r hr).keep M.st.sq (by have:=(List.getElem?_eq_some_iff.mp hr).1;exact zq7 hn this) st st' (K _ (by exact zq8))⟩
theorem MI0.tok {G:Gr}{C:Cs}{o:Own}{w:WJ}{rs:List RdG}{az:List Int}{s:Shared}(M:MI0 G C o w rs az s) (st:G.base.StaysIn s.heap) (hn:rs.length≤40) (t:Nat):MI0 G C o w rs az { s with toks:=t } :=
 M.keep M.ok M.tL st st hn fun P _=>⟨fun b ob e _=>⟨e,rfl⟩,fun g x e _=>⟨e,rfl⟩⟩
theorem MI0.inL {G:Gr}{C:Cs}{o:Own}{w:WJ}{rs:List RdG}{az:List Int}{s s':Shared}{m m':Str→Option Value}(M:MI0 G C o w rs az s) (F:Fr G.base C.L s.heap m) (F':Fr G.base C.L s'.heap m') (hn:rs.length≤40) (x:Ext [] [C.L] [] s s'):MI0 G C o w rs az s'∧Tn C rs o s o s' :=
 ⟨M.keep M.ok M.tL F.keep F'.keep hn fun P hP=>extL_kp x ⟨fun _ _ _=>rfl,fun _ _ _=>rfl⟩ P fun b hb=>by rw [List.mem_singleton.mp hb,M.tL];exact ⟨hP,by decide⟩,
  Tn.of x ⟨fun _ _ _=>rfl,fun _ _ _=>rfl⟩ fn0 fun b hb=>.inl (by rw [List.mem_singleton.mp hb,M.tL];decide)⟩
theorem Mv.kp0 {G:Gr}{P M:Nat→Prop}{fr:List Addr}{o o':Own}{s s':Shared}(x:Mv G P fr o s o' s') (f0:∀ b∈fr,o.a b=0) (hP:∀ t,P t→¬ M t∧t≠1) (hM:¬ M 0):Kp M o s o' s' :=
 ⟨fun b ob e t=>x.keep e (fun p=>by have:=hP _ p;exact t.elim this.1 this.2) (fun q=>by rw [f0 b q] at t;exact t.elim hM (by decide)),fun g v e t=>x.gkeep e fun p=>(hP _ p).1 t⟩
theorem frs1 {L fa:Nat}{cd:Value}{o:Own}(h:o.a L=0):∀ b∈frs [LE L fa cd],o.a b=0:=fun b hb=>by
 have:b∈[L]:=hb
 rw [List.mem_singleton.mp this];exact h
theorem Mv.fr {G:Gr}{P:Nat→Prop}{L fa:Nat}{cd:Value}{o o':Own}{s s':Shared}{m:Str→Option Value}(x:Mv G P (frs [LE L fa cd]) o s o' s') (ok:OwnOk G o) (hP:¬ P 0) (nL:G.base.get? L=none) (tL:o.a L=0) (F:Fr G.base L s.heap m):Fr G.base L s'.heap m :=
 Fr.ext F x.ext (fun q=>(mem_fpOf.mp q).2.2 (.head _)) (fun b hb=>ok b fun q=>hP (q▸(mem_fpOf.mp hb).2.1)) (fun b hb=>by have:b∈[L]:=hb;rw [List.mem_singleton.mp this];exact nL)
theorem Mv.tn {G:Gr}{C:Cs}{rs:List RdG}{P:Nat→Prop}{L fa:Nat}{cd:Value}{o o':Own}{s s':Shared}(x:Mv G P (frs [LE L fa cd]) o s o' s') (h4:¬ P 4) (tL:o.a L=0):Tn C rs o s o' s' :=
 ⟨fun b ob e t _=>let r:=x.keep e (by rw [t];exact h4) (fun q=>by have:b∈[L]:=q;rw [List.mem_singleton.mp this,tL] at t;(replace t:=Eq.symm t;cases t));⟨r.1,r.2.trans t⟩,x.ext.drawn,x.ext.os,x.ext.bare⟩
theorem MI0.step {G:Gr}{C:Cs}{o o':Own}{w w':WJ}{rs:List RdG}{az:List Int}{s s':Shared}{P:Nat→Prop}{k c fa:Nat}{cd:Value}(M:MI0 G C o w rs az s) (mv:Mv G P (frs [LE C.L fa cd]) o s o' s') (hP:∀ t,P t→t≠0∧t≠1∧t≠4) (st:G.base.StaysIn s.heap) (st':G.base.StaysIn s'.heap) (hn:rs.length≤40) (eL:∃ ob,s.heap.get? C.L=some ob)
  (bj':BJ G C.P w' o' s') (g:GJ C.P k w w' c) (hr:∀ i r,rs[i]?=some r→(∀ t,P t→t≠5+i∧t≠50+i)∨RdX G C.P i r w' o' s'):MI0 G C o' w' rs az s':=by
 have f0:=frs1 (fa:=fa) (cd:=cd) M.tL
 obtain ⟨oL,eL⟩:=eL
 refine ⟨mv.ok,(mv.ag.1 _ _ eL).trans M.tL,M.st.mono (mv.kp0 (M:=fun _=>False) f0 (fun t h=>⟨id,(hP t h).2.1⟩) id).one,M.li.mono (mv.kp0 f0 (fun t h=>⟨(hP t h).2.2,(hP t h).2.1⟩) (by decide)),bj',fun i r h=>?_⟩
 rcases hr i r h with z | z
 ·exact (M.rx i r h).other M.st.sq (by have:=(List.getElem?_eq_some_iff.mp h).1;exact zq7 hn this) st st' (mv.kp0 f0 (fun t p=>⟨fun q=>q.elim (z t p).1 (z t p).2,(hP t p).2.1⟩) (by exact zq8)) g
 ·exact z
theorem rp_ok {k t:Nat}(hk:k=0∨k=1) (h:RP 99 k t):t=99∨FM2 t:=by
 rcases h with h | h
 ·exact .inl h
 ·rcases hk with hk | hk <;> replace hk:=hk.symm <;> subst hk
  ·exact .inr (.inl h)
  ·exact .inr (.inr h)
section
variable {G:Gr}{A:Around}{d u:Nat}{s:Shared}{o:Own}{w:WJ}{C:Cs}{rs:List RdG}{az:List Int}{k fa:Nat}{cd:Value}{m:Str→Option Value}{Q:Bool→Shared→Prop}{E:Value→Shared→Prop}
theorem view_truthy (c:Cx G A [LE C.L fa cd] (d+52) (u+145) s.heap) (M:MI0 G C o w rs az s) (F:Fr G.base C.L s.heap m) (hn:rs.length≤40) (hk:k < 5)
  (post:∀ s' o' w',MI0 G C o' w' rs az s'→Fr G.base C.L s'.heap m→Tn C rs o s o' s'→GJ C.P k w w' 1→Q (decide (C.P.WV k≠[])) s'):wpAny (model PR G.w) A (truthy (.ref (C.P.va k))) Q E s:=by
 refine xe3_2 (id F.ns) fun oL _ _ eL _=>?_
 have nL:G.base.get? C.L=none:=(frs_old c.ff C.L (.head _)).1
 have fac:∀ {k:Nat}{w0:Option VS},FacK G C.P k w0 o s→∃ od,s.heap.get? (C.P.va k)=some (instObj 165 (C.P.dv k))∧s.heap.get? (C.P.dv k)=some od:=fun {k w0} h=>by
  cases e:w0 with
  | none=>apply hide;intro _ kι;obtain ⟨⟨h1,_,_,_,_,h2⟩,_⟩:=h.shut e;apply kι;exact (wi1_2 _ h1 h2)
  | some q=>apply hide;intro _ kι;obtain ⟨⟨h1,_,_,_,_,h2⟩,_⟩:=h.opn q e;apply kι;exact (wi1_2 _ h1 h2)
 have mvok:∀ {k:Nat},(k=0∨k=1)→∀ t,RP 99 k t→t≠0∧t≠1∧t≠4:=fun hk t h=>by
  rcases rp_ok hk h with h | h
  ·exact ⟨zn h rfl,zn h rfl,zn h rfl⟩
  ·rw [fm2_iff] at h;exact zq173 h
 have rdok:∀ {k:Nat},(k=0∨k=1)→∀ i,i < 40→∀ t,RP 99 k t→t≠5+i∧t≠50+i:=fun hk i hi t h=>by
  rcases rp_ok hk h with h | h
  ·exact ⟨fun e=>Nat.ne_of_gt (za (Nat.add_lt_add_left hi 5) rfl) (h.symm.trans e),fun e=>Nat.ne_of_gt (za (Nat.add_lt_add_left hi 50) rfl) (h.symm.trans e)⟩
  ·rw [fm2_iff] at h;exact ⟨td (tb h) (Nat.le_add_right 5 _) (za (Nat.add_lt_add_left hi 5) rfl),td (tb h) (ze rfl) (za (Nat.add_lt_add_left hi 50) rfl)⟩
 obtain rfl | rfl | h2:k=0∨k=1∨2≤k:=by exact zq86
 ·refine xe1_2 (fac M.bj.f0) fun od e1 e2=>?_
  refine truthy_K (K:=hd.heap_1 G.w.params) F G.X (inst_at e1 e2) (by k_is) (by k_is) ?_
  refine fac_bool (d:=d) (u:=u) (.inl rfl) c M.ok (frs1 M.tL) M.bj.f0 fun s' o' w' mv hF g=>?_
  have F':=mv.fr M.ok (fun h=>(mvok (.inl rfl) 0 h).1 rfl) nL M.tL F
  have K1:Kp (FM 1) o s o' s':=mv.kp0 (frs1 M.tL) (fun t h=>⟨fun z=>by
   rw [fm1_iff] at z
   rcases h with h | h
   ·exact zq373 z h
   ·rw [fm0_iff] at h;exact zq374 z h,(mvok (.inl rfl) t h).2.1⟩) (by rw [fm1_iff];exact of_decide_eq_false rfl)
  have gg:GJ C.P 0 w (w',w.2) 1:=⟨g,rfl⟩
  exact post s' o' (w',w.2) (M.step mv (mvok (.inl rfl)) c.st F'.keep hn ⟨_,eL⟩ ⟨hF,Fac.mono (.inr rfl) M.bj.f1 K1,M.bj.sq.mono K1⟩ gg fun i r hr=>.inl (rdok (.inl rfl) i (by have:=(List.getElem?_eq_some_iff.mp hr).1;exact zq90 hn this))) F' (mv.tn (fun h=>(mvok (.inl rfl) 4 h).2.2 rfl) M.tL) gg
 ·refine xe1_2 (fac M.bj.f1) fun od e1 e2=>?_
  refine truthy_K (K:=hd.heap_1 G.w.params) F G.X (inst_at e1 e2) (by k_is) (by k_is) ?_
  refine fac_bool (d:=d) (u:=u) (.inr rfl) c M.ok (frs1 M.tL) M.bj.f1 fun s' o' w' mv hF g=>?_
  have F':=mv.fr M.ok (fun h=>(mvok (.inr rfl) 0 h).1 rfl) nL M.tL F
  have K1:Kp (FM 0) o s o' s':=mv.kp0 (frs1 M.tL) (fun t h=>⟨fun z=>by
   rw [fm0_iff] at z
   rcases h with h | h
   ·exact tf z h rfl
   ·rw [fm1_iff] at h;exact zq377 z h,(mvok (.inr rfl) t h).2.1⟩) (by rw [fm0_iff];exact of_decide_eq_false rfl)
  have gg:GJ C.P 1 w (w.1,w') 1:=⟨g,rfl⟩
  exact post s' o' (w.1,w') (M.step mv (mvok (.inr rfl)) c.st F'.keep hn ⟨_,eL⟩ ⟨Fac.mono (.inl rfl) M.bj.f0 K1,hF,M.bj.sq.mono K1⟩ gg fun i r hr=>.inl (rdok (.inr rfl) i (by have:=(List.getElem?_eq_some_iff.mp hr).1;exact zq90 hn this))) F' (mv.tn (fun h=>(mvok (.inr rfl) 4 h).2.2 rfl) M.tL) gg
 ·have sb:=M.bj.sq k h2 hk
  apply hide;intro _ kι;obtain ⟨⟨e1,_,_,e2⟩,sq,tg⟩:=id sb;apply kι
  refine truthy_K (K:=hd.heap_1 G.w.params) F G.X (inst_at e1 e2) (by k_is) (by k_is) ?_
  have hl:(C.P.WV k).length < 1000:=by have:=(M.st.pr k hk).1;have:=szOf_le C.ns k;exact zq174 (by assumption) this
  refine seqv_bool (d:=d+51) (u:=u+142) c sb.sv sq hl (fun b hb=>M.ok b (by rw [tg b (by simp at hb;rcases hb with h | h <;> simp [h])];decide)) fun s' x hg=>?_
  have F':=Fr.ext F x fnm fn0 fn0
  have ag:Agree o o s:=⟨fun _ _ _=>rfl,fun _ _ _=>rfl⟩
  exact post s' o w (M.keep M.ok M.tL c.st F'.keep hn fun P _=>ext_kp x ag P) F' (Tn.of x ag fn0 fn0) (by unfold GJ;rw [if_neg (by exact zq50 h2),if_neg (by exact zq51 h2)])
end
theorem CntOk.ask {C:Cs}{w w':WJ}{rs:List RdG}{az:List Int}{k:Nat}(x:CntOk C w rs az) (g:GJ C.P k w w' 1):CntOk C w' rs (az++[(k:Int)]):=by
 have same:∀ j:Nat,j≠k→mostR j rs (az++[(k:Int)])=mostR j rs az:=fun j h=>by
  have:((j:Int)∈az++[(k:Int)]) ↔ (j:Int)∈az:=by simp;omega
  unfold mostR
  simp only [this]
 have own:mostR k rs (az++[(k:Int)])=max (mostR k rs az) 1:=by
  unfold mostR
  rw [if_pos (by simp),← mo_max]
  congr 1
  split <;> omega
 have g0:(0:Int)≤mostR k rs az:=by
  have:=mostOf_ge (name:=(k:Int)) (rs.map fun r=>((r.k:Int),r.p)) (if (k:Int)∈az then 1 else 0)
  unfold mostR
  split at this <;> rename_i h <;> simp only [h,if_true,if_false] <;> (first | exact zq175 this | exact zq72 this)
 unfold GJ at g
 by_cases h0:k=0
 ·(replace h0:=Eq.symm h0;subst h0)
  apply hide;intro _ kι;obtain ⟨⟨q',e,h1,_⟩,h2⟩:=g;apply kι
  refine ⟨?_,fun h=>?_,fun h=>?_⟩
  ·rw [own,e]
   show q'.m=_
   rw [h1,x.c0];exact zq381
  ·rw [same 1 (by decide)];exact x.c1 (h2▸h)
  ·rw [same 1 (by decide)];exact x.c2 (h2▸h)
 ·rw [if_neg h0] at g
  by_cases h1:k=1
  ·subst h1
   apply hide;intro _ kι;obtain ⟨⟨q',e,_⟩,h2⟩:=g;apply kι
   refine ⟨?_,fun h=>?_,fun _=>.inr ?_⟩
   ·rw [same 0 (by decide),h2];exact x.c0
   ·rw [e] at h;exact nsf h.symm
   ·rw [own];exact Int.le_max_right _ 1
  ·rw [if_neg h1] at g
   subst g
   exact ⟨by rw [same 0 (by exact Ne.intro fun a_1=>h0 (id (Eq.symm a_1)))];exact x.c0,fun h=>by rw [same 1 (by exact zq176 h1)];exact x.c1 h,fun h=>by rw [same 1 (by exact zq176 h1)];exact x.c2 h⟩
theorem vaL_at (P:Lw) {k:Nat}(hk:k < 5):(vaL P)[((k:Nat):Int).toNat]?=some (.ref (P.va k)):=by
 rw [Int.toNat_natCast]
 obtain rfl | rfl | rfl | rfl | rfl:k=0∨k=1∨k=2∨k=3∨k=4:=by exact zq44 hk
 all_goals rfl
theorem MI0.ask {G:Gr}{C:Cs}{o:Own}{w:WJ}{rs:List RdG}{az:List Int}{s s':Shared}{m m':Str→Option Value}{av:List Value}{k n t:Nat}(M:MI0 G C o w rs az s) (F:Fr G.base C.L s.heap m) (F':Fr G.base C.L s'.heap m') (hn:rs.length≤40) (x:Ext [] [C.L,C.ak] [] s s') (hav:IntsAre av az) (g:s'.heap.get? C.ak=some (lstObj (av++[Value.int (k:Nat) t]).toArray n)):MI0 G C o w rs (az++[(k:Int)]) s'∧Tn C rs o s o s':=by
 have ag:Agree o o s:=⟨fun _ _ _=>rfl,fun _ _ _=>rfl⟩
 have li:=M.li
 have tak:=li.t4 C.ak (by simp)
 have K:∀ P:Nat→Prop,¬ P 0∧¬ P 4→Kp P o s o s':=fun P hP=>kp4 x ag (fun b hb=>by
  simp only [List.mem_cons,List.not_mem_nil,or_false] at hb
  rcases hb with h | h
  ·exact .inl (by rw [h];exact M.tL)
  ·exact .inr (by rw [h];exact tak)) P hP
 have k1:=(K (fun _=>False) ⟨id,id⟩).one
 have nd:=li.nd
 have nd':=List.nodup_append.mp nd
 have k4:∀ b ob,s.heap.get? b=some ob→o.a b=4→b≠C.ak→s'.heap.get? b=some ob:=fun b ob e t h=>x.keep b ob e (fun q=>by
  simp only [List.mem_cons,List.not_mem_nil,or_false] at q
  rcases q with q | q
  ·rw [q,M.tL] at t;cases t
  ·exact h q) fnm
 have na:C.rd≠C.ak∧C.wh≠C.ak∧C.wo≠C.ak∧C.gt≠C.ak:=by
  have:=nd'.1
  simp only [List.nodup_cons,List.mem_cons,List.not_mem_nil,or_false,not_or] at this
  (refine hide fun Zq kZ=>?_;refine xe0_5 this ?_;rintro ⟨a1,a2,a3,a4⟩ ⟨b1,b2,b3⟩ ⟨c1,c2⟩ d1 _;all_goals (refine kZ ?_;clear kZ Zq))
  exact (yi4 a4 b3 c2 d1)
 refine ⟨⟨M.ok,M.tL,M.st.mono k1,⟨?_,?_,?_,?_,(wi2_2 _ n g (hav.append (.cons _ _ .nil))),fun r hr=>?_,fun r hr=>?_,li.t4,nd,li.pl,li.n2⟩,M.bj.mono (K FM2 ⟨fm2_0,fm2_4⟩),fun i r hr=>(M.rx i r hr).keep M.st.sq (by have:=(List.getElem?_eq_some_iff.mp hr).1;exact zq7 hn this) F.keep F'.keep (K _ ⟨by exact zq8,by exact zq29⟩)⟩,Tn.of x ag fn0 fun b hb=>?_⟩
 ·obtain ⟨n,e⟩:=li.ord;exact ⟨n,k4 _ _ e (li.t4 _ (by simp)) na.1⟩
 ·refine xe2_2 li.owh fun wv n e h=>?_;exact (wi2_2 wv n (k4 _ _ e (li.t4 _ (by simp)) na.2.1) h)
 ·obtain ⟨n,e⟩:=li.owo;exact ⟨n,k4 _ _ e (li.t4 _ (by simp)) na.2.2.1⟩
 ·obtain ⟨n,e⟩:=li.ogt;exact ⟨n,k4 _ _ e (li.t4 _ (by simp)) na.2.2.2⟩
 ·refine xe2_2 (li.got r hr) fun gv n e h=>?_
  exact (wi2_2 gv n (k4 _ _ e (li.t4 _ (List.mem_append_right _ (List.mem_map_of_mem hr))) (fun q=>nd'.2.2 C.ak zm4 r.ga (List.mem_map_of_mem hr) q.symm)) (h.mono k1))
 ·refine xe2_3 (li.whl r hr) fun wv n e h q=>?_
  obtain ⟨e',q'⟩:=k1 _ _ e q
  exact (wi2_3 wv n e' (h.mono k1) (q'.trans q))
 ·simp only [List.mem_cons,List.not_mem_nil,or_false] at hb
  rcases hb with h | h
  ·exact .inl (by rw [h,M.tL];decide)
  ·exact .inr (by simp [h])
theorem row_it {G:Gr}{o:Own}{s:Shared}{k len r:Nat}{V:List Value}(x:RowAt (fun b=>o.a b=1) s.heap k len r V) (st:G.base.StaysIn s.heap):It 2 s.heap (.ref r) (.list (rowD k 0 len)):=by
 (refine xe0_4 x ?_;rintro _ ⟨n,e⟩ h1 h2)
 exact ((Pairs.its (G:=G) ⟨h1,h2⟩).its st).list e
theorem rowD_nil {k n:Nat}:(Dat.list (rowD k 0 n)=Dat.list []) ↔ n=0:=by
 cases n with
 | zero=>simp [rowD]
 | succ n=>simp [rowD]
open Classical in
theorem rowD_b {k n:Nat}{W:List Value}{bb:Bool}(h:W.length=n) (hb:W≠[] ↔ bb=true):decide (Dat.list (rowD k 0 n)=Dat.list [])=!bb:=by
 cases bb with
 | true =>
  have:¬ (Dat.list (rowD k 0 n)=Dat.list []):=fun q=>by
   have:=rowD_nil.mp q
   exact hb.mpr rfl (List.length_eq_zero_iff.mp (h.trans this))
  simp [this]
 | false =>
  have:W=[]:=Classical.byContradiction fun q=>by have:=hb.mp q;cases this
  rw [this] at h
  have:=(rowD_nil (k:=k)).mpr h.symm
  simp [this]
section
variable {G:Gr}{A:Around}{d u:Nat}{s:Shared}{fa:Nat}{cd:Value}{C:Cs}{Q:Flow→Shared→Prop}{E:Value→Shared→Prop}{o:Own}{w:WJ}{rs:List RdG}{az:List Int}
theorem brC_ {x:Str→Option Value}{kd k:Nat}{t1 t2:Nat}{wi:Value}(c:Cx G A [LE C.L fa cd] (d+52) (u+145) s.heap) (F:Fr G.base C.L s.heap (LK C (.int (kd:Nat) t1) (.int (k:Nat) t2) wi x)) (M:MI G C o w rs az s) (hk:k < 5) (hn:rs.length≤40) (ha:az.length≤1000)
  (post:∀ s' o' w',MI G C o' w' rs (az++[(k:Int)]) s'→Tn C rs o s o' s'→Fr G.base C.L s'.heap (LK C (.int (kd:Nat) t1) (.int (k:Nat) t2) wi x)→Q .next s'):wpAny (model PR G.w) A (execs lbC (LE C.L fa cd)) Q E s:=by
 have:=zi hk rfl
 have:=@on "sub"
 have:=@on "call builtin:list.append"
 have:=@on "compareOp Eq ref ref"
 have:=@on "compareOp NotEq ref ref"
 have:=@on "truthy ref"
 refine cx_open c ?_;clear c;intro ad ag au c
 have X:=G.X
 have T:=G.T
 apply hide;intro _ kι;obtain ⟨ok,tL,st,li,bj,rx,ct⟩:=id M;apply kι
 have tA:∀ b,o.a b≠0→b≠C.L∧G.base.get? b=none:=fun b h=>⟨fun q=>h (by rw [q,tL]),ok b h⟩
 refine xe2_2 li.oak fun av n1 g1 hav=>?_
 obtain ⟨n2,g2⟩:=st.ovw
 have q1:=li.t4 C.ak (by simp);have q2:=st.t1 C.vw zm6
 have d1:@Ne Nat C.ak C.vw:=fun q=>by rw [q,q2] at q1;cases q1
 have lav:av.length≤1000:=by have:=hav.length;exact zq384 ha this
 have hvk:=vaL_at C.P hk
 refine xe1_3 (ledger2 (g:=G.base) (L:=C.L) (h:=s.heap) (ex:=[(C.ak,lstObj av.toArray n1),(C.vw,lstObj (vaL C.P).toArray n2)])
  (fq ⟨g1,tA _ (by rw [q1];decide)⟩ (fq ⟨g2,tA _ (by rw [q2];decide)⟩ fn0))) fun rest N rne hr=>?_
 simp only [List.cons_append,List.nil_append] at N
 have r1:=rne C.ak zp0;have r2:=rne C.vw zp1
 have Fk:True→Fr G.base C.L s.heap _:=fun _=>F
 unfold lbC lbC0 lbC1
 dsimp only
 k_steps
 refine my_append (by k_asm) (by k_asm) (by k_upd) (by first | omega | (simp only [List.length_map,List.length_append,List.length_cons,List.length_nil];omega)) ?_;intro _ _ _;(try k_sweep);k_steps
 refine kim_list (by k_asm) (by k_dflt k_mem) rfl rfl (by omega) (by omega) (by with_reducible assumption) ?_
 k_steps
 rename Fr _ _ _ _=>F1
 rename News _ _ _ _=>N1
 rename_i h1
 have x1:∀ tk,Ext [] [C.L,C.ak] [] s { s with heap:=h1,toks:=tk }:=fun tk=>ext_led (s₂:=s) (fr:=[]) (fp:=[C.ak]) (tk:=tk) (Fk trivial) F1 N1 hr (fq ⟨g1,.inr ⟨zm0,_,.head _⟩⟩ (fq ⟨g2,.inl (by k_mem)⟩ fn0)) (fun q hq=>by k_mem)
 have MA:=fun tk=>M.m0.ask (s':={ s with heap:=h1,toks:=tk }) (Fk trivial) F1 hn (x1 tk) hav (News.get N1 (.head _))
 refine view_truthy (d:=d) (u:=u) (o:=o) (w:=w) (c.at1 F1) (MA _).1 F1 hn hk fun s2 o2 w2 M2 F2 T2 gj=>?_
 have TT:=(MA _).2.trans T2
 clear N1 F1 hr r1 r2
 have F2k:True→Fr G.base C.L s2.heap _:=fun _=>F2
 have tA2:∀ b,o2.a b≠0→b≠C.L∧G.base.get? b=none:=fun b h=>⟨fun q=>h (by rw [q,M2.tL]),M2.ok b h⟩
 refine xe1_2 M2.st.c2 fun oc ec hc=>?_
 obtain ⟨m5,g5⟩:=M2.st.orl
 have q5:=M2.st.t1 (C.L+1+1) zm1;have q6:=M2.st.t1 C.rl zm4
 have hrk:=rr_at C hk
 (refine xe1_3 (ledger2 (g:=G.base) (L:=C.L) (h:=s2.heap) (ex:=[(C.L+1+1,oc),(C.rl,lstObj (rrL C).toArray m5)])
  (fq ⟨ec,tA2 _ (by rw [q5];decide)⟩ (fq ⟨g5,tA2 _ (by rw [q6];decide)⟩ fn0))) ?_;rintro rest N - hr)
 simp only [List.cons_append,List.nil_append] at N
 obtain ⟨bb,hbb⟩:∃ b,decide (C.P.WV k≠[])=b:=⟨_,rfl⟩
 rw [hbb]
 k_steps
 refine kim_list (by k_asm) (by k_dflt k_mem) rfl rfl (by omega) (by omega) (by with_reducible assumption) ?_
 k_steps
 rename Fr _ _ _ _=>F3
 rename News _ _ _ _=>N3
 rename_i l3 h3 lt3
 have x3:∀ tk,Ext [] [C.L] [] s2 { s2 with heap:=h3,toks:=tk }:=fun tk=>ext_led (s₂:=s2) (fr:=[]) (fp:=[]) (tk:=tk) (F2k trivial) F3 N3 hr (fq ⟨ec,.inl (by k_mem)⟩ (fq ⟨g5,.inl (by k_mem)⟩ fn0)) (fun q hq=>by k_mem)
 have M3:=fun tk=>M2.inL (s':={ s2 with heap:=h3,toks:=tk }) (F2k trivial) F3 hn (x3 tk)
 have hb2:=rowD_b (k:=k) (M2.st.pr k hk).1 (bb:=bb) (by rw [← hbb];simp)
 refine it_eq (n:=2) (k:=2) (row_it ((M3 s2.toks).1.st.rows k hk) F3.keep) (Its.nil.list (n:=1) (News.get N3 (.head _))) (by decide) (by decide) (by have:=c.un;dsimp only at this ⊢;exact zg this rfl) ?_
 rw [hb2]
 cases bb
 all_goals
  k_steps
  exact post _ o2 w2 ((M3 _).1.mi (ct.ask gj)) (TT.trans (M3 _).2) F3
end
noncomputable def RdG.V (P:Lw) (r:RdG):List Value:=(if r.k < 5 then P.WV r.k else [])++r.late
noncomputable def PT (i t:Nat):Prop:=t=5+i∨PJ (50+i) t
theorem pt_ok {i t:Nat}(h:PT i t):t≠0∧t≠1∧t≠4:=by
 rcases h with h | h | h
 ·exact ⟨zc (zl h) rfl,zc (zl h) rfl,zc (zl h) rfl⟩
 ·exact ⟨zc (zl h) rfl,zc (zl h) rfl,zc (zl h) rfl⟩
 ·rw [fm2_iff] at h;exact zq173 h
theorem pt_rd {i j t:Nat}(hi:i < 45) (hj:j < 45) (hij:i≠j) (h:PT i t):t≠5+j∧t≠50+j:=by
 rcases h with h | h | h
 ·exact ⟨fun e=>hij (Nat.add_left_cancel (h.symm.trans e)),fun e=>Nat.ne_of_lt (Nat.lt_of_lt_of_le (Nat.add_lt_add_left hi 5) (Nat.le_add_right 50 _)) (h.symm.trans e)⟩
 ·exact ⟨fun e=>Nat.ne_of_lt (Nat.lt_of_lt_of_le (Nat.add_lt_add_left hj 5) (Nat.le_add_right 50 _)) (e.symm.trans h),fun e=>hij (Nat.add_left_cancel (h.symm.trans e))⟩
 ·rw [fm2_iff] at h;exact ⟨td (tb h) (Nat.le_add_right 5 _) (za (Nat.add_lt_add_left hj 5) rfl),td (tb h) (ze rfl) (za (Nat.add_lt_add_left hj 50) rfl)⟩
theorem ptags {i:Nat}(hi:i < 45):Tags (PJ (50+i)) FM2 (5+i) (50+i):=by
 refine ⟨by exact ⟨Nat.le_add_right 5 _,za (Nat.add_lt_add_left hi 5) rfl⟩,by exact zq393,fun h=>?_,fun h=>?_,fun h=>?_⟩
 ·rcases h with h | h
  ·exact absurd (Nat.add_right_cancel h) (by decide)
  ·rw [fm2_iff] at h;exact zq177 hi h
 ·rw [fm2_iff] at h;exact zq177 hi h
 ·rw [fm2_iff] at h;exact td (tb h) (ze rfl) (za (Nat.add_lt_add_left hi 50) rfl) rfl
noncomputable def J1 (G:Gr) (C:Cs) (i:Nat) (r:RdG) (w:WJ) (z:Value) (o':Own) (s':Shared):Prop:=∃ w',(r.V C.P)[r.p]?=some z∧GJ C.P r.k w w' (r.p+1)∧BJ G C.P w' o' s'∧RdX G C.P i { r with p:=r.p+1 } w' o' s'∧G.base.StaysIn s'.heap
noncomputable def J2 (G:Gr) (C:Cs) (i:Nat) (r:RdG) (w:WJ) (o':Own) (s':Shared):Prop:=∃ w',r.p=(r.V C.P).length∧GJ C.P r.k w w' r.p∧BJ G C.P w' o' s'∧RdX G C.P i r w' o' s'∧G.base.StaysIn s'.heap
section
variable {G:Gr}{A:Around}{outer:List Env}{d u:Nat}{s:Shared}{o:Own}{w:WJ}{C:Cs}{i:Nat}{r:RdG}
theorem rdx_next (c:Cx G A outer (d+52) (u+145) s.heap) (ok:OwnOk G o) (f0:∀ b∈frs outer,o.a b=0) (bj:BJ G C.P w o s) (hT:∀ k,2≤k→k < 5→SeqT (C.P.T k)) (rd:RdX G C.P i r w o s) (hi:i < 45) :
  NextIs PR G.w A (.ref r.a) (fun z s'=>∃ o',Mv G (PT i) (frs outer) o s o' s'∧J1 G C i r w z o' s') (fun e s'=>Stops e s'∧∃ o',Mv G (PT i) (frs outer) o s o' s'∧J2 G C i r w o' s') s:=by
 rcases rd with ⟨hk,rd⟩ | ⟨hk,hs,ht,hy⟩
 ·have eV:r.V C.P=C.P.WV r.k++r.late:=by unfold RdG.V;rw [if_pos hk]
  refine reader_next (d:=d) (u:=u) (jspec (G:=G) (σ:=50+i) (by exact zq88 hi) hT hk) (ptags hi) c ok f0 bj rd ?_ ?_
  ·intro z s' o' w' hz mv g b' rd'
   exact (wi1_2 o' mv ⟨w',by rw [eV];exact hz,g,b',.inl ⟨hk,rd'⟩,(mv.cx c ok fun h=>(pt_ok h).1 rfl).st⟩)
  ·intro hp e s' o' w' mv g b' rd' raw _
   exact ⟨raw_stops raw,o',mv,w',by rw [eV,List.length_append];exact hp,g,b',.inl ⟨hk,rd'⟩,(mv.cx c ok fun h=>(pt_ok h).1 rfl).st⟩
 ·have eV:r.V C.P=[.ref 225]:=by unfold RdG.V RdG.late;rw [if_neg (by exact zq396 hk),hs,hk];rfl
  have g0:∀ n,GJ C.P r.k w w n:=fun n=>by unfold GJ;rw [if_neg (by exact zn hk rfl),if_neg (by exact zn hk rfl)]
  have ag:Agree o o s:=⟨fun _ _ _=>rfl,fun _ _ _=>rfl⟩
  have e226:s.heap.get? 226=some (W.listOf [Value.ref 225].toArray 0):=c.st _ _ (late_list G 5 (by exact zq89))
  have nfr:∀ ob,s.heap.get? r.a=some ob→r.a ∉ frs outer:=fun ob e q=>by have:=f0 _ q;exact zc (zl ht) rfl this
  have pt:PT i (o.a r.a):=.inl ht
  have kb:∀ {h':Heap}(tk:Nat),(∀ b ob,s.heap.get? b=some ob→b≠r.a→h'.get? b=some ob)→BJ G C.P w o { s with heap:=h',toks:=tk }:=fun tk k=>bj.mono ⟨fun b ob e t=>⟨k b ob e (fun q=>by rw [q,ht] at t;exact t.elim (ptags hi).nm (by exact zc (Nat.le_add_right 5 _) rfl)),rfl⟩,fun g x e _=>⟨e,rfl⟩⟩
  rcases hy with ⟨hp,e⟩ | ⟨j,e,hp⟩
  ·rcases Nat.lt_or_ge r.p 1 with h | h
   ·have hp0:r.p=0:=by exact Nat.lt_one_iff.mp h
    refine next_item (.inl rfl) e e226 rfl (x:=.ref 225) (by rw [hp0];rfl) fun h' q1 q2=>?_
    refine (wi1_2 o (Mv.of (fp:=[r.a]) (gp:=[]) (Ext.one (tk:=s.toks) q2 zm0 ⟨_,q1⟩) (fun b hb=>by rw [List.mem_singleton.mp hb];exact .inl ⟨pt,nfr _ e⟩) fn0 ag ok) ⟨w,by rw [eV,hp0];rfl,g0 _,kb s.toks fun b ob e n=>(q2.2 b n).trans e,.inr (yi4 hk hs ht (.inl ⟨by show r.p+1≤1;exact Nat.succ_le_of_lt h,q1⟩)),fun b ob e=>(q2.2 b (fun q=>by rw [q,ok _ (by exact zq178 ht)] at e;exact nsf e)).trans (c.st _ _ e)⟩)
   ·have hp1:r.p=1:=by exact Eq.symm (Nat.le_antisymm h hp)
    refine next_end (.inl rfl) c.hd e e226 rfl (by rw [hp1];rfl) fun h₁ h' ex q1 q2 nx hz=>?_
    have E1:Ext (frs outer) [r.a] [] s { s with heap:=h₁,toks:=s.toks }:=Ext.one q2 zm0 ⟨_,q1⟩
    have E2:Ext (frs outer) [r.a] [] s { s with heap:=h',toks:=s.toks }:=E1.trans (Ext.more (fr:=frs outer) (fp:=[]) (gp:=[]) (s:={ s with heap:=h₁,toks:=s.toks }) nx.keeps) fn0 fn0
    exact ⟨raw_stops (s:={ s with heap:=h' }) (raw_of nx),o,Mv.of E2 (fun b hb=>by rw [List.mem_singleton.mp hb];exact .inl ⟨pt,nfr _ e⟩) fn0 ag ok,w,by rw [eV,hp1];rfl,g0 _,kb s.toks fun b ob e n=>nx.keeps _ _ ((q2.2 b n).trans e),.inr (yi4 hk hs ht (.inr (wi1_2 _ (nx.keeps _ _ q1) hp1))),fun b ob e=>nx.keeps _ _ ((q2.2 b (fun q=>by rw [q,ok _ (by exact zq178 ht)] at e;exact nsf e)).trans (c.st _ _ e))⟩
  ·refine next_ended (.inl rfl) c.hd e fun h' ex nx hz=>?_
   exact ⟨raw_stops (s:={ s with heap:=h' }) (raw_of nx),o,Mv.of (fp:=[]) (gp:=[]) (Ext.more (tk:=s.toks) nx.keeps) fn0 fn0 ag ok,w,by rw [eV,hp];rfl,g0 _,kb s.toks fun b ob e _=>nx.keeps _ _ e,.inr (yi4 hk hs ht (.inr (wi1_2 _ (nx.keeps _ _ e) hp))),fun b ob e=>nx.keeps _ _ (c.st _ _ e)⟩
theorem rdx_obj (rd:RdX G C.P i r w o s):∃ oa,s.heap.get? r.a=some oa∧∀ {A':Around}{s₁:Shared}{Q':Value→Shared→Prop}{E':Value→Shared→Prop},s₁.heap.get? r.a=some oa→Q' (.ref r.a) s₁→wpAny (model PR G.w) A' (pyIter (.ref r.a)) Q' E' s₁:=by
 have gen:∀ {g:Nat}{nm qn:Value},s.heap.get? r.a=some (genObj g nm qn)→∃ oa,s.heap.get? r.a=some oa∧∀ {A':Around}{s₁:Shared}{Q':Value→Shared→Prop}{E':Value→Shared→Prop},s₁.heap.get? r.a=some oa→Q' (.ref r.a) s₁→wpAny (model PR G.w) A' (pyIter (.ref r.a)) Q' E' s₁:=fun e=>(wi1_2 _ e (fun e' h=>wpAny_pyIter_gen (isGen_of e') h))
 have li:∀ {v:Value}{j:Nat},s.heap.get? r.a=some (itObj "list_iterator" v j)→∃ oa,s.heap.get? r.a=some oa∧∀ {A':Around}{s₁:Shared}{Q':Value→Shared→Prop}{E':Value→Shared→Prop},s₁.heap.get? r.a=some oa→Q' (.ref r.a) s₁→wpAny (model PR G.w) A' (pyIter (.ref r.a)) Q' E' s₁:=fun e=>(wi1_2 _ e (fun {A' s₁ Q' E'} e' h=>by
  have tI:s₁.TypeIs (.ref r.a) "list_iterator":=⟨_,e',rfl⟩
  refine wpAny_pyIter_slot tI slot_listiter_iter (wpAny_call_entry slot_listiter_iter tI entry_listiter_iter ?_ (args_listiter_iter _))
  show wpAny _ _ (ret (.ref r.a)) _ _ _
  exact wpAny_pure (wi1_2 _ rfl ⟨"list_iterator",_,tI,slot_listiter_next.lookup,h⟩)))
 rcases rd with ⟨_,rd⟩ | ⟨_,_,_,⟨_,e⟩ | ⟨j,e,_⟩⟩
 ·obtain ⟨p,hp⟩:∃ p,r.p=p:=⟨_,rfl⟩
  rw [hp] at rd
  cases rd with
  | fresh h1=>exact gen h1
  | one h1=>exact gen h1
  | two h1=>exact gen h1
  | done h1=>exact gen h1
 ·exact li e
 ·exact li e
end
theorem rdV_its {G:Gr}{C:Cs}{o:Own}{s:Shared}(st:St1 G C o s) (r:RdG) (hk:r.k < 6):ItOs G o s.heap (r.V C.P) (r.wd C.ns):=by
 unfold RdG.V RdG.wd RdG.late wdat
 refine ItOs.app ?_ ?_
 ·unfold szJ
  split
  ·rename_i h;exact (st.pr r.k h).its
  ·exact .nil
 ·split
  ·exact late_its G o s.heap r.k
  ·exact .nil
theorem ItOs.len {G:Gr}{o:Own}{h:Heap}{vs:List Value}{ds:List Dat}(x:ItOs G o h vs ds):vs.length=ds.length:=by
 induction x with
 | nil=>rfl
 | cons _ _ ih=>simp [ih]
theorem set_pair {rs:List RdG}{i:Nat}{r:RdG}(h:rs[i]?=some r):(rs.set i { r with p:=r.p+1 }).map (fun r=>((r.k:Int),r.p))=(rs.map fun r=>((r.k:Int),r.p)).set i ((r.k:Int),r.p+1):=by
 rw [List.map_set]
theorem CntOk.item {C:Cs}{w w':WJ}{rs:List RdG}{az:List Int}{i:Nat}{r:RdG}(x:CntOk C w rs az) (hr:rs[i]?=some r) (g:GJ C.P r.k w w' (r.p+1)):CntOk C w' (rs.set i { r with p:=r.p+1 }) az:=by
 have hp:(rs.map fun r=>((r.k:Int),r.p))[i]?=some ((r.k:Int),r.p):=by rw [List.getElem?_map,hr];rfl
 have e:∀ j:Nat,mostR j (rs.set i { r with p:=r.p+1 }) az=if (r.k:Int)=(j:Int) then max (mostR j rs az) ((r.p:Int)+1) else mostR j rs az:=fun j=>by
  unfold mostR
  rw [set_pair hr]
  exact mo_set _ _ _ _ _ _ hp
 unfold GJ at g
 by_cases h0:r.k=0
 ·rw [if_pos h0] at g
  apply hide;intro _ kι;obtain ⟨⟨q',e1,h1,_⟩,h2⟩:=g;apply kι
  refine ⟨?_,fun h=>?_,fun h=>?_⟩
  ·rw [e 0,if_pos (by omega),e1]
   show q'.m=_
   rw [h1,x.c0]
   have:=mostOf_ge (name:=((0:Nat):Int)) (rs.map fun r=>((r.k:Int),r.p)) (if ((0:Nat):Int)∈az then 1 else 0)
   have h3:(0:Int)≤mostR 0 rs az:=by unfold mostR;split at this <;> rename_i hh <;> simp only [hh,if_true,if_false] <;> (first | exact zq175 this | exact zq72 this)
   exact zq405
  ·rw [e 1,if_neg (by omega)];exact x.c1 (h2▸h)
  ·rw [e 1,if_neg (by omega)];exact x.c2 (h2▸h)
 ·rw [if_neg h0] at g
  by_cases h1:r.k=1
  ·rw [if_pos h1] at g
   apply hide;intro _ kι;obtain ⟨⟨q',e1,_⟩,h2⟩:=g;apply kι
   refine ⟨by rw [e 0,if_neg (by omega),h2];exact x.c0,fun h=>(by rw [e1] at h;cases h),fun _=>.inr ?_⟩
   rw [e 1,if_pos (by omega)];exact Int.le_trans (Int.le_add_of_nonneg_left (Int.natCast_nonneg _)) (Int.le_max_right _ _)
  ·rw [if_neg h1] at g
   subst g
   exact ⟨by rw [e 0,if_neg (by omega)];exact x.c0,fun h=>by rw [e 1,if_neg (by omega)];exact x.c1 h,fun h=>by rw [e 1,if_neg (by omega)];exact x.c2 h⟩
theorem CntOk.stop {C:Cs}{w w':WJ}{rs:List RdG}{az:List Int}{i:Nat}{r:RdG}(x:CntOk C w rs az) (hr:rs[i]?=some r) (g:GJ C.P r.k w w' r.p) (hp:r.p=(r.V C.P).length):CntOk C w' rs az:=by
 have hq:∀ j:Nat,r.k=j→(rs.map fun r=>((r.k:Int),r.p))[i]?=some ((j:Int),r.p):=fun j e=>by rw [List.getElem?_map,hr,← e];rfl
 have le:∀ j:Nat,r.k=j→(r.p:Int)≤mostR j rs az:=fun j e=>mo_le _ _ i _ _ (hq j e)
 unfold GJ at g
 by_cases h0:r.k=0
 ·rw [if_pos h0] at g
  apply hide;intro _ kι;obtain ⟨⟨q',e1,h1,_⟩,h2⟩:=g;apply kι
  refine ⟨?_,fun h=>x.c1 (h2▸h),fun h=>x.c2 (h2▸h)⟩
  rw [e1]
  show q'.m=_
  rw [h1,x.c0]
  have:=le 0 h0
  exact zq410 this
 ·rw [if_neg h0] at g
  by_cases h1:r.k=1
  ·rw [if_pos h1] at g
   apply hide;intro _ kι;obtain ⟨⟨q',e1,_⟩,h2⟩:=g;apply kι
   refine ⟨by rw [h2];exact x.c0,fun h=>(by rw [e1] at h;cases h),fun _=>?_⟩
   cases hW:C.P.WV 1 with
   | nil=>exact .inl rfl
   | cons a b =>
    refine .inr ?_
    have h3:=le 1 h1
    have h4:1≤r.p:=by
     rw [hp];unfold RdG.V
     rw [if_pos (by exact zb (Nat.le_of_eq h1) rfl),h1,hW];simp
    exact Int.le_trans (Int.ofNat_le.2 h4) h3
  ·rw [if_neg h1] at g
   subst g
   exact x
theorem ItOs.take {G:Gr}{o:Own}{h:Heap}{vs:List Value}{ds:List Dat}(x:ItOs G o h vs ds) (k:Nat):ItOs G o h (vs.take k) (ds.take k):=by
 induction x generalizing k with
 | nil=>simp;exact .nil
 | cons h1 _ ih=>cases k with
  | zero=>exact .nil
  | succ k=>exact .cons h1 (ih k)
theorem ItOs.drop {G:Gr}{o:Own}{h:Heap}{vs:List Value}{ds:List Dat}(x:ItOs G o h vs ds) (k:Nat):ItOs G o h (vs.drop k) (ds.drop k):=by
 induction x generalizing k with
 | nil=>simp;exact .nil
 | cons h1 h2 ih=>cases k with
  | zero=>exact .cons h1 h2
  | succ k=>exact ih k
theorem RdX.k6 {G:Gr}{P:Lw}{i:Nat}{r:RdG}{w:WJ}{o:Own}{s:Shared}(x:RdX G P i r w o s):r.k < 6:=by
 rcases x with ⟨h,_⟩ | ⟨h,_⟩ <;> (first | exact Nat.lt_succ_of_lt h | exact zq414 h)
structure SD (G:Gr) (C:Cs) (rs:List RdG) (az:List Int) (i:Nat) (r:RdG) (o:Own) (s:Shared) (m:Str→Option Value) (l:Nat) (lz:List Value) (o3:Own) (w3:WJ) (s3:Shared):Prop where
 ok:OwnOk G o3
 tL:o3.a C.L=0
 st:St1 G C o3 s3
 li:LI G C rs az o3 s3
 bj:BJ G C.P w3 o3 s3
 rx:∀ j q,(rs.set i { r with p:=r.p+lz.length })[j]?=some q→RdX G C.P j q w3 o3 s3
 ct:CntOk C w3 (rs.set i { r with p:=r.p+lz.length }) az
 fr:Fr G.base C.L s3.heap m
 tn:Tn C rs o s o3 s3
 elz:lz=((r.V C.P).drop r.p).take 1
 ol:∃ n,s3.heap.get? l=some (lstObj lz.toArray n)
 tl:o3.a l=0
 nl:l≠C.L∧G.base.get? l=none
theorem step_rd {G:Gr}{A:Around}{d u:Nat}{s:Shared}{o:Own}{w:WJ}{C:Cs}{rs:List RdG}{az:List Int}{i fa:Nat}{r:RdG}{cd:Value}{m:Str→Option Value}{E:Value→Shared→Prop}
  (c:Cx G A [LE C.L fa cd] (d+53) (u+148) s.heap) (M:MI0 G C o w rs az s) (ct:CntOk C w rs az) (F:Fr G.base C.L s.heap m) (hn:rs.length≤40) (hr:rs[i]?=some r) :
  wpAny (model PR G.w) A (call (.ref 275) [.ref r.a]) (fun v s3=>∃ l lz o3 w3,v=.ref l∧SD G C rs az i r o s m l lz o3 w3 s3) E s:=by
 have hi:i < 45:=by have:=(List.getElem?_eq_some_iff.mp hr).1;exact zq7 hn this
 have hi':=(List.getElem?_eq_some_iff.mp hr).1
 have rd:=M.rx i r hr
 refine xe1_2 (rdx_obj rd) fun oa ea hit=>?_
 refine xe3_2 (id F.ns) fun oL _ _ eL _=>?_
 have nL:G.base.get? C.L=none:=(frs_old c.ff C.L (.head _)).1
 have hP0:¬ PT i 0:=fun h=>(pt_ok h).1 rfl
 have f0:=frs1 (fa:=fa) (cd:=cd) M.tL
 have fsz:s.heap.get? s.heap.objs.size=none:=Heap.get?_none_of_le (Nat.le_refl _)
 have common:∀ {o':Own}{s₂ s₃:Shared}{l n:Nat}{lz:List Value}{w':WJ}{c':Nat},(∀ M:Nat→Prop,¬ M 0→Kp M o' s₂ (o'.reset s₂) s₃)→Mv G (PT i) (frs [LE C.L fa cd]) o s (o'.reset s₂) s₃→s₂.heap.get? l=none→s₃.heap.get? l=some (W.listOf lz.toArray n) →
   GJ C.P r.k w w' c'→BJ G C.P w' o' s₂→RdX G C.P i { r with p:=r.p+lz.length } w' o' s₂→G.base.StaysIn s₂.heap→lz=((r.V C.P).drop r.p).take 1→CntOk C w' (rs.set i { r with p:=r.p+lz.length }) az →
   ∃ l' lz' o3 w3,Value.ref l=.ref l'∧SD G C rs az i r o s m l' lz' o3 w3 s₃:=fun {o' s₂ s₃ l n lz w' c'} K mv fl ol g b rd' st2 hlz ct'=>by
  have F3:=mv.fr M.ok hP0 nL M.tL F
  have tl:=Own.reset_new o' fl
  refine (xi4 l lz (o'.reset s₂) w' ⟨rfl,mv.ok,(mv.ag.1 _ _ eL).trans M.tL,M.st.mono (mv.kp0 (M:=fun _=>False) f0 (fun t h=>⟨id,(pt_ok h).2.1⟩) id).one,M.li.mono (mv.kp0 f0 (fun t h=>⟨(pt_ok h).2.2,(pt_ok h).2.1⟩) (by decide)),b.mono (K FM2 fm2_0),fun j q hq=>?_,ct',F3,mv.tn (fun h=>(pt_ok h).2.2 rfl) M.tL,hlz,⟨n,ol⟩,tl,?_,?_⟩)
  ·rcases Nat.lt_trichotomy j i with h | h | h
   ·rw [List.getElem?_set_ne (by exact zq91 h)] at hq
    have hj:=(List.getElem?_eq_some_iff.mp hq).1
    exact (M.rx j q hq).other M.st.sq (by exact zq7 hn hj) c.st F3.keep (mv.kp0 f0 (fun t p=>⟨fun z=>z.elim (pt_rd hi (by exact zq7 hn hj) (by exact zq91 h) p).1 (pt_rd hi (by exact zq7 hn hj) (by exact zq91 h) p).2,(pt_ok p).2.1⟩) (by exact zq8)) g
   ·(replace h:=Eq.symm h;subst h)
    rw [List.getElem?_set_self hi'] at hq
    obtain rfl:=Option.some.inj hq
    exact rd'.keep M.st.sq hi st2 F3.keep (K _ (by exact zq8))
   ·rw [List.getElem?_set_ne (by exact zq41 h)] at hq
    have hj:=(List.getElem?_eq_some_iff.mp hq).1
    exact (M.rx j q hq).other M.st.sq (by exact zq7 hn hj) c.st F3.keep (mv.kp0 f0 (fun t p=>⟨fun z=>z.elim (pt_rd hi (by exact zq7 hn hj) (by exact zq41 h) p).1 (pt_rd hi (by exact zq7 hn hj) (by exact zq41 h) p).2,(pt_ok p).2.1⟩) (by exact zq8)) g
  ·rintro rfl
   refine xe3_3 F3.ns fun oL3 _ _ eL3 hd3 _=>?_
   rw [ol] at eL3;(replace eL3:=Eq.symm eL3;cases eL3);cases hd3
  ·exact none_st st2 fl
 refine step_ (P:=PT i) (o:=o) (J1:=J1 G C i r w) (J2:=J2 G C i r w) (d:=d+52) (u:=u+145) c M.ok hP0 ea hit ?hnext ?p1 ?p2
 case hnext =>
  intro A' env s₁ c' he x
  have K:=fun P=>ext_kp x (o.reset_agree s) P
  refine rdx_next (d:=d) (u:=u) c' (Own.with_ok M.ok c.st) (fun b hb=>?_) (M.bj.mono (K _)) M.st.sq (rd.keep M.st.sq hi c.st c'.st (K _)) hi
  rcases (frs_cons he b hb).imp_left Eq.symm with rfl | hb
  ·exact Own.reset_new o fsz
  ·have:b∈[C.L]:=hb
   rw [List.mem_singleton.mp this]
   exact ((o.reset_agree s).1 _ _ eL).trans M.tL
 case p1 =>
  intro z o' s₂ s₃ l n hJ K mv fl ol
  refine xe1_5 hJ fun w' hz g b rd' st2=>?_
  have hlz:[z]=((r.V C.P).drop r.p).take 1:=by
   have hlt:=(List.getElem?_eq_some_iff.mp hz)
   rw [List.drop_eq_getElem_cons hlt.1,hlt.2];rfl
  exact common (lz:=[z]) K mv fl ol g b rd' st2 hlz (ct.item hr g)
 case p2 =>
  intro o' s₂ s₃ l n hJ K mv fl ol
  refine xe1_5 hJ fun w' hp g b rd' st2=>?_
  have hlz:[]=((r.V C.P).drop r.p).take 1:=by rw [hp,List.drop_length];rfl
  have er:({ r with p:=r.p+([]:List Value).length }:RdG)=r:=rfl
  have es:rs.set i r=rs:=by
   apply List.ext_getElem?
   intro j
   rcases Nat.decEq j i with h | h
   ·rw [List.getElem?_set_ne (fun q=>h q.symm)]
   ·subst h;rw [List.getElem?_set_self hi',hr]
  exact common (lz:=[]) K mv fl ol g b rd' st2 hlz (by rw [er,es];exact ct.stop hr g hp)
section
variable {prog:Program}{w:World}{A:Around}{E:Value→Shared→Prop}{s:Shared}{a b:Value}{d:Dat}{n k:Nat}{Q:Value→Shared→Prop}
theorem it_ne_same (x:It n s.heap a d) (y:It k s.heap b d) (hn:n≤60) (hk:k≤60) (hu:A.units+64 < cLine) (h:Q (.bool false) s):wpAny (model prog w) A (compareOp .NotEq a b) Q E s:=it_ne x y hn hk hu (by simpa using h)
theorem it_eq_same (x:It n s.heap a d) (y:It k s.heap b d) (hn:n≤60) (hk:k≤60) (hu:A.units+64 < cLine) (h:Q (.bool true) s):wpAny (model prog w) A (compareOp .Eq a b) Q E s:=it_eq x y hn hk hu (by simpa using h)
end
theorem map_same {α:Type}{f:RdG→α}{rs:List RdG}{i:Nat}{r r':RdG}(hr:rs[i]?=some r) (hf:f r'=f r):(rs.set i r').map f=rs.map f:=by
 apply List.ext_getElem?
 intro j
 rw [List.getElem?_map,List.getElem?_map]
 rcases Nat.decEq j i with h | h
 ·rw [List.getElem?_set_ne (fun q=>h q.symm)]
 ·subst h
  rw [List.getElem?_set_self (List.getElem?_eq_some_iff.mp hr).1,hr]
  simp [hf]
theorem took {G:Gr}{C:Cs}{o:Own}{w:WJ}{rs:List RdG}{az:List Int}{s s':Shared}{m m':Str→Option Value}{i:Nat}{r:RdG}{lz gw:List Value}{n:Nat}(ok:OwnOk G o) (tL:o.a C.L=0) (st:St1 G C o s) (li:LI G C rs az o s) (bj:BJ G C.P w o s) (hn:rs.length≤40) (hr:rs[i]?=some r)
  (rx:∀ j q,(rs.set i { r with p:=r.p+lz.length })[j]?=some q→RdX G C.P j q w o s) (ct:CntOk C w (rs.set i { r with p:=r.p+lz.length }) az) (F:Fr G.base C.L s.heap m) (F':Fr G.base C.L s'.heap m') (x:Ext [] [C.L,r.ga] [] s s')
  (g:s'.heap.get? r.ga=some (lstObj (gw++lz).toArray n)) (hi:ItOs G o s.heap (gw++lz) ((r.wd C.ns).take (r.p+lz.length))) (hp:r.p+lz.length≤(r.wd C.ns).length):MI G C o w (rs.set i { r with p:=r.p+lz.length }) az s'∧Tn C rs o s o s':=by
 have ag:Agree o o s:=⟨fun _ _ _=>rfl,fun _ _ _=>rfl⟩
 have hrm:=List.mem_of_getElem? hr
 have tga:=li.t4 r.ga (List.mem_append_right _ (List.mem_map_of_mem hrm))
 have K:∀ P:Nat→Prop,¬ P 0∧¬ P 4→Kp P o s o s':=fun P hP=>kp4 x ag (fun b hb=>by
  simp only [List.mem_cons,List.not_mem_nil,or_false] at hb
  rcases hb with h | h
  ·exact .inl (by rw [h];exact tL)
  ·exact .inr (by rw [h];exact tga)) P hP
 have k1:=(K (fun _=>False) ⟨id,id⟩).one
 have nd:=li.nd
 have nd':=List.nodup_append.mp nd
 have k4:∀ b ob,s.heap.get? b=some ob→o.a b=4→b≠r.ga→s'.heap.get? b=some ob:=fun b ob e t h=>x.keep b ob e (fun q=>by
  simp only [List.mem_cons,List.not_mem_nil,or_false] at q
  rcases q with q | q
  ·rw [q,tL] at t;(replace t:=Eq.symm t;cases t)
  ·exact h q) fnm
 have ng:∀ b∈[C.rd,C.wh,C.wo,C.gt,C.ak],b≠r.ga:=fun b hb q=>nd'.2.2 b hb r.ga (List.mem_map_of_mem hrm) q
 have ea:(rs.set i { r with p:=r.p+lz.length }).map (fun r=>Value.ref r.a)=rs.map fun r=>Value.ref r.a:=map_same hr rfl
 have ek:(rs.set i { r with p:=r.p+lz.length }).map (fun r=>(r.k:Int))=rs.map fun r=>(r.k:Int):=map_same hr rfl
 have ew:(rs.set i { r with p:=r.p+lz.length }).map (fun r=>Value.ref r.wa)=rs.map fun r=>Value.ref r.wa:=map_same hr rfl
 have eg:(rs.set i { r with p:=r.p+lz.length }).map (fun r=>Value.ref r.ga)=rs.map fun r=>Value.ref r.ga:=map_same hr rfl
 have eg':(rs.set i { r with p:=r.p+lz.length }).map (·.ga)=rs.map (·.ga):=map_same hr rfl
 have hlt:=(List.getElem?_eq_some_iff.mp hr).1
 have split:∀ q∈rs.set i { r with p:=r.p+lz.length },q={ r with p:=r.p+lz.length }∨(q∈rs∧q.ga≠r.ga):=fun q hq=>by
  obtain ⟨j,hj⟩:=List.getElem?_of_mem hq
  rcases Nat.decEq j i with h | h
  ·rw [List.getElem?_set_ne (fun q=>h q.symm)] at hj
   refine .inr ⟨List.mem_of_getElem? hj,fun e=>h ?_⟩
   have h1:(rs.map (·.ga))[j]?=some r.ga:=by rw [List.getElem?_map,hj];exact congrArg some e
   have h2:(rs.map (·.ga))[i]?=some r.ga:=by rw [List.getElem?_map,hr];rfl
   exact (List.getElem?_inj (by rw [List.length_map];exact (List.getElem?_eq_some_iff.mp hj).1) nd'.2.1).mp (h1.trans h2.symm)
  ·subst h
   rw [List.getElem?_set_self hlt] at hj
   exact .inl (Option.some.inj hj).symm
 refine ⟨⟨ok,tL,st.mono k1,⟨?_,?_,?_,?_,?_,fun q hq=>?_,fun q hq=>?_,?_,?_,fun q hq=>?_,by rw [List.length_set];exact li.n2⟩,bj.mono (K FM2 ⟨fm2_0,fm2_4⟩),fun j q hq=>(rx j q hq).keep st.sq (by have:=(List.getElem?_eq_some_iff.mp hq).1;rw [List.length_set] at this;exact zq7 hn this) F.keep F'.keep (K _ ⟨by exact zq8,by exact zq29⟩),ct⟩,Tn.of x ag fn0 fun b hb=>?_⟩
 ·rw [ea];obtain ⟨n,e⟩:=li.ord;exact ⟨n,k4 _ _ e (li.t4 _ (by simp)) (ng _ zm0)⟩
 ·rw [ek];refine xe2_2 li.owh fun wv n e h=>?_;exact (wi2_2 wv n (k4 _ _ e (li.t4 _ (by simp)) (ng _ zm1)) h)
 ·rw [ew];obtain ⟨n,e⟩:=li.owo;exact ⟨n,k4 _ _ e (li.t4 _ (by simp)) (ng _ zm2)⟩
 ·rw [eg];obtain ⟨n,e⟩:=li.ogt;exact ⟨n,k4 _ _ e (li.t4 _ (by simp)) (ng _ zm3)⟩
 ·refine xe2_2 li.oak fun av n e h=>?_;exact (wi2_2 av n (k4 _ _ e (li.t4 _ (by simp)) (ng _ zm4)) h)
 ·rcases (split q hq).imp_left Eq.symm with rfl | ⟨hq,ne⟩
  ·exact (wi2_2 _ n g (hi.mono k1))
  ·refine xe2_2 (li.got q hq) fun gv n e h=>?_
   exact (wi2_2 gv n (k4 _ _ e (li.t4 _ (List.mem_append_right _ (List.mem_map_of_mem hq))) ne) (h.mono k1))
 ·have hq':∃ q'∈rs,q'.wa=q.wa∧q'.wd C.ns=q.wd C.ns:=by
   rcases (split q hq).imp_left Eq.symm with rfl | ⟨hq,_⟩
   ·exact (wi1_3 r hrm rfl rfl)
   ·exact (wi1_3 q hq rfl rfl)
  refine xe1_3 hq' fun q' hm e1 e2=>?_
  refine xe2_3 (li.whl q' hm) fun wv n e h t=>?_
  rw [e1] at e t;rw [e2] at h
  obtain ⟨e',t'⟩:=k1 _ _ e t
  exact (wi2_3 wv n e' (h.mono k1) (t'.trans t))
 ·rw [eg'];exact li.t4
 ·rw [eg'];exact nd
 ·rcases (split q hq).imp_left Eq.symm with rfl | ⟨hq,_⟩
  ·exact hp
  ·exact li.pl q hq
 ·simp only [List.mem_cons,List.not_mem_nil,or_false] at hb
  rcases hb with h | h
  ·exact .inl (by rw [h,tL];decide)
  ·exact .inr (by rw [h];exact List.mem_append_right _ (List.mem_map_of_mem hrm))
theorem take1_len {α:Type}(l:List α):l.take (l.take 1).length=l.take 1:=by cases l <;> simp
theorem pick1 {l:List Value}{p:Nat}(h:p≤l.length):kms_pick l (some (p:Int)) (some ((p:Int)+1))=(l.drop p).take 1:=by
 unfold kms_pick
 simp only [kms_lo,kms_hi]
 rw [if_neg (by omega),if_neg (by omega),Int.toNat_natCast,show ((p:Int)+1).toNat=p+1 by omega,Nat.min_eq_left h]
 rcases Nat.lt_or_ge p l.length with q | q
 ·rw [Nat.min_eq_left (by exact zq24 q:p+1≤l.length),show p+1 - p=1 by exact (Nat.add_sub_self_left _ 1)]
 ·rw [List.drop_of_length_le q,List.take_nil,List.take_nil]
theorem map_at {α:Type}{f:α→Value}{l:List α}{i:Nat}{x:α}(h:l[i]?=some x):(l.map f)[((i:Nat):Int).toNat]?=some (f x):=by rw [Int.toNat_natCast,List.getElem?_map,h];rfl
section
variable {G:Gr}{A:Around}{d u:Nat}{s:Shared}{fa:Nat}{cd:Value}{C:Cs}{Q:Flow→Shared→Prop}{E:Value→Shared→Prop}{o:Own}{w:WJ}{rs:List RdG}{az:List Int}
theorem brD_ {x:Str→Option Value}{kd k wi:Nat}{t1 t2 t3:Nat}(c:Cx G A [LE C.L fa cd] (d+53) (u+149) s.heap) (F:Fr G.base C.L s.heap (LK C (.int (kd:Nat) t1) (.int (k:Nat) t2) (.int (wi:Nat) t3) x)) (M:MI G C o w rs az s) (hn:rs.length≤40) (hwi:wi < rs.length)
  (post:∀ s' o' w' rs' v1 v2,MI G C o' w' rs' az s'→rs'.length=rs.length→rs'.map (·.ga)=rs.map (·.ga)→Tn C rs o s o' s'→Fr G.base C.L s'.heap (fun z=>if z=Str.ofString "taken" then some v1 else if z=Str.ofString "place" then some v2 else LK C (.int (kd:Nat) t1) (.int (k:Nat) t2) (.int (wi:Nat) t3) x z)→Q .next s'):wpAny (model PR G.w) A (execs lbD (LE C.L fa cd)) Q E s:=by
 have:((wi:Nat):Int) < 2 ^ 63:=zi (Nat.lt_of_lt_of_le hwi hn) rfl
 have:=@on "sub"
 have:=@on "compareOp NotEq ref ref"
 have:=@on "subscriptTail Name Slice ref ref"
 have:=@on "call builtin:list.extend"
 refine cx_open c ?_;clear c;intro ad ag au c
 have X:=G.X
 have T:=G.T
 apply hide;intro _ kι;obtain ⟨ok,tL,st,li,bj,rx,ct⟩:=id M;apply kι
 have tA:∀ b,o.a b≠0→b≠C.L∧G.base.get? b=none:=fun b h=>⟨fun q=>h (by rw [q,tL]),ok b h⟩
 obtain ⟨r,hr⟩:∃ r,rs[wi]?=some r:=⟨_,List.getElem?_eq_getElem hwi⟩
 have hrm:=List.mem_of_getElem? hr
 obtain ⟨n1,g1⟩:=li.ogt
 obtain ⟨n2,g2⟩:=li.ord
 refine xe2_2 (li.got r hrm) fun gv n3 g3 hgv=>?_
 have lgv:gv.length=r.p:=by rw [hgv.len,List.length_take];have:=li.pl r hrm;exact zq45 this
 have lwd:(r.wd C.ns).length≤6:=by
  unfold RdG.wd wdat
  rw [List.length_append,rowD_len]
  have h1:szJ C.ns r.k≤4:=by unfold szJ;split <;> first | exact szOf_le _ _ | exact zq54
  have h2:(if r.sh then lateD r.k else []).length≤2:=by unfold lateD;(repeat' split) <;> simp
  exact zq55 h1 h2
 have lp:=li.pl r hrm
 obtain ⟨pp,hpp⟩:∃ p,r.p=p:=⟨_,rfl⟩
 have hsz:gv.toArray.size=pp:=by rw [List.size_toArray,lgv,hpp]
 have hga:=map_at (f:=fun r:RdG=>Value.ref r.ga) hr
 have hra:=map_at (f:=fun r:RdG=>Value.ref r.a) hr
 (refine xe1_3 (ledger2 (g:=G.base) (L:=C.L) (h:=s.heap) (ex:=[(C.gt,lstObj (rs.map fun r=>Value.ref r.ga).toArray n1),(C.rd,lstObj (rs.map fun r=>Value.ref r.a).toArray n2),(r.ga,lstObj gv.toArray n3)])
  (fq ⟨g1,tA _ (by rw [li.t4 _ (by simp)];decide)⟩ (fq ⟨g2,tA _ (by rw [li.t4 _ (by simp)];decide)⟩ (fq ⟨g3,tA _ (by rw [li.t4 _ (List.mem_append_right _ (List.mem_map_of_mem hrm))];decide)⟩ fn0)))) ?_;rintro rest N - hr1)
 simp only [List.cons_append,List.nil_append] at N
 have Fk:True→Fr G.base C.L s.heap _:=fun _=>F
 unfold lbD lbD0 lbD1 lbD2 lbD3
 dsimp only
 k_steps
 iterate 2 (refine kim_list (by k_asm) (by k_dflt k_mem) rfl rfl (by omega) (by omega) (by with_reducible assumption) ?_;k_steps)
 rename Fr _ _ _ _=>F1
 rename News _ _ _ _=>N1
 rename_i h1
 have x1:∀ tk,Ext [] [C.L] [] s { s with heap:=h1,toks:=tk }:=fun tk=>ext_led (s₂:=s) (fr:=[]) (fp:=[]) (tk:=tk) (Fk trivial) F1 N1 hr1 (fq ⟨g1,.inl (by k_mem)⟩ (fq ⟨g2,.inl (by k_mem)⟩ (fq ⟨g3,.inl (by k_mem)⟩ fn0))) (fun q hq=>by k_mem)
 have M1:=fun tk=>M.m0.inL (s':={ s with heap:=h1,toks:=tk }) (Fk trivial) F1 hn (x1 tk)
 refine wpAny_mono (step_rd (i:=wi) (r:=r) (d:=d) (u:=u+1) (c.at1 F1) (M1 _).1 ct F1 hn hr) ?_ (fun _ _ z=>z)
 rintro v s3 ⟨l,lz,o3,w3,rfl,D⟩
 clear N1 F1 hr1
 apply hide;intro _ kι;obtain ⟨ok3,tL3,st3,li3,bj3,rx3,ct3,F3,tn3,elz,⟨nl,ol⟩,tl,hl⟩:=D;apply kι
 have F3k:True→Fr G.base C.L s3.heap _:=fun _=>F3
 have tA3:∀ b,o3.a b≠0→b≠C.L∧G.base.get? b=none:=fun b h=>⟨fun q=>h (by rw [q,tL3]),ok3 b h⟩
 obtain ⟨m1,k1⟩:=li3.owo
 refine xe2_3 (li3.whl r hrm) fun wv m2 k2 hwv twa=>?_
 obtain ⟨m3,k3⟩:=li3.ogt
 refine xe2_2 (li3.got r hrm) fun gw m4 k4 hgw=>?_
 have hwa:=map_at (f:=fun r:RdG=>Value.ref r.wa) hr
 have lwv:wv.length≤6:=by rw [hwv.len];exact lwd
 have lgw:gw.length=r.p:=by rw [hgw.len,List.length_take];exact zq45 lp
 have llz:lz.length≤1:=by rw [elz,List.length_take];exact Nat.min_le_left 1 _
 have tga:=li3.t4 r.ga (List.mem_append_right _ (List.mem_map_of_mem hrm))
 have q1:=li3.t4 C.wo (by simp);have q2:=li3.t4 C.gt (by simp)
 have nd:=List.nodup_append.mp li3.nd
 have d1:@Ne Nat r.ga C.wo:=fun q=>nd.2.2 C.wo zm2 r.ga (List.mem_map_of_mem hrm) q.symm
 have d2:@Ne Nat r.ga C.gt:=fun q=>nd.2.2 C.gt zm3 r.ga (List.mem_map_of_mem hrm) q.symm
 have d3:@Ne Nat r.ga r.wa:=fun q=>by rw [q,twa] at tga;(replace tga:=Eq.symm tga;cases tga)
 have d4:@Ne Nat r.ga l:=fun q=>by rw [q,tl] at tga;(replace tga:=Eq.symm tga;cases tga)
 have hA:∀ q∈[(C.wo,lstObj (rs.map fun r=>Value.ref r.wa).toArray m1),(r.wa,lstObj wv.toArray m2),(C.gt,lstObj (rs.map fun r=>Value.ref r.ga).toArray m3),(r.ga,lstObj gw.toArray m4),(l,lstObj lz.toArray nl)],s3.heap.get? q.1=some q.2:=fq k1 (fq k2 (fq k3 (fq k4 (fq ol fn0))))
 have hB:∀ q∈[(C.wo,lstObj (rs.map fun r=>Value.ref r.wa).toArray m1),(r.wa,lstObj wv.toArray m2),(C.gt,lstObj (rs.map fun r=>Value.ref r.ga).toArray m3),(r.ga,lstObj gw.toArray m4),(l,lstObj lz.toArray nl)],q.1≠C.L∧G.base.get? q.1=none:=fq (tA3 _ (by rw [q1];decide)) (fq (tA3 _ (by rw [twa];decide)) (fq (tA3 _ (by rw [q2];decide)) (fq (tA3 _ (by rw [tga];decide)) (fq hl fn0))))
 refine xe1_3 (ledger2 (g:=G.base) (L:=C.L) (h:=s3.heap) (ex:=[(C.wo,lstObj (rs.map fun r=>Value.ref r.wa).toArray m1),(r.wa,lstObj wv.toArray m2),(C.gt,lstObj (rs.map fun r=>Value.ref r.ga).toArray m3),(r.ga,lstObj gw.toArray m4),(l,lstObj lz.toArray nl)]) (fun q hq=>⟨hA q hq,hB q hq⟩)) fun rest N rne hr3=>?_
 simp only [List.cons_append,List.nil_append] at N
 have r1:=rne r.ga zp3
 k_steps
 refine kim_list (by k_asm) (by k_dflt k_mem) rfl rfl (by omega) (by omega) (by with_reducible assumption) ?_
 k_steps
 refine kms_slice_lit (by k_asm) (by k_asm) (News.isList (by k_asm) (by k_dflt k_mem)) (by kmk_part) (by kmk_part) rfl ?_ (by with_unfolding_all rfl) (by kmk_pure) (by simp only [List.size_toArray,sizeLine];omega);intro _ _ _ _ l4;(try k_lt l4);(try k_sweep);k_steps
 rename Fr _ _ _ _=>F4
 rename News _ _ _ _=>N4
 rename_i h3' D4 h4
 have x4:∀ tk,Ext [] [C.L] [] s3 { s3 with heap:=h4,toks:=tk }:=fun tk=>ext_led (s₂:=s3) (fr:=[]) (fp:=[]) (tk:=tk) (F3k trivial) F4 N4 hr3 (fun q hq=>⟨hA q hq,.inl (by
  simp only [List.mem_cons,List.not_mem_nil,or_false] at hq ⊢
  rcases hq with h | h | h | h | h <;> simp [h])⟩) (fun q hq=>by k_mem)
 have k14:∀ b ob,s3.heap.get? b=some ob→o3.a b=1→h4.get? b=some ob∧o3.a b=o3.a b:=(extL_kp (x4 0) ⟨fun _ _ _=>rfl,fun _ _ _=>rfl⟩ (fun _=>False) fun b hb=>by rw [List.mem_singleton.mp hb,tL3];exact ⟨id,by decide⟩).one
 have hk6:r.k < 6:=(rx wi r hr).k6
 have hz3:ItOs G o3 s3.heap lz (((r.wd C.ns).drop r.p).take 1):=by rw [elz];exact ((rdV_its st3 r hk6).drop _).take _
 have hw3:ItOs G o3 s3.heap (kms_pick wv.toArray.toList (some (pp:Int)) (some ((pp:Int)+1))) (((r.wd C.ns).drop r.p).take 1):=by
  rw [show wv.toArray.toList=wv from rfl,pick1 (by rw [hwv.len];exact zq421 lp hpp),← hpp]
  exact (hwv.drop _).take _
 have i1:=((hz3.mono k14).its F4.keep).list (k:=nl) (News.get N4 (.tail _ (.tail _ (.tail _ (.tail _ (.tail _ (.head _)))))))
 have i2:=((hw3.mono k14).its F4.keep).list (k:=0) (News.get N4 (.head _))
 refine it_ne_same i1 i2 (by decide) (by decide) (by have:=c.un;dsimp only at this ⊢;exact zq30 this) ?_
 k_steps
 refine kim_list (by k_asm) (by k_dflt k_mem) rfl rfl (by omega) (by omega) (by with_reducible assumption) ?_
 k_steps
 k_dflt refine my_extend (by k_asm) (by k_asm) (by k_mem) (by intro _;k_upd) (by omega) ?_;intro _ _ _ _;(try k_sweep);k_steps
 rename Fr _ _ _ _=>F5
 rename News _ _ _ _=>N5
 rename_i tk4 h5 n5
 have x5:∀ tk,Ext [] [C.L,r.ga] [] s3 { s3 with heap:=h5,toks:=tk }:=fun tk=>ext_led (s₂:=s3) (fr:=[]) (fp:=[r.ga]) (tk:=tk) (F3k trivial) F5 N5 hr3 (fq ⟨k1,.inl (.tail _ (.head _))⟩ (fq ⟨k2,.inl (.tail _ (.tail _ (.head _)))⟩ (fq ⟨k3,.inl (.tail _ (.tail _ (.tail _ (.head _))))⟩ (fq ⟨k4,.inr ⟨zm0,_,.tail _ (.tail _ (.tail _ (.tail _ (.head _))))⟩⟩ (fq ⟨ol,.inl (.tail _ (.tail _ (.tail _ (.tail _ (.tail _ (.head _))))))⟩ fn0))))) (fun q hq=>.tail _ (.tail _ (.tail _ (.tail _ (.tail _ (.tail _ hq))))))
 have hlz1:((r.wd C.ns).drop r.p).take lz.length=((r.wd C.ns).drop r.p).take 1:=by rw [hz3.len];exact take1_len _
 have hits:ItOs G o3 s3.heap (gw++lz) ((r.wd C.ns).take (r.p+lz.length)):=by
  rw [List.take_add,hlz1];exact hgw.app hz3
 have hpl:r.p+lz.length≤(r.wd C.ns).length:=by have:=hz3.len;rw [List.length_take,List.length_drop] at this;exact zq424 lp this
 have R:=fun tk=>took (s':={ s3 with heap:=h5,toks:=tk }) ok3 tL3 st3 li3 bj3 hn hr rx3 ct3 (F3k trivial) F5 (x5 tk) (News.get N5 (.tail _ (.tail _ (.tail _ (.tail _ (.head _)))))) hits hpl
 exact post _ o3 w3 _ _ _ (R _).1 (by rw [List.length_set]) (map_same hr rfl) (((M1 _).2.trans tn3).trans (R _).2) F5
end
theorem lm_set {C:Cs}{x:Str→Option Value}{n:Str}{v:Option Value}(h:∀ y∈[Str.ofString "asked",Str.ofString "got",Str.ofString "whole",Str.ofString "whose",Str.ofString "readers",Str.ofString "shown",Str.ofString "bare",Str.ofString "views"],n≠y) :
  (fun z=>if z=n then v else LM C x z)=LM C (fun z=>if z=n then v else x z):=by
 funext z
 by_cases e:z=n
 ·subst e
  simp only [LM,if_true,if_neg (h _ (List.mem_cons_self)),if_neg (h _ (by exact zm1:Str.ofString "got"∈_)),if_neg (h _ (by exact zm2:Str.ofString "whole"∈_)),if_neg (h _ (by exact zm3:Str.ofString "whose"∈_)),if_neg (h _ (by exact zm4:Str.ofString "readers"∈_)),if_neg (h _ (by exact zm5:Str.ofString "shown"∈_)),if_neg (h _ (by exact zm6:Str.ofString "bare"∈_)),if_neg (h _ (by exact zm7:Str.ofString "views"∈_))]
 ·simp only [LM,if_neg e]
theorem lk_lm (C:Cs) (kd nm wi:Value) (x:Str→Option Value):∃ x',LK C kd nm wi x=LM C x':=by
 refine ⟨fun z=>if z=Str.ofString "which" then some wi else if z=Str.ofString "name" then some nm else if z=Str.ofString "kind" then some kd else x z,?_⟩
 have h1:=lm_set (C:=C) (x:=x) (n:=Str.ofString "kind") (v:=some kd) (by decide)
 have h2:=lm_set (C:=C) (x:=fun z=>if z=Str.ofString "kind" then some kd else x z) (n:=Str.ofString "name") (v:=some nm) (by decide)
 have h3:=lm_set (C:=C) (x:=fun z=>if z=Str.ofString "name" then some nm else if z=Str.ofString "kind" then some kd else x z) (n:=Str.ofString "which") (v:=some wi) (by decide)
 rw [← h3,← h2,← h1]
section
variable {G:Gr}{A:Around}{d u:Nat}{s:Shared}{fa:Nat}{cd:Value}{C:Cs}{o:Own}{w:WJ}{rs:List RdG}{az:List Int}
theorem need_ {k:Nat}{t:Nat}{Q E:Value→Shared→Prop}{m:Str→Option Value}(c:Cx G A [LE C.L fa cd] (d+1) (u+3) s.heap) (M:MI0 G C o w rs az s) (F:Fr G.base C.L s.heap m) (hn:rs.length≤40) (hk:k < 5)
  (post:∀ s' l n,MI0 G C o w rs az s'→Fr G.base C.L s'.heap m→Tn C rs o s o s'→s'.heap.get? l=some (lstObj ((C.VV k).take (mostR k rs az).toNat).toArray n)→l≠C.L∧G.base.get? l=none→Q (.ref l) s'):wpAny (model PR G.w) A (call (.ref 282) [.int (k:Nat) t,.ref (C.rr k),.ref C.wh,.ref C.gt,.ref C.ak]) Q E s:=by
 (refine xe0_4 (M.st.rows k hk) ?_;rintro tr ⟨k1,e1⟩ lr pr)
 refine xe2_2 M.li.owh fun wv k2 e2 hw=>?_
 obtain ⟨k3,e3⟩:=M.li.ogt
 refine xe2_2 M.li.oak fun av k4 e4 hz=>?_
 have t2:=M.li.t4 C.wh (by simp);have t3:=M.li.t4 C.gt (by simp);have t4:=M.li.t4 C.ak (by simp)
 have hlw:=hw.length
 rw [List.length_map] at hlw
 have hsz:=szOf_le C.ns k
 refine needed_ (d:=d) (u:=u) (inner:=rs.map (·.ga)) (ps:=rs.map (·.p)) c e1 e2 e3 e4 (fun b hb=>M.ok b (by simp only [List.mem_cons,List.not_mem_nil,or_false] at hb;rcases hb with h | h | h | h <;> rw [h];(rw [tr];decide);(rw [t2];decide);(rw [t3];decide);(rw [t4];decide))) hw hz (by rw [List.length_map];exact zb hn rfl) (by exact zq174 lr hsz) (by rw [List.length_map];exact hlw) (by rw [List.length_map,List.length_map]) (by rw [List.map_map];rfl) ?_ fun s' l n x hg fl ol=>?_
 ·intro i a p ha hp
  rw [List.getElem?_map] at ha hp
  (refine xe1_2 (Option.map_eq_some_iff.mp ha) ?_;rintro r hr rfl)
  rw [hr] at hp
  obtain rfl:r.p=p:=Option.some.inj hp
  have hrm:=List.mem_of_getElem? hr
  refine xe2_2 (M.li.got r hrm) fun gv n e h=>?_
  have lp:=M.li.pl r hrm
  have lwd:(r.wd C.ns).length≤6:=by
   unfold RdG.wd wdat
   rw [List.length_append,rowD_len]
   have h1:szJ C.ns r.k≤4:=by unfold szJ;split <;> first | exact szOf_le _ _ | exact zq54
   have h2:(if r.sh then lateD r.k else []).length≤2:=by unfold lateD;(repeat' split) <;> simp
   exact zq55 h1 h2
  exact (yi3 (M.ok _ (by rw [M.li.t4 _ (List.mem_append_right _ (List.mem_map_of_mem hrm))];decide)) (by exact zb (Nat.le_trans lp lwd) rfl) ⟨gv,n,e,by rw [h.len,List.length_take];exact zq45 lp⟩)
 ·have F':=Fr.ext F x fnm fn0 fn0
  have ag:Agree o o s:=⟨fun _ _ _=>rfl,fun _ _ _=>rfl⟩
  refine xe3_2 (id F.ns) fun oL _ _ eL _=>?_
  refine post s' l n (M.keep M.ok M.tL F.keep F'.keep hn fun P _=>ext_kp x ag P) F' (Tn.of x ag fn0 fn0) ?_ ⟨fun q=>(by rw [q,eL] at fl;exact nsf fl.symm),none_st F.keep fl⟩
  rw [ol]
  unfold mostR
  rw [List.zip_map']
theorem made0_its (M:MI0 G C o w rs az s) (ct:CntOk C w rs az):∃ V n,s.heap.get? (C.P.mm 0)=some (lstObj V.toArray n)∧ItOs G o s.heap V ((rowD 0 0 (szOf C.ns 0)).take (mostR 0 rs az).toNat):=by
 have hp:=M.st.pr 0 (by decide)
 have e:(rowD 0 0 (szOf C.ns 0)).take (mostR 0 rs az).toNat=(rowD 0 0 (szOf C.ns 0)).take (cnt w.1):=by
  have h1:=ct.c0
  rw [hp.1] at h1
  have h2:=rowD_len 0 (szOf C.ns 0) 0
  rw [h1]
  rcases Nat.le_total (szOf C.ns 0) (mostR 0 rs az).toNat with h | h
  ·rw [Nat.min_eq_left h,List.take_of_length_le (by exact le_of_eq_of_le h2 h),List.take_of_length_le (by exact Nat.le_of_eq h2)]
  ·rw [Nat.min_eq_right h]
 rw [e]
 have f0:Fac G 0 o s (C.P.WV 0) (C.P.va 0) (C.P.dv 0) (C.P.f 0) (C.P.mm 0) w.1:=M.bj.f0
 cases hw:w.1 with
 | none =>
  (refine xe0_3 (f0.shut hw) ?_;rintro _ ⟨n,e⟩ _)
  exact (wi2_2 [] n e (by simp only [cnt,List.take_zero];exact .nil))
 | some q =>
  (refine xe0_6 (f0.opn q hw) ?_;rintro _ _ _ _ ⟨n,e⟩ _)
  exact (wi2_2 _ n e (by simp only [madeOf,if_true,cnt];exact hp.its.take _))
theorem made1_its (M:MI0 G C o w rs az s) (ct:CntOk C w rs az):∃ V n,s.heap.get? (C.P.mm 1)=some (lstObj V.toArray n)∧ItOs G o s.heap V (if (C.VV 1).take (mostR 1 rs az).toNat=[] then [] else rowD 1 0 (szOf C.ns 1)):=by
 have hp:=M.st.pr 1 (by decide)
 obtain ⟨-,-,lv,-⟩:=M.st.rows 1 (by decide)
 have f1:Fac G 1 o s (C.P.WV 1) (C.P.va 1) (C.P.dv 1) (C.P.f 1) (C.P.mm 1) w.2:=M.bj.f1
 cases hw:w.2 with
 | none =>
  (refine xe0_3 (f1.shut hw) ?_;rintro _ ⟨n,e⟩ _)
  have:=ct.c1 hw
  refine (wi2_2 [] n e ?_)
  rw [if_pos (by rw [show (mostR 1 rs az).toNat=0 by exact (Int.toNat_of_nonpos this)];exact List.take_zero ..)]
  exact .nil
 | some q =>
  (refine xe0_6 (f1.opn q hw) ?_;rintro _ _ _ _ ⟨n,e⟩ _)
  have hc:=ct.c2 (by rw [hw];exact fun h=>nomatch h)
  refine (wi2_2 _ n e ?_)
  have:madeOf 1 (C.P.WV 1) q.m=C.P.WV 1:=rfl
  rw [this]
  split
  ·rename_i h
   have:szOf C.ns 1=0:=by
    rcases hc with hc | hc
    ·rw [← hp.1,hc];rfl
    ·have h3:1≤(mostR 1 rs az).toNat:=by exact Int.toNat_le_toNat hc
     rw [← lv]
     cases hV:C.VV 1 with
     | nil=>rfl
     | cons a b=>rw [hV] at h;obtain ⟨n,hn⟩:∃ n,(mostR 1 rs az).toNat=n+1:=⟨_,(Nat.sub_add_cancel h3).symm⟩;rw [hn] at h;(replace h:=Eq.symm h;cases h)
   have h0:C.P.WV 1=[]:=List.length_eq_zero_iff.mp (hp.1.trans this)
   rw [h0];exact .nil
  ·exact hp.its
end
noncomputable abbrev mlL (C:Cs):List Value:=[.ref (C.P.mm 0),.ref (C.P.mm 1)]
section
variable {G:Gr}{A:Around}{d u:Nat}{s:Shared}{fa:Nat}{cd:Value}{C:Cs}{o:Own}{w:WJ}{rs:List RdG}{az:List Int}{Q:Flow→Shared→Prop}{E:Value→Shared→Prop}
theorem MI0.led (M:MI0 G C o w rs az s):∃ oc3 n1 oc2 n2 rest,News G.base C.L s.heap ((C.L+1+1+1,oc3) :: (C.ml,lstObj (mlL C).toArray n1) :: (C.L+1+1,oc2) :: (C.rl,lstObj (rrL C).toArray n2) :: rest)∧oc3.data=.cell (some (.ref C.ml))∧oc2.data=.cell (some (.ref C.rl)) ∧
  (∀ q∈[(C.L+1+1+1,oc3),(C.ml,lstObj (mlL C).toArray n1),(C.L+1+1,oc2),(C.rl,lstObj (rrL C).toArray n2)],s.heap.get? q.1=some q.2)∧∀ b ob,s.heap.get? b=some ob→G.base.get? b=none→b=C.L∨b∈[(C.L+1+1+1,oc3),(C.ml,lstObj (mlL C).toArray n1),(C.L+1+1,oc2),(C.rl,lstObj (rrL C).toArray n2)].map (·.1)∨(b,ob)∈rest:=by
 refine xe1_2 M.st.c3 fun oc3 e3 h3=>?_
 refine xe1_2 M.st.c2 fun oc2 e2 h2=>?_
 obtain ⟨n1,e1⟩:=M.st.oml
 obtain ⟨n2,e4⟩:=M.st.orl
 have tA:∀ b,o.a b≠0→b≠C.L∧G.base.get? b=none:=fun b h=>⟨fun q=>h (by rw [q,M.tL]),M.ok b h⟩
 have hA:∀ q∈[(C.L+1+1+1,oc3),(C.ml,lstObj (mlL C).toArray n1),(C.L+1+1,oc2),(C.rl,lstObj (rrL C).toArray n2)],s.heap.get? q.1=some q.2:=fq e3 (fq e1 (fq e2 (fq e4 fn0)))
 have hB:∀ q∈[(C.L+1+1+1,oc3),(C.ml,lstObj (mlL C).toArray n1),(C.L+1+1,oc2),(C.rl,lstObj (rrL C).toArray n2)],q.1≠C.L∧G.base.get? q.1=none:=fq (tA _ (by rw [M.st.t1 _ zm2];decide)) (fq (tA _ (by rw [M.st.t1 _ zm5];decide)) (fq (tA _ (by rw [M.st.t1 _ zm1];decide)) (fq (tA _ (by rw [M.st.t1 _ zm4];decide)) fn0)))
 (refine xe1_3 (ledger2 (g:=G.base) (L:=C.L) (h:=s.heap) (ex:=[(C.L+1+1+1,oc3),(C.ml,lstObj (mlL C).toArray n1),(C.L+1+1,oc2),(C.rl,lstObj (rrL C).toArray n2)]) (fun q hq=>⟨hA q hq,hB q hq⟩)) ?_;rintro rest N - hr)
 simp only [List.cons_append,List.nil_append] at N
 exact (xi5 oc3 n1 oc2 n2 rest (yi5 N h3 h2 hA hr))
theorem lb4_ {x:Str→Option Value}(c:Cx G A [LE C.L fa cd] (d+53) (u+149) s.heap) (F:Fr G.base C.L s.heap (LM C x)) (M:MI G C o w rs az s) (hn:rs.length≤40)
  (post:∀ s',MI G C o w rs az s'→Tn C rs o s o s'→Fr G.base C.L s'.heap (LM C x)→Q .next s'):wpAny (model PR G.w) A (exec lb4 (LE C.L fa cd)) Q E s:=by
 have:=@on "sub"
 refine cx_open c ?_;clear c;intro ad ag au c
 have X:=G.X
 have T:=G.T
 refine xe5_5 M.m0.led fun oc3 n1 oc2 n2 rest N hc3 hc2 hA hr=>?_
 have hm0:(mlL C)[(0:Int).toNat]?=some (.ref (C.P.mm 0)):=rfl
 have hr0:(rrL C)[(0:Int).toNat]?=some (.ref (C.rr 0)):=rfl
 have Fk:True→Fr G.base C.L s.heap _:=fun _=>F
 unfold lb4
 dsimp only
 k_steps
 iterate 2 (refine kim_list (by k_asm) (by k_dflt k_mem) rfl rfl (by omega) (by omega) (by with_reducible assumption) ?_;k_steps)
 refine need_ (k:=0) (d:=d+52) (u:=u+146) (o:=o) (w:=w) (rs:=rs) (az:=az) c (M.m0.tok c.st hn _) F hn (by decide) fun s2 l nl M2 F2 T2 ol hl=>?_
 have F2k:True→Fr G.base C.L s2.heap _:=fun _=>F2
 refine xe2_2 (made0_its M2 M.ct) fun V n0 e0 hV=>?_
 apply hide;intro _ kι;obtain ⟨-,-,lv,pv⟩:=M2.st.rows 0 (by decide);apply kι
 have i1:=(hV.its F2.keep).list e0
 have i2:=(((Pairs.its (G:=G) ⟨lv,pv⟩).take (mostR 0 rs az).toNat).its F2.keep).list ol
 refine it_ne_same i1 i2 (by decide) (by decide) (by have:=c.un;dsimp only at this ⊢;exact zq30 this) ?_
 clear N hr
 (refine xe1_3 (ledger2 (g:=G.base) (L:=C.L) (h:=s2.heap) (ex:=[]) fn0) ?_;rintro rest N - hr)
 simp only [List.nil_append] at N
 k_steps
 exact post _ ((M2.tok F2.keep hn _).mi M.ct) ⟨T2.kit,T2.drawn,T2.os,T2.bare⟩ F2
theorem lb5_ {x:Str→Option Value}(c:Cx G A [LE C.L fa cd] (d+53) (u+149) s.heap) (F:Fr G.base C.L s.heap (LM C x)) (M:MI G C o w rs az s) (hn:rs.length≤40)
  (post:∀ s',MI G C o w rs az s'→Tn C rs o s o s'→Fr G.base C.L s'.heap (LM C x)→Q .next s'):wpAny (model PR G.w) A (exec lb5 (LE C.L fa cd)) Q E s:=by
 have:=@on "sub"
 have:=@on "compareOp NotEq ref ref"
 have:=@on "truthy ref"
 refine cx_open c ?_;clear c;intro ad ag au c
 have X:=G.X
 have T:=G.T
 refine xe5_5 M.m0.led fun oc3 n1 oc2 n2 rest N hc3 hc2 hA hr=>?_
 have hm1:(mlL C)[(1:Int).toNat]?=some (.ref (C.P.mm 1)):=rfl
 have hr1:(rrL C)[(1:Int).toNat]?=some (.ref (C.rr 1)):=rfl
 have Fk:True→Fr G.base C.L s.heap _:=fun _=>F
 unfold lb5
 dsimp only
 k_steps
 iterate 2 (refine kim_list (by k_asm) (by k_dflt k_mem) rfl rfl (by omega) (by omega) (by with_reducible assumption) ?_;k_steps)
 refine need_ (k:=1) (d:=d+52) (u:=u+146) (o:=o) (w:=w) (rs:=rs) (az:=az) c (M.m0.tok c.st hn _) F hn (by decide) fun s2 l nl M2 F2 T2 ol hl=>?_
 have F2k:True→Fr G.base C.L s2.heap _:=fun _=>F2
 clear N hr hA
 refine xe2_2 (made1_its M2 M.ct) fun V n0 e0 hV=>?_
 refine xe5_5 M2.led fun oc3 n1 oc2 n2 rest N hc3 hc2 hA hr=>?_
 have lv1:(C.VV 1).length≤4:=by obtain ⟨-,-,lv,-⟩:=M2.st.rows 1 (by decide);rw [lv];exact szOf_le _ _
 refine wpAny_truthy_list (items:=((C.VV 1).take (mostR 1 rs az).toNat).toArray) ⟨_,ol,rfl,_,rfl⟩ (by rw [List.size_toArray,List.length_take];omega) ?_
 have hu:au+64 < cLine:=by have:=c.un;dsimp only at this ⊢;exact zq30 this
 by_cases he:(C.VV 1).take (mostR 1 rs az).toNat=[]
 ·rw [if_pos he] at hV
  rw [he]
  have hb:(!(([]:List Value).toArray.isEmpty))=false:=rfl
  rw [hb]
  k_steps
  rename Fr _ _ _ _=>F3
  rename News _ _ _ _=>N3
  rename_i l3 h3 lt3
  have x3:∀ tk,Ext [] [C.L] [] s2 { s2 with heap:=h3,toks:=tk }:=fun tk=>ext_led (s₂:=s2) (fr:=[]) (fp:=[]) (tk:=tk) (F2k trivial) F3 N3 hr (fun q hq=>⟨hA q hq,.inl (by
   simp only [List.mem_cons,List.not_mem_nil,or_false] at hq ⊢
   rcases hq with h | h | h | h <;> simp [h])⟩) (fun q hq=>by k_mem)
  have M3:=fun tk=>M2.inL (s':={ s2 with heap:=h3,toks:=tk }) (F2k trivial) F3 hn (x3 tk)
  refine xe2_2 (made1_its (M3 s2.toks).1 M.ct) fun V' n0' e0' hV'=>?_
  rw [if_pos he] at hV'
  refine it_ne_same ((hV'.its F3.keep).list e0') (Its.nil.list (n:=1) (News.get N3 (.head _))) (by decide) (by decide) hu ?_
  k_steps
  exact post _ ((M3 _).1.mi M.ct) (T2.trans (M3 _).2).tok F3
 ·rw [if_neg he] at hV
  have hb:(!(((C.VV 1).take (mostR 1 rs az).toNat).toArray.isEmpty))=true:=by
   cases h:(C.VV 1).take (mostR 1 rs az).toNat with
   | nil=>exact absurd h he
   | cons a b=>rfl
  rw [hb]
  k_steps
  refine kim_list (by k_asm) (by k_dflt k_mem) rfl rfl (by omega) (by omega) (by with_reducible assumption) ?_
  k_steps
  refine it_ne_same ((hV.its F2.keep).list e0) (row_it (M2.st.rows 1 (by decide)) F2.keep) (by decide) (by decide) hu ?_
  k_steps
  exact post _ ((M2.tok F2.keep hn _).mi M.ct) ⟨T2.kit,T2.drawn,T2.os,T2.bare⟩ F2
end
theorem MI0.notin {G:Gr}{C:Cs}{o:Own}{w:WJ}{rs:List RdG}{az:List Int}{s:Shared}{it i:Nat}{v:Value}(M:MI0 G C o w rs az s) (e:s.heap.get? it=some (itObj "list_iterator" v i)):it ∉ [C.rd,C.wh,C.wo,C.gt,C.ak]++rs.map (·.ga):=fun h=>by
 have no:∀ {b:Nat}{V:Array Value}{n:Nat},s.heap.get? b=some (lstObj V n)→@Ne Nat it b:=fun e'=>ne_cls e e' (by simp)
 obtain ⟨_,e1⟩:=M.li.ord;refine xe2_2 M.li.owh fun _ _ e2 _=>?_;obtain ⟨_,e3⟩:=M.li.owo;obtain ⟨_,e4⟩:=M.li.ogt;refine xe2_2 M.li.oak fun _ _ e5 _=>?_
 rcases List.mem_append.mp h with h | h
 ·simp only [List.mem_cons,List.not_mem_nil,or_false] at h
  rcases h with h | h | h | h | h
  ·exact no e1 h
  ·exact no e2 h
  ·exact no e3 h
  ·exact no e4 h
  ·exact no e5 h
 ·refine xe1_2 (List.mem_map.mp h) fun r hr e6=>?_
  refine xe2_2 (M.li.got r hr) fun _ _ e7 _=>?_
  exact no e7 e6.symm
structure Lp (C:Cs) (it i:Nat) (s0:Shared) (o:Own) (s:Shared):Prop where
 eit:s.heap.get? it=some (itObj "list_iterator" (.ref C.nl) i)
 t4:o.a it=4
 drawn:s.drawn=s0.drawn
 os:s.os=s0.os
 bare:AllBare s0.gens→AllBare s.gens
theorem Lp.go {C:Cs}{it i:Nat}{s0 s s':Shared}{o o':Own}{rs:List RdG}(x:Lp C it i s0 o s) (h:it ∉ [C.rd,C.wh,C.wo,C.gt,C.ak]++rs.map (·.ga)) (t:Tn C rs o s o' s'):Lp C it i s0 o' s' :=
 let r:=t.kit _ _ x.eit x.t4 h;⟨r.1,r.2,t.drawn.trans x.drawn,t.os.trans x.os,fun z=>t.bare (x.bare z)⟩
section
variable {G:Gr}{A:Around}{d u:Nat}{s s0:Shared}{fa:Nat}{cd:Value}{C:Cs}{o:Own}{w:WJ}{rs:List RdG}{az:List Int}{Q:Flow→Shared→Prop}{E:Value→Shared→Prop}{it i:Nat}
theorem tail_ {x:Str→Option Value}(c:Cx G A [LE C.L fa cd] (d+53) (u+149) s.heap) (F:Fr G.base C.L s.heap (LM C x)) (M:MI G C o w rs az s) (hn:rs.length≤40) (lp:Lp C it i s0 o s)
  (post:∀ s' x',MI G C o w rs az s'→Lp C it i s0 o s'→Fr G.base C.L s'.heap (LM C x')→Q .next s'):wpAny (model PR G.w) A (execs [lb4,lb5] (LE C.L fa cd)) Q E s:=by
 refine wpAny_execs_cons (lb4_ c F M hn fun s4 M4 T4 F4=>?_)
 have lp4:=lp.go (M.m0.notin lp.eit) T4
 refine wpAny_execs_cons (lb5_ (c.at1 F4) F4 M4 hn fun s5 M5 T5 F5=>?_)
 exact wpAny_execs_nil (post s5 x M5 (lp4.go (M4.m0.notin lp4.eit) T5) F5)
theorem turn_ {x:Str→Option Value}{v:Int}{t:Nat}(c:Cx G A [LE C.L fa cd] (d+53) (u+149) s.heap) (F:Fr G.base C.L s.heap (LM C (fun z=>if z=Str.ofString "number" then some (.int v t) else x z))) (M:MI G C o w rs az s) (hn:rs.length < 40) (ha:az.length≤1000) (lp:Lp C it i s0 o s)
  (post:∀ s' o' w' rs' az' x',MI G C o' w' rs' az' s'→rs'.length≤rs.length+1→az'.length≤az.length+1→Lp C it i s0 o' s'→Fr G.base C.L s'.heap (LM C x')→Q .next s'):wpAny (model PR G.w) A (execs [lb0,lb1,lb2,lb3,lb4,lb5] (LE C.L fa cd)) Q E s:=by
 obtain ⟨n1,e1⟩:=M.li.ord
 have n2:=M.li.n2
 have trd:=M.li.t4 C.rd (by simp)
 refine head_ c F e1 (by rw [List.length_map];exact n2) (by rw [List.length_map];exact zq10 hn) (M.ok _ (by rw [trd];decide)) (fun q=>by rw [q,M.tL] at trd;(replace trd:=Eq.symm trd;cases trd)) fun s1 kd k wi t1 t2 t3 x1 hkd hk hwi X1 g1 F1=>?_
 rw [List.length_map] at hwi
 obtain ⟨M1,T1⟩:=M.m0.inL F F1 (by exact zq10 hn) X1
 have M1:=M1.mi M.ct
 have lp1:=lp.go (M.m0.notin lp.eit) T1
 have c1:=c.at1 F1
 refine wpAny_execs_cons (tests_ c1 F1 hk ?hA ?hB ?hC ?hD)
 case hA =>
  intro hk0 hk5 tk
  refine brA_ (d:=d+50) (u:=u+142) c1 F1 (M1.tok c1.st (by exact zq10 hn) tk) hk5 hn fun s2 o2 r hr M2 T2 F2=>?_
  have lp2:=lp1.go (M1.m0.notin lp1.eit) T2.tok
  obtain ⟨x',e⟩:=lk_lm C (.int (kd:Nat) t1) (.int (k:Nat) t2) (.int (wi:Nat) t3) x1
  rw [e] at F2
  exact tail_ (c1.at1 F2) F2 M2 (by rw [List.length_append,List.length_singleton];exact zq181 hn) lp2 fun s' x' M' lp' F'=>post s' o2 w _ _ x' M' (by rw [List.length_append,List.length_singleton];exact zq93) (by exact zq16) lp' F'
 case hB =>
  intro tk
  refine brB_ (d:=d+50) (u:=u+142) c1 F1 (M1.tok c1.st (by exact zq10 hn) tk) hk hn fun s2 o2 r hr M2 T2 F2=>?_
  have lp2:=lp1.go (M1.m0.notin lp1.eit) T2.tok
  obtain ⟨x',e⟩:=lk_lm C (.int (kd:Nat) t1) (.int (k:Nat) t2) (.int (wi:Nat) t3) x1
  rw [e] at F2
  exact tail_ (c1.at1 F2) F2 M2 (by rw [List.length_append,List.length_singleton];exact zq181 hn) lp2 fun s' x' M' lp' F'=>post s' o2 w _ _ x' M' (by rw [List.length_append,List.length_singleton];exact zq93) (by exact zq16) lp' F'
 case hC =>
  intro hk5 tk
  refine brC_ (d:=d+1) (u:=u+4) c1 F1 (M1.tok c1.st (by exact zq10 hn) tk) hk5 (by exact zq10 hn) ha fun s2 o2 w2 M2 T2 F2=>?_
  have lp2:=lp1.go (M1.m0.notin lp1.eit) T2.tok
  obtain ⟨x',e⟩:=lk_lm C (.int (kd:Nat) t1) (.int (k:Nat) t2) (.int (wi:Nat) t3) x1
  rw [e] at F2
  exact tail_ (c1.at1 F2) F2 M2 (by exact zq10 hn) lp2 fun s' x' M' lp' F'=>post s' o2 w2 _ _ x' M' (by exact zq16) (by rw [List.length_append,List.length_singleton];exact zq93) lp' F'
 case hD =>
  intro tk
  refine brD_ (d:=d) (u:=u) c1 F1 (M1.tok c1.st (by exact zq10 hn) tk) (by exact zq10 hn) hwi fun s2 o2 w2 rs2 v1 v2 M2 hl hg T2 F2=>?_
  have lp2:=lp1.go (M1.m0.notin lp1.eit) T2.tok
  obtain ⟨x',e⟩:=lk_lm C (.int (kd:Nat) t1) (.int (k:Nat) t2) (.int (wi:Nat) t3) x1
  rw [e] at F2
  have h1:=lm_set (C:=C) (x:=x') (n:=Str.ofString "place") (v:=some v2) (by decide)
  have h2:=lm_set (C:=C) (x:=fun z=>if z=Str.ofString "place" then some v2 else x' z) (n:=Str.ofString "taken") (v:=some v1) (by decide)
  rw [← h1] at h2
  rw [h2] at F2
  exact tail_ (c1.at1 F2) F2 M2 (by exact Nat.le_of_lt (Nat.lt_of_le_of_lt (Nat.le_of_eq hl) hn)) lp2 fun s' x' M' lp' F'=>post s' o2 w2 _ _ x' M' (by exact zq433 hl) (by exact zq16) lp' F'
end
theorem LI.but {G:Gr}{C:Cs}{rs:List RdG}{az:List Int}{o o':Own}{s s':Shared}(x:LI G C rs az o s) (k1:∀ b ob,s.heap.get? b=some ob→o.a b=1→s'.heap.get? b=some ob∧o'.a b=o.a b) (k4:∀ b ob,s.heap.get? b=some ob→b∈[C.rd,C.wh,C.wo,C.gt,C.ak]++rs.map (·.ga)→s'.heap.get? b=some ob∧o'.a b=4):LI G C rs az o' s':=by
 have mg:∀ r∈rs,r.ga∈[C.rd,C.wh,C.wo,C.gt,C.ak]++rs.map (·.ga):=fun r hr=>List.mem_append_right _ (List.mem_map_of_mem hr)
 refine ⟨?_,?_,?_,?_,?_,fun r hr=>?_,fun r hr=>?_,fun b hb=>?_,x.nd,x.pl,x.n2⟩
 ·obtain ⟨n,e⟩:=x.ord;exact ⟨n,(k4 _ _ e (by simp)).1⟩
 ·refine xe2_2 x.owh fun wv n e h=>?_;exact (wi2_2 wv n ((k4 _ _ e (by simp)).1) h)
 ·obtain ⟨n,e⟩:=x.owo;exact ⟨n,(k4 _ _ e (by simp)).1⟩
 ·obtain ⟨n,e⟩:=x.ogt;exact ⟨n,(k4 _ _ e (by simp)).1⟩
 ·refine xe2_2 x.oak fun wv n e h=>?_;exact (wi2_2 wv n ((k4 _ _ e (by simp)).1) h)
 ·refine xe2_2 (x.got r hr) fun gv n e h=>?_;exact (wi2_2 gv n ((k4 _ _ e (mg r hr)).1) (h.mono k1))
 ·refine xe2_3 (x.whl r hr) fun wv n e h q=>?_
  obtain ⟨e',q'⟩:=k1 _ _ e q
  exact (wi2_3 wv n e' (h.mono k1) (q'.trans q))
 ·obtain ⟨ob,e⟩:∃ ob,s.heap.get? b=some ob:=by
   obtain ⟨_,e1⟩:=x.ord;refine xe2_2 x.owh fun _ _ e2 _=>?_;obtain ⟨_,e3⟩:=x.owo;obtain ⟨_,e4⟩:=x.ogt;refine xe2_2 x.oak fun _ _ e5 _=>?_
   rcases List.mem_append.mp hb with h | h
   ·simp only [List.mem_cons,List.not_mem_nil,or_false] at h
    rcases h with h | h | h | h | h <;> replace h:=h.symm <;> subst h
    ·exact ⟨_,e1⟩
    ·exact ⟨_,e2⟩
    ·exact ⟨_,e3⟩
    ·exact ⟨_,e4⟩
    ·exact ⟨_,e5⟩
   ·(refine xe1_2 (List.mem_map.mp h) ?_;rintro r hr rfl)
    refine xe2_2 (x.got r hr) fun _ _ e _=>?_
    exact ⟨_,e⟩
  exact (k4 b ob e hb).2
theorem MI0.beside {G:Gr}{C:Cs}{o:Own}{w:WJ}{rs:List RdG}{az:List Int}{s s':Shared}{m m':Str→Option Value}{fp:List Nat}(M:MI0 G C o w rs az s) (F:Fr G.base C.L s.heap m) (F':Fr G.base C.L s'.heap m') (hn:rs.length≤40) (x:Ext [] fp [] s s') (hf:∀ b∈fp,(o.a b=0∨o.a b=4)∧b ∉ [C.rd,C.wh,C.wo,C.gt,C.ak]++rs.map (·.ga)):MI0 G C o w rs az s':=by
 have ag:Agree o o s:=⟨fun _ _ _=>rfl,fun _ _ _=>rfl⟩
 have K:∀ P:Nat→Prop,¬ P 0∧¬ P 4→Kp P o s o s':=fun P hP=>kp4 x ag (fun b hb=>(hf b hb).1) P hP
 have k1:=(K (fun _=>False) ⟨id,id⟩).one
 exact ⟨M.ok,M.tL,M.st.mono k1,M.li.but k1 fun b ob e h=>⟨x.keep b ob e (fun q=>(hf b q).2 h) fnm,M.li.t4 b h⟩,M.bj.mono (K FM2 ⟨fm2_0,fm2_4⟩),fun i r hr=>(M.rx i r hr).keep M.st.sq (by have:=(List.getElem?_eq_some_iff.mp hr).1;exact zq7 hn this) F.keep F'.keep (K _ ⟨by exact zq8,by exact zq29⟩)⟩
theorem MI0.lin {G:Gr}{C:Cs}{o:Own}{w:WJ}{rs:List RdG}{az:List Int}{s:Shared}(M:MI0 G C o w rs az s):C.L ∉ [C.rd,C.wh,C.wo,C.gt,C.ak]++rs.map (·.ga):=fun h=>by
 have:=M.li.t4 _ h
 rw [M.tL] at this;(replace this:=Eq.symm this;cases this)
section
variable {G:Gr}{A:Around}{d u:Nat}{s:Shared}{fa:Nat}{cd:Value}{C:Cs}{o:Own}{w:WJ}{rs:List RdG}{Q:Flow→Shared→Prop}{E:Value→Shared→Prop}
theorem loop_ {x:Str→Option Value}(c:Cx G A [LE C.L fa cd] (d+53) (u+149) s.heap) (F:Fr G.base C.L s.heap (LM C x)) (M:MI G C o w rs [] s) (hn:rs.length≤2)
  (post:∀ s' o' w' rs' az' x',MI G C o' w' rs' az' s'→rs'.length≤32→Fr G.base C.L s'.heap (LM C x')→s'.drawn=s.drawn→s'.os=s.os→(AllBare s.gens→AllBare s'.gens)→Q .next s'):wpAny (model PR G.w) A (exec lw11 (LE C.L fa cd)) Q E s:=by
 refine xe3_3 (id F.ns) fun oL es ep eL hdL _=>?_
 refine xe2_3 M.st.onl fun nv nn hI onl lnv=>?_
 unfold lw11
 dsimp only
 refine for_hold (fun _=>rfl) ?_
 refine wpAny_Name (wpAny_loadName_cell rfl rfl rfl (c:=C.L+1) (v:=.ref C.nl) M.st.c1 ?_)
 show wpAny _ _ _ _ _ _
 refine wpAny_pyIter_list ⟨_,onl,rfl,_,rfl⟩ ?_
 have f0:s.heap.get? s.heap.objs.size=none:=Heap.get?_none_of_le (Nat.le_refl _)
 have kp:∀ b ob,s.heap.get? b=some ob→(s.heap.push (itObj "list_iterator" (.ref C.nl) 0)).get? b=some ob:=fun b ob e=>Heap.get?_push_of_some _ e
 have ei:(s.heap.push (itObj "list_iterator" (.ref C.nl) 0)).get? s.heap.objs.size=some (itObj "list_iterator" (.ref C.nl) 0):=Heap.get?_push_size _ rfl
 have ag:=Own.with_agree o s (fun b=>if b=s.heap.objs.size then 4 else 0) (fun _=>0)
 have ok1:OwnOk G (o.with s (fun b=>if b=s.heap.objs.size then 4 else 0) (fun _=>0)):=Own.with_ok M.ok c.st
 have t4:(o.with s (fun b=>if b=s.heap.objs.size then 4 else 0) (fun _=>0)).a s.heap.objs.size=4:=(Own.with_new o f0).trans (if_pos rfl)
 generalize o.with s (fun b=>if b=s.heap.objs.size then 4 else 0) (fun _=>0)=o1 at ag ok1 t4
 have x1:Ext [] [] [] s { s with heap:=s.heap.push (itObj "list_iterator" (.ref C.nl) 0),toks:=s.toks }:=Ext.more kp
 have F1:=Fr.ext F x1 fnm fn0 fn0
 have M1:MI G C o1 w rs [] { s with heap:=s.heap.push (itObj "list_iterator" (.ref C.nl) 0),toks:=s.toks }:=M.keep ok1 ((ag.1 _ _ eL).trans M.tL) c.st F1.keep (by exact za hn rfl) fun P _=>ext_kp x1 ag P
 obtain ⟨it,hit⟩:∃ it,s.heap.objs.size=it:=⟨_,rfl⟩
 rw [hit] at ei t4 ⊢
 refine for_rule (J:=fun i s'=>∃ o' w' rs' az' x',MI G C o' w' rs' az' s'∧rs'.length≤2+i∧az'.length≤i∧Lp C it i s o' s'∧Fr G.base C.L s'.heap (LM C x')) nv.length (fun _=>rfl) ?item ?done (xi5 o1 w rs [] x (yi5 M1 (by exact hn) (by simp) ⟨ei,t4,rfl,rfl,id⟩ F1))
 case item =>
  (intro i s1 hi q3;apply hide;intro _ kι;obtain ⟨o',w',rs',az',x',M',h1,h2,lp,F'⟩:=q3;apply kι)
  (refine xe2_3 M'.st.onl ?_;rintro nv' nn' hI' onl' -)
  have hlen:nv'.length=nv.length:=by have:=hI.length;have:=hI'.length;exact zq182 (by assumption) this
  obtain ⟨vq,hvq⟩:∃ v,C.ns[i]?=some v:=⟨_,List.getElem?_eq_getElem (by rw [← hI.length];exact hi)⟩
  obtain ⟨tq,htq⟩:=IntsAre.get hI' i vq hvq
  refine pyNext_of (next_item (.inl rfl) lp.eit onl' rfl (x:=.int vq tq) (by simpa using htq) fun h' q1 q2=>(wi1_2 _ rfl ?_))
  have nit:it≠C.L:=fun q=>by have:=lp.t4;rw [q,M'.tL] at this;(replace this:=Eq.symm this;cases this)
  have q2:Heap.SameBut it s1.heap h':=q2
  refine wpAny_assign_Name (wpAny_storeName_local (m:=LM C x') rfl (F'.ns.at' fun ob e=>(q2.2 _ nit.symm).trans e) (fun h2 hn2 hs2=>?_) rfl)
  have hs2:Heap.SameBut C.L h' h2:=hs2
  have hn2:h2.Ns C.L (fun z=>if z=Str.ofString "number" then some (.int vq tq) else LM C x' z):=hn2
  refine xe3_2 (id hn2) fun oL2 _ _ eL2 _=>?_
  have tit:=lp.t4
  have X2:∀ tk,Ext [] [C.L,it] [] s1 { s1 with heap:=h2,toks:=tk }:=fun tk=>(Ext.one (fr:=[]) (fp:=[C.L,it]) (gp:=[]) (s:=s1) (tk:=s1.toks) q2 zm1 ⟨_,q1⟩).trans (Ext.one (fr:=[]) (fp:=[C.L,it]) (gp:=[]) (s:={ s1 with heap:=h',toks:=s1.toks }) (tk:=tk) hs2 zm0 ⟨_,eL2⟩) (fun b hb=>.inl hb) fn0
  have F2:Fr G.base C.L h2 (LM C (fun z=>if z=Str.ofString "number" then some (.int vq tq) else x' z)):=by
   rw [lm_set (n:=Str.ofString "number") (by decide)] at hn2
   refine ⟨hn2,fun b ob e=>?_,F'.above⟩
   exact (hs2.2 b (fun q=>by
    have h1:=Heap.lt_size e;have h2:=F'.above;rw [q] at h1;exact Nat.lt_irrefl _ (Nat.lt_of_lt_of_le h1 h2))).trans ((q2.2 b (fun q=>by rw [q,M'.ok it (by rw [tit];decide)] at e;exact nsf e)).trans (F'.keep b ob e))
  have M2:=fun tk=>(M'.m0.beside (s':={ s1 with heap:=h2,toks:=tk }) F' F2 (by exact za (Nat.le_trans h1 (Nat.add_le_add_left (Nat.le_trans (Nat.le_of_lt hi) lnv) 2)) rfl) (X2 tk) (fun b hb=>by
   simp only [List.mem_cons,List.not_mem_nil,or_false] at hb
   rcases hb with h | h
   ·rw [h];exact ⟨.inl M'.tL,M'.m0.lin⟩
   ·rw [h];exact ⟨.inr tit,M'.m0.notin lp.eit⟩)).mi M'.ct
  have lp2:∀ tk,Lp C it (i+1) s o' { s1 with heap:=h2,toks:=tk }:=fun tk=>⟨(hs2.2 _ nit).trans q1,tit,lp.drawn,lp.os,lp.bare⟩
  exact turn_ (d:=d) (u:=u) (c.at1 F2) F2 (M2 _) (by exact zb (Nat.le_trans h1 (Nat.add_le_add_left (Nat.le_trans (Nat.le_of_lt hi) lnv) 2)) rfl) (by exact za (Nat.le_trans (by assumption) (Nat.le_trans (Nat.le_of_lt hi) lnv)) rfl) (lp2 _) fun s5 o5 w5 rs5 az5 x5 M5 l5 l6 lp5 F5=>(xi5 o5 w5 rs5 az5 x5 (yi5 M5 (by exact Nat.le_trans l5 (Nat.succ_le_succ h1)) (by exact Nat.le_trans l6 (Nat.succ_le_succ (by assumption))) lp5 F5))
 case done =>
  (intro s1 q1;apply hide;intro _ kι;obtain ⟨o',w',rs',az',x',M',h1,h2,lp,F'⟩:=q1;apply kι)
  (refine xe2_3 M'.st.onl ?_;rintro nv' nn' hI' onl' -)
  have hlen:nv'.length=nv.length:=by have:=hI.length;have:=hI'.length;exact zq182 (by assumption) this
  have nit:it≠C.L:=fun q=>by have:=lp.t4;rw [q,M'.tL] at this;(replace this:=Eq.symm this;cases this)
  have tit:=lp.t4
  refine pyNext_of (next_end (.inl rfl) c.hd lp.eit onl' rfl (by simp [hlen]) fun h₁ h' ex q1 q2 nx hz=>(yi3 (raw_stops (s:={ s1 with heap:=h' }) (raw_of nx)) rfl ?_))
  have q2:Heap.SameBut it s1.heap h₁:=q2
  have X2:Ext [] [it] [] s1 { s1 with heap:=h',toks:=s1.toks }:=(Ext.one (fr:=[]) (fp:=[it]) (gp:=[]) (s:=s1) (tk:=s1.toks) q2 zm0 ⟨_,q1⟩).trans (Ext.more (fr:=[]) (fp:=[]) (gp:=[]) (s:={ s1 with heap:=h₁,toks:=s1.toks }) nx.keeps) (fun b hb=>nomatch hb) fn0
  have F2:=Fr.ext F' X2 (by simpa using nit.symm) (fun b hb=>by rw [List.mem_singleton.mp hb];exact M'.ok it (by rw [tit];decide)) fn0
  have M2:=(M'.m0.beside F' F2 (by exact za (Nat.le_trans h1 (Nat.add_le_add_left lnv 2)) rfl) X2 (fun b hb=>by rw [List.mem_singleton.mp hb];exact ⟨.inr tit,M'.m0.notin lp.eit⟩)).mi M'.ct
  exact post _ o' w' rs' az' x' M2 (by exact Nat.le_trans h1 (Nat.add_le_add_left lnv 2)) F2 lp.drawn lp.os lp.bare
end
structure ME (G:Gr) (C:Cs) (rs:List RdG) (az:List Int) (i:Nat) (o:Own) (w:WJ) (s:Shared):Prop where
 ok:OwnOk G o
 tL:o.a C.L=0
 st:St1 G C o s
 li:LI G C rs az o s
 bj:BJ G C.P w o s
 rx:∀ j r,i≤j→rs[j]?=some r→RdX G C.P j r w o s
theorem MI0.me {G:Gr}{C:Cs}{o:Own}{w:WJ}{rs:List RdG}{az:List Int}{s:Shared}(M:MI0 G C o w rs az s):ME G C rs az 0 o w s:=⟨M.ok,M.tL,M.st,M.li,M.bj,fun j r _ h=>M.rx j r h⟩
theorem ME.keep {G:Gr}{C:Cs}{o o':Own}{w:WJ}{rs:List RdG}{az:List Int}{i:Nat}{s s':Shared}(M:ME G C rs az i o w s) (ok':OwnOk G o') (tL':o'.a C.L=0) (st:G.base.StaysIn s.heap) (st':G.base.StaysIn s'.heap) (hn:rs.length≤40) (K:∀ P:Nat→Prop,¬ P 0→Kp P o s o' s'):ME G C rs az i o' w s' :=
 ⟨ok',tL',M.st.mono (K (fun _=>False) id).one,M.li.mono (K _ (by decide)),M.bj.mono (K _ fm2_0),fun j r hj hr=>(M.rx j r hj hr).keep M.st.sq (by have:=(List.getElem?_eq_some_iff.mp hr).1;exact zq7 hn this) st st' (K _ (by exact zq8))⟩
theorem ME.inL {G:Gr}{C:Cs}{o:Own}{w:WJ}{rs:List RdG}{az:List Int}{i:Nat}{s s':Shared}{m m':Str→Option Value}(M:ME G C rs az i o w s) (F:Fr G.base C.L s.heap m) (F':Fr G.base C.L s'.heap m') (hn:rs.length≤40) (x:Ext [] [C.L] [] s s'):ME G C rs az i o w s'∧Tn C rs o s o s' :=
 ⟨M.keep M.ok M.tL F.keep F'.keep hn fun P hP=>extL_kp x ⟨fun _ _ _=>rfl,fun _ _ _=>rfl⟩ P fun b hb=>by rw [List.mem_singleton.mp hb,M.tL];exact ⟨hP,by decide⟩,
  Tn.of x ⟨fun _ _ _=>rfl,fun _ _ _=>rfl⟩ fn0 fun b hb=>.inl (by rw [List.mem_singleton.mp hb,M.tL];decide)⟩
theorem ME.tok {G:Gr}{C:Cs}{o:Own}{w:WJ}{rs:List RdG}{az:List Int}{i:Nat}{s:Shared}(M:ME G C rs az i o w s) (st:G.base.StaysIn s.heap) (hn:rs.length≤40) (t:Nat):ME G C rs az i o w { s with toks:=t } :=
 M.keep M.ok M.tL st st hn fun P _=>⟨fun b ob e _=>⟨e,rfl⟩,fun g x e _=>⟨e,rfl⟩⟩
noncomputable def P2 (i t:Nat):Prop:=PT i t∨t=104
theorem p2_ok {i t:Nat}(h:P2 i t):t≠0∧t≠1∧t≠4:=by
 rcases h with h | h
 ·exact pt_ok h
 ·exact zq443 h
theorem pt_104 {i:Nat}(hi:i < 45):¬ PT i 104:=fun h=>by
 rcases h with h | h | h
 ·exact Nat.ne_of_gt (za (Nat.add_lt_add_left hi 5) rfl) h
 ·exact Nat.ne_of_gt (za (Nat.add_lt_add_left hi 50) rfl) h
 ·rw [fm2_iff] at h;exact zq446 h
theorem Mv.one {G:Gr}{P:Nat→Prop}{fr:List Addr}{o:Own}{s:Shared}{a:Nat}{h':Heap}{tk:Nat}(ok:OwnOk G o) (hs:Heap.SameBut a s.heap h') (ht:∃ ob,h'.get? a=some ob) (ha:P (o.a a)) (hf:a ∉ fr):Mv G P fr o s o { s with heap:=h',toks:=tk } :=
 Mv.of (fp:=[a]) (gp:=[]) (Ext.one hs zm0 ht) (fun b hb=>by rw [List.mem_singleton.mp hb];exact .inl ⟨ha,hf⟩) fn0 ⟨fun _ _ _=>rfl,fun _ _ _=>rfl⟩ ok
section
variable {G:Gr}{A:Around}{d u:Nat}{s:Shared}{o:Own}{w:WJ}{C:Cs}{rs:List RdG}{az:List Int}{i fa:Nat}{r:RdG}{cd:Value}{m:Str→Option Value}{E:Value→Shared→Prop}
noncomputable def DJ (G:Gr) (C:Cs) (rs:List RdG) (i:Nat) (r:RdG) (fa:Nat) (cd:Value) (o1:Own) (s1:Shared) (S j:Nat) (s':Shared):Prop :=
 ∃ o' w',Mv G (P2 i) (frs [LE C.L fa cd]) o1 s1 o' s'∧BJ G C.P w' o' s'∧RdX G C.P i { r with p:=r.p+j } w' o' s'∧o'.a S=104∧(∃ ob,s'.heap.get? S=some ob)∧∀ q r',i < q→rs[q]?=some r'→RdX G C.P q r' w' o' s'
theorem rd_drn {A:Around}{o1:Own}{s1:Shared}{S:Nat}(c:Cx G A [LE C.L fa cd] (d+52) (u+145) s1.heap) (ok:OwnOk G o1) (tL:o1.a C.L=0) (eL:∃ ob,s1.heap.get? C.L=some ob) (hT:∀ k,2≤k→k < 5→SeqT (C.P.T k)) (hi:i < 45) (hn:rs.length≤40) (nS:S≠C.L) :
  Drn PR G.w A S (.ref r.a) ((r.V C.P).drop r.p) (DJ G C rs i r fa cd o1 s1 S) (fun s'=>∃ o' w',Mv G (P2 i) (frs [LE C.L fa cd]) o1 s1 o' s'∧BJ G C.P w' o' s'∧∀ q r',i < q→rs[q]?=some r'→RdX G C.P q r' w' o' s'):=by
 have nSf:S ∉ frs [LE C.L fa cd]:=fun h=>by have h:S∈[C.L]:=h;exact nS (List.mem_singleton.mp h)
 have hP0:¬ P2 i 0:=fun h=>(p2_ok h).1 rfl
 obtain ⟨oL,eL⟩:=eL
 have hlen:∀ q r',rs[q]?=some r'→q < 45:=fun q r' h=>by have:=(List.getElem?_eq_some_iff.mp h).1;exact zq7 hn this
 have cx:∀ {o':Own}{s':Shared},Mv G (P2 i) (frs [LE C.L fa cd]) o1 s1 o' s'→Cx G A [LE C.L fa cd] (d+52) (u+145) s'.heap:=fun mv=>mv.cx c ok hP0
 have f0:∀ {o':Own}{s':Shared},Mv G (P2 i) (frs [LE C.L fa cd]) o1 s1 o' s'→o'.a C.L=0:=fun mv=>(mv.ag.1 _ _ eL).trans tL
 have others:∀ {o' o'':Own}{s' s'':Shared}{w' w'':WJ}{c':Nat},Mv G (P2 i) (frs [LE C.L fa cd]) o1 s1 o' s'→Mv G (PT i) (frs [LE C.L fa cd]) o' s' o'' s''→GJ C.P r.k w' w'' c'→G.base.StaysIn s''.heap→(∀ q r',i < q→rs[q]?=some r'→RdX G C.P q r' w' o' s')→∀ q r',i < q→rs[q]?=some r'→RdX G C.P q r' w'' o'' s'':=fun mv mv2 g st'' h q r' hq hr =>
  (h q r' hq hr).other hT (hlen q r' hr) (cx mv).st st'' (mv2.kp0 (frs1 (f0 mv)) (fun t p=>⟨fun z=>z.elim (pt_rd hi (hlen q r' hr) (by exact zq41 hq) p).1 (pt_rd hi (hlen q r' hr) (by exact zq41 hq) p).2,(pt_ok p).2.1⟩) (by exact zq8)) g
 refine ⟨fun j s' h' hJ hs ex=>?_,fun j s' Q E hj hJ hQ=>?_,fun s' Q E hJ hQ=>?_⟩
 ·(refine xe2_6 hJ ?_;rintro o' w' mv b rd tS ⟨ob,eS⟩ hr)
  have hs:Heap.SameBut S s'.heap h':=hs
  have mv2:Mv G (P2 i) (frs [LE C.L fa cd]) o' s' o' { s' with heap:=h',toks:=s'.toks }:=Mv.one mv.ok hs ex (.inr tS) nSf
  have st2:G.base.StaysIn h':=(cx (mv.trans mv2)).st
  have K:∀ M:Nat→Prop,¬ M 104→Kp M o' s' o' { s' with heap:=h',toks:=s'.toks }:=fun M hM=>⟨fun b ob e t=>⟨(hs.2 b (fun q=>by rw [q,tS] at t;exact t.elim hM (by decide))).trans e,rfl⟩,fun g x e _=>⟨e,rfl⟩⟩
  exact ⟨o',w',mv.trans mv2,b.mono (K FM2 (by rw [fm2_iff];exact zq447)),rd.keep hT hi (cx mv).st st2 (K _ (by exact zq183 hi)),tS,ex,fun q r' hq h=>(hr q r' hq h).keep hT (hlen q r' h) (cx mv).st st2 (K _ (by have:=hlen q r' h;exact zq183 this))⟩
 ·(refine xe2_6 hJ ?_;rintro o' w' mv b rd tS ⟨ob,eS⟩ hr)
  refine pyNext_of (NextIs.mono (rdx_next (r:={ r with p:=r.p+j }) (d:=d) (u:=u) (cx mv) mv.ok (frs1 (f0 mv)) b hT rd hi) (fun z s'' h=>?_) fun e s'' h=>?_)
  ·apply hide;intro _ kι;obtain ⟨o'',mv2,w'',hz,g,b',rd',st''⟩:=h;apply kι
   have kS:=mv2.keep eS (by rw [tS];exact pt_104 hi) nSf
   refine hQ z s'' ?_ ⟨o'',w'',mv.trans (mv2.up fun t h=>.inl h),b',rd',kS.2.trans tS,⟨ob,kS.1⟩,others mv mv2 g st'' hr⟩ (kS.1.trans eS.symm)
   rw [List.getElem?_drop];exact hz
  ·apply hide;intro _ kι;obtain ⟨_,o'',mv2,w'',hp,_⟩:=h;apply kι
   exfalso
   rw [List.length_drop] at hj
   have:r.p+j=(r.V C.P).length:=hp
   exact Nat.ne_of_lt (Nat.add_lt_of_lt_sub' hj) this
 ·(refine xe2_6 hJ ?_;rintro o' w' mv b rd tS ⟨ob,eS⟩ hr)
  refine pyNext_of (NextIs.mono (rdx_next (r:={ r with p:=r.p+((r.V C.P).drop r.p).length }) (d:=d) (u:=u) (cx mv) mv.ok (frs1 (f0 mv)) b hT rd hi) (fun z s'' h=>?_) fun e s'' h=>?_)
  ·apply hide;intro _ kι;obtain ⟨o'',mv2,w'',hz,_⟩:=h;apply kι
   exfalso
   have h1:=(List.getElem?_eq_some_iff.mp hz).1
   have h2:r.p+((r.V C.P).drop r.p).length < (r.V C.P).length:=h1
   rw [List.length_drop] at h2
   exact Nat.not_lt.2 (Nat.sub_le_iff_le_add'.1 (Nat.le_refl (_ - _))) h2
  ·apply hide;intro _ kι;obtain ⟨stp,o'',mv2,w'',hp,g,b',rd',st''⟩:=h;apply kι
   have kS:=mv2.keep eS (by rw [tS];exact pt_104 hi) nSf
   exact ⟨stp,hQ s'' (wi2_3 o'' w'' (mv.trans (mv2.up fun t h=>.inl h)) b' (others mv mv2 g st'' hr)) (kS.1.trans eS.symm)⟩
theorem list_rd (c:Cx G A [LE C.L fa cd] (d+52) (u+147) s.heap) (M:ME G C rs az i o w s) (F:Fr G.base C.L s.heap m) (hn:rs.length≤40) (hr:rs[i]?=some r) :
  wpAny (model PR G.w) A (call (.type "list") [.ref r.a]) (fun v s'=>∃ l n o' w',v=.ref l∧s'.heap.get? l=some (lstObj ((r.V C.P).drop r.p).toArray n)∧(l≠C.L∧G.base.get? l=none)∧ME G C rs az (i+1) o' w' s'∧Fr G.base C.L s'.heap m∧Tn C rs o s o' s') E s:=by
 have hi:i < 45:=by have:=(List.getElem?_eq_some_iff.mp hr).1;exact zq7 hn this
 have rd:=M.rx i r (Nat.le_refl _) hr
 refine xe3_2 (id F.ns) fun oL _ _ eL _=>?_
 have nL:G.base.get? C.L=none:=(frs_old c.ff C.L (.head _)).1
 have fS:s.heap.get? s.heap.objs.size=none:=Heap.get?_none_of_le (Nat.le_refl _)
 have nS:s.heap.objs.size≠C.L:=fun q=>by rw [← q,fS] at eL;exact nsf eL
 have hP0:¬ P2 i 0:=fun h=>(p2_ok h).1 rfl
 have cc:Cx G A.in1.in1 [LE C.L fa cd] (d+52) (u+145) s.heap:=Cx.in1 (u:=u+145) (Cx.in1 (u:=u+146) c)
 have D:=rd_drn (G:=G) (C:=C) (rs:=rs) (i:=i) (r:=r) (S:=s.heap.objs.size) cc M.ok M.tL ⟨oL,eL⟩ M.st.sq hi hn nS
 have hlen:∀ q r',rs[q]?=some r'→q < 45:=fun q r' h=>by have:=(List.getElem?_eq_some_iff.mp h).1;exact zq7 hn this
 have hJ:∀ s₁:Shared,s₁.gens=s.gens→s₁.drawn=s.drawn→s₁.os=s.os→s₁.toks=s.toks→(∀ b o,s.heap.get? b=some o→s₁.heap.get? b=some o)→(∃ c,s₁.heap.get? s.heap.objs.size=some (lstObj #[] c))→DJ G C rs i r fa cd o s s.heap.objs.size 0 s₁:=fun s₁ h1 h2 h3 _ hk ⟨c',eS⟩=>by
  have x:Ext [] [] [] s s₁:=⟨fun b ob e _ _=>hk b ob e,fun b ob e _ _=>⟨ob.slots,hk b ob e⟩,fun b ob e=>⟨ob,hk b ob e⟩,fun g v e _=>by rw [h1];exact e,by rw [h1];exact Nat.le_refl _,h2,h3,fun z=>by rw [h1];exact z⟩
  have ag:=Own.with_agree o s (fun b=>if b=s.heap.objs.size then 104 else 0) (fun _=>0)
  have st1:G.base.StaysIn s₁.heap:=fun b ob e=>hk b ob (c.st b ob e)
  refine ⟨_,w,Mv.of (ext_frs x) fn0 fn0 ag (Own.with_ok M.ok c.st),M.bj.mono (ext_kp x ag _),rd.keep M.st.sq hi c.st st1 (ext_kp x ag _),(Own.with_new o fS).trans (if_pos rfl),⟨_,eS⟩,fun q r' hq h=>(M.rx q r' (Nat.le_of_lt hq) h).keep M.st.sq (hlen q r' h) c.st st1 (ext_kp x ag _)⟩
 have hl:((r.V C.P).drop r.p).length≤1000:=by
  have h1:=(rdV_its M.st r rd.k6).len
  have h2:=M.li.pl r (List.mem_of_getElem? hr)
  have lwd:(r.wd C.ns).length≤6:=by
   unfold RdG.wd wdat
   rw [List.length_append,rowD_len]
   have h1:szJ C.ns r.k≤4:=by unfold szJ;split <;> first | exact szOf_le _ _ | exact zq54
   have h2:(if r.sh then lateD r.k else []).length≤2:=by unfold lateD;(repeat' split) <;> simp
   exact zq55 h1 h2
  rw [List.length_drop];exact za (Nat.le_trans (Nat.sub_le _ _) (Nat.le_trans (Nat.le_of_eq h1) lwd)) rfl
 have hQ:∀ s' c',(∃ o' w',Mv G (P2 i) (frs [LE C.L fa cd]) o s o' s'∧BJ G C.P w' o' s'∧∀ q r',i < q→rs[q]?=some r'→RdX G C.P q r' w' o' s')→s'.heap.get? s.heap.objs.size=some (lstObj ((r.V C.P).drop r.p).toArray c') →
   ∃ l n o' w',Value.ref s.heap.objs.size=.ref l∧s'.heap.get? l=some (lstObj ((r.V C.P).drop r.p).toArray n)∧(l≠C.L∧G.base.get? l=none)∧ME G C rs az (i+1) o' w' s'∧Fr G.base C.L s'.heap m∧Tn C rs o s o' s':=fun s' c' h e=>by
  refine xe2_3 h fun o' w' mv b rx=>?_
  have f0:=frs1 (fa:=fa) (cd:=cd) M.tL
  refine (xi4 _ c' o' w' (yi6 rfl e ⟨nS,none_st c.st fS⟩ ⟨mv.ok,(mv.ag.1 _ _ eL).trans M.tL,M.st.mono (mv.kp0 (M:=fun _=>False) f0 (fun t h=>⟨id,(p2_ok h).2.1⟩) id).one,M.li.mono (mv.kp0 f0 (fun t h=>⟨(p2_ok h).2.2,(p2_ok h).2.1⟩) (by decide)),b,fun q r' hq h=>rx q r' (by exact zq451 hq) h⟩ (mv.fr M.ok hP0 nL M.tL F) (mv.tn (fun h=>(p2_ok h).2.2 rfl) M.tL)))
 have gen:∀ {g:Nat}{nm qn:Value},s.heap.get? r.a=some (genObj g nm qn)→wpAny (model PR G.w) A (call (.type "list") [.ref r.a]) (fun v s'=>∃ l n o' w',v=.ref l∧s'.heap.get? l=some (lstObj ((r.V C.P).drop r.p).toArray n)∧(l≠C.L∧G.base.get? l=none)∧ME G C rs az (i+1) o' w' s'∧Fr G.base C.L s'.heap m∧Tn C rs o s o' s') E s:=fun e=>list_gen (isGen_of e) D hl hJ hQ
 rcases rd with ⟨_,rd⟩ | ⟨_,_,_,⟨_,e⟩ | ⟨j,e,_⟩⟩
 ·obtain ⟨p,hp⟩:∃ p,r.p=p:=⟨_,rfl⟩
  rw [hp] at rd
  cases rd with
  | fresh h1=>exact gen h1
  | one h1=>exact gen h1
  | two h1=>exact gen h1
  | done h1=>exact gen h1
 ·exact list_li e rfl D hl hJ hQ
 ·exact list_li e rfl D hl hJ hQ
end
noncomputable def lw12b:Stmt:=(⟨_,_,_,_,_,_,rfl⟩:{st:Stmt // ∃ a b l c d,lw12=.For a b (st :: l) c d}).1
section
variable {G:Gr}{A:Around}{d u:Nat}{s:Shared}{o:Own}{w:WJ}{C:Cs}{rs:List RdG}{az:List Int}{i fa:Nat}{r:RdG}{cd:Value}{Q:Flow→Shared→Prop}{E:Value→Shared→Prop}
theorem turn12 {x:Str→Option Value}{t:Nat}(c:Cx G A [LE C.L fa cd] (d+53) (u+149) s.heap) (F:Fr G.base C.L s.heap (fun z=>if z=Str.ofString "reader" then some (.ref r.a) else if z=Str.ofString "which" then some (.int (i:Nat) t) else LM C x z)) (M:ME G C rs az i o w s) (hn:rs.length≤40) (hr:rs[i]?=some r)
  (post:∀ s' o' w',ME G C rs az (i+1) o' w' s'→Fr G.base C.L s'.heap (fun z=>if z=Str.ofString "reader" then some (.ref r.a) else if z=Str.ofString "which" then some (.int (i:Nat) t) else LM C x z)→Tn C rs o s o' s'→Q .next s'):wpAny (model PR G.w) A (exec lw12b (LE C.L fa cd)) Q E s:=by
 have:=@on "sub"
 have:=@on "compareOp NotEq ref ref"
 have:=@on "binaryOp Add ref ref"
 have:=@on "call type:list"
 refine cx_open c ?_;clear c;intro ad ag au c
 have X:=G.X
 have T:=G.T
 apply hide;intro _ kι;obtain ⟨ok,tL,st,li,bj,rx⟩:=id M;apply kι
 have hrm:=List.mem_of_getElem? hr
 have hi40:i < 40:=by have:=(List.getElem?_eq_some_iff.mp hr).1;exact zq90 hn this
 have rd:=rx i r (Nat.le_refl _) hr
 obtain ⟨n1,g1⟩:=li.ogt
 have tA:∀ b,o.a b≠0→b≠C.L∧G.base.get? b=none:=fun b h=>⟨fun q=>h (by rw [q,tL]),ok b h⟩
 have hga:=map_at (f:=fun r:RdG=>Value.ref r.ga) hr
 have hwa:=map_at (f:=fun r:RdG=>Value.ref r.wa) hr
 (refine xe1_3 (ledger2 (g:=G.base) (L:=C.L) (h:=s.heap) (ex:=[(C.gt,lstObj (rs.map fun r=>Value.ref r.ga).toArray n1)]) (fq ⟨g1,tA _ (by rw [li.t4 _ (by simp)];decide)⟩ fn0)) ?_;rintro rest N - hr1)
 simp only [List.cons_append,List.nil_append] at N
 have Fk:True→Fr G.base C.L s.heap _:=fun _=>F
 unfold lw12b
 dsimp only
 k_steps
 refine kim_list (by k_asm) (by k_dflt k_mem) rfl rfl (by omega) (by omega) (by with_reducible assumption) ?_
 k_steps
 refine wpAny_mono (list_rd (d:=d+1) (u:=u+2) (r:=r) c (M.tok c.st hn _) F hn hr) ?_ (fun _ _ z=>z)
 rintro v s3 ⟨l,n,o3,w3,rfl,ol,hl,M3,F3,T3⟩
 clear N hr1
 have F3k:True→Fr G.base C.L s3.heap _:=fun _=>F3
 apply hide;intro _ kι;obtain ⟨ok3,tL3,st3,li3,bj3,rx3⟩:=id M3;apply kι
 have tA3:∀ b,o3.a b≠0→b≠C.L∧G.base.get? b=none:=fun b h=>⟨fun q=>h (by rw [q,tL3]),ok3 b h⟩
 obtain ⟨m1,k1⟩:=li3.owo
 refine xe2_3 (li3.whl r hrm) fun wv m2 k2 hwv twa=>?_
 refine xe2_2 (li3.got r hrm) fun gw m4 k4 hgw=>?_
 have tga:=li3.t4 r.ga (List.mem_append_right _ (List.mem_map_of_mem hrm))
 have q1:=li3.t4 C.wo (by simp)
 have hV:=rdV_its st3 r rd.k6
 have lpl:=li3.pl r hrm
 have lwd:(r.wd C.ns).length≤6:=by
  unfold RdG.wd wdat
  rw [List.length_append,rowD_len]
  have h1:szJ C.ns r.k≤4:=by unfold szJ;split <;> first | exact szOf_le _ _ | exact zq54
  have h2:(if r.sh then lateD r.k else []).length≤2:=by unfold lateD;(repeat' split) <;> simp
  exact zq55 h1 h2
 have lgw:gw.length≤6:=by rw [hgw.len,List.length_take];exact Nat.le_trans (Nat.min_le_right _ _) lwd
 have lrv:((r.V C.P).drop r.p).length≤6:=by rw [List.length_drop,hV.len];exact Nat.le_trans (Nat.sub_le _ _) lwd
 have hA:∀ q∈[(C.wo,lstObj (rs.map fun r=>Value.ref r.wa).toArray m1),(r.wa,lstObj wv.toArray m2),(r.ga,lstObj gw.toArray m4),(l,lstObj ((r.V C.P).drop r.p).toArray n)],s3.heap.get? q.1=some q.2:=fq k1 (fq k2 (fq k4 (fq ol fn0)))
 have hB:∀ q∈[(C.wo,lstObj (rs.map fun r=>Value.ref r.wa).toArray m1),(r.wa,lstObj wv.toArray m2),(r.ga,lstObj gw.toArray m4),(l,lstObj ((r.V C.P).drop r.p).toArray n)],q.1≠C.L∧G.base.get? q.1=none:=fq (tA3 _ (by rw [q1];decide)) (fq (tA3 _ (by rw [twa];decide)) (fq (tA3 _ (by rw [tga];decide)) (fq hl fn0)))
 (refine xe1_3 (ledger2 (g:=G.base) (L:=C.L) (h:=s3.heap) (ex:=[(C.wo,lstObj (rs.map fun r=>Value.ref r.wa).toArray m1),(r.wa,lstObj wv.toArray m2),(r.ga,lstObj gw.toArray m4),(l,lstObj ((r.V C.P).drop r.p).toArray n)]) (fun q hq=>⟨hA q hq,hB q hq⟩)) ?_;rintro rest N - hr3)
 simp only [List.cons_append,List.nil_append] at N
 k_steps
 refine add_ls (xs:=gw) (ys:=(r.V C.P).drop r.p) F3 N k4 ol (by exact za (Nat.add_le_add lgw lrv) rfl) fun l4 h4 F4 N4 lt4=>?_
 clear F3 N
 k_steps
 refine kim_list (by k_asm) (by k_dflt k_mem) rfl rfl (by omega) (by omega) (by with_reducible assumption) ?_
 k_steps
 have x4:∀ tk,Ext [] [C.L] [] s3 { s3 with heap:=h4,toks:=tk }:=fun tk=>ext_led (s₂:=s3) (fr:=[]) (fp:=[]) (tk:=tk) (F3k trivial) F4 N4 hr3 (fun q hq=>⟨hA q hq,.inl (by
  simp only [List.mem_cons,List.not_mem_nil,or_false] at hq ⊢
  rcases hq with h | h | h | h <;> simp [h])⟩) (fun q hq=>by k_mem)
 have M4:=fun tk=>M3.inL (s':={ s3 with heap:=h4,toks:=tk }) (F3k trivial) F4 hn (x4 tk)
 have k14:∀ b ob,s3.heap.get? b=some ob→o3.a b=1→h4.get? b=some ob∧o3.a b=o3.a b:=(extL_kp (x4 0) ⟨fun _ _ _=>rfl,fun _ _ _=>rfl⟩ (fun _=>False) fun b hb=>by rw [List.mem_singleton.mp hb,tL3];exact ⟨id,by decide⟩).one
 have hsum:ItOs G o3 s3.heap (gw++(r.V C.P).drop r.p) (r.wd C.ns):=by
  have:=hgw.app (hV.drop r.p)
  rwa [List.take_append_drop] at this
 have i1:=((hsum.mono k14).its F4.keep).list (k:=0) (News.get N4 (.head _))
 have i2:=((hwv.mono k14).its F4.keep).list (k:=m2) (News.get N4 (.tail _ (.tail _ (.head _))))
 refine it_ne_same i1 i2 (by decide) (by decide) (by have:=c.un;dsimp only at this ⊢;exact zq30 this) ?_
 k_steps
 exact post _ o3 w3 (M4 _).1 F4 (T3.tok.trans (M4 _).2)
end
section
variable {prog:Program}{w:World}{A:Around}{E:Value→Shared→Prop}{s:Shared}{env:Env}
theorem for_rule2 {target it body} {R:Result→Shared→Prop}(J:Nat→Shared→Prop) (n:Nat)
  (item:∀ i s,i < n→J i s→wpAny (model prog w) A (pyNext it) (fun r s₁=>∃ v,r=some v∧wpAny (model prog w) A (letOwnedTupleGo target it v) (fun _ s₁'=>wpAny (model prog w) A (assign target env v) (fun _ s₂=>wpAny (model prog w) A (execs body env) (fun f s₃=>match f with
   | .next=>J (i+1) s₃
   | .cont=>J (i+1) s₃
   | .brk=>R (.ok .next) s₃
   | .ret v=>R (.ok (.ret v)) s₃) (fun _ _=>False) s₂) (fun _ _=>False) s₁') (fun _ _=>False) s₁) (fun _ _=>False) s)
  (done:∀ s,J n s→wpAny (model prog w) A (pyNext it) (fun r s₁=>r=none∧R (.ok .next) s₁) (fun _ _=>False) s)
  (h:J 0 s):codeAny (model prog w) A (.forLoop target it body [] env) R s:=by
 refine codeAny_forLoop_any (fun k s=>∃ i,i≤n∧k=n - i∧J i s) (fun k s hI=>?_) n (wi1_3 0 (Nat.zero_le _) rfl h)
 (refine xe1_3 hI ?_;rintro i hi rfl hJ)
 rcases Nat.lt_or_ge i n with hlt | hge
 ·refine wpAny_mono (item i s hlt hJ) (fun r s₁ hr=>?_) fun _ _ z=>z.elim
  (refine xe1_2 hr ?_;rintro v rfl h1)
  refine wpAny_mono h1 (fun _ s₁' h1'=>wpAny_mono h1' (fun _ s₂ h2=>wpAny_mono h2 (fun f s₃ h3=>?_) fun _ _ z=>z.elim) fun _ _ z=>z.elim) fun _ _ z=>z.elim
  cases f with
  | next=>exact (wi1_2 (n - (i+1)) (by exact zq33 hlt) ⟨i+1,hlt,rfl,h3⟩)
  | cont=>exact (wi1_2 (n - (i+1)) (by exact zq33 hlt) ⟨i+1,hlt,rfl,h3⟩)
  | brk=>exact h3
  | ret v=>exact h3
 ·obtain rfl:i=n:=Nat.le_antisymm hi hge
  refine wpAny_mono (done s hJ) (fun r s₁ hr=>?_) fun _ _ z=>z.elim
  obtain ⟨rfl,h1⟩:=hr
  exact wpAny_execs_nil h1
end
theorem ME.beside {G:Gr}{C:Cs}{o:Own}{w:WJ}{rs:List RdG}{az:List Int}{i:Nat}{s s':Shared}{m m':Str→Option Value}{fp:List Nat}(M:ME G C rs az i o w s) (F:Fr G.base C.L s.heap m) (F':Fr G.base C.L s'.heap m') (hn:rs.length≤40) (x:Ext [] fp [] s s') (hf:∀ b∈fp,(o.a b=0∨o.a b=4)∧b ∉ [C.rd,C.wh,C.wo,C.gt,C.ak]++rs.map (·.ga)):ME G C rs az i o w s':=by
 have ag:Agree o o s:=⟨fun _ _ _=>rfl,fun _ _ _=>rfl⟩
 have K:∀ P:Nat→Prop,¬ P 0∧¬ P 4→Kp P o s o s':=fun P hP=>kp4 x ag (fun b hb=>(hf b hb).1) P hP
 have k1:=(K (fun _=>False) ⟨id,id⟩).one
 exact ⟨M.ok,M.tL,M.st.mono k1,M.li.but k1 fun b ob e h=>⟨x.keep b ob e (fun q=>(hf b q).2 h) fnm,M.li.t4 b h⟩,M.bj.mono (K FM2 ⟨fm2_0,fm2_4⟩),fun j r hj hr=>(M.rx j r hj hr).keep M.st.sq (by have:=(List.getElem?_eq_some_iff.mp hr).1;exact zq7 hn this) F.keep F'.keep (K _ ⟨by exact zq8,by exact zq29⟩)⟩
theorem ME.notin {G:Gr}{C:Cs}{o:Own}{w:WJ}{rs:List RdG}{az:List Int}{i:Nat}{s:Shared}{b:Nat}{ob:Obj}(M:ME G C rs az i o w s) (e:s.heap.get? b=some ob) (hc:ob.cls≠.type "list"):b ∉ [C.rd,C.wh,C.wo,C.gt,C.ak]++rs.map (·.ga):=fun h=>by
 have no:∀ {b':Nat}{V:Array Value}{n:Nat},s.heap.get? b'=some (lstObj V n)→@Ne Nat b b':=fun e'=>ne_cls e e' hc
 obtain ⟨_,e1⟩:=M.li.ord;refine xe2_2 M.li.owh fun _ _ e2 _=>?_;obtain ⟨_,e3⟩:=M.li.owo;obtain ⟨_,e4⟩:=M.li.ogt;refine xe2_2 M.li.oak fun _ _ e5 _=>?_
 rcases List.mem_append.mp h with h | h
 ·simp only [List.mem_cons,List.not_mem_nil,or_false] at h
  rcases h with h | h | h | h | h
  ·exact no e1 h
  ·exact no e2 h
  ·exact no e3 h
  ·exact no e4 h
  ·exact no e5 h
 ·refine xe1_2 (List.mem_map.mp h) fun r hr e6=>?_
  refine xe2_2 (M.li.got r hr) fun _ _ e7 _=>?_
  exact no e7 e6.symm
theorem Tn.obj {G:Gr}{C:Cs}{o o':Own}{w:WJ}{rs:List RdG}{az:List Int}{i b:Nat}{s s':Shared}{ob:Obj}(T:Tn C rs o s o' s') (M:ME G C rs az i o w s) (e:s.heap.get? b=some ob) (t:o.a b=4) (hc:ob.cls≠.type "list"):s'.heap.get? b=some ob∧o'.a b=4:=T.kit b ob e t (M.notin e hc)
theorem ME.lin {G:Gr}{C:Cs}{o:Own}{w:WJ}{rs:List RdG}{az:List Int}{i:Nat}{s:Shared}(M:ME G C rs az i o w s):C.L ∉ [C.rd,C.wh,C.wo,C.gt,C.ak]++rs.map (·.ga):=fun h=>by
 have:=M.li.t4 _ h
 rw [M.tL] at this;(replace this:=Eq.symm this;cases this)
section
variable {G:Gr}{A:Around}{d u:Nat}{s:Shared}{o:Own}{w:WJ}{C:Cs}{rs:List RdG}{az:List Int}{fa:Nat}{cd:Value}{Q:Flow→Shared→Prop}{E:Value→Shared→Prop}
theorem loop12_ {x:Str→Option Value}(c:Cx G A [LE C.L fa cd] (d+53) (u+149) s.heap) (F:Fr G.base C.L s.heap (LM C x)) (M:MI G C o w rs az s) (hn:rs.length≤40)
  (post:∀ s' o' w' x',ME G C rs az rs.length o' w' s'→Fr G.base C.L s'.heap (LM C x')→s'.drawn=s.drawn→s'.os=s.os→(AllBare s.gens→AllBare s'.gens)→Q .next s'):wpAny (model PR G.w) A (exec lw12 (LE C.L fa cd)) Q E s:=by
 have:=@on "call type:enumerate"
 refine cx_open c ?_;clear c;intro ad ag au c
 have X:=G.X
 have T:=G.T
 obtain ⟨n1,g1⟩:=M.li.ord
 (refine xe1_3 (ledger2 (g:=G.base) (L:=C.L) (h:=s.heap) (ex:=[]) fn0) ?_;rintro rest N - hr)
 simp only [List.nil_append] at N
 refine xe3_3 (id F.ns) fun oL es ep eL hdL _=>?_
 have Fk:True→Fr G.base C.L s.heap _:=fun _=>F
 unfold lw12
 dsimp only
 refine for_hold (fun _=>rfl) ?_
 k_steps
 refine call_enum g1 fun h1 he hi hz kk=>?_
 have f0:s.heap.get? s.heap.objs.size=none:=Heap.get?_none_of_le (Nat.le_refl _)
 have f1:s.heap.get? (s.heap.objs.size+1)=none:=Heap.get?_none_of_le (Nat.le_succ _)
 have ag1:=Own.with_agree o s (fun b=>if b=s.heap.objs.size∨b=s.heap.objs.size+1 then 4 else 0) (fun _=>0)
 have ok1:OwnOk G (o.with s (fun b=>if b=s.heap.objs.size∨b=s.heap.objs.size+1 then 4 else 0) (fun _=>0)):=Own.with_ok M.ok c.st
 have t0:(o.with s (fun b=>if b=s.heap.objs.size∨b=s.heap.objs.size+1 then 4 else 0) (fun _=>0)).a s.heap.objs.size=4:=(Own.with_new o f0).trans (if_pos (.inl rfl))
 have t1:(o.with s (fun b=>if b=s.heap.objs.size∨b=s.heap.objs.size+1 then 4 else 0) (fun _=>0)).a (s.heap.objs.size+1)=4:=(Own.with_new o f1).trans (if_pos (.inr rfl))
 generalize o.with s (fun b=>if b=s.heap.objs.size∨b=s.heap.objs.size+1 then 4 else 0) (fun _=>0)=o1 at ag1 ok1 t0 t1
 have x1:∀ tk,Ext [] [] [] s { s with heap:=h1,toks:=tk }:=fun tk=>Ext.more kk
 have F1:=Fr.ext (Fk trivial) (x1 0) fnm fn0 fn0
 have M1:∀ tk,ME G C rs az 0 o1 w { s with heap:=h1,toks:=tk }:=fun tk=>M.m0.me.keep ok1 ((ag1.1 _ _ eL).trans M.tL) c.st F1.keep hn fun P _=>ext_kp (x1 tk) ag1 P
 obtain ⟨e,hee⟩:∃ e,s.heap.objs.size+1=e:=⟨_,rfl⟩
 obtain ⟨it,hit⟩:∃ it,s.heap.objs.size=it:=⟨_,rfl⟩
 have hne:@Ne Nat e it:=by rw [← hee,← hit];exact Nat.succ_ne_self _
 rw [hee] at he t1 ⊢
 rw [hit] at he hi t0
 have te:∀ tk,Shared.TypeIs { s with heap:=h1,toks:=tk } (.ref e) "enumerate":=fun tk=>⟨_,he,rfl⟩
 show wpAny _ _ (pyIter (.ref e)) _ _ _
 refine wpAny_pyIter_slot (te _) PySem.F.slot_enumerate_iter (wpAny_call_entry PySem.F.slot_enumerate_iter (te _) PySem.F.entry_enumerate_iter ?_ (PySem.F.args_enumerate_iter_1 _))
 show wpAny _ _ (ret (.ref e)) _ _ _
 refine wpAny_pure (wi1_2 _ rfl ⟨"enumerate",_,te _,PySem.F.slot_enumerate_next.lookup,?_⟩)
 refine for_rule2 (J:=fun i s'=>∃ o' w' x' old oi,ME G C rs az i o' w' s'∧Fr G.base C.L s'.heap (LM C x')∧IsEnum s'.heap e it ((i:Nat):Int) old∧s'.heap.get? it=some oi∧oi.cls=.type "list_iterator"∧oi.data=.fields #[.ref C.rd,.int (i:Nat) 0]∧o'.a e=4∧o'.a it=4∧s'.drawn=s.drawn∧s'.os=s.os∧(AllBare s.gens→AllBare s'.gens)) rs.length ?item ?done
  (xi5 o1 w x .none _ (yi11 (M1 _) F1 he hi rfl rfl t1 t0 rfl rfl id))
 case item =>
  (intro i s1 hi1 q3;apply hide;intro _ kι;obtain ⟨o',w',x',old,oi,M',F',ie,ei,hc,hd,te',ti',hdr,hos,hba⟩:=q3;apply kι)
  obtain ⟨r,hr'⟩:∃ r,rs[i]?=some r:=⟨_,List.getElem?_eq_getElem hi1⟩
  apply hide;intro _ kι;obtain ⟨n2,g2⟩:=M'.li.ord;apply kι
  refine wpAny_pyNext_enum_item (items:=(rs.map fun r=>Value.ref r.a).toArray) (x:=.ref r.a) ie ⟨oi,ei,hc,hd⟩ ⟨_,g2,rfl,_,rfl⟩ (by simp [hr']) hne fun h2 io li2 hT hz2 k2=>(wi1_2 _ rfl ?_)
  refine wpAny_letOwnedTupleGo_enum io fun h3 ie3 hs3=>?_
  have hs3:Heap.SameBut e h2 h3:=hs3
  have lte:e < s1.heap.objs.size:=Heap.lt_size ie
  have nTe:s1.heap.objs.size≠e:=Nat.ne_of_gt lte
  have hT3:h3.get? s1.heap.objs.size=some _:=(hs3.2 _ nTe).trans hT
  refine wpAny_assign_Tuple rfl ⟨_,hT3,rfl,_,rfl⟩ rfl rfl fun h4 hx4=>?_
  have k34:∀ b ob,h3.get? b=some ob→h4.get? b=some ob:=fun b ob q=>hx4 b ob (Nat.ne_of_lt (Heap.lt_size q)) q
  have k14:∀ b ob,s1.heap.get? b=some ob→b≠e→b≠it→h4.get? b=some ob:=fun b ob q q1 q2=>k34 b ob ((hs3.2 b q1).trans (k2 b ob q1 q2 q))
  have neL:C.L≠e:=fun q=>by rw [← q,M'.tL] at te';(replace te':=Eq.symm te';cases te')
  have niL:C.L≠it:=fun q=>by rw [← q,M'.tL] at ti';(replace ti':=Eq.symm ti';cases ti')
  have hn4:h4.Ns C.L (LM C x'):=F'.ns.at' fun ob q=>k14 _ ob q neL niL
  show wpAny _ _ (do holding [.ref r.a] (assign (.Name _ _) _ (.int (i:Nat) _));do holding [] (assign (.Name _ _) _ (.ref r.a));pure ()) _ _ _
  refine wpAny_bind (wpAny_holding (wpAny_assign_Name (wpAny_storeName_local rfl hn4 (fun h5 hn5 hs5=>?_) rfl)))
  have hs5:Heap.SameBut C.L h4 h5:=hs5
  refine wpAny_bind (wpAny_holding (wpAny_assign_Name (wpAny_storeName_local rfl hn5 (fun h6 hn6 hs6=>wpAny_pure ?_) rfl)))
  have hs6:Heap.SameBut C.L h5 h6:=hs6
  have hn6:h6.Ns C.L (fun z=>if z=Str.ofString "reader" then some (.ref r.a) else if z=Str.ofString "which" then some (.int ((i:Nat):Int) s1.toks) else LM C x' z):=hn6
  refine xe3_2 (id hn6) fun oL6 _ _ eL6 _=>?_
  refine xe1_3 (id li2) fun oi2 ei2 hc2 hd2=>?_
  have ee6:h6.get? e=some (enObj .none false it (i+1) (.ref r.a)):=by
   have:=(hs6.2 _ neL.symm).trans ((hs5.2 _ neL.symm).trans (k34 _ _ ie3))
   rw [this];simp [rawInt]
  have ei6:h6.get? it=some oi2:=(hs6.2 _ niL.symm).trans ((hs5.2 _ niL.symm).trans (k34 _ _ ((hs3.2 _ hne.symm).trans ei2)))
  have k16:∀ b ob,s1.heap.get? b=some ob→b≠e→b≠it→b≠C.L→h6.get? b=some ob:=fun b ob q q1 q2 q3=>(hs6.2 b q3).trans ((hs5.2 b q3).trans (k14 b ob q q1 q2))
  have X6:∀ tk,Ext [] [C.L,e,it] [] s1 { s1 with heap:=h6,toks:=tk }:=fun tk=>⟨fun b ob q hb _=>k16 b ob q (fun z=>hb (by simp [z])) (fun z=>hb (by simp [z])) (fun z=>hb (by simp [z])),fun b ob q hb _=>⟨ob.slots,k16 b ob q (fun z=>hb (by simp [z])) (fun z=>hb (by simp [z])) (fun z=>hb (by simp [z]))⟩,fun b ob q=>by
   by_cases q1:b=e
   ·exact ⟨_,q1▸ee6⟩
   ·by_cases q2:b=it
    ·exact ⟨_,q2▸ei6⟩
    ·by_cases q3:b=C.L
     ·exact ⟨_,q3▸eL6⟩
     ·exact ⟨ob,k16 b ob q q1 q2 q3⟩,fun g v q _=>q,Nat.le_refl _,rfl,rfl,id⟩
  have be:G.base.get? e=none:=M'.ok e (by rw [te'];decide)
  have bi:G.base.get? it=none:=M'.ok it (by rw [ti'];decide)
  have F6:Fr G.base C.L h6 _:=⟨hn6,fun b ob q=>k16 b ob (F'.keep b ob q) (fun z=>by rw [z,be] at q;exact nsf q) (fun z=>by rw [z,bi] at q;exact nsf q) (fun z=>by
   have h1:=Heap.lt_size q;have h2:=F'.above;rw [z] at h1;exact Nat.lt_irrefl _ (Nat.lt_of_lt_of_le h1 h2)),F'.above⟩
  have M6:∀ tk,ME G C rs az i o' w' { s1 with heap:=h6,toks:=tk }:=fun tk=>M'.beside F' F6 hn (X6 tk) (fun b hb=>by
   simp only [List.mem_cons,List.not_mem_nil,or_false] at hb
   rcases hb with z | z | z
   ·rw [z];exact ⟨.inl M'.tL,M'.lin⟩
   ·rw [z];exact ⟨.inr te',M'.notin ie (by simp)⟩
   ·rw [z];exact ⟨.inr ti',M'.notin ei (by rw [hc];simp)⟩)
  refine wpAny_execs_cons (turn12 (i:=i) (r:=r) (t:=s1.toks) (d:=d) (u:=u) (c.at1 F6) F6 (M6 _) hn hr' fun s7 o7 w7 M7 F7 T7=>wpAny_execs_nil ?_)
  have r1:=T7.obj (M6 _) ee6 te' (by simp)
  have r2:=T7.obj (M6 _) ei6 ti' (by rw [hc2];simp)
  have l1:=lm_set (C:=C) (x:=x') (n:=Str.ofString "which") (v:=some (.int ((i:Nat):Int) s1.toks)) (by decide)
  have l2:=lm_set (C:=C) (x:=fun z=>if z=Str.ofString "which" then some (.int ((i:Nat):Int) s1.toks) else x' z) (n:=Str.ofString "reader") (v:=some (.ref r.a)) (by decide)
  rw [← l1] at l2
  rw [l2] at F7
  exact (xi5 o7 w7 _ _ oi2 (yi11 M7 F7 r1.1 r2.1 hc2 hd2 r1.2 r2.2 (T7.drawn.trans hdr) (T7.os.trans hos) (fun z=>T7.bare (hba z))))
 case done =>
  (intro s1 q1;apply hide;intro _ kι;obtain ⟨o',w',x',old,oi,M',F',ie,ei,hc,hd,te',ti',hdr,hos,hba⟩:=q1;apply kι)
  obtain ⟨n2,g2⟩:=M'.li.ord
  have niL:C.L≠it:=fun q=>by rw [← q,M'.tL] at ti';(replace ti':=Eq.symm ti';cases ti')
  refine wpAny_pyNext_enum_end (items:=(rs.map fun r=>Value.ref r.a).toArray) rfl ie ⟨oi,ei,hc,hd⟩ ⟨_,g2,rfl,_,rfl⟩ (by simp) fun h' hx=>⟨rfl,?_⟩
  have bi:G.base.get? it=none:=M'.ok it (by rw [ti'];decide)
  have k:∀ b ob,s1.heap.get? b=some ob→b≠it→h'.get? b=some ob:=fun b ob q q1=>hx b ob q1 q
  have F6:Fr G.base C.L h' (LM C x'):=⟨F'.ns.at' fun ob q=>k _ ob q niL,fun b ob q=>k b ob (F'.keep b ob q) (fun z=>by rw [z,bi] at q;exact nsf q),F'.above⟩
  have ag':Agree o' o' s1:=⟨fun _ _ _=>rfl,fun _ _ _=>rfl⟩
  have K:∀ P:Nat→Prop,¬ P 4→Kp P o' s1 o' { s1 with heap:=h' }:=fun P hP=>⟨fun b ob q t=>⟨k b ob q (fun z=>by rw [z,ti'] at t;exact t.elim hP (by decide)),rfl⟩,fun g v q _=>⟨q,rfl⟩⟩
  have k1:=(K (fun _=>False) id).one
  have nit:=M'.notin ei (by rw [hc];simp)
  have M6:ME G C rs az rs.length o' w' { s1 with heap:=h' }:=⟨M'.ok,M'.tL,M'.st.mono k1,M'.li.but k1 fun b ob q h=>⟨k b ob q (fun z=>nit (z▸h)),M'.li.t4 b h⟩,M'.bj.mono (K FM2 fm2_4),fun j r hj hr=>by have:=(List.getElem?_eq_some_iff.mp hr).1;omega⟩
  exact post _ o' w' x' M6 F6 hdr hos hba
end
noncomputable def P13 (k t:Nat):Prop:=PJ 98 t∨t=110+k
theorem pj98 {t:Nat}(h:PJ 98 t):t=98∨t=2∨t=100∨150≤t∨t=103∨t=3∨t=101∨t=102:=h.imp_right fm2_iff.mp
theorem p13_ok {k t:Nat}(hk:k < 5) (h:P13 k t):t≠0∧t≠1∧t≠4∧∀ j,j < 5→j≠k→t≠110+j:=by
 rcases h with h | h
 ·have:=pj98 h;refine (yi4 (by exact tc (ta this).1 rfl) (by exact tc (ta this).1 rfl) (by exact tc (ta this).1 rfl) (fun j _ _=>by exact zq458 this (by assumption)))
 ·refine (yi4 (by exact zc (zl h) rfl) (by exact zc (zl h) rfl) (by exact zq461 h) (fun j _ _=>by exact zq462 h (by assumption)))
noncomputable def vC (k:Nat):Nat:=if k < 2 then 165 else 207
theorem bj_inst {G:Gr}{P:Lw}{w:WJ}{o:Own}{s:Shared}(b:BJ G P w o s) {k:Nat}(hk:k < 5):∃ od,s.heap.get? (P.va k)=some (instObj (vC k) (P.dv k))∧s.heap.get? (P.dv k)=some od:=by
 have fac:∀ {k:Nat}{w0:Option VS},FacK G P k w0 o s→∃ od,s.heap.get? (P.va k)=some (instObj 165 (P.dv k))∧s.heap.get? (P.dv k)=some od:=fun {k w0} h=>by
  cases w0 with
  | none=>apply hide;intro _ kι;obtain ⟨⟨e,_,_,_,_,e2⟩,_⟩:=h.shut rfl;apply kι;exact (wi1_2 _ e e2)
  | some q=>apply hide;intro _ kι;obtain ⟨⟨e,_,_,_,_,e2⟩,_⟩:=h.opn q rfl;apply kι;exact (wi1_2 _ e e2)
 obtain rfl | rfl | h2:k=0∨k=1∨2≤k:=by exact zq86
 ·exact fac b.f0
 ·exact fac b.f1
 ·apply hide;intro _ kι;obtain ⟨e,_,_,e2⟩:=(b.sq k h2 hk).sv;apply kι
  unfold vC
  rw [if_neg (by exact Nat.not_lt.mpr h2)]
  exact (wi1_2 _ e e2)
section
variable {G:Gr}{A:Around}{d u:Nat}{s:Shared}{o:Own}{w:WJ}{C:Cs}{fa k:Nat}{cd:Value}{Q E:Value→Shared→Prop}
theorem list_view (c:Cx G A [LE C.L fa cd] (d+52) (u+147) s.heap) (ok:OwnOk G o) (tL:o.a C.L=0) (eL:∃ ob,s.heap.get? C.L=some ob) (hT:∀ k,2≤k→k < 5→SeqT (C.P.T k)) (b:BJ G C.P w o s) (hk:k < 5) (hz:(C.P.WV k).length≤1000)
  (post:∀ s' c' o' w',Mv G (P13 k) (frs [LE C.L fa cd]) o s o' s'→GJ C.P k w w' (C.P.WV k).length→BJ G C.P w' o' s'→o'.a s.heap.objs.size=110+k→s'.heap.get? s.heap.objs.size=some (lstObj (C.P.WV k).toArray c')→Q (.ref s.heap.objs.size) s') :
  wpAny (model PR G.w) A (call (.type "list") [.ref (C.P.va k)]) Q E s:=by
 have sp:=jspec (G:=G) (P:=C.P) (σ:=98) (by exact zq464) hT hk
 refine xe1_2 (bj_inst b hk) fun od eI eD=>?_
 obtain ⟨oL,eL⟩:=eL
 obtain ⟨S,hS⟩:∃ S,s.heap.objs.size=S:=⟨_,rfl⟩
 have fS:s.heap.get? S=none:=Heap.get?_none_of_le (by rw [hS];exact Nat.le_refl _)
 have nS:S≠C.L:=fun q=>by rw [← q,fS] at eL;exact nsf eL
 have frL:∀ b,b∈frs [LE C.L fa cd]→b=C.L:=fun b h=>List.mem_singleton.mp (show b∈[C.L] from h)
 have nSf:S ∉ frs [LE C.L fa cd]:=fun h=>nS (frL _ h)
 have hP0:¬ P13 k 0:=fun h=>(p13_ok hk h).1 rfl
 have nPS:¬ PJ 98 (110+k):=fun h=>by have:=pj98 h;exact zq465 hk this
 have cc:Cx G A.in1.in1 [LE C.L fa cd] (d+52) (u+145) s.heap:=Cx.in1 (u:=u+145) (Cx.in1 (u:=u+146) c)
 have cx:∀ {o':Own}{s':Shared},Mv G (P13 k) (frs [LE C.L fa cd]) o s o' s'→Cx G A.in1.in1 [LE C.L fa cd] (d+2+50) (u+5+140) s'.heap:=fun mv=>mv.cx cc ok hP0
 have fo:∀ {o':Own}{s':Shared},Mv G (P13 k) (frs [LE C.L fa cd]) o s o' s'→FO o' (frs [LE C.L fa cd]):=fun mv b hb=>.inl (frs1 ((mv.ag.1 _ _ eL).trans tL) b hb)
 have D:∀ y,Drn PR G.w A.in1.in1 S (.ref y) (C.P.WV k) (fun j s'=>∃ o' w' obs,Mv G (P13 k) (frs [LE C.L fa cd]) o s o' s'∧GJ C.P k w w' j∧BJ G C.P w' o' s'∧IJ C.P k 98 j w' o' s' y obs∧(∀ b∈obs,b ∉ frs [LE C.L fa cd])∧o'.a S=110+k∧(∃ ob,s'.heap.get? S=some ob))
   (fun s'=>∃ o' w',Mv G (P13 k) (frs [LE C.L fa cd]) o s o' s'∧GJ C.P k w w' (C.P.WV k).length∧BJ G C.P w' o' s'∧o'.a S=110+k):=fun y=>by
  refine ⟨fun j s' h' hJ hs ex=>?_,fun j s' Q E hj hJ hQ=>?_,fun s' Q E hJ hQ=>?_⟩
  ·apply hide;intro _ kι;obtain ⟨o',w',obs,mv,g,b',i,nf,tS,ob,eS⟩:=hJ;apply kι
   have hs:Heap.SameBut S s'.heap h':=hs
   have mv2:Mv G (P13 k) (frs [LE C.L fa cd]) o' s' o' { s' with heap:=h',toks:=s'.toks }:=Mv.one mv.ok hs ex (.inr tS) nSf
   have K:Kp FM2 o' s' o' { s' with heap:=h',toks:=s'.toks }:=⟨fun b ob e t=>⟨(hs.2 b (fun q=>by rw [q,tS] at t;exact t.elim (fun h=>nPS (.inr h)) (by exact zq466))).trans e,rfl⟩,fun g x e _=>⟨e,rfl⟩⟩
   exact (wi3_7 o' w' obs (mv.trans mv2) g (b'.mono K) (sp.ikeep i (fun b hb ob e=>⟨(hs.2 b (fun q=>by have:=sp.itag i b hb;rw [q,tS] at this;exact zc (Nat.le_add_right 110 _) rfl this)).trans e,rfl⟩)) nf tS ex)
  ·apply hide;intro _ kι;obtain ⟨o',w',obs,mv,g,b',i,nf,tS,ob,eS⟩:=hJ;apply kι
   refine pyNext_of (sp.next (cx mv) mv.ok (fo mv) b' i nf (fun z s'' o'' w'' hz mv2 g2 b2 i2=>?_) (fun hp e s'' o'' w'' mv2 g2 b2 st=>?_))
   ·have kS:=mv2.keep eS (by rw [tS];exact nPS) nSf
    have g3:=sp.gtrans g g2
    rw [Nat.max_eq_right (Nat.le_succ j)] at g3
    exact hQ z s'' hz (wi3_7 o'' w'' obs (mv.trans (mv2.up fun t h=>.inl h)) g3 b2 i2 nf (kS.2.trans tS) ⟨ob,kS.1⟩) (kS.1.trans eS.symm)
   ·exfalso;exact Nat.ne_of_lt hj hp
  ·apply hide;intro _ kι;obtain ⟨o',w',obs,mv,g,b',i,nf,tS,ob,eS⟩:=hJ;apply kι
   refine pyNext_of (sp.next (cx mv) mv.ok (fo mv) b' i nf (fun z s'' o'' w'' hz mv2 g2 b2 i2=>?_) (fun hp e s'' o'' w'' mv2 g2 b2 st=>?_))
   ·exfalso
    have h1:=(List.getElem?_eq_some_iff.mp hz).1
    exact zq85 h1
   ·have kS:=mv2.keep eS (by rw [tS];exact nPS) nSf
    have g3:=sp.gtrans g g2
    rw [Nat.max_self] at g3
    exact ⟨st,hQ s'' (wi2_4 o'' w'' (mv.trans (mv2.up fun t h=>.inl h)) g3 b2 (kS.2.trans tS)) (kS.1.trans eS.symm)⟩
 subst hS
 refine list_inst (K:=hd.heap_1 G.w.params) (J:=fun y j s'=>∃ o' w' obs,Mv G (P13 k) (frs [LE C.L fa cd]) o s o' s'∧GJ C.P k w w' j∧BJ G C.P w' o' s'∧IJ C.P k 98 j w' o' s' y obs∧(∀ b∈obs,b ∉ frs [LE C.L fa cd])∧o'.a s.heap.objs.size=110+k∧(∃ ob,s'.heap.get? s.heap.objs.size=some ob)) (Jend:=fun s'=>∃ o' w',Mv G (P13 k) (frs [LE C.L fa cd]) o s o' s'∧GJ C.P k w w' (C.P.WV k).length∧BJ G C.P w' o' s'∧o'.a s.heap.objs.size=110+k) eI eD (G.X.keeps c.st) ?l1 ?l2 hz ?it ?q
 case l1=>unfold vC;split <;> k_is
 case l2=>unfold vC;split <;> k_is
 case q =>
  (intro s' c' q2 e;apply hide;intro _ kι;obtain ⟨o',w',mv,g,b',t⟩:=q2;apply kι)
  exact post s' c' o' w' mv g b' t e
 case it =>
  intro s₁ Q' h1 h2 h3 _ hk' ⟨c',eS⟩ hc
  have x:Ext [] [] [] s s₁:=⟨fun b ob e _ _=>hk' b ob e,fun b ob e _ _=>⟨ob.slots,hk' b ob e⟩,fun b ob e=>⟨ob,hk' b ob e⟩,fun g v e _=>by rw [h1];exact e,by rw [h1];exact Nat.le_refl _,h2,h3,fun z=>by rw [h1];exact z⟩
  have ag:=Own.with_agree o s (fun b=>if b=s.heap.objs.size then 110+k else 0) (fun _=>0)
  have ok1:OwnOk G (o.with s (fun b=>if b=s.heap.objs.size then 110+k else 0) (fun _=>0)):=Own.with_ok ok c.st
  have tS:(o.with s (fun b=>if b=s.heap.objs.size then 110+k else 0) (fun _=>0)).a s.heap.objs.size=110+k:=(Own.with_new o fS).trans (if_pos rfl)
  generalize o.with s (fun b=>if b=s.heap.objs.size then 110+k else 0) (fun _=>0)=o1 at ag ok1 tS
  have mv1:Mv G (P13 k) (frs [LE C.L fa cd]) o s o1 s₁:=Mv.of (ext_frs x) fn0 fn0 ag ok1
  have eL1:=hk' _ _ eL
  refine sp.iter (cx mv1) ok1 (fo mv1) (b.mono (ext_kp x ag _)) fun s' o' w' y obs mv g b' i fr=>?_
  have kS:=mv.keep eS (by rw [tS];exact nPS) nSf
  have mv2:=mv1.trans (mv.up fun t h=>(.inl h:P13 k t))
  refine xe1_2 (bj_inst b' hk) fun od' eI' eD'=>?_
  refine hc y s' (D y) (wi3_7 o' w' obs mv2 g b' i (fun b hb q=>?_) (kS.2.trans tS) ⟨_,kS.1⟩) (kS.1.trans eS.symm) (G.X.keeps (cx mv2).st) eI' ⟨od',eD'⟩
  have:=fr b hb
  rw [frL b q,eL1] at this;exact nsf this.symm
end
noncomputable def listP:{p:PySem.Expr × Scope // ∃ a b c d e f g h,lw13=.If (.Compare (.ListComp p.1 a p.2 b) c d e) f g h}:=⟨(_,_),_,_,_,_,_,_,_,_,rfl⟩
noncomputable def listX:PySem.Expr:=listP.1.1
noncomputable def listSc:Scope:=listP.1.2
theorem lelt_ {G:Gr}{A:Around}{outer:List Env}{d u:Nat}{s:Shared}{L fa N v:Nat}{cd:Value}{m mc:Str→Option Value}{Q E:Value→Shared→Prop}
  (c:Cx G A (LE L fa cd :: outer) d u s.heap) (F:Fr G.base L s.heap m) (hC:s.heap.Ns N mc) (hmc:mc (Str.ofString "view")=some (.ref v)) (ob:G.base.get? N=none) (nL:N≠L)
  (h:wpAny (model PR G.w) A (call (.type "list") [.ref v]) Q E s) :
  wpAny (model PR G.w) A (eval listX (compEnvC listSc [] N (LE L fa cd))) Q E s:=by
 have:=@on "call type:list"
 apply hide;intro _ kι;obtain ⟨ah,ad,af,ag,au⟩:=A;apply kι
 obtain rfl:ah=none:=c.hd
 obtain rfl:af=some (LE L fa cd :: outer):=c.fr
 have X:=G.X
 have T:=G.T
 refine xe1_2 (LCg.ns_obj hC) fun oC hoC hdC=>?_
 refine xe1_3 (ledger2 (g:=G.base) (L:=L) (h:=s.heap) (ex:=[(N,oC)]) (fq (yi3 hoC nL ob) fn0)) fun rest N _ hr=>?_
 simp only [List.cons_append,List.nil_append] at N
 unfold listX listSc listP
 dsimp only
 k_steps
 exact h
structure LC (G:Gr) (C:Cs) (x:Str→Option Value) (s:Shared) (i:Nat) (o':Own) (w':WJ) (ys:List Value) (s':Shared):Prop where
 ok:OwnOk G o'
 tL:o'.a C.L=0
 st:St1 G C o' s'
 bj:BJ G C.P w' o' s'
 F:Fr G.base C.L s'.heap (LM C x)
 len:ys.length=i
 ys:∀ (j:Nat) (v:Value),ys[j]?=some v→∃ l n,v=.ref l∧s'.heap.get? l=some (lstObj (C.P.WV j).toArray n)∧o'.a l=110+j
 w1:0 < i→∃ q,w'.1=some q∧q.m=(C.P.WV 0).length
 w2:1 < i→∃ q,w'.2=some q∧q.m=(C.P.WV 1).length
 drawn:s'.drawn=s.drawn
 os:s'.os=s.os
 bare:AllBare s.gens→AllBare s'.gens
theorem LC.keep {G:Gr}{C:Cs}{x:Str→Option Value}{s s':Shared}{i:Nat}{o':Own}{w':WJ}{ys:List Value}{h':Heap}{tk:Nat}(M:LC G C x s i o' w' ys s') (hk:∀ b ob,s'.heap.get? b=some ob→o'.a b≠4→h'.get? b=some ob):LC G C x s i o' w' ys { s' with heap:=h',toks:=tk }:=by
 have K:∀ P:Nat→Prop,¬ P 4→Kp P o' s' o' { s' with heap:=h',toks:=tk }:=fun P hP=>⟨fun b ob e t=>⟨hk b ob e (fun q=>by rw [q] at t;exact t.elim hP (by decide)),rfl⟩,fun g x e _=>⟨e,rfl⟩⟩
 refine ⟨M.ok,M.tL,M.st.mono (K (fun _=>False) id).one,M.bj.mono (K _ fm2_4),⟨M.F.ns.at' fun ob e=>hk _ _ e (by rw [M.tL];decide),fun b ob e=>hk _ _ (M.F.keep b ob e) (fun q=>by have:=M.ok b (by rw [q];decide);rw [this] at e;cases e),M.F.above⟩,M.len,fun j v hj=>?_,M.w1,M.w2,M.drawn,M.os,M.bare⟩
 refine xe2_3 (M.ys j v hj) fun l n e e1 t=>?_
 exact (wi2_3 l n e (hk _ _ e1 (by rw [t];exact zq469)) t)
theorem LC.next {G:Gr}{C:Cs}{x:Str→Option Value}{s s' s'':Shared}{i S n fa:Nat}{cd:Value}{o' o'':Own}{w' w'':WJ}{ys:List Value}(M:LC G C x s i o' w' ys s') (hi:i < 5) (nL:G.base.get? C.L=none) (mv:Mv G (P13 i) (frs [LE C.L fa cd]) o' s' o'' s'') (g:GJ C.P i w' w'' (C.P.WV i).length) (b:BJ G C.P w'' o'' s'') (tS:o''.a S=110+i) (eS:s''.heap.get? S=some (lstObj (C.P.WV i).toArray n)):LC G C x s (i+1) o'' w'' (ys++[.ref S]) s'':=by
 have hP0:¬ P13 i 0:=fun h=>(p13_ok hi h).1 rfl
 have f0:=frs1 (fa:=fa) (cd:=cd) M.tL
 refine xe3_2 (id M.F.ns) fun oL _ _ eL _=>?_
 refine ⟨mv.ok,(mv.ag.1 _ _ eL).trans M.tL,M.st.mono (mv.kp0 (M:=fun _=>False) f0 (fun t h=>⟨id,(p13_ok hi h).2.1⟩) id).one,b,mv.fr M.ok hP0 nL M.tL M.F,by rw [List.length_append,List.length_singleton,M.len],fun j v hj=>?_,fun _=>?_,fun h=>?_,mv.ext.drawn.trans M.drawn,mv.ext.os.trans M.os,fun z=>mv.ext.bare (M.bare z)⟩
 ·rcases Nat.lt_or_ge j ys.length with h | h
  ·rw [List.getElem?_append_left h] at hj
   refine xe2_3 (M.ys j v hj) fun l n e e1 t=>?_
   have hl:=M.len
   have k1:=mv.keep e1 (by rw [t];exact fun h=>(p13_ok hi h).2.2.2 j (by exact Nat.lt_trans (hl▸(by assumption)) hi) (by exact Nat.ne_of_lt (hl▸(by assumption))) rfl) (fun q=>by rw [f0 _ q] at t;exact zc (Nat.le_add_right 110 _) rfl t.symm)
   exact (wi2_3 l n e k1.1 (k1.2.trans t))
  ·rw [List.getElem?_append_right h] at hj
   obtain ⟨q1,q2⟩:=List.getElem?_eq_some_iff.mp hj
   rw [List.length_singleton] at q1
   have hl:=M.len
   obtain rfl:j=i:=by exact (Nat.le_antisymm (Nat.le_of_sub_eq_zero (Nat.lt_one_iff.1 q1)) h).trans hl
   simp at q2
   exact (wi2_3 S n q2.symm eS tS)
 ·unfold GJ at g
  by_cases h0:i=0
  ·subst h0
   rw [if_pos rfl] at g
   apply hide;intro _ kι;obtain ⟨⟨q,e,hq,_⟩,_⟩:=g;apply kι
   have f:Fac G 0 o'' s'' (C.P.WV 0) (C.P.va 0) (C.P.dv 0) (C.P.f 0) (C.P.mm 0) w''.1:=b.f0
   have:=(f.opn q e).2.2.2.2.2.1
   exact (wi1_2 q e (by exact zq185 hq this))
  ·refine xe1_2 (M.w1 (by exact Nat.zero_lt_of_ne_zero h0)) fun q e hq=>?_
   rw [if_neg h0] at g
   by_cases h1:i=1
   ·rw [if_pos h1] at g
    exact (wi1_2 q (g.2.trans e) hq)
   ·rw [if_neg h1] at g
    exact (wi1_2 q (by rw [g];exact e) hq)
 ·unfold GJ at g
  rw [if_neg (by exact Nat.ne_of_gt (Nat.lt_of_succ_lt_succ h))] at g
  by_cases h1:i=1
  ·subst h1
   rw [if_pos rfl] at g
   apply hide;intro _ kι;obtain ⟨⟨q,e,hq,_⟩,_⟩:=g;apply kι
   have f:Fac G 1 o'' s'' (C.P.WV 1) (C.P.va 1) (C.P.dv 1) (C.P.f 1) (C.P.mm 1) w''.2:=b.f1
   have:=(f.opn q e).2.2.2.2.2.1
   exact (wi1_2 q e (by exact zq185 hq this))
  ·refine xe1_2 (M.w2 (by exact Nat.lt_of_le_of_ne (Nat.le_of_lt_succ h) (Ne.symm h1))) fun q e hq=>?_
   rw [if_neg h1] at g
   exact (wi1_2 q (by rw [g];exact e) hq)
theorem its5 {n:Nat}{h:Heap}{ys:List Value}{f:Nat→Dat}(hl:ys.length=5) (hy:∀ (j:Nat) (v:Value),ys[j]?=some v→j < 5→It n h v (f j)):Its n h ys [f 0,f 1,f 2,f 3,f 4]:=by
 have g:∀ (m k:Nat) (zs:List Value),zs.length=m→(∀ (j:Nat) (v:Value),zs[j]?=some v→It n h v (f (k+j)))→Its n h zs ((List.range' k m).map f):=by
  intro m
  induction m with
  | zero=>intro k zs e _;rw [List.length_eq_zero_iff.mp e];exact .nil
  | succ m ih =>
   intro k zs e hz
   cases zs with
   | nil=>cases e
   | cons a r=>exact .cons (hz 0 a rfl) (ih (k+1) r (Nat.succ.inj e) fun j v hj=>by rw [Nat.add_assoc,Nat.add_comm 1 j];exact hz (j+1) v hj)
 exact g 5 0 ys hl fun j v hj=>by rw [Nat.zero_add];exact hy j v hj (hl▸(List.getElem?_eq_some_iff.mp hj).1)
section
variable {prog:Program}{w:World}{A:Around}{E:Value→Shared→Prop}{s:Shared}{env:Env}
theorem comp_list {elt iter:PySem.Expr}{x:Str}{px:Pos}{scope:Scope}{cl:List (Str × Addr)}{pos:Pos}{use:Option (Value→Sem Unit)}{Q:Value→Shared→Prop}{l n:Nat}{items:Array Value}
  (hh:A.handled=none) (ol:s.heap.get? l=some (lstObj items n)) (hn:items.size≤1000) (J:Nat→List Value→Shared→Prop)
  (start:∀ s',(∀ b o,s.heap.get? b=some o→s'.heap.get? b=some o)→s'=compS scope { s with heap:=s.heap.push (itObj "list_iterator" (.ref l) 0) }→J 0 [] s')
  (list:∀ i ys s',J i ys s'→∃ n,s'.heap.get? l=some (lstObj items n))
  (stab:∀ i ys (s':Shared) h' tk,J i ys s'→(∀ b o,s'.heap.get? b=some o→b≠s.heap.objs.size→b≠s.heap.objs.size+1→h'.get? b=some o)→J i ys { s' with heap:=h',toks:=tk })
  (turn:∀ i ys s' v,items[i]?=some v→J i ys s'→ys.length=i→(∃ o,s'.heap.get? s.heap.objs.size=some o)→(∃ o,s'.heap.get? (s.heap.objs.size+1)=some o)→wpAny (model prog w) A (storeName (compE scope cl env (s.heap.objs.size+1)) x v) (fun _ s₂=>wpAny (model prog w) A (eval elt (compE scope cl env (s.heap.objs.size+1))) (fun y s₃ =>
   s₃.heap.get? s.heap.objs.size=s'.heap.get? s.heap.objs.size∧s₃.heap.get? (s.heap.objs.size+1)=s'.heap.get? (s.heap.objs.size+1)∧J (i+1) (ys++[y]) s₃) (fun _ _=>False) s₂) (fun _ _=>False) s')
  (done:∀ ys s',J items.size ys s'→ys.length=items.size→(∃ k,s'.heap.get? (s.heap.objs.size+1)=some (lstObj ys.toArray k))→compPost (model prog w) A E use Q (.ref (s.heap.objs.size+1)) (s.heap.objs.size+1+1) (.ok .next) s') :
  wpAny (model prog w) A (pyIter (.ref l)) (fun it s₂=>wpAny (model prog w) A (pyIter it) (fun it' s'=>it'=it∧s'=compS scope s₂) (fun _ _=>False) (compS scope s₂) ∧
    codeAny (model prog w) A (.compLoop (.ListComp elt [⟨.Name x px,iter,[],0⟩] scope pos) 0 it (.ref s₂.heap.objs.size) (compE scope cl env s₂.heap.objs.size)) (compPost (model prog w) A E use Q (.ref s₂.heap.objs.size) (s₂.heap.objs.size+1)) (compS scope s₂)) E s:=by
 refine wpAny_pyIter_list ⟨_,ol,rfl,_,rfl⟩ ?_
 have sz1:(s.heap.push (itObj "list_iterator" (.ref l) 0)).objs.size=s.heap.objs.size+1:=Heap.size_push ..
 have hI:(compS scope { s with heap:=s.heap.push (itObj "list_iterator" (.ref l) 0) }).heap.get? s.heap.objs.size=some (itObj "list_iterator" (.ref l) 0):=pushCells_get (Heap.get?_push_of_some _ (Heap.get?_push_of_some _ (Heap.get?_push_size _ rfl)))
 have hD:(compS scope { s with heap:=s.heap.push (itObj "list_iterator" (.ref l) 0) }).heap.get? (s.heap.objs.size+1)=some (lstObj #[] 0):=by
  refine pushCells_get (Heap.get?_push_of_some _ ?_)
  rw [← sz1]
  exact Heap.get?_push_size _ rfl
 have hk:∀ b o,s.heap.get? b=some o→(compS scope { s with heap:=s.heap.push (itObj "list_iterator" (.ref l) 0) }).heap.get? b=some o:=fun b o e=>pushCells_get (Heap.get?_push_of_some _ (Heap.get?_push_of_some _ (Heap.get?_push_of_some _ e)))
 have nID:s.heap.objs.size≠s.heap.objs.size+1:=by exact zq120
 show wpAny _ _ _ _ _ (compS scope { s with heap:=s.heap.push (itObj "list_iterator" (.ref l) 0) })∧codeAny _ _ (.compLoop _ 0 (.ref s.heap.objs.size) (.ref (s.heap.push (itObj "list_iterator" (.ref l) 0)).objs.size) (compE scope cl env (s.heap.push (itObj "list_iterator" (.ref l) 0)).objs.size)) _ (compS scope { s with heap:=s.heap.push (itObj "list_iterator" (.ref l) 0) })
 constructor
 ·have tI:Shared.TypeIs (compS scope { s with heap:=s.heap.push (itObj "list_iterator" (.ref l) 0) }) (.ref s.heap.objs.size) "list_iterator":=⟨_,hI,rfl⟩
  refine wpAny_pyIter_slot tI slot_listiter_iter (wpAny_call_entry slot_listiter_iter tI entry_listiter_iter ?_ (args_listiter_iter _))
  show wpAny _ _ (ret (.ref s.heap.objs.size)) _ _ _
  exact wpAny_pure (wi1_2 _ rfl ⟨"list_iterator",_,tI,slot_listiter_next.lookup,⟨rfl,rfl⟩⟩)
 ·dsimp only
  rw [sz1]
  refine comp_rule (J:=fun i s'=>∃ ys k,ys.length=i∧J i ys s'∧s'.heap.get? s.heap.objs.size=some (itObj "list_iterator" (.ref l) i)∧s'.heap.get? (s.heap.objs.size+1)=some (lstObj ys.toArray k)) items.size (fun _=>rfl) ?item ?done ?start
  case start=>exact (wi2_4 [] 0 rfl (start _ hk rfl) hI hD)
  case item =>
   (intro i s' hi q3;apply hide;intro _ kι;obtain ⟨ys,k,hl,hJ,qI,qD⟩:=q3;apply kι)
   obtain ⟨n',ol'⟩:=list i ys s' hJ
   refine pyNext_of (next_item (.inl rfl) qI ol' rfl (x:=items[i]) (Array.getElem?_eq_getElem hi) fun h' hit hs=>(wi1_2 _ rfl (wpAny_assign_Name ?_)))
   have hs:Heap.SameBut s.heap.objs.size s'.heap h':=hs
   have hD':h'.get? (s.heap.objs.size+1)=some (lstObj ys.toArray k):=(hs.2 _ (Ne.symm nID)).trans qD
   refine wpAny_mono (turn i ys { s' with heap:=h' } _ (Array.getElem?_eq_getElem hi) (stab _ _ _ _ s'.toks hJ fun b o e h1 _=>(hs.2 b h1).trans e) hl ⟨_,hit⟩ ⟨_,hD'⟩) (fun _ s₂ h2=>wpAny_mono h2 (fun y s₃ h3=>?_) fun _ _ z=>z) fun _ _ z=>z
   refine xe0_3 h3 fun q1 q2 q3=>?_
   refine append_at (hsz:=by show ys.toArray.size≤sizeLine;rw [List.size_toArray,hl];simp only [sizeLine];exact za (Nat.le_of_lt (Nat.lt_of_lt_of_le hi hn)) rfl) (q2.trans hD') fun h₅ hs₅ hD₅=>?_
   refine (wi2_4 (ys++[y]) (k+1) (by rw [List.length_append,List.length_singleton,hl]) (stab _ _ _ _ s₃.toks q3 fun b o e _ h2=>(hs₅.2 b h2).trans e) ((hs₅.2 _ nID).trans (q1.trans hit)) ?_)
   rw [hD₅];simp [lstObj]
  case done =>
   (intro s' q1;apply hide;intro _ kι;obtain ⟨ys,k,hl,hJ,qI,qD⟩:=q1;apply kι)
   obtain ⟨n',ol'⟩:=list _ ys s' hJ
   refine pyNext_of (next_end (.inl rfl) hh qI ol' rfl (Array.getElem?_eq_none (Nat.le_refl _)) fun h₁ h' ex q1 q2 nx hz=>(yi3 (raw_stops (s:={ s' with heap:=h' }) (raw_of nx)) rfl ?_))
   have q2:Heap.SameBut s.heap.objs.size s'.heap h₁:=q2
   have e2:(s.heap.push { cls:=.type "list_iterator",data:=.fields #[.ref l,.int 0 0] }).objs.size=s.heap.objs.size+1:=Heap.size_push ..
   rw [e2]
   exact done ys _ (stab _ _ _ _ s'.toks hJ fun b o e h1 _=>nx.keeps b o ((q2.2 b h1).trans e)) hl ⟨k,nx.keeps _ _ ((q2.2 _ (Ne.symm nID)).trans qD)⟩
end
section
variable {G:Gr}{A:Around}{d u:Nat}{s:Shared}{o:Own}{w:WJ}{C:Cs}{rs:List RdG}{az:List Int}{fa:Nat}{cd:Value}{Q:Flow→Shared→Prop}{E:Value→Shared→Prop}
theorem views13_ {x:Str→Option Value}(c:Cx G A [LE C.L fa cd] (d+53) (u+149) s.heap) (F:Fr G.base C.L s.heap (LM C x)) (M:ME G C rs az rs.length o w s)
  (post:∀ s' o' w' ys,LC G C x s 5 o' w' ys s'→Q .next s'):wpAny (model PR G.w) A (exec lw13 (LE C.L fa cd)) Q E s:=by
 refine xe3_3 (id F.ns) fun oL es ep eL hdL _=>?_
 have nL:G.base.get? C.L=none:=(frs_old c.ff C.L (.head _)).1
 obtain ⟨nv,ov⟩:=M.st.ovw
 have fJ:∀ j,s.heap.objs.size≤j→s.heap.get? j=none:=fun j hj=>Heap.get?_none_of_le hj
 have f0:=fJ s.heap.objs.size (Nat.le_refl _)
 have f1:=fJ (s.heap.objs.size+1) (by exact zq16)
 have f2:=fJ (s.heap.objs.size+1+1) (by exact zq34)
 have nb:∀ j,s.heap.get? j=none→G.base.get? j=none:=fun j hj=>none_st c.st hj
 have n20:@Ne Nat (s.heap.objs.size+1+1) s.heap.objs.size:=by exact zq37
 have n21:@Ne Nat (s.heap.objs.size+1+1) (s.heap.objs.size+1):=by exact zq35
 have nLj:∀ j,s.heap.get? j=none→j≠C.L:=fun j hj q=>by rw [q,eL] at hj;exact nsf hj.symm
 unfold lw13
 dsimp only
 refine wpAny_If (wpAny_isTrue_Compare1 ?_)
 rw [eval_ListComp]
 refine comp_open (fun _=>rfl) (cl:=[]) rfl rfl (by decide) ?_
 dsimp only [firstIter]
 refine wpAny_Name (wpAny_loadName_local rfl rfl F.ns rfl ?_)
 refine comp_list (items:=(vaL C.P).toArray) c.hd ov (by simp) (J:=fun i ys s'=>∃ o' w',LC G C x s i o' w' ys s'∧(∃ mc,s'.heap.Ns (s.heap.objs.size+1+1) mc)∧o'.a s.heap.objs.size=4∧o'.a (s.heap.objs.size+1)=4∧o'.a (s.heap.objs.size+1+1)=4) ?start ?list ?stab ?turn ?done
 case start =>
  rintro s' kk rfl
  have ag:=Own.with_agree o s (fun b=>if b=s.heap.objs.size∨b=s.heap.objs.size+1∨b=s.heap.objs.size+1+1 then 4 else 0) (fun _=>0)
  have ok1:OwnOk G (o.with s (fun b=>if b=s.heap.objs.size∨b=s.heap.objs.size+1∨b=s.heap.objs.size+1+1 then 4 else 0) (fun _=>0)):=Own.with_ok M.ok c.st
  have t0:(o.with s (fun b=>if b=s.heap.objs.size∨b=s.heap.objs.size+1∨b=s.heap.objs.size+1+1 then 4 else 0) (fun _=>0)).a s.heap.objs.size=4:=(Own.with_new o f0).trans (if_pos (.inl rfl))
  have t1:(o.with s (fun b=>if b=s.heap.objs.size∨b=s.heap.objs.size+1∨b=s.heap.objs.size+1+1 then 4 else 0) (fun _=>0)).a (s.heap.objs.size+1)=4:=(Own.with_new o f1).trans (if_pos (.inr (.inl rfl)))
  have t2:(o.with s (fun b=>if b=s.heap.objs.size∨b=s.heap.objs.size+1∨b=s.heap.objs.size+1+1 then 4 else 0) (fun _=>0)).a (s.heap.objs.size+1+1)=4:=(Own.with_new o f2).trans (if_pos (.inr (.inr rfl)))
  generalize o.with s (fun b=>if b=s.heap.objs.size∨b=s.heap.objs.size+1∨b=s.heap.objs.size+1+1 then 4 else 0) (fun _=>0)=o1 at ag ok1 t0 t1 t2
  have x1:∀ h':Heap,(∀ b ob,s.heap.get? b=some ob→h'.get? b=some ob)→Ext [] [] [] s { s with heap:=h',toks:=s.toks }:=fun h' k=>Ext.more k
  have X1:=x1 _ kk
  have K:=fun P=>ext_kp X1 ag P
  have sz1:(s.heap.push (itObj "list_iterator" (.ref C.vw) 0)).objs.size=s.heap.objs.size+1:=Heap.size_push ..
  have sz2:((s.heap.push (itObj "list_iterator" (.ref C.vw) 0)).push (lstObj #[] 0)).objs.size=s.heap.objs.size+1+1:=by rw [Heap.size_push,sz1]
  refine (wi2_5 o1 w ⟨ok1,(ag.1 _ _ eL).trans M.tL,M.st.mono (K (fun _=>False)).one,M.bj.mono (K _),Fr.ext F X1 fnm fn0 fn0,rfl,fun j v h=>by simp at h,fun h=>absurd h (by decide),fun h=>absurd h (by decide),rfl,rfl,id⟩ ⟨fun _=>none,?_⟩ t0 t1 t2)
  have:(((s.heap.push (itObj "list_iterator" (.ref C.vw) 0)).push (lstObj #[] 0)).push nsObj0).Ns (s.heap.objs.size+1+1) (fun _=>none):=by
   have:=Heap.Ns.new ((s.heap.push (itObj "list_iterator" (.ref C.vw) 0)).push (lstObj #[] 0)) (.type "dict")
   rw [sz2] at this
   exact this
  exact this.keeps (pushCells_keeps _ _)
 case list =>
  (intro i ys s' q3;apply hide;intro _ kι;obtain ⟨o',w',M',-⟩:=q3;apply kι)
  exact M'.st.ovw
 case stab =>
  (intro i ys s' h' tk q5 kk;apply hide;intro _ kι;obtain ⟨o',w',M',⟨mc,y3⟩,t0,t1,t2⟩:=q5;apply kι)
  exact (wi2_5 o' w' (M'.keep fun b ob e t=>kk b ob e (fun q=>t (by rw [q];exact t0)) (fun q=>t (by rw [q];exact t1))) ⟨mc,y3.at' fun ob e=>kk _ ob e n20 n21⟩ t0 t1 t2)
 case turn =>
  (intro i ys s' v hv q5 hl q7 q8;apply hide;intro _ kι;obtain ⟨o',w',M',⟨mc,y3⟩,t0,t1,t2⟩:=q5;apply kι;apply hide;intro _ kι;obtain ⟨oI,qI⟩:=q7;apply kι;apply hide;intro _ kι;obtain ⟨oD,qD⟩:=q8;apply kι)
  obtain ⟨hi,hv⟩:=List.getElem?_eq_some_iff.mp ((List.getElem?_toArray ..).symm.trans hv)
  have hi5:i < 5:=hi
  have hv:v=.ref (C.P.va i):=by
   have h1:=vaL_at C.P hi5
   rw [Int.toNat_natCast,List.getElem?_eq_getElem hi,hv] at h1
   exact Option.some.inj h1
  subst hv
  refine wpAny_storeName_local (m:=mc) rfl y3 (fun h3 hn3 hs3=>?_) rfl
  have hs3:Heap.SameBut (s.heap.objs.size+1+1) s'.heap h3:=hs3
  have M3:LC G C x s i o' w' ys { s' with heap:=h3,toks:=s'.toks+1 }:=M'.keep (tk:=s'.toks+1) fun b ob e t=>(hs3.2 b (fun q=>t (by rw [q];exact t2))).trans e
  have c3:Cx G A [LE C.L fa cd] (d+53) (u+149) h3:=c.at1 M3.F
  have qI3:h3.get? s.heap.objs.size=some oI:=(hs3.2 _ n20.symm).trans qI
  have qD3:h3.get? (s.heap.objs.size+1)=some oD:=(hs3.2 _ n21.symm).trans qD
  refine xe1_2 (LCg.ns_obj hn3) fun oN eN _=>?_
  have eN:h3.get? (s.heap.objs.size+1+1)=some oN:=eN
  refine xe3_2 (id M3.F.ns) fun oL3 _ _ eL3 _=>?_
  refine lelt_ (s:={ s' with heap:=h3,toks:=s'.toks+1 }) (N:=s.heap.objs.size+1+1) c3 M3.F hn3 (if_pos rfl) (nb _ f2) (nLj _ f2) ?_
  refine list_view (s:={ s' with heap:=h3,toks:=s'.toks+1 }) (d:=d+1) (u:=u+2) c3 M3.ok M3.tL ⟨_,eL3⟩ M3.st.sq M3.bj hi5 (by rw [(M3.st.pr i hi5).1];have:=szOf_le C.ns i;exact Nat.le_trans this (by decide)) fun s5 c5 o5 w5 mv g b5 tS eS=>?_
  have n4:¬ P13 i 4:=fun h=>(p13_ok hi5 h).2.2.1 rfl
  have nf:∀ j,s.heap.get? j=none→j ∉ frs [LE C.L fa cd]:=fun j hj q=>nLj j hj (List.mem_singleton.mp (show j∈[C.L] from q))
  have k0:=mv.keep qI3 (by rw [t0];exact n4) (nf _ f0)
  have k1:=mv.keep qD3 (by rw [t1];exact n4) (nf _ f1)
  have k2:=mv.keep eN (by rw [t2];exact n4) (nf _ f2)
  refine (yi3 (k0.1.trans qI.symm) (k1.1.trans qD.symm) ⟨o5,w5,M3.next hi5 nL mv g b5 tS eS,⟨_,hn3.at' fun ob e=>?_⟩,k0.2.trans t0,k1.2.trans t1,k2.2.trans t2⟩)
  have e:h3.get? (s.heap.objs.size+1+1)=some ob:=e
  rw [eN] at e;(replace e:=Eq.symm e;cases e)
  exact k2.1
 case done =>
  (intro ys s' q2 hl q4;apply hide;intro _ kι;obtain ⟨o',w',M',⟨mc,y3⟩,t0,t1,t2⟩:=q2;apply kι;apply hide;intro _ kι;obtain ⟨kz,hD⟩:=q4;apply kι)
  refine ⟨mc,y3,fun h' hs'=>?_⟩
  have hs':Heap.SameBut (s.heap.objs.size+1+1) s'.heap h':=hs'
  have M3:LC G C x s 5 o' w' ys { s' with heap:=h' }:=M'.keep (tk:=s'.toks) fun b ob e t=>(hs'.2 b (fun q=>t (by rw [q];exact t2))).trans e
  have hD':h'.get? (s.heap.objs.size+1)=some (lstObj ys.toArray kz):=(hs'.2 _ n21.symm).trans hD
  obtain ⟨nr,er⟩:=M3.st.orl
  refine wpAny_Name (wpAny_loadName_cell rfl rfl rfl (c:=C.L+1+1) (v:=.ref C.rl) M3.st.c2 ?_)
  have i1:=(its5 (n:=2) (f:=fun j=>.list (rowD j 0 (szOf C.ns j))) M3.len fun j v hj hj5=>by
   (refine xe2_3 (M3.ys j v hj) ?_;rintro l n rfl e _)
   exact ((M3.st.pr j hj5).its.its M3.F.keep).list e).list hD'
  have i2:=(its5 (n:=2) (ys:=rrL C) (f:=fun j=>.list (rowD j 0 (szOf C.ns j))) rfl fun j v hj hj5=>by
   have h1:=rr_at C hj5
   rw [Int.toNat_natCast,hj] at h1
   rw [Option.some.inj h1]
   exact row_it (M3.st.rows j hj5) M3.F.keep).list er
  refine it_ne_same i1 i2 (by decide) (by decide) (by have:=c.un;exact zq30 this) ?_
  refine wpAny_pure ?_
  exact wpAny_execs_nil (post _ o' w' ys M3)
end
section
variable {G:Gr}{A:Around}{d u:Nat}{s:Shared}{o:Own}{w:WJ}{C:Cs}{fa:Nat}{cd:Value}{Q:Flow→Shared→Prop}{E:Value→Shared→Prop}
theorem LC.led {x:Str→Option Value}{s0:Shared}{i:Nat}{ys:List Value}(M:LC G C x s0 i o w ys s):∃ oc3 n1 oc2 n2 rest,News G.base C.L s.heap ((C.L+1+1+1,oc3) :: (C.ml,lstObj (mlL C).toArray n1) :: (C.L+1+1,oc2) :: (C.rl,lstObj (rrL C).toArray n2) :: rest)∧oc3.data=.cell (some (.ref C.ml))∧oc2.data=.cell (some (.ref C.rl)) ∧
  (∀ q∈[(C.L+1+1+1,oc3),(C.ml,lstObj (mlL C).toArray n1),(C.L+1+1,oc2),(C.rl,lstObj (rrL C).toArray n2)],s.heap.get? q.1=some q.2)∧∀ b ob,s.heap.get? b=some ob→G.base.get? b=none→b=C.L∨b∈[(C.L+1+1+1,oc3),(C.ml,lstObj (mlL C).toArray n1),(C.L+1+1,oc2),(C.rl,lstObj (rrL C).toArray n2)].map (·.1)∨(b,ob)∈rest:=by
 refine xe1_2 M.st.c3 fun oc3 e3 h3=>?_
 refine xe1_2 M.st.c2 fun oc2 e2 h2=>?_
 obtain ⟨n1,e1⟩:=M.st.oml
 obtain ⟨n2,e4⟩:=M.st.orl
 have tA:∀ b,o.a b≠0→b≠C.L∧G.base.get? b=none:=fun b h=>⟨fun q=>h (by rw [q,M.tL]),M.ok b h⟩
 have hA:∀ q∈[(C.L+1+1+1,oc3),(C.ml,lstObj (mlL C).toArray n1),(C.L+1+1,oc2),(C.rl,lstObj (rrL C).toArray n2)],s.heap.get? q.1=some q.2:=fq e3 (fq e1 (fq e2 (fq e4 fn0)))
 have hB:∀ q∈[(C.L+1+1+1,oc3),(C.ml,lstObj (mlL C).toArray n1),(C.L+1+1,oc2),(C.rl,lstObj (rrL C).toArray n2)],q.1≠C.L∧G.base.get? q.1=none:=fq (tA _ (by rw [M.st.t1 _ zm2];decide)) (fq (tA _ (by rw [M.st.t1 _ zm5];decide)) (fq (tA _ (by rw [M.st.t1 _ zm1];decide)) (fq (tA _ (by rw [M.st.t1 _ zm4];decide)) fn0)))
 (refine xe1_3 (ledger2 (g:=G.base) (L:=C.L) (h:=s.heap) (ex:=[(C.L+1+1+1,oc3),(C.ml,lstObj (mlL C).toArray n1),(C.L+1+1,oc2),(C.rl,lstObj (rrL C).toArray n2)]) (fun q hq=>⟨hA q hq,hB q hq⟩)) ?_;rintro rest N - hr)
 simp only [List.cons_append,List.nil_append] at N
 exact (xi5 oc3 n1 oc2 n2 rest (yi5 N h3 h2 hA hr))
theorem LC.made {x:Str→Option Value}{s0:Shared}{ys:List Value}(M:LC G C x s0 5 o w ys s) {h':Heap}(st':G.base.StaysIn h') (k:∀ b ob,s.heap.get? b=some ob→b≠C.L→h'.get? b=some ob) :
  Its 2 h' (mlL C) [.list (rowD 0 0 (szOf C.ns 0)),.list (rowD 1 0 (szOf C.ns 1))]∧Its 2 h' [.ref (C.rr 0),.ref (C.rr 1)] [.list (rowD 0 0 (szOf C.ns 0)),.list (rowD 1 0 (szOf C.ns 1))]:=by
 refine xe1_2 (M.w1 (by decide)) fun q e hq=>?_
 refine xe1_2 (M.w2 (by decide)) fun q' e' hq'=>?_
 have f0:Fac G 0 o s (C.P.WV 0) (C.P.va 0) (C.P.dv 0) (C.P.f 0) (C.P.mm 0) w.1:=M.bj.f0
 have f1:Fac G 1 o s (C.P.WV 1) (C.P.va 1) (C.P.dv 1) (C.P.f 1) (C.P.mm 1) w.2:=M.bj.f1
 have tm0:=f0.tm
 have tm1:=f1.tm
 (refine xe0_6 (f0.opn q e) ?_;rintro _ _ _ _ ⟨n,e1⟩ _)
 (refine xe0_6 (f1.opn q' e') ?_;rintro _ _ _ _ ⟨n',e2⟩ _)
 have h0:madeOf 0 (C.P.WV 0) q.m=C.P.WV 0:=by rw [hq];unfold madeOf;rw [if_pos rfl,List.take_length]
 have h1:madeOf 1 (C.P.WV 1) q'.m=C.P.WV 1:=rfl
 rw [h0] at e1;rw [h1] at e2
 have nl:∀ b,o.a b≠0→b≠C.L:=fun b h q=>h (by rw [q,M.tL])
 have kk:∀ b ob,s.heap.get? b=some ob→o.a b=1→h'.get? b=some ob∧o.a b=o.a b:=fun b ob e t=>⟨k b ob e (nl b (by rw [t];decide)),rfl⟩
 (refine xe0_4 (M.st.rows 0 (by decide)) ?_;rintro t3 ⟨n3,e3⟩ l3 p3)
 (refine xe0_4 (M.st.rows 1 (by decide)) ?_;rintro t4 ⟨n4,e4⟩ l4 p4)
 have t3:o.a (C.rr 0)=1:=t3
 have t4:o.a (C.rr 1)=1:=t4
 exact ⟨.cons ((((M.st.pr 0 (by decide)).its.mono kk).its st').list (k _ _ e1 (nl _ (by rw [tm0];decide)))) (.cons ((((M.st.pr 1 (by decide)).its.mono kk).its st').list (k _ _ e2 (nl _ (by rw [tm1];decide)))) .nil),
  .cons ((((Pairs.its (G:=G) ⟨l3,p3⟩).mono kk).its st').list (k _ _ e3 (nl _ (by rw [t3];decide)))) (.cons ((((Pairs.its (G:=G) ⟨l4,p4⟩).mono kk).its st').list (k _ _ e4 (nl _ (by rw [t4];decide)))) .nil)⟩
theorem last_ {x:Str→Option Value}{s0:Shared}{ys:List Value}(c:Cx G A [LE C.L fa cd] (d+53) (u+149) s.heap) (M:LC G C x s0 5 o w ys s)
  (post:∀ s',Ext [] [C.L] [] s s'→Q (.ret (.bool true)) s'):wpAny (model PR G.w) A (exec lw14 (LE C.L fa cd)) Q E s:=by
 have:=@on "compareOp Eq ref ref"
 have:=@on "subscriptTail Name Slice ref ref"
 refine cx_open c ?_;clear c;intro ad ag au c
 have X:=G.X
 have T:=G.T
 refine xe5_5 M.led fun oc3 n1 oc2 n2 rest N hc3 hc2 hA hr=>?_
 have F:=M.F
 have Fk:True→Fr G.base C.L s.heap _:=fun _=>F
 unfold lw14
 dsimp only
 k_steps
 refine kms_slice_lit (by k_asm) (by k_asm) (News.isList (by k_asm) (by k_dflt k_mem)) (by kmk_part) (by kmk_part) rfl ?_ (by with_unfolding_all rfl) (by kmk_pure) (by with_unfolding_all exact Nat.le_of_ble_eq_true rfl);intro _ _ _ _ lt3;(try k_lt lt3);(try k_sweep)
 k_steps
 rename Fr _ _ _ _=>F3
 rename News _ _ _ _=>N3
 rename_i l3 h3
 have x3:∀ tk,Ext [] [C.L] [] s { s with heap:=h3,toks:=tk }:=fun tk=>ext_led (s₂:=s) (fr:=[]) (fp:=[]) (tk:=tk) (Fk trivial) F3 N3 hr (fun q hq=>⟨hA q hq,.inl (by
  simp only [List.mem_cons,List.not_mem_nil,or_false] at hq ⊢
  rcases hq with h | h | h | h <;> simp [h])⟩) (fun q hq=>by k_mem)
 obtain ⟨i1,i2⟩:=M.made F3.keep fun b ob e h=>(x3 0).keep b ob e (by simpa using h) fnm
 refine it_eq_same (i1.list (k:=n1) (News.get N3 (.tail _ (.tail _ (.head _))))) (i2.list (k:=0) (News.get N3 (.head _))) (by decide) (by decide) (by have:=c.un;dsimp only at this ⊢;exact zq30 this) ?_
 exact post _ (x3 _)
end
theorem kn_postT {M:Model}{A:Around}{cd:Code}{s s₁:Shared}{cw:ClaimW}{cl:Str→Option Addr}{mean:ExcName→Option Value}{args:List WData}{tabs:List (Addr × Addr)}(hT:TabsAt tabs s₁.heap) (hr:∀ a x,cw.raises a x=false) (hp:cw.post args (.bool true) args=true)
  (h:codeAny M A cd (fun r s'=>r=.ok (.ret (.bool true))∧(∀ b o,(ghostOf s₁.heap tabs).get? b=some o→s'.heap.get? b=some o)∧s'.os=s₁.os∧AllBare s'.gens∧GrownAll tabs s'.heap) s):codeAny M A cd (GoodWG cw cl mean args s₁) s :=
 codeAny_mono h fun r s' ⟨hc,hk,hos,hg,hgr⟩=>by
  have keep:∀ b o,b ∉ tabs.map (·.2)→s₁.heap.get? b=some o→s'.heap.get? b=some o:=fun b o hb e=>hk b o (ghost_ne e hb)
  have grown:∀ b o,b∈tabs.map (·.2)→s₁.heap.get? b=some o→isCodeTable s₁.heap b∧o=tabObj #[]∧∃ ps,s'.heap.get? b=some (tabObj ps):=fun b o hb e=>by
   (refine xe1_2 (List.mem_map.mp hb) ?_;rintro q hq rfl)
   have e2:=(hT q hq).2
   rw [e] at e2
   exact (yi3 (((hT q hq).1.tab (hT q hq).2).isCodeTable) (Option.some.inj e2) (hgr.get q hq))
  refine ⟨.inl (wi3_5 _ _ [] hc (hr _) (ReadsW.bool true) hp (fun _=>⟨List.nodup_nil,fun _ hm=>nomatch hm⟩)),⟨fun b o e=>?_,fun b o e=>?_⟩,hos,hg⟩
  ·by_cases hb:b∈tabs.map (·.2)
   ·apply hide;intro _ kι;obtain ⟨ht,rfl,ps,hP⟩:=grown b o hb e;apply kι
    exact .inr (.inl (yi3 ht rfl ⟨#[],ps,rfl,by rw [Array.empty_append];exact hP⟩))
   ·exact .inl (keep b o hb e)
  ·by_cases hb:b∈tabs.map (·.2)
   ·apply hide;intro _ kι;obtain ⟨_,_,ps,hP⟩:=grown b o hb e;apply kι
    exact ⟨_,hP⟩
   ·exact ⟨o,keep b o hb e⟩
theorem law_ {G:Gr}{A:Around}{d u L fa sa:Nat}{cd:Value}{s:Shared}{sv:List Value}{ss:List Int}{m:Str→Option Value}{Q:Flow→Shared→Prop}{E:Value→Shared→Prop}
  (c:Cx G A [LE L fa cd] (d+53) (u+149) s.heap) (F:Fr G.base L s.heap (fun z=>if z=Str.ofString "script" then some (.ref sa) else m z)) (hs:G.base.IsList sa sv.toArray) (hI:IntsAre sv ss) (hl:sv.length≤63)
  (c1:s.heap.IsCell (L+1) none) (c2:s.heap.IsCell (L+1+1) none) (c3:s.heap.IsCell (L+1+1+1) none) (ob:∀ b∈[L+1,L+1+1,L+1+1+1],G.base.get? b=none) (nL:G.base.get? L=none) (e9:s.heap.get? 249=some (tabObj #[])) (e3:s.heap.get? 263=some (tabObj #[]))
  (post:∀ s',G.base.StaysIn s'.heap→s'.os=s.os→(AllBare s.gens→AllBare s'.gens)→GrownAll [(253,249),(267,263)] s'.heap→Q (.ret (.bool true)) s') :
  wpAny (model PR G.w) A (execs [lw0,lw1,lw2,lw3,lw4,lw5,lw6,lw7,lw8,lw9,lw10,lw11,lw12,lw13,lw14] (LE L fa cd)) Q E s:=by
 refine setupA (d:=d+50) (u:=u+145) c F hs hI hl c1 c2 c3 ob nL e9 e3 fun s1 C o eL en X1 pre F1=>?_
 subst eL
 refine setupB (d:=d+50) (u:=u+142) (c.at1 F1) pre F1 fun s2 C' o' w rs eL' en' X2 M hr F2=>?_
 have k2:Cx G A [LE C'.L fa cd] (d+53) (u+149) s2.heap:=by rw [eL'];exact (c.at1 F1).at1 F2
 have nL':G.base.get? C'.L=none:=by rw [eL'];exact nL
 rw [← eL'] at F2 ⊢
 refine wpAny_execs_cons (loop_ (d:=d) (u:=u) k2 F2 M (by exact Nat.le_of_eq hr) fun s3 o3 w3 rs3 az3 x3 M3 l3 F3 d3 os3 b3=>?_)
 have k3:=k2.at1 F3
 refine wpAny_execs_cons (loop12_ (d:=d) (u:=u) k3 F3 M3 (by exact Nat.le_trans l3 (by decide)) fun s4 o4 w4 x4 M4 F4 d4 os4 b4=>?_)
 have k4:=k3.at1 F4
 refine wpAny_execs_cons (views13_ (d:=d) (u:=u) k4 F4 M4 fun s5 o5 w5 ys M5=>?_)
 have k5:=k4.at1 M5.F
 refine wpAny_execs_cons (last_ (d:=d) (u:=u) k5 M5 fun s6 x6=>?_)
 have nb:∀ b,b≠C'.L→b ∉ [C'.L]:=fun b h q=>h (List.mem_singleton.mp q)
 refine post s6 (fun b ob e=>x6.keep b ob (M5.F.keep b ob e) (nb b fun q=>by rw [q,nL'] at e;cases e) fnm) (x6.os.trans (M5.os.trans (os4.trans (os3.trans (X2.os.trans X1.os))))) (fun z=>x6.bare (M5.bare (b4 (b3 (X2.bare (X1.bare z)))))) ⟨?_,?_,trivial⟩
 ·refine xe1_2 (M5.w1 (by decide)) fun q e _=>?_
  have f0:Fac G 0 o5 s5 (C'.P.WV 0) (C'.P.va 0) (C'.P.dv 0) (C'.P.f 0) (C'.P.mm 0) w5.1:=M5.bj.f0
  obtain ⟨t,tb,e9⟩:=f0.t9 q e rfl
  exact ⟨tb,x6.keep 249 _ e9 (nb 249 fun q=>by rw [q,M5.tL] at t;cases t) fnm⟩
 ·obtain ⟨tb,e⟩:=M5.st.e63
  exact ⟨tb,x6.keep 263 _ e (nb 263 fun q=>by have:=M5.st.m63;rw [q,M5.tL] at this;cases this) fnm⟩
theorem join_ {w:World}{p:Program}{loose:List Str}{mean:ExcName→Option Value}{mg mb:Str→Option Value}{base:Heap}(X:(hd.heap_1 w.params).In base) (T:Top p loose mean mg mb base) (C1:CodeHd base 253 249) (C2:CodeHd base 267 263)
  {A:Around}{L fa sa:Nat}{cd:Value}{s:Shared}{M:Str→Option Value}{o1 o2 o3:Obj}{sv:List Value}{ss:List Int}{Q:Flow→Shared→Prop}{E:Value→Shared→Prop}
  (hA1:A.handled=none) (hA2:A.frames=some [LE L fa cd]) (hdp:A.depth+53 < recursionLimit) (hun:A.units+149 < cLine)
  (F:Fr base L s.heap M) (hM:M (Str.ofString "script")=some (.ref sa)) (N:News base L s.heap [(L+1+1+1,o3),(L+1+1,o2),(L+1,o1),(249,tabObj #[]),(263,tabObj #[])]) (d1:o1.data=.cell none) (d2:o2.data=.cell none) (d3:o3.data=.cell none)
  (hs:base.IsList sa sv.toArray) (hI:IntsAre sv ss) (hl:ss.length≤63) (hg:s.gens=#[])
  (post:∀ s',base.StaysIn s'.heap→s'.os=s.os→AllBare s'.gens→GrownAll [(253,249),(267,263)] s'.heap→Q (.ret (.bool true)) s') :
  wpAny (model PR w) A (execs [lw0,lw1,lw2,lw3,lw4,lw5,lw6,lw7,lw8,lw9,lw10,lw11,lw12,lw13,lw14] (LE L fa cd)) Q E s:=by
 have nL:base.get? L=none:=Heap.get?_none_of_le F.above
 refine xe3_3 (id F.ns) fun oL es ep eL hdL _=>?_
 have a3:=N _ (.head _)
 have a2:=N _ (.tail _ (.head _))
 have a1:=N _ (.tail _ (.tail _ (.head _)))
 have a9:=N _ (.tail _ (.tail _ (.tail _ (.head _))))
 have a6:=N _ (.tail _ (.tail _ (.tail _ (.tail _ (.head _)))))
 have F':Fr base L s.heap (fun z=>if z=Str.ofString "script" then some (.ref sa) else M z):=by
  have:(fun z=>if z=Str.ofString "script" then some (.ref sa) else M z)=M:=funext fun z=>by
   by_cases q:z=Str.ofString "script"
   ·rw [if_pos q,q,hM]
   ·rw [if_neg q]
  rw [this];exact F
 refine law_ (G:=⟨w,p,loose,mean,mg,mb,base,X,T,C1,C2,a9.2.2,a6.2.2⟩) (d:=0) (u:=0) (ss:=ss) ⟨F.keep,hA1,hA2,⟨?_,(wi2_4 L oL rfl nL eL (fun vs q=>by rw [hdL] at q;cases q)),trivial⟩,hdp,hun⟩ F' hs hI (by have:=hI.length;exact le_of_eq_of_le this hl) ⟨_,a1.1,d1⟩ ⟨_,a2.1,d2⟩ ⟨_,a3.1,d3⟩ (fq a1.2.2 (fq a2.2.2 (fq a3.2.2 fn0))) nL a9.1 a6.1 fun s' h1 h2 h3 h4=>post s' h1 h2 (h3 (.of_eq hg)) h4
 show ScopeKind.function≠ScopeKind.module
 decide
end Mine
end
section
open PySem PySem.W PySem.W.X PyProof.Rows PySem.Calls PySem.Spec
namespace Mine
theorem room_ (env:Env):(callerA.deeper env).depth+53 < recursionLimit:=by show callerA.depth+1+53 < recursionLimit;decide
theorem unit_ (env:Env):(callerA.deeper env).units+149 < cLine:=by show callerA.units+3+149 < cLine;decide
theorem kn_postX {M:Model}{A:Around}{cd:Code}{s s₁:Shared}{cl:Str→Option Addr}{mean:ExcName→Option Value}{w:List Int}{tabs:List (Addr × Addr)}(hT:TabsAt tabs s₁.heap)
  (h:codeAny M A cd (fun r s'=>r=.ok (.ret (.bool true))∧(∀ b o,(ghostOf s₁.heap tabs).get? b=some o→s'.heap.get? b=some o)∧s'.os=s₁.os∧AllBare s'.gens∧GrownAll tabs s'.heap) s):codeAny M A cd (GoodWG PySem.Challenge.rw_ln0024_01.row.claim cl mean [ofPy (PyData.list (List.map PyData.int w))] s₁) s :=
 kn_postT hT (fun _ _=>rfl) (by first | rfl | wrow_post) h
local macro_rules | `(tactic| kn_posts)=>`(tactic| apply kn_postX ‹_›)
theorem holds_:PySem.Challenge.rw_ln0024_01.Holds:=hd ⟨left_,by
 k_go0
 (all_goals try k_fold)
 refine join_ (by assumption) (by assumption) (by assumption) (by assumption) rfl rfl (room_ _) (unit_ _) (by assumption) rfl (by assumption) ?d1 ?d2 ?d3 (by assumption) (by assumption) (by omega) (by assumption) ?post
 case d1=>refine Eq.trans (by assumption) ?_;rfl
 case d2=>refine Eq.trans (by assumption) ?_;rfl
 case d3=>refine Eq.trans (by assumption) ?_;rfl
 case post=>exact fun s' h1 h2 h3 h4=>(yi5 rfl h1 h2 h3 h4)⟩
end Mine
theorem PySem.Challenge.cw_ln0024_01_holds : PySem.Challenge.rw_ln0024_01.Holds :=
 Mine.holds_
end
