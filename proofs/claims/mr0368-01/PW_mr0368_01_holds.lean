import PyProof.Rows.All
import PyProof.AttrMiss
import PyProof.Rows.SeqSliceW
import PyProof.Rows.SeqMore3
import KE.KDictOf
import KE.KFromBytes
import KE.KNestM
import KE.KRevSl
import Wide.FinOn
import OpenK.AllK
import Wide.All
import Lean
import PySem.Challenge.RW_mr0368_01
set_option Elab.async false
set_option compiler.extract_closed false
set_option maxRecDepth 100000
set_option linter.unusedVariables false
noncomputable section
section
namespace Mine.Internal
theorem h1{a b k i j:Nat}(h:a+k < b)(e:i+j≤k):a+i+j < b:=Nat.lt_of_le_of_lt (Nat.add_assoc a i j▸Nat.add_le_add_left e a) h
theorem h2{a b k i:Nat}(h:a+k < b)(e:i≤k):a+i < b:=Nat.lt_of_le_of_lt (Nat.add_le_add_left e a) h
theorem h5{a n:Nat}{m:Int}(h:a≤n)(e:(n:Int) < m):(a:Int) < m:=Int.lt_of_le_of_lt (Int.ofNat_le.mpr h) e
theorem h6{a n:Nat}{m:Int}(h:a≤n)(e:(n:Int) < m):¬(a:Int)≥m:=Int.not_le.mpr (h5 h e)
theorem h7{a n b:Nat}(h:b≤n)(k:a=b){m:Nat}(e:n≤m):a≤m:=k▸Nat.le_trans h e
theorem h8{a n b i j:Nat}(h:a+i+(b+j)≤n):a+(i+j)+b≤n:=by rw [Nat.add_right_comm,← Nat.add_add_add_comm];exact h
theorem h9{a n:Nat}{m:Int}(h:a < n)(e:(n:Int)≤m):(a:Int) < m:=Int.lt_of_lt_of_le (Int.ofNat_lt.mpr h) e
theorem h13{a m:Int}(h:a≤m){k:Int}(e:m≤k):a≤k:=Int.le_trans h e
theorem h14{a m:Int}(h:m≤a){k:Int}(e:k≤m):k≤a:=Int.le_trans e h
theorem h15{a m n:Nat}(e:0 < n)(e':(n:Int)≤m):(a:Int)%n < m:=Int.lt_of_lt_of_le (Int.emod_lt_of_pos (a:Int) (Int.ofNat_lt.mpr e)) e'
theorem o0{a:Nat}:a≤100000→a≤2 ^ 24:=fun h=>Nat.le_trans h (by decide)
theorem o1{a b:Nat}:0+a=b→a=b:=fun h=>by simp +arith at h ⊢;exact h
theorem o2{a b c:Nat}:c+1+a=b→a<b:=by intros;subst_vars;simp
theorem o3{a b c:Nat}:b=c→a<c→a<b:=fun h k=>Nat.lt_of_lt_of_eq k h.symm
theorem o4{a b c:Nat}:a+1+b=c→a+(b+1)=c:=by intros;subst_vars;simp +arith
theorem o5{a:Nat}:a≤100000→(a:Int)<2 ^ 63:=fun h=>h5 h (by decide)
theorem o6{a:Nat}:a≤100000→¬(a:Int)≥2 ^ 63:=fun h=>h6 h (by decide)
theorem o7{a b:Nat}:b≤100000→a=b→a+1≤2 ^ 24:=fun h e=>Nat.le_trans (Nat.succ_le_succ (Nat.le_trans (Nat.le_of_eq e) h)) (by decide)
theorem o8{a:Int}:0≤a→a<2 ^ 63→-9223372036854775808≤a∧a<9223372036854775808:=fun h k=>⟨Int.le_trans (by decide) h,k⟩
theorem o9{a b c:Nat}:b=a+c→min a b=a:=by intros;simp +arith [*]
theorem o10{a b c:Nat}:c≤b→a=c→a≤b:=by intros;subst_vars;assumption
theorem o12{a b c d e f g:Nat}:g=b→e=b→a+b+c=d+g+f→a+b+c=d+e+f:=by intros;subst_vars;assumption
theorem o13{a b c d e:Nat}:a=d→e=b→¬c<d+e→a+b≤c:=fun h e k=>h▸e▸Nat.le_of_not_lt k
theorem o14{a b:Nat}:b=a→a≤b:=fun h=>Nat.le_of_eq h.symm
theorem o15{a b:Nat}:a=b→a≤b:=fun h=>Nat.le_of_eq h
theorem o16{a b:Nat}:a<b→a<b:=fun h=>h
theorem o17{a b c:Nat}:a=c→b=c→a=b:=fun h k=>k▸h
theorem o18{a b:Nat}:a≤a+b:=by intros;subst_vars;apply Nat.le_add_right
theorem o19{a b c:Nat}:b<c→a+b-a<c:=fun h=>by simp +arith at h ⊢;exact h
theorem o20{a b:Nat}:a+b-a=b:=by intros;simp +arith [*]
theorem o21{a b c:Nat}:a=b→a≤b+c:=by intros;subst_vars;apply Nat.le_add_right
theorem o22{a b c d e:Nat}:d=e→b<e→c=a→a+b-c<d:=by intros;simp +arith [*]
theorem o23{a b c:Nat}:b=c→a=c→a=b:=fun h k=>h▸k
theorem o24{a b:Nat}:¬b<a→a≤b:=fun h=>Nat.le_of_not_lt h
theorem o25{a b c:Nat}:¬b<c→c=a→a≤b:=by intros;simp_all +arith
theorem o26{a b c:Nat}:b=a→a≤b+c:=by intros;subst_vars;apply Nat.le_add_right
theorem o27{a b c d e:Nat}:a=c→d=e→b<e→a+b-c<d:=by intros;simp [*]
theorem o28{a b:Nat}:a≤b→a≤b+1:=fun h=>Nat.le_succ_of_le h
theorem o29{a b c d:Nat}:b≤100000→a≤c→d+1+c=b→a≤100000:=fun h k e=>Nat.le_trans k (Nat.le_trans (Nat.le_add_left c (d+1)) (Nat.le_trans (Nat.le_of_eq e) h))
theorem o30{a b:Nat}:a≤b→a≤b:=by intros;simp +arith [*]
theorem o31{a:Nat}:a≤a+4:=by intros;subst_vars;apply Nat.le_add_right
theorem o32{a:Nat}:a≤a+3:=by intros;subst_vars;apply Nat.le_add_right
theorem o33{a:Nat}:a≤a:=by intros;subst_vars;exact Nat.le_refl _
theorem o34{a:Nat}:a≤a+1:=by intros;subst_vars;apply Nat.le_add_right
theorem o35{a:Nat}:a≤a+2:=by intros;subst_vars;apply Nat.le_add_right
theorem o36:-2 ^ 62≤(0:Int):=by decide
theorem o37:(0:Int)<2 ^ 62:=by decide
theorem o38{a:Nat}:-2 ^ 62≤(a:Int):=by intros;simp_all +arith
theorem o39{a:Nat}:a<1000→(a:Int)<2 ^ 62:=fun h=>h9 h (by decide)
theorem o40{a:Nat}:0+(a:Int)*1=(a:Int):=by intros;simp_all +arith only
theorem o41{a b:Nat}:b=a+1→a≤b:=by intros;subst_vars;apply Nat.le_add_right
theorem o42{a b c:Nat}:c≤b→a<c→a<b:=fun h k=>Nat.lt_of_lt_of_le k h
theorem o43{a b:Nat}:a≤b→min a b=a:=by intros;simp +arith [*]
theorem o44{a b:Nat}:a+1+b=a+(b+1):=by intros;simp +arith [*]
theorem o45{a b:Nat}:a<b→a≠b:=fun h=>Nat.ne_of_lt h
theorem o46{a:Nat}:a+1≠a:=by intros;simp +arith [*]
theorem o47{a:Int}:0<a→a≠0:=fun h=>Int.ne_of_gt h
theorem o48{a:Int}:0<a→a<1073741824→a.natAbs<1073741824:=fun h k=>Int.ofNat_lt.mp (by rw [Int.natAbs_of_nonneg (Int.le_of_lt h)];exact k)
theorem o49{a:Int}:0<a→0≤a:=fun h=>h14 h (by decide)
theorem o50{a:Int}:a≤1000→a≤1000000:=fun h=>h13 h (by decide)
theorem o51{a:Nat}:¬(a:Int)+1=0:=fun h=>Nat.succ_ne_zero a (Int.ofNat_inj.mp (show ((a+1:Nat):Int)=((0:Nat):Int) from h))
theorem o52{a:Nat}:a<256→a/32<8:=fun h=>Nat.div_lt_of_lt_mul (show a < 32*8 from h)
theorem o53{a b c:Nat}:a-b<c+1→¬b≥a→a-(b+1)<c:=fun h k=>Nat.lt_of_succ_lt_succ (by rw [Nat.succ_eq_add_one,Nat.sub_add_eq,Nat.sub_add_cancel (Nat.sub_pos_of_lt (Nat.lt_of_not_le k))];exact h)
theorem o54{a b:Nat}:a+1≤b→a≤b:=fun h=>Nat.le_of_lt h
theorem o55{a b:Nat}:a≤b→¬b=a→a+1≤b:=fun h k=>Nat.lt_of_le_of_ne h (Ne.symm k)
theorem o56{a b:Nat}:¬a≥b→a<b:=fun h=>Nat.lt_of_not_le h
theorem o57{a:Nat}:0<a→¬(0>a∨a-0<1):=fun h k=>k.elim (Nat.not_lt_zero a) (fun z=>Nat.lt_irrefl 1 (Nat.lt_of_le_of_lt h z))
theorem o58{a:Nat}:a-0<a+1-0:=by intros;subst_vars;exact Nat.le_refl _
theorem o59{a b:Nat}:a<b→¬a≥b:=by intros;simp [*]
theorem o60{a:Nat}:a<2 ^ 60→min 9223372036854775807 a=a:=fun h=>Nat.min_eq_right (Nat.le_of_lt (Nat.lt_trans h (by decide)))
theorem o61{a:Nat}:a≤1000→a+1≤1001:=Nat.lt_succ_of_le
theorem o62{a b:Nat}:a≤1000→(a+1)*b≤1001*10→a+(a+1)*b≤16777216:=fun h k=>Nat.le_trans (Nat.add_le_add h k) (by decide)
theorem o63{a b:Nat}:a≤10→b≤100000→a+b≤2 ^ 24:=fun h k=>Nat.le_trans (Nat.add_le_add h k) (by decide)
theorem o64{a b c d:Nat}:a=c→b=d→c=d→a=b:=by intros;subst_vars;rfl
theorem o65{a b c d:Nat}:a=c→b=d→¬c=d→¬a=b:=by intros;subst_vars;assumption
theorem o66{a:Nat}:1≤(a:Int)+1:=by intros;simp +arith [*]
theorem o67{a:Nat}:(-1+((a:Int)+1)).toNat=a:=by intros;simp_all +arith
theorem o68{a b c:Nat}:b=c→b+a=c+(0+1)→a=1:=by intros;simp_all +arith
theorem o69{a b c d:Nat}:c+d≤100000→a=c→b=d→a+b≤2 ^ 24:=by intros;subst_vars;lia
theorem o70{a b c:Nat}:a+c≤b→a≤b:=fun h=>Nat.le_trans (Nat.le_add_right _ _) h
theorem o71{a b c:Nat}:a+b≤c→a+b≤c+1:=fun h=>Nat.le_succ_of_le h
theorem o72{a:Nat}:¬(a:Int)<0:=by intros;subst_vars;simp
theorem o73{a:Nat}:a≤100000→a≤2 ^ 24+1:=fun h=>Nat.le_trans h (by decide)
theorem o74{a b:Nat}:b+0=a→a≤b:=fun h=>Nat.le_of_eq h.symm
theorem o75{a b:Nat}:a+0=b→¬a+1≤b:=by intros;subst_vars;simp
theorem o76{a b c:Nat}:a+(c+1)=b→a<b:=by intros;subst_vars;simp
theorem o77{a b c:Nat}:a+(b+1)=c→a+1+b=c:=by intros;rw [Nat.add_right_comm];assumption
theorem o78{a b:Nat}:b≤a→a+1-b=a-b+1:=fun h=>Nat.succ_sub h
theorem o79{a b:Nat}:a≤b→a+(b-a)=b:=by intros;simp_all +arith
theorem o80{a:Nat}:(max 0 (a:Int)).toNat=a:=by intros;subst_vars;rfl
theorem o81{a:Nat}:min (max 0 (a:Int)).toNat a=a:=by intros;simp_all +arith
theorem o82{a b c:Nat}:b=c→a+0=c→a=b:=fun h k=>h▸k
theorem o83{a b c d:Nat}:b=c→a+(d+1)=c→a<b:=by intros;subst_vars;simp
theorem o84{a b:Nat}:b≤100→min a b≤2 ^ 24:=fun h=>Nat.le_trans (Nat.min_le_right a b) (Nat.le_trans h (by decide))
theorem o85{a:Nat}:0+a=a:=by intros;subst_vars;simp
theorem o86{a b:Nat}:(a:Int)=(b:Int)→a=b:=fun h=>Int.ofNat_inj.mp h
theorem o87{a b:Nat}:a+(b+1)≤100→a≤2 ^ 24:=fun h=>Nat.le_trans (Nat.le_add_right _ _) (Nat.le_trans h (by decide))
theorem o88{a b:Nat}:a+(b+1)≤20000→a≤20000:=fun h=>Nat.le_trans (Nat.le_add_right _ _) (Nat.le_trans h (by decide))
theorem o89{a b:Nat}:a+(b+1)≤20000→a+1+b≤20000:=by intros;rw [Nat.add_right_comm];assumption
theorem o90{a b:Nat}:a+(b+1)=a+1+b:=by intros;simp +arith [*]
theorem o91{a:Nat}:0<a→¬a=0:=fun h=>Nat.ne_of_gt h
theorem o92{a:Nat}:a≤10000→a≤20000:=fun h=>Nat.le_trans h (by decide)
theorem o93{a:Nat}:a≤20000→a≤16777216:=fun h=>Nat.le_trans h (by decide)
theorem o94{a:Nat}:a≤10000→a≤16777216:=fun h=>Nat.le_trans h (by decide)
theorem o95{a:Nat}:a≤10000→¬a>2 ^ 24:=fun h k=>absurd (Nat.lt_of_lt_of_le k h) (by decide)
theorem o96{a:Nat}:0≠a+1:=by intros;simp +arith [*]
theorem o97{a b:Nat}:a+(b+1)≤100000→a≤100000:=fun h=>Nat.le_trans (Nat.le_add_right _ _) (Nat.le_trans h (by decide))
theorem o98{a b:Nat}:a+(b+1)≤100000→a+(0+1)+b≤100000:=fun h=>h8 h
theorem o99{a b c:Nat}:a+100*(c+1)≤90000→b≤100→a+b≤100000:=fun h k=>Nat.le_trans (Nat.add_le_add (Nat.le_trans (Nat.le_add_right a _) h) k) (by decide)
theorem o100{a b c:Nat}:a+100*(c+1)≤90000→b≤100→a+b+100*c≤90000:=fun h k=>Nat.le_trans (by rw [Nat.add_right_comm];exact Nat.add_le_add_left k _) h
theorem o101{a:Int}:0≤a→-2 ^ 63≤a:=fun h=>h14 h (by decide)
theorem o102{a b:Nat}:a≤b+1→a+1≤b+1+1:=Nat.lt_succ_of_le
theorem o103{a b c:Nat}:b≤900→a=c→c≤b+1→a≤1000:=fun h e k=>Nat.le_trans (Nat.le_of_eq e) (Nat.le_trans k (Nat.le_trans (Nat.succ_le_succ h) (by decide)))
theorem o104{a b c:Nat}:c+1+1≤b+1→a≤c→a+1≤b:=fun h k=>Nat.le_trans (Nat.succ_le_succ k) (Nat.le_of_succ_le_succ h)
theorem o105{a:Nat}:a+1≤a+10:=by intros;subst_vars;simp
theorem o106{a:Nat}:a+1≤a+2:=by intros;simp +arith [*]
theorem o107{a b:Nat}:a≤b→a+1≤b+2:=fun h=>Nat.succ_le_succ (Nat.le_succ_of_le h)
theorem o110{a b c:Nat}:3*a+3-b≤c+1→3*a+3-(b+1)≤c:=fun h=>by simp +arith at h ⊢;exact h
theorem o111{a:Nat}:a<2→a+1≤2:=fun h=>h
theorem o112{a b c d:Nat}:3*c+3-d≤b+1→d<2→a<c→3*a+1≤b:=fun h hd ha=>Nat.le_of_add_le_add_right (b:=5) (show 3*(a+1)+3≤b+5 from Nat.le_trans (Nat.add_le_add_right (Nat.mul_le_mul_left 3 ha) 3) (Nat.le_trans (Nat.sub_le_iff_le_add.mp h) (Nat.le_trans (Nat.add_le_add_left (Nat.le_of_lt_succ hd) (b+1)) (show b+1+1≤b+5 from Nat.add_le_add_left (by decide:2≤5) b))))
theorem o113{a b c:Nat}:c≤2→3*(a+1)+3-c≤b+1→3*a+3-2≤b:=fun hc h=>Nat.le_trans (Nat.sub_le _ 2) (Nat.le_of_add_le_add_right (b:=3) (show 3*(a+1)+3≤b+1+2 from Nat.le_trans (Nat.sub_le_iff_le_add.mp h) (Nat.add_le_add_left hc (b+1))))
theorem o114:2≤2:=by intros;subst_vars;exact Nat.le_refl _
theorem o115{a b c:Nat}:c≤2→3*(a+1)+3-c≤b+1→3*a+3-0≤b:=fun hc h=>Nat.le_of_add_le_add_right (b:=3) (show 3*(a+1)+3≤b+1+2 from Nat.le_trans (Nat.sub_le_iff_le_add.mp h) (Nat.add_le_add_left hc (b+1)))
theorem o116:0≤2:=by intros;subst_vars;apply Nat.le_add_left
theorem o117{a b c:Nat}:3*(a+1)+1≤c+1→3*a+3-(b+1)≤c:=fun h=>Nat.le_trans (Nat.sub_le _ _) (Nat.le_of_succ_le_succ h)
theorem o118{a b c:Nat}:3*(c+1)+1≤b+1→a<c→3*a+1≤b:=fun h k=>Nat.le_trans (Nat.le_trans (Nat.add_le_add_left (by decide:1≤3) (3*a)) (Nat.mul_le_mul_left 3 (Nat.le_succ_of_le k))) (Nat.le_of_succ_le_succ h)
theorem o119:¬2<2:=fun h=>Nat.lt_irrefl _ h
theorem o120{a b:Nat}:3*a+3-(b+1)≤3*a+3:=by intros;simp_all +arith
theorem o121{a b:Nat}:a<b→3*a+1≤3*b+3:=fun h=>Nat.add_le_add (Nat.mul_le_mul_left 3 (Nat.le_of_lt h)) (by decide)
theorem o122:1<2:=by intros;subst_vars;exact Nat.le_refl _
theorem o123:0<2:=by intros;subst_vars;apply Nat.le_add_left
theorem o124:¬0≥1:=fun h=>Nat.lt_irrefl _ h
theorem o125{a b c d:Nat}:d≤c→a+5+b≤d→a+5+b≤c:=fun h k=>Nat.le_trans k h
theorem o126{a b c d e f g:Nat}:e+5+f≤d→g+5+c≤f→a≤g+2→b≤e+2→a+(b+1)+5+c≤d:=fun h k l m=>Nat.le_trans (Nat.add_le_add_right (show a+(b+1)+5≤e+5+(g+5) from Nat.le_trans (Nat.add_le_add_right (Nat.add_le_add l (Nat.succ_le_succ m)) 5) (Nat.le_of_eq (show g+2+(e+3)+5=e+5+(g+5) from (congrArg (·+8) (Nat.add_comm (g+2) e)).trans (congrArg (·+5) (Nat.add_right_comm e 5 g)).symm))) c) (Nat.le_trans (Nat.le_of_eq (Nat.add_assoc (e+5) (g+5) c)) (Nat.le_trans (Nat.add_le_add_left k (e+5)) h))
theorem o127{a b c:Nat}:a+5+c≤b→a+5≤b:=fun h=>Nat.le_trans (Nat.le_add_right _ _) h
theorem o128{a:Nat}:a/4096%16<16:=Nat.mod_lt _ (by decide)
theorem o129{a:Nat}:48+a%8≤55:=Nat.add_le_add_left (Nat.le_of_lt_succ (Nat.mod_lt a (by decide:8>0))) 48
theorem o130{a:Nat}:a<8 ^ (0+1)→a<8:=fun h=>h
theorem o131{a b:Nat}:a<8 ^ (b+1)*8→a/8<8 ^ (b+1):=fun h=>Nat.div_lt_of_lt_mul (Nat.mul_comm _ 8▸h)
theorem o132{a:Nat}:a/8*8+(48+a%8-48)=a:=by rw [Nat.add_sub_cancel_left,Nat.mul_comm];exact Nat.div_add_mod a 8
theorem o133{a:Nat}:¬a>7→0*8+(48+a%8-48)=a:=fun h=>(congrArg (0*8+·) (Nat.add_sub_cancel_left 48 (a%8))).trans ((Nat.zero_add _).trans (Nat.mod_eq_of_lt (Nat.lt_succ_of_le (Nat.le_of_not_lt h))))
theorem o134{a:Nat}:48≤a∧a≤55→a-48<8:=by intros;simp +arith [*]
theorem o135{a:Nat}:48≤a∧a≤55→48+(a-48)=a:=by intros;simp +arith [*]
theorem o136{a:Nat}:a≤3+1→a≤20:=fun h=>Nat.le_trans h (by decide)
theorem o137{a:Nat}:a/768%4<4:=Nat.mod_lt _ (by decide)
theorem o138{a:Nat}:6+a≤a+10:=by intros;simp +arith [*]
theorem o139{a b c d:Nat}:d+5+b≤c→a≤d+2→a+1+5+b≤c+10:=fun h k=>Nat.le_trans (Nat.add_le_add_right (show a+1+5≤d+5+3 from Nat.add_le_add_right k 6) b) (Nat.le_trans (Nat.le_of_eq (Nat.add_right_comm (d+5) 3 b)) (Nat.add_le_add h (by decide)))
theorem o140{a b c:Nat}:a+5+b≤c→a+(0+1)+1+5+b≤c+10:=fun h=>Nat.le_trans (Nat.le_of_eq (Nat.add_right_comm (a+5) 2 b)) (Nat.add_le_add h (by decide))
theorem o141{a b c:Nat}:a+5+b≤c→a+5+b≤c+10:=fun h=>Nat.le_trans h (Nat.le_add_right c 10)
theorem o142{a:Nat}:a%8-6<2:=Nat.lt_of_le_of_lt (Nat.sub_le_sub_right (Nat.le_of_lt_succ (Nat.mod_lt a (by decide:8 > 0))) 6) (by decide)
theorem o143{a:Nat}:a≤a+10:=by intros;subst_vars;apply Nat.le_add_right
theorem o144{a b:Nat}:a+10+10*b≤a+10*(b+1):=by intros;simp +arith [*]
theorem o145{a b c:Nat}:a+b+10*c≤4000→a≤4000:=fun h=>Nat.le_trans (Nat.le_trans (Nat.le_add_right _ _) (Nat.le_add_right _ _)) h
theorem o146{a b:Nat}:a+40*0≤2000→b+0≤100→a+10*b≤4000:=fun h k=>Nat.le_trans (Nat.add_le_add h (Nat.mul_le_mul_left 10 k)) (by decide)
theorem o147{a:Nat}:a+0≤100→a≤100:=fun h=>h
theorem o148{a b:Nat}:b≤10→a+5≤0+10*b→a≤95:=fun h k=>Nat.le_of_add_le_add_right (show a+5≤95+5 from Nat.le_trans k (Nat.le_trans (Nat.le_of_eq (Nat.zero_add _)) (Nat.mul_le_mul_left 10 h)))
theorem o149{a:Nat}:3*a+3-0≤3*a+3:=by intros;subst_vars;exact Nat.le_refl _
theorem o150{a b:Nat}:a/8 ^ (2-b)%8/4<2:=Nat.div_lt_of_lt_mul (Nat.mod_lt _ (by decide:8 > 0))
theorem o151{a b:Nat}:a/8 ^ (2-b)%8/2%2<2:=Nat.mod_lt _ (by decide)
theorem o152{a b:Nat}:a≤3→a/2*4+b/2 ^ (11-a)%2*2+b/8 ^ (2-a)%8%2<8:=fun h=>Nat.lt_of_le_of_lt (Nat.add_le_add (Nat.add_le_add (Nat.mul_le_mul_right 4 (Nat.le_of_lt_succ (Nat.div_lt_of_lt_mul (show a < 2*2 from Nat.lt_succ_of_le h)))) (Nat.mul_le_mul_right 2 (Nat.le_of_lt_succ (Nat.mod_lt _ (by decide:2 > 0))))) (Nat.le_of_lt_succ (Nat.mod_lt _ (by decide:2 > 0)))) (by decide)
theorem o153:0≤3:=by intros;subst_vars;apply Nat.le_add_left
theorem o154:1≤3:=by intros;subst_vars;apply Nat.le_add_left
theorem o155:2≤3:=by intros;subst_vars;apply Nat.le_add_left
theorem o156{a b:Nat}:a=10→b≤1→0<a∧a≤1000∧a≤10000∧b+a+b≤20:=by intro h k;subst h;exact ⟨by decide,by decide,by decide,Nat.le_trans (Nat.add_le_add (Nat.add_le_add_right k 10) k) (by decide)⟩
theorem o157{a:Nat}:a≤3+1→0<a→0<a∧a≤1000∧a≤10000∧a≤20:=fun h k=>⟨k,Nat.le_trans h (by decide),Nat.le_trans h (by decide),Nat.le_trans h (by decide)⟩
theorem o158{a b c:Nat}:0<b∧b≤1000∧c≤10000∧a≤15→a≤20:=fun h=>Nat.le_trans h.2.2.2 (by decide)
theorem o159{a:Nat}:3+3*a=3*(a+1):=by intros;simp +arith [*]
theorem o160{a b c d:Nat}:a≤c→b≤c*d→c*(d+1)=c*d+c→a+b≤c*(d+1):=fun h k e=>e▸(Nat.add_comm a b▸Nat.add_le_add k h)
theorem o161{a b c d:Nat}:b=10→c≤3+1→d≤20→a≤1→a+b+a+(0+1)+c+(0+1)+d≤50:=by intro h k l m;subst h;exact Nat.le_trans (Nat.add_le_add (Nat.add_le_add_right (Nat.add_le_add (Nat.add_le_add_right (Nat.add_le_add (Nat.add_le_add_right m 10) m) (0+1)) k) (0+1)) l) (by decide)
theorem o162:1000≤8000:=by intros;subst_vars;apply Nat.le_add_left
theorem o163{a b c d e f:Nat}:a≤e+2→b≤f+2→f+(e+c)+10*(d+1+1)≤4000→a+(0+1)+0+b+c+10*(d+1)≤4000:=fun h k l=>Nat.le_trans (Nat.add_le_add_right (Nat.le_trans (Nat.add_le_add_right (show a+1+b≤e+3+(f+2) from Nat.add_le_add (Nat.succ_le_succ h) k) c) (Nat.le_trans (Nat.le_of_eq (((congrArg (fun z=>z+2+c) (Nat.add_right_comm e 3 f)).trans (Nat.add_right_comm (e+f) 5 c)).trans (congrArg (·+5) ((Nat.add_assoc e f c).trans (Nat.add_left_comm e f c))))) (Nat.add_le_add_left (show 5≤10 by decide) _))) _) (Nat.le_trans (Nat.le_of_eq (Nat.add_right_comm _ 10 _)) l)
theorem o164{a:Nat}:a+1+1≤100→a+1≤100:=fun h=>Nat.le_of_lt h
theorem o165{a b:Nat}:a+8<b→a<b:=fun h=>Nat.lt_of_le_of_lt (Nat.le_add_right _ _) h
theorem o166{a b:Nat}:a+8<b→a+1+6<b:=fun h=>Nat.le_of_lt h
theorem o167{a:Nat}:a≤100→a≤100000:=fun h=>Nat.le_trans h (by decide)
theorem o168{a:Nat}:1<(a:Int)→1<a:=fun h=>Int.ofNat_lt.mp h
theorem o169{a:Nat}:a≤98→a≤99998:=fun h=>Nat.le_trans h (by decide)
theorem o170{a:Nat}:a≤98→a≤1000:=fun h=>Nat.le_trans h (by decide)
theorem o171{a:Nat}:(a+2)%2<2:=Nat.mod_lt _ (by decide)
theorem o172{a b c:Nat}:b+10*c≤4000→a≤b→a≤10000:=fun h k=>Nat.le_trans k (Nat.le_trans (Nat.le_trans (Nat.le_add_right b _) h) (by decide))
theorem o173{a b:Nat}:b≤100→a=b→a≤1000:=fun h k=>h7 h k (by decide)
theorem o174{a b:Nat}:a+8<b→a+1+1<b:=fun h=>h1 h (by decide)
theorem o175{a:Nat}:(a:Int)≤1→¬1<a:=fun h k=>absurd k (Nat.not_lt.mpr (Int.ofNat_le.mp h))
theorem o176{a:Nat}:¬a<56→48≤a→55<a:=by intros;simp_all +arith
theorem o178{a b:Nat}:a+1<b→a<b:=fun h=>Nat.le_of_lt h
theorem o179{a b:Nat}:a+1<b→a+1<b:=fun h=>h
theorem o180{a b:Nat}:(a:Int)=(b:Int)↔a=b:=Int.ofNat_inj
theorem o181{a b c:Nat}:a≤c→min a b≤c:=fun h=>Nat.le_trans (Nat.min_le_left a b) h
theorem o184{a b c:Nat}:c+1≤b+1→a≤c→a≤b:=fun h k=>Nat.le_trans k (Nat.le_of_succ_le_succ h)
theorem o185{a b c:Nat}:a+(c+1)+3<b→a<b:=fun h=>Nat.lt_of_le_of_lt (Nat.le_trans (Nat.le_add_right a (c+1)) (Nat.le_add_right _ 3)) h
theorem o186{a:Nat}:(a:Int)<2→a<2:=fun h=>Int.ofNat_lt.mp h
theorem o188{a b c:Nat}:a+(b+1)+3<c→a+1+b+3<c:=fun h=>by simp +arith at h ⊢;exact h
theorem o189{a b:Nat}:a+3*(b+1)+100<9900→a+3+3*b+100<9900:=fun h=>by simp +arith at h ⊢;exact h
theorem o190{a b:Nat}:b≤1000→a≤b→a≤1000:=fun h k=>Nat.le_trans k h
theorem o191{a b:Nat}:a+3*(b+1)+100<9900→a+3<9900:=fun h=>Nat.lt_of_le_of_lt (Nat.le_trans (Nat.add_le_add_left (Nat.le_mul_of_pos_right 3 (Nat.succ_pos b)) a) (Nat.le_add_right _ 100)) h
theorem o192{a:Nat}:0≤(a:Int):=Int.ofNat_nonneg _
theorem o193{a:Nat}:a<2→(a:Int)<2 ^ 63:=fun h=>h9 h (by decide)
theorem o195{a b c d:Nat}:a+(d+1)+3<c→b+1≤d→a+1+b+3<c:=fun h k=>Nat.lt_of_le_of_lt (Nat.add_le_add_right (by rw [Nat.add_assoc,Nat.add_comm 1];exact Nat.add_le_add_left (Nat.le_succ_of_le k) a) 3) h
theorem o196{a b c:Nat}:a+3*(c+1)+100<9900→b+1≤c→a+3+3*b+100<9900:=fun h k=>Nat.lt_of_le_of_lt (Nat.add_le_add_right (by rw [Nat.add_assoc,Nat.add_comm 3];exact Nat.add_le_add_left (Nat.mul_le_mul_left 3 (Nat.le_succ_of_le k)) a) 100) h
theorem o197{a:Nat}:a+1≤1000→a≤1000:=fun h=>Nat.le_of_lt h
theorem o198{a b c:Nat}:c≤100→a≤c→min a b≤100000:=fun h k=>Nat.le_trans (Nat.min_le_left a b) (Nat.le_trans k (Nat.le_trans h (by decide)))
theorem o199{a:Nat}:(a:Int)=1→a=1:=fun h=>Int.ofNat_inj.mp h
theorem o200{a:Nat}:¬(a:Int)=1→¬a=1:=fun h k=>h (Int.ofNat_inj.mpr k)
theorem o201{a b:Nat}:b+1≤1000→a≤b→a≤1000:=fun h k=>Nat.le_trans k (Nat.le_of_succ_le h)
theorem o202{a:Nat}:a≤2→2≤(a:Int)→a=2:=fun h k=>Nat.le_antisymm h (Int.ofNat_le.mp k)
theorem o203{a b:Nat}:b≤100→a≤b→a≤100000:=fun h k=>Nat.le_trans k (Nat.le_trans h (by decide))
theorem o205{a b c:Nat}:a+(c+1)+3<b→a+1+1<b:=fun h=>Nat.lt_of_le_of_lt (Nat.add_le_add_left (show 2≤c+1+3 from Nat.le_add_left 2 (c+2)) a) h
theorem o206{a b:Nat}:a+2<b→a<b:=fun h=>Nat.lt_of_le_of_lt (Nat.le_add_right _ _) h
theorem o207{a b:Nat}:(↑(a/4096%16*4096):Int)=(b:Int)*4096↔a/4096%16=b:=⟨fun h=>Nat.eq_of_mul_eq_mul_right (by decide:0 < 4096) (Int.ofNat_inj.mp (h:((a/4096%16*4096:Nat):Int)=((b*4096:Nat):Int))),fun h=>by rw [h];rfl⟩
theorem o208{a b:Nat}:a+2<b→a+1+1<b:=by intros;simp +arith [*]
theorem o209{a b:Nat}:a+2<b→a+1<b:=fun h=>Nat.le_of_lt h
theorem o210{a b:Nat}:a+5<b→a<b:=fun h=>Nat.lt_of_le_of_lt (Nat.le_add_right _ _) h
theorem o211{a b:Nat}:a+5<b→a+1<b:=fun h=>h2 h (by decide)
theorem o212{a b:Nat}:b=10→a≤1→a+b≤2 ^ 24:=by intros;subst_vars;lia
theorem o213{a b:Nat}:b=10→a≤1→a+b+a≤16777216:=by intros;subst_vars;lia
theorem o214{a b:Nat}:b=10→a≤1→a+(b+a)≤16777215:=by intro e h;subst e;exact Nat.le_trans (Nat.add_le_add h (Nat.add_le_add_left h 10)) (by decide)
theorem o215{a:Nat}:(a:Int)%4096=(↑(a%4096):Int):=by intros;subst_vars;rfl
theorem o216{a:Nat}:a%4096<8 ^ (3+1):=Nat.mod_lt _ (by decide)
theorem o217:3≤100:=by intros;subst_vars;apply Nat.le_add_left
theorem o218{a b:Nat}:a+5<b→a+1+3<b:=fun h=>Nat.le_of_lt h
theorem o219{a b c:Nat}:b=10→a≤1→c≤3+1→a+(b+(a+1))+c≤16777216:=by intro e h k;subst e;exact Nat.le_trans (Nat.add_le_add (Nat.add_le_add h (Nat.add_le_add_left (Nat.succ_le_succ h) 10)) k) (by decide)
theorem o220{a b c:Nat}:b=10→a≤1→c≤3+1→a+(b+(a+(c+1)))≤16777215:=by intros;subst_vars;lia
theorem o221{a b c d:Nat}:d≤20→b=10→a≤1→c≤3+1→a+(b+(a+(c+1+1)))+d≤16777216:=by intro l h m k;subst h;exact Nat.le_trans (Nat.add_le_add (Nat.add_le_add m (Nat.add_le_add_left (Nat.add_le_add m (Nat.succ_le_succ (Nat.succ_le_succ k))) 10)) l) (by decide)
theorem o222{a b:Nat}:(↑(a/4096%16*4096):Int)=(↑(b*4096):Int)↔a/4096%16=b:=⟨fun h=>Nat.eq_of_mul_eq_mul_right (by decide:0 < 4096) (Int.ofNat_inj.mp h),fun h=>by rw [h]⟩
theorem o223{a:Nat}:¬a+16<16:=by intros;subst_vars;simp
theorem o224{a b:Nat}:a/2 ^ b%2<2:=Nat.mod_lt _ (by decide)
theorem o225{a b c d e:Nat}:a+b+c+d+e*c=a+(b+d)+(e*c+c):=by intros;simp +arith [*]
theorem o226{a b c:Nat}:a+b*c≤16000000→a+b*c≤16777216:=fun h=>Nat.le_trans h (by decide)
theorem o227{a:Nat}:1+a=a+1:=by intros;simp_all +arith
theorem o228{a:Nat}:a≤20→a≤16000000:=fun h=>Nat.le_trans h (by decide)
theorem o229{a b:Nat}:a+(b+1)≤15→a+1+b≤15:=by intros;rw [Nat.add_right_comm];assumption
theorem o230{a b:Nat}:a+(b+1)≤15→a≤100000:=fun h=>Nat.le_trans (Nat.le_add_right _ _) (Nat.le_trans h (by decide))
theorem o231{a:Int}:-10≤a→-1099511627776≤a:=fun h=>h14 h (by decide)
theorem o232{a:Int}:a≤10→a≤1099511627776:=fun h=>h13 h (by decide)
theorem o233{a b c:Nat}:b<c-a→a≤a+b+1∧a+b+1≤c:=fun h=>⟨Nat.le_add_right a (b+1),Nat.add_comm a b▸Nat.add_lt_of_lt_sub h⟩
theorem o234{a b:Nat}:a≤b→a≤b∧b≤b:=fun h=>by simp +arith at h ⊢;exact h
theorem o235{a:Nat}:a≤10000→a≤100000:=fun h=>Nat.le_trans h (by decide)
theorem o236{a b:Nat}:a≤b→b≤a→a=b:=fun h k=>Nat.le_antisymm h k
theorem o237{a b:Nat}:0≤(a:Int)+(b:Int):=Int.ofNat_nonneg _
theorem o238{a b:Nat}:b<a→(a:Int)≤(b:Int)+1→a=b+1:=fun h k=>Nat.le_antisymm (Int.ofNat_le.mp k) h
theorem o239{a b:Nat}:a<b→a+1≤b:=fun h=>h
theorem o240{a:Nat}:a+1-a=1:=by intros;subst_vars;simp
theorem o241{a:Nat}:a≤100000→a≤100000:=by intros;simp_all +arith
theorem o242{a b:Nat}:a≤b+1→a≤b+1:=by intros;simp +arith [*]
theorem o243{a b c:Nat}:a+c<b→a<b:=fun h=>Nat.lt_of_le_of_lt (Nat.le_add_right _ _) h
theorem o244{a:Nat}:a<8 ^ (0+1)→(a:Int)≤7:=fun h=>Int.ofNat_le.mpr (Nat.le_of_lt_succ h)
theorem o245{a:Nat}:(a:Int)/8=(↑(a/8):Int):=by intros;subst_vars;rfl
theorem o246{a:Nat}:a+1≤100→a≤100:=fun h=>Nat.le_of_lt h
theorem o247{a b c:Nat}:a+(b+1)<c→a+1+b<c:=by intros;rw [Nat.add_right_comm];assumption
theorem o248{a:Nat}:0≤(a:Int)%8:=Int.ofNat_nonneg _
theorem o249{a:Nat}:(a:Int)%8<2 ^ 63:=h15 (by decide) (by decide)
theorem o250{a:Nat}:((a:Int)%8).toNat=a%8:=by intros;subst_vars;rfl
theorem o251{a:Nat}:a%8<8:=Nat.mod_lt _ (by decide)
theorem o252{a b:Nat}:b+1≤100→a≤b+1→a≤16777215:=fun h k=>Nat.le_trans k (Nat.le_trans h (by decide))
theorem o253{a:Nat}:7<(a:Int)→a>7:=fun h=>Int.ofNat_lt.mp h
theorem o254{a:Nat}:(a:Int)≤7→¬a>7:=fun h=>Nat.not_lt.mpr (Int.ofNat_le.mp h)
theorem o255{a b:Nat}:a+3<b→a<b:=fun h=>Nat.lt_of_le_of_lt (Nat.le_add_right _ _) h
theorem o256{a:Nat}:a≤1→a≤100000:=fun h=>Nat.le_trans h (by decide)
theorem o257{a b:Nat}:a+3<b→a+1<b:=fun h=>h2 h (by decide)
theorem o258{a:Nat}:(↑(a+1):Int)=(a:Int)+1:=by intros;subst_vars;rfl
theorem o259{a:Nat}:a≤100000→a≤16777215:=fun h=>Nat.le_trans h (by decide)
theorem o260{a b:Nat}:0+(b+1)≤20000→a≤1→a+b≤20000:=fun h k=>Nat.le_trans (by rw [Nat.add_comm a];exact Nat.add_le_add_left k b) (Nat.le_trans (Nat.le_of_eq (Nat.zero_add _).symm) h)
theorem o261{a b:Nat}:0+(b+1)≤20000→a≤b→0+a≤20000:=fun h k=>Nat.le_trans (Nat.add_le_add_left (Nat.le_succ_of_le k) 0) h
theorem o262{a:Nat}:a≤20000→a≤100000:=fun h=>Nat.le_trans h (by decide)
theorem o263{a b c:Nat}:c+(b+1)≤20000→a≤c+1→a+b≤20000:=fun h k=>Nat.le_trans (Nat.add_le_add_right k b) (Nat.le_trans (Nat.le_of_eq (Nat.add_right_comm c 1 b)) h)
theorem o264{a b:Nat}:a+(b+1)≤20000→a≤100000:=fun h=>Nat.le_trans (Nat.le_add_right _ _) (Nat.le_trans h (by decide))
theorem o265{a b c:Nat}:b≤10000→a≤1→a+(b-c)≤20000:=fun h k=>Nat.le_trans (Nat.add_le_add k (Nat.le_trans (Nat.sub_le b c) h)) (by decide)
theorem o266{a b:Nat}:a+6<b→a<b:=fun h=>Nat.lt_of_le_of_lt (Nat.le_add_right _ _) h
theorem o267{a b:Nat}:a+6<b→a+1+5<b:=by intros;simp +arith [*]
theorem o268{a b:Nat}:a+4<b→a<b:=fun h=>Nat.lt_of_le_of_lt (Nat.le_add_right _ _) h
theorem o269{a b:Nat}:a+4<b→a+1+2<b:=fun h=>Nat.le_of_lt h
theorem o270{a b:Nat}:a+5<b→a+1+4<b:=by intros;simp [*]
theorem o271{a b:Nat}:a+8<b→a+1+5<b:=fun h=>h1 h (by decide)
theorem o272{a b c d:Nat}:b≤10000→c+(a+d)=b→a≤10000:=fun h e=>Nat.le_trans (Nat.le_trans (Nat.le_add_right a d) (Nat.le_add_left _ c)) (Nat.le_trans (Nat.le_of_eq e) h)
theorem o273{a:Nat}:a+1≤10000→a≤99999:=fun h=>Nat.le_trans (Nat.le_add_right _ _) (Nat.le_trans h (by decide))
theorem o274{a b c d:Nat}:c≤10000→a+(b+d)=c→a+b≤100000:=fun h e=>Nat.le_trans (Nat.le_add_right (a+b) d) (Nat.le_trans (Nat.le_of_eq ((Nat.add_assoc a b d).trans e)) (Nat.le_trans h (by decide)))
theorem o275{a b:Nat}:a+4<b→a+1<b:=fun h=>h2 h (by decide)
theorem o276{a:Nat}:a≤1000→a≤2 ^ 24:=fun h=>Nat.le_trans h (by decide)
theorem o277{a b:Nat}:a+4<b→a+1+1<b:=fun h=>h1 h (by decide)
theorem o278{a:Nat}:(2-(a:Int)).toNat=2-a:=by intros;simp [*]
theorem o279{a:Nat}:(11-(a:Int)).toNat=11-a:=by intros;subst_vars;simp
theorem o280:3<1000:=by intros;subst_vars;apply Nat.le_add_left
theorem o281{a b:Nat}:a+3*(b+1)≤10→a+3+3*b≤10:=by intros;rw [Nat.add_right_comm];assumption
theorem o282{a:Nat}:a<3→0≤2-(a:Int):=fun h=>Int.sub_nonneg_of_le (Int.ofNat_le.mpr (Nat.le_of_lt_succ h))
theorem o283{a:Nat}:2-(a:Int)≤1000:=Int.le_trans (Int.sub_le_self 2 (Int.natCast_nonneg a)) (by decide)
theorem o284{a:Nat}:a<3→0≤11-(a:Int):=fun h=>Int.sub_nonneg_of_le (Int.ofNat_le.mpr (Nat.le_trans (Nat.le_of_lt h) (by decide)))
theorem o285{a:Nat}:11-(a:Int)≤1000:=Int.le_trans (Int.sub_le_self 11 (Int.natCast_nonneg a)) (by decide)
theorem o286{a b c:Nat}:a<3→a/2*4+b%2*2+c%8%2<8:=fun h=>Nat.lt_of_le_of_lt (Nat.add_le_add (Nat.add_le_add (Nat.mul_le_mul_right 4 (Nat.le_of_lt_succ (Nat.div_lt_of_lt_mul (Nat.lt_trans h (by decide:3 < 2*2))))) (Nat.mul_le_mul_right 2 (Nat.le_of_lt_succ (Nat.mod_lt b (by decide:2 > 0))))) (Nat.le_of_lt_succ (Nat.mod_lt _ (by decide:2 > 0)))) (by decide)
theorem o287{a:Nat}:a/128%6<6:=Nat.mod_lt _ (by decide)
theorem o288{a:Nat}:4+min 6 a≤10:=Nat.add_le_add_left (Nat.min_le_left 6 a) 4
theorem o289{a:Nat}:4≤a∧a≤10→0+40*a≤2000:=fun h=>Nat.le_trans (Nat.le_of_eq (Nat.zero_add _)) (Nat.le_trans (Nat.mul_le_mul_left 40 h.2) (by decide))
theorem o290{a:Nat}:4≤a∧a≤10→0+a≤100:=fun h=>Nat.le_trans (Nat.le_of_eq (Nat.zero_add _)) (Nat.le_trans h.2 (by decide))
theorem o291{a b:Nat}:min a b≤a:=Nat.min_le_left _ _
theorem o292{a b:Nat}:a+310<b→a<b:=fun h=>Nat.lt_of_le_of_lt (Nat.le_add_right _ _) h
theorem o293{a:Nat}:a≤63→a≤100000:=fun h=>Nat.le_trans h (by decide)
theorem o294{a:Nat}:min 6 a≤100000:=Nat.le_trans (Nat.min_le_left 6 a) (by decide)
theorem o295{a:Nat}:4+min 6 a≤100000:=Nat.le_trans (Nat.add_le_add_left (Nat.min_le_left 6 a) 4) (by decide)
theorem o296{a:Nat}:4≤a∧a≤10→a≤100:=fun h=>Nat.le_trans h.2 (by decide)
theorem o297{a b:Nat}:a+310<b→a+1<b:=fun h=>h2 h (by decide)
theorem o298{a b:Nat}:a+310<b→a+1+8<b:=fun h=>h1 h (by decide)
theorem o299{a:Nat}:a≤4000→a≤10000:=fun h=>Nat.le_trans h (by decide)
theorem o300{a:Nat}:a≤95→a≤10000:=fun h=>Nat.le_trans h (by decide)
theorem o301{a:Nat}:4≤a∧a≤10→a≤10:=by intros;simp +arith [*]
theorem o302{a:Nat}:a≤10→a≤100000:=fun h=>Nat.le_trans h (by decide)
theorem o303{a b:Nat}:a+310<b→a+1+2<b:=fun h=>h1 h (by decide)
theorem o304{a:Nat}:a+1≤1+a:=by intros;simp +arith [*]
theorem o305{a:Nat}:a≤10→a≤100:=fun h=>Nat.le_trans h (by decide)
theorem o306{a b c:Nat}:a+310<c→b≤95→a+1+(3*b+3)+3<c:=fun h k=>Nat.lt_of_le_of_lt (show a+1+(3*b+3)+3≤a+310 from Nat.le_trans (Nat.add_le_add_right (Nat.add_le_add_left (Nat.add_le_add_right (Nat.mul_le_mul_left 3 k) 3) (a+1)) 3) (by rw [Nat.add_assoc,Nat.add_assoc];exact Nat.add_le_add_left (by decide) a)) h
theorem o307{a b:Nat}:a≤8000→b≤95→a+3+3*(3*b+3)+100<9900:=fun h k=>Nat.lt_of_le_of_lt (Nat.add_le_add_right (Nat.add_le_add (Nat.add_le_add_right h 3) (Nat.mul_le_mul_left 3 (Nat.add_le_add_right (Nat.mul_le_mul_left 3 k) 3))) 100) (by decide)
theorem o308{a:Nat}:a≤95→a≤1000:=fun h=>Nat.le_trans h (by decide)
theorem o309{a b:Nat}:a≤10→min a b≤100000:=fun h=>Nat.le_trans (Nat.min_le_left a b) (Nat.le_trans h (by decide))
theorem o310{a b:Nat}:b≤10→a≤b→100*a≤90000:=fun h k=>Nat.le_trans (Nat.mul_le_mul_left 100 (Nat.le_trans k h)) (by decide)
theorem o311{a b:Nat}:a+310<b→a+1+5<b:=fun h=>h1 h (by decide)
theorem o312{a b:Nat}:a+310<b→a+1+3<b:=fun h=>h1 h (by decide)
theorem o313{a b c:Nat}:b≤10→c≤b→a=3*c→a≤1000:=fun h k e=>Nat.le_trans (Nat.le_of_eq e) (Nat.le_trans (Nat.mul_le_mul_left 3 (Nat.le_trans k h)) (by decide))
theorem o314{a b:Nat}:a+310<b→a+1+4<b:=fun h=>h1 h (by decide)
theorem o315{a b c d:Nat}:c≤10→d≤c→b=3*d→a≤20*b→a+b*(0+1)≤16000000:=fun h k l m=>by subst l;exact Nat.le_trans (Nat.add_le_add (Nat.le_trans m (Nat.mul_le_mul_left 20 (Nat.mul_le_mul_left 3 (Nat.le_trans k h)))) (Nat.mul_le_mul_right (0+1) (Nat.mul_le_mul_left 3 (Nat.le_trans k h)))) (by decide)
theorem o316{a:Nat}:a≤8000→a+3<9900:=fun h=>Nat.lt_of_le_of_lt (Nat.add_le_add_right h 3) (by decide)
theorem o317{a b:Nat}:b≤10→a≤b→a≤100000:=fun h k=>Nat.le_trans k (Nat.le_trans h (by decide))
theorem o318{a b c:Nat}:c≤10→b≤c→a≤50*b→a+b*(0+1)≤16000000:=fun h k m=>Nat.le_trans (Nat.add_le_add (Nat.le_trans m (Nat.mul_le_mul_left 50 (Nat.le_trans k h))) (Nat.mul_le_mul_right (0+1) (Nat.le_trans k h))) (by decide)
theorem o319{a:Nat}:0≤(a:Int)/128%6:=Int.ofNat_nonneg _
theorem o320{a:Nat}:(a:Int)/128%6<2 ^ 63:=h15 (by decide) (by decide)
theorem o321{a:Nat}:((a:Int)/128%6).toNat=a/128%6:=by intros;subst_vars;rfl
theorem o322{a b:Nat}:b≤a→a≥b:=fun h=>h
theorem o323{a:Nat}:a≤100000→1+a≤16777216:=fun h=>Nat.le_trans (Nat.add_le_add_left h _) (by decide)
theorem o324{a:Nat}:a≤100000→a≤16777214:=fun h=>Nat.le_trans h (by decide)
theorem o325{a:Nat}:a≤1000→a≤99999:=fun h=>Nat.le_trans h (by decide)
theorem o326{a:Nat}:a≤1000→a≤100000:=fun h=>Nat.le_trans h (by decide)
theorem o327{a b:Nat}:a≤1000→min a b≤100000:=fun h=>Nat.le_trans (Nat.min_le_left a b) (Nat.le_trans h (by decide))
theorem o328{a b:Nat}:b≤10000→a≤b+2→a+1≤2 ^ 24:=fun h k=>Nat.le_trans (Nat.succ_le_succ (Nat.le_trans k (Nat.add_le_add_right h 2))) (by decide)
theorem o329{a b c:Nat}:c≤10000→b≤100→a≤c+2→a+1+b≤16777216:=fun h k m=>Nat.le_trans (Nat.add_le_add (Nat.succ_le_succ (Nat.le_trans m (Nat.add_le_add_right h 2))) k) (by decide)
theorem o330{a b c d e:Nat}:d≤10000→e≤10000→b≤100→a≤d+2→c≤e+2→a+(b+1)+c≤16777216:=fun h k l m n=>Nat.le_trans (Nat.add_le_add (Nat.add_le_add (Nat.le_trans m (Nat.add_le_add_right h 2)) (Nat.succ_le_succ l)) (Nat.le_trans n (Nat.add_le_add_right k 2))) (by decide)
theorem o331{a b:Nat}:b≤1000→a=b→a<2 ^ 60:=fun h e=>Nat.lt_of_le_of_lt (Nat.le_trans (Nat.le_of_eq e) h) (by decide)
theorem o332{a b c:Nat}:c≤10000→a=b+c→b=1→a+b≤2 ^ 24:=by intros;subst_vars;lia
theorem o333{a:Nat}:¬0≤-(a:Int)-1:=by intros;simp +arith [*]
theorem o334{a:Nat}:(-(-(a:Int)-1)-1).toNat=a:=by intros;simp_all +arith
theorem o335{a:Nat}:-(-(a:Int)-1)-1=(a:Int):=by intros;simp_all +arith
theorem o336{a b c:Nat}:b+40*(c+1)≤2000→a≤35→a+b+40*c≤2000:=fun h k=>Nat.le_trans (by rw [Nat.add_assoc,Nat.add_comm a];exact Nat.add_le_add_left (Nat.le_trans k (by decide:35≤40)) _) h
theorem o337{a b:Nat}:a+(b+1)≤100→a+1+b≤100:=by intros;rw [Nat.add_right_comm];assumption
theorem o338{a b c d:Nat}:a≤d+35→d+b+40*(c+1)≤2000→a+b+40*c≤2000:=fun h k=>Nat.le_trans (Nat.add_le_add_right (Nat.le_trans (Nat.add_le_add_right h b) (Nat.le_of_eq (Nat.add_right_comm d 35 b))) (40*c)) (Nat.le_trans (Nat.le_of_eq (Nat.add_right_comm (d+b) 35 (40*c))) (Nat.le_trans (Nat.add_le_add_left (show 35≤40 by decide) (d+b+40*c)) k))
theorem o339{a b:Nat}:a+1+(b+1)≤100→a+1+b≤100:=fun h=>Nat.le_of_lt h
theorem o340{a:Nat}:a≤9→a≤34:=fun h=>Nat.le_trans h (by decide)
theorem o341{a b:Nat}:b≤9→a≤4→a+b≤35:=fun h k=>Nat.le_trans (Nat.add_le_add k h) (by decide)
theorem o342{a b:Nat}:b≤9→a≤15→a+b≤35:=fun h k=>Nat.le_trans (Nat.add_le_add k h) (by decide)
theorem o343{a b c:Nat}:a≤9→b≤c+2→a+b≤c+34:=fun h k=>Nat.le_trans (Nat.add_le_add h k) (Nat.le_trans (Nat.le_of_eq (Nat.add_comm 9 (c+2))) (Nat.add_le_add_left (show 11≤34 by decide) c))
theorem o344{a b:Nat}:a≤9→a+(b+1)≤b+34:=fun h=>Nat.le_trans (Nat.add_le_add_right h (b+1)) (Nat.le_trans (Nat.le_of_eq (Nat.add_comm 9 (b+1))) (Nat.add_le_add_left (show 10≤34 by decide) b))
theorem o345{a b:Nat}:a+40*(b+1)≤2000→a+40*b≤2000:=fun h=>Nat.le_trans (Nat.add_le_add_left (Nat.mul_le_mul_left 40 (Nat.le_succ b)) a) h
theorem o346{a:Nat}:0+1+(a+1)≤100→0+1+a≤100:=fun h=>Nat.le_of_lt h
theorem o347{a b c d e f g:Nat}:b≤9→a≤f+2→c≤g+2→g+(f+d)+40*(e+1)≤2000→a+(0+1)+b+c+d+40*e≤2000:=fun h k l m=>Nat.le_trans (Nat.add_le_add_right (Nat.le_trans (Nat.add_le_add_right (show a+1+b+c≤f+3+9+(g+2) from Nat.add_le_add (Nat.add_le_add (Nat.succ_le_succ k) h) l) d) (Nat.le_trans (Nat.le_of_eq (((congrArg (fun z=>z+2+d) (Nat.add_right_comm f 12 g)).trans (Nat.add_right_comm (f+g) 14 d)).trans (congrArg (·+14) ((Nat.add_assoc f g d).trans (Nat.add_left_comm f g d))))) (Nat.add_le_add_left (show 14≤40 by decide) _))) _) (Nat.le_trans (Nat.le_of_eq (Nat.add_right_comm _ 40 _)) m)
theorem o348{a b:Nat}:a+1+1+(b+1)≤100→a+1+b≤100:=fun h=>Nat.le_trans (Nat.add_le_add (Nat.le_succ _) (Nat.le_succ b)) h
theorem o349{a:Nat}:a%8-6≤2:=Nat.le_trans (Nat.sub_le_sub_right (Nat.le_of_lt_succ (Nat.mod_lt a (by decide:8 > 0))) 6) (by decide)
theorem o350{a b c:Nat}:a≤c→a≤b+c:=fun h=>Nat.le_trans h (Nat.le_add_left _ _)
theorem o351{a:Nat}:0≤(a:Int)/768%4:=Int.ofNat_nonneg _
theorem o352{a:Nat}:(a:Int)/768%4<2 ^ 63:=h15 (by decide) (by decide)
theorem o353{a:Nat}:((a:Int)/768%4).toNat=a/768%4:=by intros;subst_vars;rfl
theorem o354{a b:Nat}:a+(b+1)≤100→a≤1000:=fun h=>Nat.le_trans (Nat.le_add_right _ _) (Nat.le_trans h (by decide))
theorem o355{a b c:Nat}:b+40*(c+1)≤2000→a≤b→a≤2000:=fun h k=>Nat.le_trans k (Nat.le_trans (Nat.le_add_right b _) h)
theorem o356{a:Nat}:(a:Int)%8<2→a%8<2:=fun h=>Int.ofNat_lt.mp h
theorem o357{a:Nat}:a≤9→1+a≤2 ^ 24:=fun h=>Nat.le_trans (Nat.add_le_add_left h _) (by decide)
theorem o358{a:Nat}:2≤(a:Int)%8→¬a%8<2:=fun h=>Nat.not_lt.mpr (Int.ofNat_le.mp h)
theorem o359{a:Nat}:(a:Int)%8=2→a%8=2:=fun h=>Int.ofNat_inj.mp h
theorem o360{a b:Nat}:a≤b%4096→a<4096:=fun h=>Nat.lt_of_le_of_lt h (Nat.mod_lt _ (by decide))
theorem o361{a:Nat}:a<4096→a<8 ^ (3+1):=by intros;simp [*]
theorem o362{a b:Nat}:a+6<b→a+3<b:=fun h=>h2 h (by decide)
theorem o363{a b:Nat}:b≤9→a≤4→a+b≤2 ^ 24:=fun h k=>Nat.le_trans (Nat.add_le_add k h) (by decide)
theorem o364{a b:Nat}:(a:Int)=(b:Int)%4096↔a=b%4096:=Int.ofNat_inj
theorem o365{a:Nat}:¬(a:Int)%8=2→¬a%8=2:=fun h k=>h (Int.ofNat_inj.mpr k)
theorem o366{a:Nat}:(a:Int)%8=3→a%8=3:=fun h=>Int.ofNat_inj.mp h
theorem o367{a b:Nat}:b≤9→a≤15→a+b≤2 ^ 24:=fun h k=>Nat.le_trans (Nat.add_le_add k h) (by decide)
theorem o368{a:Nat}:¬(a:Int)%8=3→¬a%8=3:=fun h k=>h (Int.ofNat_inj.mpr k)
theorem o369{a:Nat}:(a:Int)%8=4→a%8=4:=fun h=>Int.ofNat_inj.mp h
theorem o370{a:Nat}:a≤999→a≤100000:=fun h=>Nat.le_trans h (by decide)
theorem o371{a:Nat}:a≤9→1+a≤16777216:=fun h=>Nat.le_trans (Nat.add_le_add_left h _) (by decide)
theorem o372{a:Nat}:a≤2000→a≤100000:=fun h=>Nat.le_trans h (by decide)
theorem o373{a b c:Nat}:a≤9→c≤2000→b≤c+2→a+1+b≤16777216:=fun h k m=>Nat.le_trans (Nat.add_le_add (Nat.add_le_add_right h 1) (Nat.le_trans m (Nat.add_le_add_right k 2))) (by decide)
theorem o374{a b:Nat}:b≤100→a=b→a≤100000:=fun h k=>h7 h k (by decide)
theorem o375{a:Nat}:¬(a:Int)%8=4→¬a%8=4:=fun h k=>h (Int.ofNat_inj.mpr k)
theorem o376{a:Nat}:(a:Int)%8=5→a%8=5:=fun h=>Int.ofNat_inj.mp h
theorem o377{a b:Nat}:a≤9→b≤2000→a+1+b≤16777216:=fun h k=>Nat.le_trans (Nat.add_le_add (Nat.succ_le_succ h) k) (by decide)
theorem o378{a b:Nat}:a≤9→b≤2000→a+b≤16777214:=fun h k=>Nat.le_trans (Nat.add_le_add h k) (by decide)
theorem o379{a:Nat}:¬(a:Int)%8=5→¬a%8=5:=fun h k=>h (Int.ofNat_inj.mpr k)
theorem o380{a:Nat}:¬a%8<2→¬a%8=2→¬a%8=3→¬a%8=4→¬a%8=5→(a:Int)%8-6=(↑(a%8-6):Int):=fun h h2 h3 h4 h5=>(Int.ofNat_sub (Nat.lt_of_le_of_ne (Nat.lt_of_le_of_ne (Nat.lt_of_le_of_ne (Nat.lt_of_le_of_ne (Nat.le_of_not_lt h) (Ne.symm h2)) (Ne.symm h3)) (Ne.symm h4)) (Ne.symm h5))).symm
theorem o381{a:Nat}:a≤998→a≤1000:=fun h=>Nat.le_trans h (by decide)
theorem o382{a:Nat}:a≤2000→a≤10000:=fun h=>Nat.le_trans h (by decide)
theorem o383{a:Nat}:a≤9→a≤100:=fun h=>Nat.le_trans h (by decide)
theorem o384{a b:Nat}:a+6<b→a+1<b:=fun h=>h2 h (by decide)
theorem h16{a:Nat}(h:a<4)(h2:¬a<2)(h3:¬a=2)(h4:¬a=3):False:=Nat.not_le.mpr h (Nat.lt_of_le_of_ne (Nat.lt_of_le_of_ne (Nat.le_of_not_lt h2) (Ne.symm h3)) (Ne.symm h4))
theorem lt2{a:Nat}(h:a<2):a=0∨a=1:=(Nat.lt_succ_iff_lt_or_eq.mp h).imp_left Nat.lt_one_iff.mp
theorem h17{a r:Nat}(h:3*a+3-r≤0)(k:r≤2):False:=absurd (Nat.le_trans (Nat.le_add_left 3 (3*a)) (Nat.le_trans (Nat.sub_eq_zero_iff_le.mp (Nat.le_zero.mp h)) k)) (by decide)
end Mine.Internal
end
section
open PySem PySem.Spec PySem.Calls PyProof.Rows PySem.W
set_option tactic.hygienic false
namespace Mine.Internal
section
noncomputable abbrev sh(s:Shared)(h:Heap)(tk:Nat):Shared:={ s with heap:=h,toks:=tk }
inductive A4(p q r s:Prop):Prop | mk (h1:p) (h2:q) (h3:r) (h4:s)
inductive E2{α:Type}(p q:α→Prop):Prop | mk (a:α) (h1:p a) (h2:q a)
inductive E3{α:Type}(p q r:α→Prop):Prop | mk (a:α) (h1:p a) (h2:q a) (h3:r a)
inductive E4{α:Type}(p q r s:α→Prop):Prop | mk (a:α) (h1:p a) (h2:q a) (h3:r a) (h4:s a)
inductive E5{α:Type}(p q r s t:α→Prop):Prop | mk (a:α) (h1:p a) (h2:q a) (h3:r a) (h4:s a) (h5:t a)
inductive AV where
 | none
 | bool (b:Bool)
 | int (i:Int)
 | str (s:Str)
 | tup (vs:List AV)
 | lst (vs:List AV)
 | mut (k:Nat)
 | inst (C:Addr) (k:Nat)
 | st (v:Value)
noncomputable abbrev tupObj (ws:List Value) (n:Nat):Obj:={ cls:=.type "tuple",data:=.seq ws.toArray n }
noncomputable abbrev lstObj (ws:List Value) (n:Nat):Obj:={ cls:=.type "list",data:=.seq ws.toArray n }
mutual
inductive Rel(g:Heap)(as:List Addr):Value→AV→Prop
 | none:Rel g as .none .none
 | bool (b:Bool):Rel g as (.bool b) (.bool b)
 | int (i:Int) (t:Tok):Rel g as (.int i t) (.int i)
 | str (x:Str) (t:Tok):Rel g as (.str x t) (.str x)
 | tup {a:Addr} {ws:List Value} {n:Nat} {dd:Option Addr} {sl:Array (Option Value)} {vs:List AV}:g.get? a=some ⟨.type "tuple",dd,.seq ws.toArray n,sl⟩→Rels g as ws vs→Rel g as (.ref a) (.tup vs)
 | lst {a:Addr} {ws:List Value} {n:Nat} {dd:Option Addr} {sl:Array (Option Value)} {vs:List AV}:g.get? a=some ⟨.type "list",dd,.seq ws.toArray n,sl⟩→Rels g as ws vs→Rel g as (.ref a) (.lst vs)
 | mut {a:Addr} {k:Nat}:as[k]?=some a→Rel g as (.ref a) (.mut k)
 | inst {x dx C:Addr} {k:Nat}:g.get? x=some (instObj C dx)→as[k]?=some dx→Rel g as (.ref x) (.inst C k)
 | st (v:Value):Rel g as v (.st v)
inductive Rels(g:Heap)(as:List Addr):List Value→List AV→Prop
 | nil:Rels g as [] []
 | cons {w:Value} {ws:List Value} {v:AV} {vs:List AV}:Rel g as w v→Rels g as ws vs→Rels g as (w::ws) (v::vs)
end
theorem yV{g:Heap}{as:List Addr}{M:Value→AV→Prop}{N:List Value→List AV→Prop}(h1:M .none .none)(h2:∀b,M (.bool b) (.bool b))(h3:∀i t,M (.int i t) (.int i))(h4:∀x t,M (.str x t) (.str x))
  (h5:∀{a ws n dd sl vs},g.get? a=some ⟨.type "tuple",dd,.seq ws.toArray n,sl⟩→N ws vs→M (.ref a) (.tup vs)) (h6:∀{a ws n dd sl vs},g.get? a=some ⟨.type "list",dd,.seq ws.toArray n,sl⟩→N ws vs→M (.ref a) (.lst vs))
  (h7:∀{a k},as[k]?=some a→M (.ref a) (.mut k)) (h8:∀{x dx C k},g.get? x=some (instObj C dx)→as[k]?=some dx→M (.ref x) (.inst C k)) (h9:∀v,M v (.st v)) (h10:N [] []) (h11:∀{w ws v vs},M w v→N ws vs→N (w::ws) (v::vs)) :
  (∀w v,Rel g as w v→M w v)∧(∀ws vs,Rels g as ws vs→N ws vs) :=
 ⟨fun Z Z r=>Rel.rec (motive_1:=fun w v Z=>M w v) (motive_2:=fun ws vs Z=>N ws vs) h1 h2 h3 h4 (fun h Z k=>h5 h k) (fun h Z k=>h6 h k) h7 h8 h9 h10 (fun Z Z a b=>h11 a b) r,
  fun Z Z r=>Rels.rec (motive_1:=fun w v Z=>M w v) (motive_2:=fun ws vs Z=>N ws vs) h1 h2 h3 h4 (fun h Z k=>h5 h k) (fun h Z k=>h6 h k) h7 h8 h9 h10 (fun Z Z a b=>h11 a b) r⟩
theorem pre_get{as as':List Addr}{n:Nat}{a:Addr}(h:as<+:as')(e:as[n]?=some a):as'[n]?=some a:=by
 obtain ⟨r,rfl⟩:=h
 rw [List.getElem?_append_left (List.getElem?_eq_some_iff.mp e).1];exact e
theorem Rel.mono2{g g':Heap}{as as':List Addr}(hg:g.StaysIn g')(ha:as<+:as'):(∀w v,Rel g as w v→Rel g' as' w v)∧(∀ws vs,Rels g as ws vs→Rels g' as' ws vs) :=
 yV .none .bool .int .str (fun h r=>.tup (hg _ _ h) r) (fun h r=>.lst (hg _ _ h) r) (fun h=>.mut (pre_get ha h)) (fun h1 h=>.inst (hg _ _ h1) (pre_get ha h)) .st .nil .cons
theorem Rel.mono{g g':Heap}{as as':List Addr}(hg:g.StaysIn g')(ha:as<+:as'){w:Value}{v:AV}(r:Rel g as w v):Rel g' as' w v:=(Rel.mono2 hg ha).1 _ _ r
theorem Rels.mono{g g':Heap}{as as':List Addr}(hg:g.StaysIn g')(ha:as<+:as'){ws:List Value}{vs:List AV}(r:Rels g as ws vs):Rels g' as' ws vs:=(Rel.mono2 hg ha).2 _ _ r
inductive InvSeq(ty:String)(g:Heap)(as:List Addr)(w:Value)(vs:List AV):Prop
 | mk (a:Addr) (ws:List Value) (n:Nat) (dd:Option Addr) (sl:Array (Option Value)) (e:w=.ref a) (h:g.get? a=some ⟨.type ty,dd,.seq ws.toArray n,sl⟩) (r:Rels g as ws vs):InvSeq ty g as w vs
inductive InvInst(g:Heap)(as:List Addr)(w:Value)(C:Addr)(k:Nat):Prop
 | mk (x dx:Addr) (e:w=.ref x) (h1:g.get? x=some (instObj C dx)) (h2:as[k]?=some dx):InvInst g as w C k
inductive InvCons(g:Heap)(as:List Addr)(ws:List Value)(v:AV)(vs:List AV):Prop
 | mk (w:Value) (ws':List Value) (e:ws=w::ws') (h:Rel g as w v∧Rels g as ws' vs):InvCons g as ws v vs
noncomputable def Rel.Inv(g:Heap)(as:List Addr)(w:Value):AV→Prop
 | .none=>∃_:Unit,w=.none
 | .bool b=>∃_:Unit,w=.bool b
 | .int i=>∃t,w=.int i t
 | .str x=>∃t,w=.str x t
 | .st v=>∃_:Unit,w=v
 | .tup vs=>InvSeq "tuple" g as w vs
 | .lst vs=>InvSeq "list" g as w vs
 | .mut k=>E2 (fun a=>w=.ref a) (fun a=>as[k]?=some a)
 | .inst C k=>InvInst g as w C k
noncomputable def Rels.Inv(g:Heap)(as:List Addr)(ws:List Value):List AV→Prop
 | []=>ws=[]
 | v::vs=>InvCons g as ws v vs
theorem Rel.inv{g:Heap}{as:List Addr}{w:Value}{v:AV}(r:Rel g as w v):Rel.Inv g as w v :=
 Rel.casesOn (motive_1:=fun w v Z=>Rel.Inv g as w v) r ⟨(),rfl⟩ (fun Z=>⟨(),rfl⟩) (fun Z t=>⟨t,rfl⟩) (fun Z t=>⟨t,rfl⟩) (fun h r=>⟨_,_,_,_,_,rfl,h,r⟩) (fun h r=>⟨_,_,_,_,_,rfl,h,r⟩) (fun h=>⟨_,rfl,h⟩) (fun h1 h=>⟨_,_,rfl,h1,h⟩) (fun Z=>⟨(),rfl⟩)
theorem Rels.inv{g:Heap}{as:List Addr}{ws:List Value}{vs:List AV}(r:Rels g as ws vs):Rels.Inv g as ws vs :=
 Rels.casesOn (motive_2:=fun ws vs Z=>Rels.Inv g as ws vs) r rfl (fun h r=>⟨_,_,rfl,h,r⟩)
theorem Rels.length{g:Heap}{as:List Addr}{ws:List Value}{vs:List AV}(r:Rels g as ws vs):ws.length=vs.length :=
 (yV (M:=fun Z Z=>True) (N:=fun ws vs=>ws.length=vs.length) trivial (fun Z=>trivial) (fun Z Z=>trivial) (fun Z Z=>trivial) (fun Z Z=>trivial) (fun Z Z=>trivial) (fun Z=>trivial) (fun Z Z=>trivial) (fun Z=>trivial) rfl (fun Z h=>congrArg (·+1) h)).2 _ _ r
theorem Rels.append{g:Heap}{as:List Addr}:∀{vs:List AV} {ws ws':List Value} {vs':List AV},Rels g as ws vs→Rels g as ws' vs'→Rels g as (ws++ws') (vs++vs'):=by
 intro vs
 induction vs with
 | nil=>intro ws ws' vs' r k;obtain rfl:=r.inv;exact k
 | cons v vs ih=>intro ws ws' vs' r k;obtain ⟨_,_,rfl,h,r⟩:=r.inv;exact .cons h (ih r k)
inductive AO where
 | list (vs:List AV)
 | dict (attrs:List (Str×AV))
 | deque (vs:List AV)
 | raw (o:Obj)
inductive Ents(g:Heap)(as:List Addr):List DictEntry→List (Str×AV)→Prop
 | nil:Ents g as [] []
 | cons {x:Str} {hh:Int} {t:Tok} {v:Value} {av:AV} {es:List DictEntry} {r:List (Str×AV)}:Rel g as v av→Ents g as es r→Ents g as (⟨hh,.str x t,v⟩::es) ((x,av)::r)
theorem Ents.mono{g g':Heap}{as as':List Addr}(hg:g.StaysIn g')(ha:as<+:as'){es:List DictEntry}{r:List (Str×AV)}(q:Ents g as es r):Ents g' as' es r:=by
 induction q with
 | nil=>exact .nil
 | cons h _ ih=>exact .cons (h.mono hg ha) ih
theorem Ents.length{g:Heap}{as:List Addr}{es:List DictEntry}{r:List (Str×AV)}(q:Ents g as es r):es.length=r.length:=by
 induction q with
 | nil=>rfl
 | cons _ _ ih=>exact congrArg (·+1) ih
theorem Ents.getL{g:Heap}{as:List Addr}(name:Str){es:List DictEntry}{r:List (Str×AV)}(q:Ents g as es r):match r.lookup name with | some av=>∃v,getL name es=some (some v)∧Rel g as v av | none=>getL name es=some none:=by
 induction q with
 | nil=>rfl
 | @cons x hh t v av es r h k ih =>
  rw [List.lookup_cons]
  cases e:name==x with
  | true =>
   refine ⟨v,?_,h⟩
   unfold PySem.W.getL
   rw [List.find?_cons_of_pos (by show (x==name)=true;rw [beq_iff_eq.mp e];exact beq_self_eq_true x)]
  | false =>
   have e2:¬(x==name)=true:=fun z=>by rw [beq_iff_eq.mp z,beq_self_eq_true] at e;cases e
   have hg:PySem.W.getL name ({ hash:=hh,key:=.str x t,val:=v }::es)=PySem.W.getL name es:=by
    unfold PySem.W.getL
    rw [List.find?_cons_of_neg (by exact e2)]
    cases es.find? (·.key.isStr name) with
    | some _=>rfl
    | none=>rw [List.any_cons];rfl
   rw [hg]
   exact ih
noncomputable abbrev dqObj (ws:List Value) (k:Int):Obj:={ cls:=.type "collections.deque",data:=.fields (#[.none,rawInt k]++ws.toArray) }
inductive Sits(P:Params)(g:Heap)(as:List Addr)(o:Obj):AO→Prop
 | list {ws:List Value} {n:Nat} {vs:List AV}:o=lstObj ws n→Rels g as ws vs→Sits P g as o (.list vs)
 | dict {es:List DictEntry} {n:Nat} {r:List (Str×AV)}:o=dictOf es n→Ents g as es r→Sits P g as o (.dict r)
 | deque {ws:List Value} {k:Int} {vs:List AV}:o=dqObj ws k→Rels g as ws vs→Sits P g as o (.deque vs)
 | raw:Sits P g as o (.raw o)
theorem Sits.mono{P:Params}{g g':Heap}{as as':List Addr}(hg:g.StaysIn g')(ha:as<+:as'){o:Obj}{ao:AO}(q:Sits P g as o ao):Sits P g' as' o ao:=by
 induction q with
 | list e r=>exact .list e (r.mono hg ha)
 | dict e r=>exact .dict e (r.mono hg ha)
 | deque e r=>exact .deque e (r.mono hg ha)
 | raw=>exact .raw
inductive InvList(g:Heap)(as:List Addr)(o:Obj)(vs:List AV):Prop
 | mk (ws:List Value) (n:Nat) (e:o=lstObj ws n) (r:Rels g as ws vs):InvList g as o vs
noncomputable def Sits.Inv(P:Params)(g:Heap)(as:List Addr)(o:Obj):AO→Prop
 | .list vs=>InvList g as o vs
 | .dict r=>∃es n,o=dictOf es n∧Ents g as es r
 | .deque vs=>∃ws k,o=dqObj ws k∧Rels g as ws vs
 | .raw o'=>o=o'
theorem Sits.inv{P:Params}{g:Heap}{as:List Addr}{o:Obj}{ao:AO}(q:Sits P g as o ao):Sits.Inv P g as o ao:=by
 induction q with
 | list e r=>exact ⟨_,_,e,r⟩
 | dict e r=>exact ⟨_,_,e,r⟩
 | deque e r=>exact ⟨_,_,e,r⟩
 | raw=>rfl
structure MuR(P:Params)(g:Heap)(as:List Addr)(mu:List AO)(h:Heap):Prop where
 keep:g.StaysIn h
 len:as.length=mu.length
 nd:as.Nodup
 at':∀(k:Nat) (a:Addr) (ao:AO),as[k]?=some a→mu[k]?=some ao→E2 (fun o=>h.get? a=some o) (fun o=>Sits P g as o ao)
 out:∀a∈as,g.get? a=none
theorem StaysIn.refl'(g:Heap):g.StaysIn g:=fun Z Z e=>e
theorem StaysIn.trans'{a b c:Heap}(x:a.StaysIn b)(y:b.StaysIn c):a.StaysIn c:=fun Z Z e=>y _ _ (x _ _ e)
theorem MuR.rebase{P:Params}{g:Heap}{as:List Addr}{mu:List AO}{h:Heap}(m:MuR P g as mu h)(own:List Addr)(ho:∀a∈own,g.get? a=none):
  A4 (g.StaysIn (hideAll h (own++as))) (MuR P (hideAll h (own++as)) as mu h) (∀b o,h.get? b=some o→b∉own→b∉as→(hideAll h (own++as)).get? b=some o) (∀a∈own,(hideAll h (own++as)).get? a=none):=by
 have st:g.StaysIn (hideAll h (own++as)):=fun b o e=>hideAll_get _ (m.keep b o e) fun hm=>by
  rcases List.mem_append.mp hm with hm | hm
  ·rw [ho b hm] at e;cases e
  ·rw [m.out b hm] at e;cases e
 refine ⟨st,⟨fun b o e=>of_hideAll _ e,m.len,m.nd,fun k a ao h1 h2=>?_,fun a ha=>hideAll_none _ (List.mem_append_right _ ha)⟩,fun b o e h1 h2=>hideAll_get _ e fun hm=>?_,fun a ha=>hideAll_none _ (List.mem_append_left _ ha)⟩
 ·obtain ⟨o,h3,h4⟩:=m.at' k a ao h1 h2
  exact ⟨o,h3,h4.mono st (List.prefix_refl _)⟩
 ·rcases List.mem_append.mp hm with hm | hm
  ·exact h1 hm
  ·exact h2 hm
structure St where
 loc:List (Str×AV)
 mu:List AO
structure Gd(K:Frag)(mg mb:Str→Option Value)(g:Heap):Prop where
 X:K.In g
 G:g.Ns mainGlobals mg
 B:g.Ns builtinsNs mb
 b:∀x:Str,x≠"__name__"→mb x=bootBuiltins x
 lim:g.NoLimit
theorem Gd.keeps{K:Frag}{mg mb:Str→Option Value}{g g':Heap}(d:Gd K mg mb g)(hk:g.StaysIn g'):Gd K mg mb g' :=
 ⟨d.X.keeps hk,d.G.keeps hk,d.B.keeps hk,d.b,d.lim.keeps hk⟩
inductive CellIs(g:Heap)(as:List Addr)(env:Env)(h:Heap)(x:Str)(av:AV):Prop
 | mk (c:Addr) (o:Obj) (v:Value) (e1:env.cells.lookup x=some c) (e2:h.get? c=some o) (e3:o.data=.cell (some v)) (e4:Rel g as v av):CellIs g as env h x av
inductive CellObj(h:Heap)(a:Addr):Prop
 | mk (o:Obj) (v:Option Value) (e1:h.get? a=some o) (e2:o.data=.cell v):CellObj h a
structure R(P:Params)(g:Heap)(as cs:List Addr)(env:Env)(σ:St)(h:Heap):Prop where
 mu:MuR P g as σ.mu h
 ns:E2 (fun m=>h.Ns env.locals m) (fun m=>∀x av,env.kindOf x=some .local→σ.loc.lookup x=some av→E2 (fun v=>m x=some v) (fun v=>Rel g as v av))
 cl:∀x av,(env.kindOf x=some .cell∨env.kindOf x=some .free)→σ.loc.lookup x=some av→CellIs g as env h x av
 off:∀a∈env.locals::cs,g.get? a=none∧a∉as
 nd:(env.locals::cs).Nodup
 cells:∀x c,env.cells.lookup x=some c→c∈cs∨(env.func=none∧∃o,g.get? c=some o)
 inj:∀x y c,env.cells.lookup x=some c→env.cells.lookup y=some c→x=y
 cc:∀a∈cs,CellObj h a
structure Cx where
 prog:Program
 w:World
 K:Frag
 mg:Str→Option Value
 mb:Str→Option Value
structure Room(A:Around)(d u:Nat):Prop where
 hd:A.handled=none
 dp:A.depth≤d
 un:A.units≤u
noncomputable def EvOK(c:Cx)(d u:Nat)(env:Env)(e:Expr)(σ:St)(K:AV→St→Prop):Prop :=
 ∀(A:Around) (g:Heap) (as cs:List Addr) (s:Shared) (Q:Value→Shared→Prop) (E:Value→Shared→Prop),Room A d u→Gd c.K c.mg c.mb g→R c.w.params g as cs env σ s.heap →
  (∀v g' as' h' tk' av σ',g.StaysIn g'→as<+:as'→R c.w.params g' as' cs env σ' h'→Rel g' as' v av→K av σ'→Q v (sh s h' tk')) →
  wpAny (model c.prog c.w) A (eval e env) Q E s
noncomputable def TsOK(c:Cx)(d u:Nat)(env:Env)(e:Expr)(σ:St)(K:Bool→St→Prop):Prop :=
 ∀(A:Around) (g:Heap) (as cs:List Addr) (s:Shared) (Q:Bool→Shared→Prop) (E:Value→Shared→Prop),Room A d u→Gd c.K c.mg c.mb g→R c.w.params g as cs env σ s.heap →
  (∀b g' as' h' tk' σ',g.StaysIn g'→as<+:as'→R c.w.params g' as' cs env σ' h'→K b σ'→Q b (sh s h' tk')) →
  wpAny (model c.prog c.w) A (isTrue e env (eval e env)) Q E s
inductive Fl where
 | next | brk | cont
 | ret (v:AV)
inductive FlR(g:Heap)(as:List Addr):Flow→Fl→Prop
 | next:FlR g as .next .next
 | brk:FlR g as .brk .brk
 | cont:FlR g as .cont .cont
 | ret {v:Value} {av:AV}:Rel g as v av→FlR g as (.ret v) (.ret av)
noncomputable def SsOK(c:Cx)(d u:Nat)(env:Env)(t:Sem Flow)(σ:St)(K:Fl→St→Prop):Prop :=
 ∀(A:Around) (g:Heap) (as cs:List Addr) (s:Shared) (Q:Flow→Shared→Prop) (E:Value→Shared→Prop),Room A d u→Gd c.K c.mg c.mb g→R c.w.params g as cs env σ s.heap →
  (∀f g' as' h' tk' af σ',g.StaysIn g'→as<+:as'→R c.w.params g' as' cs env σ' h'→FlR g' as' f af→K af σ'→Q f (sh s h' tk')) →
  wpAny (model c.prog c.w) A t Q E s
section
variable {c:Cx}{d u:Nat}{env:Env}{σ:St}
theorem qX{k:Nat}{pos:Pos}{K:AV→St→Prop}(h:K .none σ):EvOK c d u env (.Constant .none k pos) σ K:=fun A g as cs s Q E Z Z r q =>
 wpAny_pure (a:=Value.none) (q .none g as s.heap s.toks .none σ (StaysIn.refl' g) (List.prefix_refl _) r .none h)
theorem wG{b:Bool}{k:Nat}{pos:Pos}{K:AV→St→Prop}(h:K (.bool b) σ):EvOK c d u env (.Constant (.bool b) k pos) σ K:=fun A g as cs s Q E Z Z r q =>
 wpAny_pure (a:=Value.bool b) (q (.bool b) g as s.heap s.toks (.bool b) σ (StaysIn.refl' g) (List.prefix_refl _) r (.bool b) h)
theorem qH{i:Int}{k:Nat}{pos:Pos}{K:AV→St→Prop}(h:K (.int i) σ):EvOK c d u env (.Constant (.int i) k pos) σ K:=fun A g as cs s Q E Z Z r q =>
 wpAny_Constant_int (q _ g as s.heap (s.toks+1) (.int i) σ (StaysIn.refl' g) (List.prefix_refl _) r (.int i _) h)
theorem qM{x:Str}{k:Nat}{pos:Pos}{K:AV→St→Prop}(h:K (.str x) σ):EvOK c d u env (.Constant (.str x) k pos) σ K:=fun A g as cs s Q E Z Z r q =>
 wpAny_mkText (q _ g as s.heap (s.toks+1) (.str x) σ (StaysIn.refl' g) (List.prefix_refl _) r (.str x _) h)
theorem vI {x:Str} {pos:Pos} {av:AV} {K:AV→St→Prop} (hk:env.scope.kind=.function) (hl:env.kindOf x=some .local) (hd:(x==("__debug__":Str))=false) (hv:σ.loc.lookup x=some av) (h:K av σ):EvOK c d u env (.Name x pos) σ K:=fun A g as cs s Q E Z Z r q=>by
 obtain ⟨m,hn,hm⟩:=r.ns
 obtain ⟨v,e,rv⟩:=hm x av hl hv
 exact wpAny_Name (wpAny_loadName_local hk hl hn e (q v g as s.heap s.toks av σ (StaysIn.refl' g) (List.prefix_refl _) r rv h)) hd
theorem ev_cell {x:Str} {pos:Pos} {av:AV} {K:AV→St→Prop} (hk:env.scope.kind=.function) (hl:env.kindOf x=some .cell) (hd:(x==("__debug__":Str))=false) (hv:σ.loc.lookup x=some av) (h:K av σ):EvOK c d u env (.Name x pos) σ K:=fun A g as cs s Q E Z Z r q=>by
 obtain ⟨cc,o,v,e1,e2,e3,rv⟩:=r.cl x av (.inl hl) hv
 exact wpAny_Name (wpAny_loadName_cell hk hl e1 ⟨o,e2,e3⟩ (q v g as s.heap s.toks av σ (StaysIn.refl' g) (List.prefix_refl _) r rv h)) hd
end
end
noncomputable def ep{α:Type}[Nonempty α](D:α→Prop):α:=Classical.epsilon fun a=>¬D a
theorem eps{α:Type}{I:Nonempty α}(D:α→Prop){x:α}(e:x=ep D)(h:D x)(a:α):D a :=
 Classical.byContradiction fun k=>Classical.epsilon_spec (p:=fun a=>¬D a) ⟨a,k⟩ (by subst e;exact h)
theorem neParams:Nonempty Params:=⟨{ strHash:=fun Z=>0,shareClass:=fun Z=>0,mergeTok:=fun t=>t,idOf:=fun Z=>0,idOfShared:=fun Z Z=>0,followText:=fun Z=>false,idOfImm:=fun Z=>0 }⟩
theorem neProgram:Nonempty Program:=⟨{ main:=default,modules:=[],parses:=[],absent:=[] }⟩
theorem neWorld:Nonempty World:=neParams.elim fun p=>⟨⟨fun Z Z=>0,p⟩⟩
theorem neCx:Nonempty Cx:=neProgram.elim fun p=>neWorld.elim fun w=>⟨⟨p,w,[],fun Z=>none,fun Z=>none⟩⟩
theorem neAround:Nonempty Around:=⟨{}⟩
theorem neShared:Nonempty Shared:=⟨{}⟩
theorem neDrawn:Nonempty Drawn:=⟨{}⟩
theorem neOs:Nonempty OsState:=⟨{}⟩
theorem neEnv:Nonempty Env:=⟨default⟩
theorem neHeap:Nonempty Heap:=⟨{}⟩
theorem neObj:Nonempty Obj:=⟨⟨.none,none,.plain,#[]⟩⟩
theorem neScope:Nonempty Scope:=⟨default⟩
theorem neSt:Nonempty St:=⟨⟨[],[]⟩⟩
theorem all2{α:Type}{P:α→Prop}{a b:α}(ha:P a)(hb:P b):∀x,x∈[a,b]→P x:=fun x h=>by
 simp only [List.mem_cons,List.not_mem_nil,or_false] at h
 rcases h with rfl | rfl <;> assumption
theorem all3{α:Type}{P:α→Prop}{a b c:α}(ha:P a)(hb:P b)(hc:P c):∀x,x∈[a,b,c]→P x:=fun x h=>by
 simp only [List.mem_cons,List.not_mem_nil,or_false] at h
 rcases h with rfl | rfl | rfl <;> assumption
theorem all4{α:Type}{P:α→Prop}{a b c d:α}(ha:P a)(hb:P b)(hc:P c)(hd:P d):∀x,x∈[a,b,c,d]→P x:=fun x h=>by
 simp only [List.mem_cons,List.not_mem_nil,or_false] at h
 rcases h with rfl | rfl | rfl | rfl <;> assumption
theorem all6{α:Type}{P:α→Prop}{a b c d e f:α}(ha:P a)(hb:P b)(hc:P c)(hd:P d)(he:P e)(hf:P f):∀x,x∈[a,b,c,d,e,f]→P x:=fun x h=>by
 simp only [List.mem_cons,List.not_mem_nil,or_false] at h
 rcases h with rfl | rfl | rfl | rfl | rfl | rfl <;> assumption
theorem all7{α:Type}{P:α→Prop}{a b c d e f g:α}(ha:P a)(hb:P b)(hc:P c)(hd:P d)(he:P e)(hf:P f)(hg:P g):∀x,x∈[a,b,c,d,e,f,g]→P x:=fun x h=>by
 simp only [List.mem_cons,List.not_mem_nil,or_false] at h
 rcases h with rfl | rfl | rfl | rfl | rfl | rfl | rfl <;> assumption
theorem all5{α:Type}{P:α→Prop}{a b c d e:α}(ha:P a)(hb:P b)(hc:P c)(hd:P d)(he:P e):∀x,x∈[a,b,c,d,e]→P x:=fun x h=>by
 simp only [List.mem_cons,List.not_mem_nil,or_false] at h
 rcases h with rfl | rfl | rfl | rfl | rfl <;> assumption
theorem mq0{α:Type}{a b:α}{l:List α}(e:a=b):a∈b::l:=by subst e;exact .head _
theorem nA{a i j:Nat}(h:Nat.beq i j=false):a+i≠a+j:=fun e=>by rw [Nat.add_left_cancel e,Nat.beq_refl] at h;cases h
theorem nB{a i:Nat}(h:Nat.beq i 0=false):a+i≠a:=nA (j:=0) h
theorem nB'{a i:Nat}(h:Nat.beq i 0=false):a≠a+i:=(nB h).symm
theorem nC{l a i:Nat}(h:l < a):l≠a+i:=Nat.ne_of_lt (Nat.lt_of_lt_of_le h (Nat.le_add_right a i))
theorem nC'{l a i:Nat}(h:l < a):a+i≠l:=(nC h).symm
noncomputable def setL(x:Str)(av:AV):List (Str×AV)→List (Str×AV)
 | []=>[(x,av)]
 | p::r=>if p.1==x then (x,av)::r else p::setL x av r
theorem zV{α:Type}(y:Str)(p:Str×α)(r:List (Str×α)):(p::r).lookup y=if y=p.1 then some p.2 else r.lookup y:=by
 rw [show (p::r).lookup y=_ from List.lookup_cons]
 by_cases h:y=p.1
 ·rw [if_pos h,beq_iff_eq.mpr h]
 ·rw [if_neg h,beq_eq_false_iff_ne.mpr h]
theorem wV(x:Str)(av:AV)(y:Str)(l:List (Str×AV)):(setL x av l).lookup y=if y=x then some av else l.lookup y:=by
 induction l with
 | nil=>exact zV y (x,av) []
 | cons p r ih =>
  unfold setL
  by_cases hp:p.1=x
  ·rw [if_pos (beq_iff_eq.mpr hp),zV,zV,hp]
   by_cases h:y=x
   ·rw [if_pos h,if_pos h]
   ·rw [if_neg h,if_neg h,if_neg h]
  ·rw [if_neg (fun z=>hp (beq_iff_eq.mp z)),zV,zV,ih]
   by_cases h:y=p.1
   ·rw [if_pos h,if_pos h,if_neg (fun z=>hp (h▸z))]
   ·rw [if_neg h,if_neg h]
section
variable {P:Params}{g:Heap}{as cs:List Addr}{env:Env}{σ:St}{h h':Heap}
theorem R.setLocal(r:R P g as cs env σ h){x:Str}{v:Value}{av:AV}{m:Str→Option Value}(hm:∀y av,env.kindOf y=some .local→σ.loc.lookup y=some av→E2 (fun v=>m y=some v) (fun v=>Rel g as v av))
  (hl:env.kindOf x=some .local) (hn:h'.Ns env.locals (fun y=>if y=x then some v else m y)) (hs:Heap.SameBut env.locals h h') (rv:Rel g as v av):R P g as cs env { σ with loc:=setL x av σ.loc } h' where
 mu:=⟨fun b o e=>(hs.2 b fun q=>by rw [q,(r.off _ (.head _)).1] at e;cases e).trans (r.mu.keep b o e),r.mu.len,r.mu.nd,fun k a ao h1 h2=>by
  obtain ⟨o,e1,e2⟩:=r.mu.at' k a ao h1 h2
  exact ⟨o,(hs.2 a fun q=>(r.off _ (.head _)).2 (q▸List.mem_of_getElem? h1)).trans e1,e2⟩,r.mu.out⟩
 ns:=⟨_,hn,fun y av' hy hv=>by
  dsimp only at hv
  rw [wV] at hv
  by_cases e:y=x
  ·subst e
   rw [if_pos rfl] at hv
   cases hv
   exact ⟨v,if_pos rfl,rv⟩
  ·rw [if_neg e] at hv
   obtain ⟨v',e1,e2⟩:=hm y av' hy hv
   exact ⟨v',(if_neg e).trans e1,e2⟩⟩
 cl:=fun y av' hy hv=>by
  dsimp only at hv
  rw [wV] at hv
  have e:y≠x:=fun q=>by subst q;rw [hl] at hy;rcases hy with hy | hy <;> cases hy
  rw [if_neg e] at hv
  obtain ⟨c,o,v',e1,e2,e3,e4⟩:=r.cl y av' hy hv
  refine ⟨c,o,v',e1,(hs.2 c fun q=>?_).trans e2,e3,e4⟩
  rcases r.cells y c e1 with hc | ⟨_,o',hc⟩
  ·rw [q] at hc
   exact (List.nodup_cons.mp r.nd).1 hc
  ·rw [q,(r.off _ (.head _)).1] at hc;cases hc
 off:=r.off
 nd:=r.nd
 cells:=r.cells
 inj:=r.inj
 cc:=fun a ha=>by
  obtain ⟨o,v',e1,e2⟩:=r.cc a ha
  exact ⟨o,v',(hs.2 a fun q=>(List.nodup_cons.mp r.nd).1 (q▸ha)).trans e1,e2⟩
theorem R.setCell(r:R P g as cs env σ h){x:Str}{c:Addr}{v:Value}{av:AV}(hl:env.kindOf x=some .cell)(hc:env.cells.lookup x=some c)(hcs:c∈cs)
  (hv:h'.IsCell c (some v)) (hs:Heap.SameBut c h h') (rv:Rel g as v av):R P g as cs env { σ with loc:=setL x av σ.loc } h' where
 mu:=⟨fun b o e=>(hs.2 b fun q=>by rw [q,(r.off _ (.tail _ hcs)).1] at e;cases e).trans (r.mu.keep b o e),r.mu.len,r.mu.nd,fun k a ao h1 h2=>by
  obtain ⟨o,e1,e2⟩:=r.mu.at' k a ao h1 h2
  exact ⟨o,(hs.2 a fun q=>(r.off _ (.tail _ hcs)).2 (q▸List.mem_of_getElem? h1)).trans e1,e2⟩,r.mu.out⟩
 ns:=by
  obtain ⟨m,hn,hm⟩:=r.ns
  have ne:env.locals≠c:=fun q=>(List.nodup_cons.mp r.nd).1 (q▸hcs)
  refine ⟨m,hn.sameBut hs ne,fun y av' hy hv'=>?_⟩
  dsimp only at hv'
  rw [wV] at hv'
  have e:y≠x:=fun q=>by subst q;rw [hl] at hy;cases hy
  rw [if_neg e] at hv'
  exact hm y av' hy hv'
 cl:=fun y av' hy hv'=>by
  dsimp only at hv'
  rw [wV] at hv'
  by_cases e:y=x
  ·subst e
   rw [if_pos rfl] at hv'
   cases hv'
   obtain ⟨o,e1,e2⟩:=hv
   exact ⟨c,o,v,hc,e1,e2,rv⟩
  ·rw [if_neg e] at hv'
   obtain ⟨c',o,v',e1,e2,e3,e4⟩:=r.cl y av' hy hv'
   exact ⟨c',o,v',e1,(hs.2 c' fun q=>e (r.inj y x c (q▸e1) hc)).trans e2,e3,e4⟩
 off:=r.off
 nd:=r.nd
 cells:=r.cells
 inj:=r.inj
 cc:=fun a ha=>by
  by_cases q:a=c
  ·subst q
   obtain ⟨o,e1,e2⟩:=hv
   exact ⟨o,some v,e1,e2⟩
  ·obtain ⟨o,v',e1,e2⟩:=r.cc a ha
   exact ⟨o,v',(hs.2 a q).trans e1,e2⟩
end
section
variable {c:Cx}{d u:Nat}{env:Env}{σ:St}
theorem wT {x:Str} {pos:Pos} {v:Value} {av:AV} {K:AV→St→Prop} (hk:env.scope.kind=.function) (hl:env.kindOf x=some .globalImplicit) (hg:env.globals=mainGlobals) (hd:(x==("__debug__":Str))=false)
  (e:nsIn c.K mainGlobals x=some (some v)) (rv:∀g as,Rel g as v av) (h:K av σ):EvOK c d u env (.Name x pos) σ K:=fun A g as cs s Q E Z G r q =>
 Name_function_global hk hl (loadGlobal_global (hg▸G.G.keeps r.mu.keep) (mg_of G.X G.G e) (q v g as s.heap s.toks av σ (StaysIn.refl' g) (List.prefix_refl _) r (rv g as) h)) hd
theorem wD {x:Str} {pos:Pos} {v:Value} {K:AV→St→Prop} (hk:env.scope.kind=.function) (hl:env.kindOf x=some .globalImplicit) (hg:env.globals=mainGlobals) (hb:env.builtins=builtinsNs) (hd:(x==("__debug__":Str))=false)
  (e:nsIn c.K mainGlobals x=some none) (hv:bootBuiltins x=some v) (hn:x≠"__name__") (h:K (.st v) σ):EvOK c d u env (.Name x pos) σ K:=fun A g as cs s Q E Z G r q =>
 Name_function_global hk hl (loadGlobal_builtin (hg▸G.G.keeps r.mu.keep) (mg_none_of G.X G.G e) (hb▸G.B.keeps r.mu.keep) ((G.b x hn).trans hv) (q v g as s.heap s.toks (.st v) σ (StaysIn.refl' g) (List.prefix_refl _) r (.st v) h)) hd
noncomputable def SvOK(c:Cx)(env:Env)(x:Str):Prop :=
 ∀(A:Around) (g:Heap) (as cs:List Addr) (s:Shared) (σ:St) (v:Value) (av:AV) (Q:Unit→Shared→Prop) (E:Value→Shared→Prop),R c.w.params g as cs env σ s.heap→Rel g as v av →
  (∀h' tk',R c.w.params g as cs env { σ with loc:=setL x av σ.loc } h'→Q () (sh s h' tk'))→wpAny (model c.prog c.w) A (storeName env x v) Q E s
theorem qI{x:Str}(hk:env.scope.kind=.function)(hl:env.kindOf x=some .local):SvOK c env x:=fun A g as cs s σ v av Q E r rv q=>by
 obtain ⟨m,hn,hm⟩:=r.ns
 exact wpAny_storeName_local hl hn (fun h' hn' hs=>q h' _ (r.setLocal hm hl hn' hs rv)) (by rw [hk];rfl)
theorem qF{K:Fl→St→Prop}(h:K .next σ):SsOK c d u env (execs [] env) σ K:=fun A g as cs s Q E Z Z r q =>
 wpAny_execs_nil (q .next g as s.heap s.toks .next σ (StaysIn.refl' g) (List.prefix_refl _) r .next h)
noncomputable abbrev KRet(K:Fl→St→Prop):AV→St→Prop:=fun av σ'=>K (.ret av) σ'
noncomputable abbrev KI(c:Cx)(d u:Nat)(env:Env)(body orelse:List Stmt)(K:Fl→St→Prop):Bool→St→Prop:=fun b σ'=>(b=true→SsOK c d u env (execs body env) σ' K)∧(b=false→SsOK c d u env (execs orelse env) σ' K)
noncomputable abbrev Kc(c:Cx)(d u:Nat)(env:Env)(rest:List Stmt)(K:Fl→St→Prop):Fl→St→Prop:=fun f σ'=>match f with
 | .next=>SsOK c d u env (execs rest env) σ' K
 | f=>K f σ'
theorem qA{st:Stmt}{rest:List Stmt}{K:Fl→St→Prop}(h:SsOK c d u env (exec st env) σ (Kc c d u env rest K)):SsOK c d u env (execs (st::rest) env) σ K:=fun A g as cs s Q E ro G r q =>
 wpAny_execs_cons (h A g as cs s _ E ro G r fun f g' as' h' tk' af σ' hg ha r' rf k=>by
  cases rf with
  | next=>exact k A g' as' cs _ _ E ro (G.keeps hg) r' fun f2 g2 as2 h2 tk2 af2 σ2 hg2 ha2 r2 rf2 k2=>q f2 g2 as2 h2 tk2 af2 σ2 (StaysIn.trans' hg hg2) (ha.trans ha2) r2 rf2 k2
  | brk=>exact q _ g' as' h' tk' _ σ' hg ha r' .brk k
  | cont=>exact q _ g' as' h' tk' _ σ' hg ha r' .cont k
  | ret rv=>exact q _ g' as' h' tk' _ σ' hg ha r' (.ret rv) k)
theorem ss_assign{x:Str}{pos' pos:Pos}{value:Expr}{K:Fl→St→Prop}(hv:SvOK c env x)(hs:swapsWith value (some (.Name x pos')) pos.line env=pure false)
  (h:EvOK c d u env value σ (fun av σ'=>K .next { σ' with loc:=setL x av σ'.loc })):SsOK c d u env (exec (.Assign [.Name x pos'] value pos) env) σ K:=fun A g as cs s Q E ro G r q =>
 wpAny_Assign_Name (h A g as cs s _ E ro G r fun v g' as' h' tk' av σ' hg ha r' rv k=>hv A g' as' cs _ σ' v av _ E r' rv fun h2 tk2 r2=>q .next g' as' h2 tk2 .next _ hg ha r2 .next k) hs
theorem qO{e:Expr}{pos:Pos}{K:Fl→St→Prop}(h:EvOK c d u env e σ (KRet K)):SsOK c d u env (exec (.Return (some e) pos) env) σ K:=fun A g as cs s Q E ro G r q =>
 wpAny_Return_some (h A g as cs s _ E ro G r fun v g' as' h' tk' av σ' hg ha r' rv k=>q _ g' as' h' tk' _ σ' hg ha r' (.ret rv) k)
theorem qL{test:Expr}{body orelse:List Stmt}{pos:Pos}{K:Fl→St→Prop}
  (h:TsOK c d u env test σ (KI c d u env body orelse K)):SsOK c d u env (exec (.If test body orelse pos) env) σ K:=fun A g as cs s Q E ro G r q =>
 wpAny_If (h A g as cs s _ E ro G r fun b g' as' h' tk' σ' hg ha r' k=>by
  cases b with
  | true=>exact k.1 rfl A g' as' cs _ _ E ro (G.keeps hg) r' fun f2 g2 as2 h2 tk2 af2 σ2 hg2 ha2 r2 rf2 k2=>q f2 g2 as2 h2 tk2 af2 σ2 (StaysIn.trans' hg hg2) (ha.trans ha2) r2 rf2 k2
  | false=>exact k.2 rfl A g' as' cs _ _ E ro (G.keeps hg) r' fun f2 g2 as2 h2 tk2 af2 σ2 hg2 ha2 r2 rf2 k2=>q f2 g2 as2 h2 tk2 af2 σ2 (StaysIn.trans' hg hg2) (ha.trans ha2) r2 rf2 k2)
theorem vN{pos:Pos}{K:Fl→St→Prop}(h:K .brk σ):SsOK c d u env (exec (.Break pos) env) σ K:=fun A g as cs s Q E ro G r q =>
 wpAny_Break (q _ g as s.heap s.toks _ σ (StaysIn.refl' g) (List.prefix_refl _) r .brk h)
theorem ss_continue{pos:Pos}{K:Fl→St→Prop}(h:K .cont σ):SsOK c d u env (exec (.Continue pos) env) σ K:=fun A g as cs s Q E ro G r q =>
 wpAny_Continue (q _ g as s.heap s.toks _ σ (StaysIn.refl' g) (List.prefix_refl _) r .cont h)
end
noncomputable def Plainless(o:Obj):Prop:=(∀es n,o.data≠.seq es n)∧o.data≠.plain
theorem Rel.hide2{g:Heap}{as own:List Addr}(ho:∀a∈own,∀o,g.get? a=some o→Plainless o):(∀w v,Rel g as w v→Rel (hideAll g own) as w v)∧(∀ws vs,Rels g as ws vs→Rels (hideAll g own) as ws vs) :=
 yV .none .bool .int .str (fun h r=>.tup (hideAll_get own h fun q=>(ho _ q _ h).1 _ _ rfl) r) (fun h r=>.lst (hideAll_get own h fun q=>(ho _ q _ h).1 _ _ rfl) r) .mut (fun h1 h=>.inst (hideAll_get own h1 fun q=>(ho _ q _ h1).2 rfl) h) .st .nil .cons
theorem Rel.hide{g:Heap}{as own:List Addr}(ho:∀a∈own,∀o,g.get? a=some o→Plainless o){w:Value}{v:AV}(r:Rel g as w v):Rel (hideAll g own) as w v:=(Rel.hide2 ho).1 _ _ r
theorem Rels.hide{g:Heap}{as own:List Addr}(ho:∀a∈own,∀o,g.get? a=some o→Plainless o){ws:List Value}{vs:List AV}(r:Rels g as ws vs):Rels (hideAll g own) as ws vs:=(Rel.hide2 ho).2 _ _ r
theorem Ents.hide{g:Heap}{as own:List Addr}(ho:∀a∈own,∀o,g.get? a=some o→Plainless o){es:List DictEntry}{r:List (Str×AV)}(q:Ents g as es r):Ents (hideAll g own) as es r:=by
 induction q with
 | nil=>exact .nil
 | cons h _ ih=>exact .cons (h.hide ho) ih
theorem Sits.hide{P:Params}{g:Heap}{as own:List Addr}(ho:∀a∈own,∀o,g.get? a=some o→Plainless o){o:Obj}{ao:AO}:Sits P g as o ao→Sits P (hideAll g own) as o ao
 | .list e r=>.list e (r.hide ho)
 | .dict e r=>.dict e (r.hide ho)
 | .deque e r=>.deque e (r.hide ho)
 | .raw=>.raw
section
variable {P:Params}{g:Heap}{as cs:List Addr}{env:Env}{σ:St}{h:Heap}
theorem R.frame(r:R P g as cs env σ h):
  E3 (fun g₁=>g.StaysIn g₁) (fun g₁=>MuR P g₁ as σ.mu h) (fun g₁=>∀g' as' h' mu',g₁.StaysIn g'→as<+:as'→MuR P g' as' mu' h' →
   E3 (fun g''=>g.StaysIn g'') (fun g''=>R P g'' as' cs env { σ with mu:=mu' } h') (fun g''=>∀v av,Rel g' as' v av→Rel g'' as' v av)):=by
 have hc:=r.cc
 obtain ⟨st,m1,hin,_⟩:=r.mu.rebase [] (fun a ha=>(nomatch ha))
 refine ⟨_,st,m1,fun g' as' h' mu' hg ha m'=>?_⟩
 obtain ⟨m,hn,hm⟩:=r.ns
 obtain ⟨oL,es,ep,hL,hLd,hLr⟩:=id hn
 have gL:g'.get? env.locals=some oL:=hg _ _ (hin _ _ hL (fun q=>nomatch q) (r.off _ (.head _)).2)
 have gc:∀a∈cs,∃o v,g'.get? a=some o∧h.get? a=some o∧o.data=.cell v:=fun a hac=>by
  obtain ⟨o,v,e1,e2⟩:=hc a hac
  exact ⟨o,v,hg _ _ (hin _ _ e1 (fun q=>nomatch q) (r.off _ (.tail _ hac)).2),e1,e2⟩
 have ho:∀a∈env.locals::cs,∀o,g'.get? a=some o→Plainless o:=fun a hac o e=>by
  rcases List.mem_cons.mp hac with q | q
  ·subst q
   rw [gL] at e;cases e
   exact ⟨fun es n=>(by rw [hLd];intro q;cases q),(by rw [hLd];intro q;cases q)⟩
  ·obtain ⟨o',v,e1,_,e2⟩:=gc a q
   rw [e1] at e;cases e
   exact ⟨fun es n=>(by rw [e2];intro q;cases q),(by rw [e2];intro q;cases q)⟩
 have off0:∀a∈env.locals::cs,g.get? a=none:=fun a h=>(r.off a h).1
 have hgg:g.StaysIn (hideAll g' (env.locals::cs)):=fun b o e=>hideAll_get _ (hg _ _ (st _ _ e)) fun q=>by rw [off0 b q] at e;cases e
 refine ⟨hideAll g' (env.locals::cs),hgg,?_,fun v av rv=>rv.hide ho⟩
 ·refine { mu:=⟨fun b o e=>m'.keep _ _ (of_hideAll _ e),m'.len,m'.nd,fun k a ao h1 h2=>?_,fun a hm'=>?_⟩,ns:=⟨m,hn.at' fun o e=>?_,fun x av hx hv=>?_⟩,cl:=fun x av hx hv=>?_,off:=fun a hm'=>⟨hideAll_none _ hm',fun q=>?_⟩,nd:=r.nd,cells:=fun x c' e=>(r.cells x c' e).imp id fun ⟨hf,o,e2⟩=>⟨hf,o,hgg _ _ e2⟩,inj:=r.inj,cc:=fun a hac=>?_ }
  ·obtain ⟨o,e1,e2⟩:=m'.at' k a ao h1 h2
   exact ⟨o,e1,e2.hide ho⟩
  ·cases q:(hideAll g' (env.locals::cs)).get? a with
   | none=>rfl
   | some o=>have:=of_hideAll _ q;rw [m'.out a hm'] at this;cases this
  ·rw [hL] at e;cases e
   exact m'.keep _ _ gL
  ·obtain ⟨v,e1,e2⟩:=hm x av hx hv
   exact ⟨v,e1,e2.mono hgg ha⟩
  ·obtain ⟨c',o,v,e1,e2,e3,e4⟩:=r.cl x av hx hv
   refine ⟨c',o,v,e1,?_,e3,e4.mono hgg ha⟩
   rcases r.cells x c' e1 with q | ⟨_,o',q⟩
   ·obtain ⟨o2,v2,f1,f2,_⟩:=gc c' q
    rw [e2] at f2;cases f2
    exact m'.keep _ _ f1
   ·have:=r.mu.keep _ _ q
    rw [e2] at this;cases this
    exact m'.keep _ _ (hg _ _ (st _ _ q))
  ·have hnone:=m'.out a q
   rcases List.mem_cons.mp hm' with z | z
   ·subst z;rw [gL] at hnone;cases hnone
   ·obtain ⟨o2,v2,f1,_⟩:=gc a z
    rw [f1] at hnone;cases hnone
  ·obtain ⟨o2,v2,f1,_,f3⟩:=gc a hac
   exact ⟨o2,v2,m'.keep _ _ f1,f3⟩
end
end Mine.Internal
end
section
open PySem PySem.Spec PySem.Calls PyProof PyProof.Rows PySem.W
set_option tactic.hygienic false
namespace Mine.Internal
noncomputable def Op1OK(c:Cx)(d u:Nat)(op:Value→Sem Value)(a:AV)(mu:List AO)(K:AV→List AO→Prop):Prop :=
 ∀(A:Around) (g:Heap) (as:List Addr) (s:Shared) (Q:Value→Shared→Prop) (E:Value→Shared→Prop) (w:Value),Room A d u→Gd c.K c.mg c.mb g→MuR c.w.params g as mu s.heap→Rel g as w a →
  (∀v g' as' h' tk' av mu',g.StaysIn g'→as<+:as'→MuR c.w.params g' as' mu' h'→Rel g' as' v av→K av mu'→Q v (sh s h' tk')) →
  wpAny (model c.prog c.w) A (op w) Q E s
noncomputable def Op2OK(c:Cx)(d u:Nat)(op:Value→Value→Sem Value)(a b:AV)(mu:List AO)(K:AV→List AO→Prop):Prop :=
 ∀(A:Around) (g:Heap) (as:List Addr) (s:Shared) (Q:Value→Shared→Prop) (E:Value→Shared→Prop) (w x:Value),Room A d u→Gd c.K c.mg c.mb g→MuR c.w.params g as mu s.heap→Rel g as w a→Rel g as x b →
  (∀v g' as' h' tk' av mu',g.StaysIn g'→as<+:as'→MuR c.w.params g' as' mu' h'→Rel g' as' v av→K av mu'→Q v (sh s h' tk')) →
  wpAny (model c.prog c.w) A (op w x) Q E s
noncomputable def TrOK(c:Cx)(d u:Nat)(a:AV)(mu:List AO)(K:Bool→Prop):Prop :=
 ∀(A:Around) (g:Heap) (as:List Addr) (s:Shared) (Q:Bool→Shared→Prop) (E:Value→Shared→Prop) (w:Value),Room A d u→Gd c.K c.mg c.mb g→MuR c.w.params g as mu s.heap→Rel g as w a →
  (∀b tk',K b→Q b { s with toks:=tk' })→wpAny (model c.prog c.w) A (truthy w) Q E s
section
variable {c:Cx}{d u:Nat}{env:Env}{σ:St}
theorem R.op{α:Type}{P:Params}{g:Heap}{as cs:List Addr}{s:Shared}{Q:Value→Shared→Prop}{K:AV→St→Prop}(r:R P g as cs env σ s.heap)
  (q:∀v g' as' h' tk' av σ',g.StaysIn g'→as<+:as'→R P g' as' cs env σ' h'→Rel g' as' v av→K av σ'→Q v (sh s h' tk')) :
  E3 (fun g₁=>g.StaysIn g₁) (fun g₁=>MuR P g₁ as σ.mu s.heap) (fun g₁=>∀v g' as' h' tk' av mu',g₁.StaysIn g'→as<+:as'→MuR P g' as' mu' h'→Rel g' as' v av→K av { σ with mu:=mu' }→Q v (sh s h' tk')):=by
 obtain ⟨g₁,st,m1,k⟩:=r.frame
 refine ⟨g₁,st,m1,fun v g' as' h' tk' av mu' hg ha m' rv hk=>?_⟩
 obtain ⟨g'',h1,h2,h3⟩:=k g' as' h' mu' hg ha m'
 exact q v g'' as' h' tk' av _ h1 ha h2 (h3 v av rv) hk
theorem ev_bin{l r:Expr}{op:Operator}{pos:Pos}{K:AV→St→Prop}
  (h:EvOK c d u env l σ (fun a σ1=>EvOK c d u env r σ1 (fun b σ2=>Op2OK c d u (binaryOp op) a b σ2.mu (fun v mu'=>K v { σ2 with mu:=mu' })))):EvOK c d u env (.BinOp l op r pos) σ K:=fun A g as cs s Q E ro G rr q =>
 wpAny_BinOp (h A g as cs s _ E ro G rr fun v1 g1 as1 h1 tk1 a σ1 hg1 ha1 r1 rv1 k1=>k1 A g1 as1 cs _ _ E ro (G.keeps hg1) r1 fun v2 g2 as2 h2 tk2 b σ2 hg2 ha2 r2 rv2 k2=>by
  obtain ⟨g₃,st,m3,k3⟩:=r2.op (α:=Unit) (s:=(sh s h2 tk2)) (K:=K) (Q:=Q) (fun v g' as' h' tk' av σ' x1 x2 x3 x4 x5=>q v g' as' h' tk' av σ' (StaysIn.trans' (StaysIn.trans' hg1 hg2) x1) ((ha1.trans ha2).trans x2) x3 x4 x5)
  exact k2 A g₃ as2 _ Q E v1 v2 ro ((G.keeps hg1).keeps hg2 |>.keeps st) m3 ((rv1.mono hg2 ha2).mono st (List.prefix_refl _)) (rv2.mono st (List.prefix_refl _)) k3)
theorem ev_cmp{l r:Expr}{op:CmpOp}{pos:Pos}{K:AV→St→Prop}(hm:behindInMarks op r=false)
  (h:EvOK c d u env l σ (fun a σ1=>EvOK c d u env r σ1 (fun b σ2=>Op2OK c d u (compareOp op) a b σ2.mu (fun v mu'=>K v { σ2 with mu:=mu' })))):EvOK c d u env (.Compare l [op] [r] pos) σ K:=fun A g as cs s Q E ro G rr q =>
 wpAny_Compare1 (h A g as cs s _ E ro G rr fun v1 g1 as1 h1 tk1 a σ1 hg1 ha1 r1 rv1 k1=>k1 A g1 as1 cs _ _ E ro (G.keeps hg1) r1 fun v2 g2 as2 h2 tk2 b σ2 hg2 ha2 r2 rv2 k2=>by
  obtain ⟨g₃,st,m3,k3⟩:=r2.op (α:=Unit) (s:=(sh s h2 tk2)) (K:=K) (Q:=Q) (fun v g' as' h' tk' av σ' x1 x2 x3 x4 x5=>q v g' as' h' tk' av σ' (StaysIn.trans' (StaysIn.trans' hg1 hg2) x1) ((ha1.trans ha2).trans x2) x3 x4 x5)
  exact k2 A g₃ as2 _ Q E v1 v2 ro ((G.keeps hg1).keeps hg2 |>.keeps st) m3 ((rv1.mono hg2 ha2).mono st (List.prefix_refl _)) (rv2.mono st (List.prefix_refl _)) k3) hm
theorem ts_cmp{l r:Expr}{op:CmpOp}{pos:Pos}{K:Bool→St→Prop}(hm:behindInMarks op r=false)
  (h:EvOK c d u env l σ (fun a σ1=>EvOK c d u env r σ1 (fun b σ2=>Op2OK c d u (compareOp op) a b σ2.mu (fun v mu'=>∃t,v=.bool t∧K t { σ2 with mu:=mu' })))):TsOK c d u env (.Compare l [op] [r] pos) σ K:=fun A g as cs s Q E ro G rr q =>
 wpAny_isTrue_Compare1 (h A g as cs s _ E ro G rr fun v1 g1 as1 h1 tk1 a σ1 hg1 ha1 r1 rv1 k1=>k1 A g1 as1 cs _ _ E ro (G.keeps hg1) r1 fun v2 g2 as2 h2 tk2 b σ2 hg2 ha2 r2 rv2 k2=>by
  obtain ⟨g₃,st,m3,k3⟩:=r2.op (α:=Unit) (s:=(sh s h2 tk2)) (K:=fun v σ'=>∃t,v=.bool t∧K t σ') (Q:=fun v s₃=>wpAny (model c.prog c.w) A (truthy v) Q E s₃) (fun v g' as' h' tk' av σ' x1 x2 x3 x4 x5=>by
   obtain ⟨t,rfl,kt⟩:=x5
   cases x4
   exact wpAny_truthy_bool (q t g' as' h' tk' σ' (StaysIn.trans' (StaysIn.trans' hg1 hg2) x1) ((ha1.trans ha2).trans x2) x3 kt))
  exact k2 A g₃ as2 _ _ E v1 v2 ro ((G.keeps hg1).keeps hg2 |>.keeps st) m3 ((rv1.mono hg2 ha2).mono st (List.prefix_refl _)) (rv2.mono st (List.prefix_refl _)) k3) hm
noncomputable abbrev KT(c:Cx)(d u:Nat)(K:Bool→St→Prop):AV→St→Prop:=fun a σ1=>TrOK c d u a σ1.mu (fun b=>K b σ1)
theorem zI{e:Expr}{K:Bool→St→Prop}(he:isTrue e env (eval e env)=(do let v ← eval e env;standAt e.pos;holding [v] (truthy v)))
  (h:EvOK c d u env e σ (KT c d u K)):TsOK c d u env e σ K:=fun A g as cs s Q E ro G rr q =>
 isTrue_plain (h A g as cs s _ E ro G rr fun v1 g1 as1 h1 tk1 a σ1 hg1 ha1 r1 rv1 k1=>k1 A g1 as1 _ Q E v1 ro (G.keeps hg1) r1.mu rv1 fun b tk' kb=>q b g1 as1 h1 tk' σ1 hg1 ha1 r1 kb) he
theorem wO{x:Expr}{pos:Pos}{K:Bool→St→Prop}(h:TsOK c d u env x σ (fun b σ1=>K (!b) σ1)):TsOK c d u env (.UnaryOp .Not x pos) σ K:=fun A g as cs s Q E ro G rr q =>
 isTrue_not (h A g as cs s _ E ro G rr fun b g' as' h' tk' σ' hg ha r' k=>q (!b) g' as' h' tk' σ' hg ha r' k)
theorem wH{t b o:Expr}{pos:Pos}{K:AV→St→Prop}(h:TsOK c d u env t σ (fun x σ1=>(x=true→EvOK c d u env b σ1 K)∧(x=false→EvOK c d u env o σ1 K))):EvOK c d u env (.IfExp t b o pos) σ K:=fun A g as cs s Q E ro G rr q =>
 wpAny_IfExp (h A g as cs s _ E ro G rr fun x g' as' h' tk' σ' hg ha r' k=>by
  cases x with
  | true=>exact k.1 rfl A g' as' cs _ _ E ro (G.keeps hg) r' fun v2 g2 as2 h2 tk2 av2 σ2 hg2 ha2 r2 rv2 k2=>q v2 g2 as2 h2 tk2 av2 σ2 (StaysIn.trans' hg hg2) (ha.trans ha2) r2 rv2 k2
  | false=>exact k.2 rfl A g' as' cs _ _ E ro (G.keeps hg) r' fun v2 g2 as2 h2 tk2 av2 σ2 hg2 ha2 r2 rv2 k2=>q v2 g2 as2 h2 tk2 av2 σ2 (StaysIn.trans' hg hg2) (ha.trans ha2) r2 rv2 k2)
variable {mu:List AO}{K:AV→List AO→Prop}{a b:Int}{x y:Str}
theorem xX{op:Value→Value→Sem Value}{r:Int}(rule:∀(A:Around) (s:Shared) (Q E) (t u':Tok),Q (.int r s.toks) { s with toks:=s.toks+1 }→wpAny (model c.prog c.w) A (op (.int a t) (.int b u')) Q E s)(h:K (.int r) mu):Op2OK c d u op (.int a) (.int b) mu K:=fun A g as s Q E w1 w2 ro G m r1 r2 q=>by
 obtain ⟨_,rfl⟩:=r1.inv;obtain ⟨_,rfl⟩:=r2.inv
 exact rule A s Q E _ _ (q _ g as s.heap _ _ mu (StaysIn.refl' g) (List.prefix_refl _) m (.int r _) h)
theorem kW{op:Value→Value→Sem Value}{r:Bool}(rule:∀(A:Around) (s:Shared) (Q E) (t u':Tok),Q (.bool r) s→wpAny (model c.prog c.w) A (op (.int a t) (.int b u')) Q E s)(h:K (.bool r) mu):Op2OK c d u op (.int a) (.int b) mu K:=fun A g as s Q E w1 w2 ro G m r1 r2 q=>by
 obtain ⟨_,rfl⟩:=r1.inv;obtain ⟨_,rfl⟩:=r2.inv
 exact rule A s Q E _ _ (q _ g as s.heap s.toks _ mu (StaysIn.refl' g) (List.prefix_refl _) m (.bool r) h)
theorem kU{op:Value→Value→Sem Value}{r:Bool}(rule:∀(A:Around) (s:Shared) (Q E) (t u':Tok),Q (.bool r) s→wpAny (model c.prog c.w) A (op (.str x t) (.str y u')) Q E s)(h:K (.bool r) mu):Op2OK c d u op (.str x) (.str y) mu K:=fun A g as s Q E w1 w2 ro G m r1 r2 q=>by
 obtain ⟨_,rfl⟩:=r1.inv;obtain ⟨_,rfl⟩:=r2.inv
 exact rule A s Q E _ _ (q _ g as s.heap s.toks _ mu (StaysIn.refl' g) (List.prefix_refl _) m (.bool r) h)
theorem xQ(h:K (.int (a+b)) mu):Op2OK c d u (binaryOp .Add) (.int a) (.int b) mu K:=xX (fun A s Q E t u' q=>add_int q) h
theorem sub_ii(h:K (.int (a - b)) mu):Op2OK c d u (binaryOp .Sub) (.int a) (.int b) mu K:=xX (fun A s Q E t u' q=>sub_int q) h
theorem fM(h:K (.int (Builtin.bitAnd a b)) mu):Op2OK c d u (binaryOp .BitAnd) (.int a) (.int b) mu K:=xX (fun A s Q E t u' q=>and_int q) h
theorem or_ii(h:K (.int (Builtin.bitOr a b)) mu):Op2OK c d u (binaryOp .BitOr) (.int a) (.int b) mu K:=xX (fun A s Q E t u' q=>or_int q) h
theorem wM(h:K (.bool (a==b)) mu):Op2OK c d u (compareOp .Eq) (.int a) (.int b) mu K:=kW (fun A s Q E t u' q=>eq_int q) h
theorem lt_ii(h:K (.bool (decide (a < b))) mu):Op2OK c d u (compareOp .Lt) (.int a) (.int b) mu K:=kW (fun A s Q E t u' q=>lt_int q) h
theorem gt_ii(h:K (.bool (decide (a > b))) mu):Op2OK c d u (compareOp .Gt) (.int a) (.int b) mu K:=kW (fun A s Q E t u' q=>gt_int q) h
theorem xU(h:K (.bool (decide (a≥b))) mu):Op2OK c d u (compareOp .GtE) (.int a) (.int b) mu K:=kW (fun A s Q E t u' q=>ge_int q) h
theorem vU(h:K (.bool (x==y)) mu):Op2OK c d u (compareOp .Eq) (.str x) (.str y) mu K:=kU (fun A s Q E t u' q=>eq_str q) h
theorem ne_ss(h:K (.bool (x != y)) mu):Op2OK c d u (compareOp .NotEq) (.str x) (.str y) mu K:=kU (fun A s Q E t u' q=>ne_str q) h
theorem in_ss(h:K (.bool !(Builtin.Str.occurrences y x 0 y.length 1).isEmpty) mu):Op2OK c d u (compareOp .In) (.str x) (.str y) mu K:=kU (fun A s Q E t u' q=>in_str q) h
theorem nin_ss(h:K (.bool (!(!(Builtin.Str.occurrences y x 0 y.length 1).isEmpty))) mu):Op2OK c d u (compareOp .NotIn) (.str x) (.str y) mu K:=kU (fun A s Q E t u' q=>notIn_str q) h
end
noncomputable def AsOK(c:Cx)(d u:Nat)(env:Env)(args:List Expr)(σ:St)(K:List AV→St→Prop):Prop :=
 ∀(A:Around) (g:Heap) (as cs:List Addr) (s:Shared) (Q:List Value→Shared→Prop) (E:Value→Shared→Prop) (pos:Pos),Room A d u→Gd c.K c.mg c.mb g→R c.w.params g as cs env σ s.heap →
  (∀vs g' as' h' tk' avs σ',g.StaysIn g'→as<+:as'→R c.w.params g' as' cs env σ' h'→Rels g' as' vs avs→K avs σ'→Q vs (sh s h' tk')) →
  wpAny (model c.prog c.w) A (spliced (backTo pos (starEach args env))) Q E s
inductive KwR(g:Heap)(as:List Addr):List (Str×Value)→List (Str×AV)→Prop
 | nil:KwR g as [] []
 | cons {x:Str} {v:Value} {av:AV} {l:List (Str×Value)} {r:List (Str×AV)}:Rel g as v av→KwR g as l r→KwR g as ((x,v)::l) ((x,av)::r)
noncomputable def KwR.Inv(g:Heap)(as:List Addr)(l:List (Str×Value)):List (Str×AV)→Prop
 | []=>l=[]
 | p::r=>∃v l',l=(p.1,v)::l'∧Rel g as v p.2∧KwR g as l' r
theorem KwR.inv{g:Heap}{as:List Addr}:∀{l:List (Str×Value)} {r:List (Str×AV)},KwR g as l r→KwR.Inv g as l r
 | _,_,.nil=>rfl
 | _,_,.cons h r=>⟨_,_,rfl,h,r⟩
noncomputable def CallOK(c:Cx)(d u:Nat)(f:Value)(args:List AV)(kw:List (Str×AV))(mu:List AO)(K:AV→List AO→Prop):Prop :=
 ∀(A:Around) (g:Heap) (as:List Addr) (s:Shared) (Q:Value→Shared→Prop) (E:Value→Shared→Prop) (ws:List Value) (kws:List (Str×Value)),Room A d u→Gd c.K c.mg c.mb g→MuR c.w.params g as mu s.heap→Rels g as ws args→KwR g as kws kw →
  (∀v g' as' h' tk' av mu',g.StaysIn g'→as<+:as'→MuR c.w.params g' as' mu' h'→Rel g' as' v av→K av mu'→Q v (sh s h' tk')) →
  wpAny (model c.prog c.w) A (call f ws kws) Q E s
noncomputable def Keeps (K:Frag) (f:Value):Prop:=(keepIn K f=true∨∃a o vs,f=.ref a∧K.lookup a=some o∧o.cls=.type "builtin_function_or_method"∧o.data=.fields vs)∨∀a,f≠.ref a
theorem Keeps.looks{M:Model}{K:Frag}{f:Value}(h:Keeps K f)(hp:Heap)(X:K.In hp):∃k,(k=Keeper.frame∨k=Keeper.machine∨k=Keeper.boundFrame)∧Looks M hp (keeperOf f) k:=by
 rcases h with (h | ⟨a,o,vs,rfl,h1,h2,h3⟩) | h
 ·exact keeps_K h hp X
 ·refine ⟨.machine,.inr (.inl rfl),(Looks.ld (part:=none) (X _ _ h1)).andThen ?_⟩
  rw [h3,h2]
  exact .now
 ·refine ⟨.machine,.inr (.inl rfl),fun A Q E s Z q=>?_⟩
  cases f <;> first | exact wpAny_pure q | exact absurd rfl (h _)
section
variable {c:Cx}{d u:Nat}{env:Env}{σ:St}
theorem qE{K:List AV→St→Prop}(h:K [] σ):AsOK c d u env [] σ K:=fun A g as cs s Q E pos ro G r q =>
 spliced_none (q [] g as s.heap s.toks [] σ (StaysIn.refl' g) (List.prefix_refl _) r .nil h)
noncomputable abbrev KA2(a:AV)(K:List AV→St→Prop):List AV→St→Prop:=fun l σ2=>K (a::l) σ2
noncomputable abbrev KA(c:Cx)(d u:Nat)(env:Env)(rest:List Expr)(K:List AV→St→Prop):AV→St→Prop:=fun a σ1=>AsOK c d u env rest σ1 (KA2 a K)
theorem qC{e:Expr}{rest:List Expr}{K:List AV→St→Prop}(he:starEach (e::rest) env=(false,eval e env)::starEach rest env)
  (h:EvOK c d u env e σ (KA c d u env rest K)):AsOK c d u env (e::rest) σ K:=fun A g as cs s Q E pos ro G r q =>
 spliced_more (h A g as cs s _ E ro G r fun v1 g1 as1 h1 tk1 a σ1 hg1 ha1 r1 rv1 k1=>k1 A g1 as1 cs _ _ E pos ro (G.keeps hg1) r1 fun vs g2 as2 h2 tk2 l σ2 hg2 ha2 r2 rv2 k2 =>
  q (v1::vs) g2 as2 h2 tk2 (a::l) σ2 (StaysIn.trans' hg1 hg2) (ha1.trans ha2) r2 (.cons (rv1.mono hg2 ha2) rv2) k2) he
theorem star_cons{e:Expr}{rest:List Expr}(hne:∀v p,e≠.Starred v p):starEach (e::rest) env=(false,eval e env)::starEach rest env:=by
 cases e <;> first | rfl | exact absurd rfl (hne _ _)
theorem back_cons{e:Expr}{rest:List Expr}{pos:Pos}(hne:∀v p,e≠.Starred v p):backTo pos (starEach (e::rest) env)=(false,eval e env)::backTo pos (starEach rest env):=by rw [star_cons hne];rfl
theorem plain_any{pos:Pos}{l:List Expr}:(∀e∈l,∀v p,e≠.Starred v p)→(backTo pos (starEach l env)).any (·.1)=false:=by
 induction l with
 | nil=>exact fun Z=>rfl
 | cons e r ih=>intro hl;rw [back_cons (hl e (.head _))];exact ih fun e' he'=>hl e' (.tail _ he')
theorem jV{P:Heap→Prop}{f:Value}{args:List Expr}{first:List Value}{pos:Pos}{A:Around}{s:Shared}{Q:Value→Shared→Prop}{E:Value→Shared→Prop}
  (hk:∀hp,P hp→∃k,(k=Keeper.frame∨k=Keeper.machine∨k=Keeper.boundFrame)∧Looks (model c.prog c.w) hp (keeperOf f) k) (hne:∀e∈args,∀v p,e≠.Starred v p) (hP:P s.heap)
  (key:wpAny (model c.prog c.w) A (spliced (backTo pos (starEach args env))) (fun vs s₁=>P s₁.heap∧wpAny (model c.prog c.w) A (call f (first++vs)) Q E s₁) E s) :
  wpAny (model c.prog c.w) A (callWith pos f first (backTo pos (starEach args env)) []) Q E s:=by
 refine callWith_of (P:=P) (by rw [plain_any hne];rfl) hk ?_
 cases args with
 | nil =>
  have z:wpAny (model c.prog c.w) A (spliced []) (fun vs s₁=>P s₁.heap∧wpAny (model c.prog c.w) A (call f (first++vs)) Q E s₁) E s:=key
  exact evalArgs_nil3 ⟨hP,fun Γ p hΓ=>(z Γ p hΓ).2 Γ p hΓ⟩
 | cons e rest =>
  rw [back_cons (hne e (.head _))] at key ⊢
  exact evalArgs_plain key
theorem as_call{f:Value}{args:List Expr}{firstA:List AV}{first:List Value}{pos:Pos}{K:AV→St→Prop}{A:Around}{g:Heap}{as cs:List Addr}{s:Shared}{Q:Value→Shared→Prop}{E:Value→Shared→Prop}
  (hk:Keeps c.K f) (hne:∀e∈args,∀v p,e≠.Starred v p) (h:AsOK c d u env args σ (fun vs σ2=>CallOK c d u f (firstA++vs) [] σ2.mu (fun v mu'=>K v { σ2 with mu:=mu' })))
  (ro:Room A d u) (G:Gd c.K c.mg c.mb g) (r:R c.w.params g as cs env σ s.heap) (rf:Rels g as first firstA)
  (q:∀v g' as' h' tk' av σ',g.StaysIn g'→as<+:as'→R c.w.params g' as' cs env σ' h'→Rel g' as' v av→K av σ'→Q v (sh s h' tk')) :
  wpAny (model c.prog c.w) A (callWith pos f first (backTo pos (starEach args env)) []) Q E s:=by
 refine jV (P:=c.K.In) (fun hp X=>hk.looks hp X) hne (G.X.keeps r.mu.keep) ?_
 exact h A g as cs s _ E pos ro G r fun vs g2 as2 h2 tk2 l σ2 hg2 ha2 r2 rv2 k2=>by
   refine ⟨(G.X.keeps hg2).keeps r2.mu.keep,?_⟩
   obtain ⟨g₃,st,m3,k3⟩:=r2.op (α:=Unit) (s:=(sh s h2 tk2)) (K:=K) (Q:=Q) (fun v g' as' h' tk' av σ' x1 x2 x3 x4 x5=>q v g' as' h' tk' av σ' (StaysIn.trans' hg2 x1) (ha2.trans x2) x3 x4 x5)
   exact k2 A g₃ as2 _ Q E (first++vs) [] ro ((G.keeps hg2).keeps st) m3 (((rf.mono hg2 ha2).append rv2).mono st (List.prefix_refl _)) .nil k3
theorem hV{n:Str}{np:Pos}{args:List Expr}{pos:Pos}{K:AV→St→Prop}(hne:∀e∈args,∀v p,e≠.Starred v p)
  (h:EvOK c d u env (.Name n np) σ (fun fv σ1=>∃f,fv=.st f∧Keeps c.K f∧AsOK c d u env args σ1 (fun vs σ2=>CallOK c d u f vs [] σ2.mu (fun v mu'=>K v { σ2 with mu:=mu' })))) :
  EvOK c d u env (.Call (.Name n np) args [] pos) σ K:=fun A g as cs s Q E ro G r q=>by
 show wpAny (model c.prog c.w) A (do callWith pos (← eval (.Name n np) env) [] (backTo pos (starEach args env)) (backToKw pos (keywordEach [] env))) Q E s
 refine wpAny_bind (h A g as cs s _ E ro G r fun v1 g1 as1 h1 tk1 a σ1 hg1 ha1 r1 rv1 k1=>?_)
 obtain ⟨f,rfl,hk,k2⟩:=k1
 obtain ⟨_,rfl⟩:=rv1.inv
 exact as_call (firstA:=[]) hk hne k2 ro (G.keeps hg1) r1 .nil fun v g' as' h' tk' av σ' x1 x2 x3 x4 x5=>q v g' as' h' tk' av σ' (StaysIn.trans' hg1 x1) (ha1.trans x2) x3 x4 x5
end
noncomputable def backK(K:AV→List AO→Prop):Fl→St→Prop
 | .ret v,σ=>K v σ.mu
 | .next,σ=>K .none σ.mu
 | _,_=>False
section
variable {c:Cx}{d u:Nat}{f:Addr}{args:List AV}{kw:List (Str×AV)}{mu:List AO}{K:AV→List AO→Prop}
 {name qual:Str} {params:Arguments} {body:List Stmt} {scope:Scope} {dV kV doc pm cdv ct oc:Value} {an od:Option Addr} {osl:Array (Option Value)}
noncomputable def BindOK(c:Cx)(fd:FuncData)(args:List AV)(kw:List (Str×AV))(loc:List (Str×AV)):Prop :=
 ∀(g:Heap) (as:List Addr) (s:Shared) (ws:List Value) (kws:List (Str×Value)),Gd c.K c.mg c.mb g→g.StaysIn s.heap→Rels g as ws args→KwR g as kws kw →
  E3 (fun binds=>BindsTo s fd ⟨ws,kws⟩ binds) (fun binds=>∀x∈binds,fd.scope.names.lookup x.1=some .local) (fun binds=>∀x av,loc.lookup x=some av→E2 (fun v=>binds.reverse.lookup x=some v) (fun v=>Rel g as v av))
theorem jE{loc:List (Str×AV)}(ho:c.K.lookup f=some ⟨oc,od,.func (fnOf name qual params body scope dV kV doc pm an cdv ct),osl⟩)(hcd:codeIn c.K cdv qual=true)(hroom:d < recursionLimit)
  (hb:BindOK c (fnOf name qual params body scope dV kV doc pm an cdv ct) args kw loc)
  (h:∀L,SsOK c (d+1) (u+3) (envOf qual scope L f cdv) (execs body (envOf qual scope L f cdv)) ⟨loc,mu⟩ (backK K))
  (hco:scope.isCoroutine=false) (hgen:scope.isGenerator=false) (hk:scope.kind=.function) (hcell:∀x∈scope.names,x.2≠.cell) :
  CallOK c d u (.ref f) args kw mu K:=fun A g as s Q E ws kws ro G m rs rk q=>by
 obtain ⟨binds,hbi,hloc,hrel⟩:=hb g as s ws kws G m.keep rs rk
 refine wpAny_call (codeAny_call_def (fd:=fnOf name qual params body scope dV kV doc pm an cdv ct) (body:=body) (binds:=binds) (Nat.lt_of_le_of_lt ro.dp hroom) (m.keep _ _ (G.X _ _ ho)) rfl (G.lim.keeps m.keep) (codeRec_of (G.X.keeps m.keep) hcd) rfl hbi hcell hloc (fun h₁ hns hk₁=>?_) hco hgen hk)
 have hL:g.get? s.heap.objs.size=none:=by
  cases e:g.get? s.heap.objs.size with
  | none=>rfl
  | some o=>exact absurd (Heap.lt_size (m.keep _ _ e)) (Nat.lt_irrefl _)
 have hLas:s.heap.objs.size∉as:=fun hm=>by
  obtain ⟨k,hk⟩:=List.getElem?_of_mem hm
  have hlt:k < mu.length:=by rw [← m.len];exact (List.getElem?_eq_some_iff.mp hk).1
  obtain ⟨o,e,_⟩:=m.at' k _ _ hk (List.getElem?_eq_getElem hlt)
  exact absurd (Heap.lt_size e) (Nat.lt_irrefl _)
 have r₀:R c.w.params g as [] (envOf qual scope s.heap.objs.size f cdv) ⟨loc,mu⟩ h₁ :=
  {mu:=⟨fun b o e=>hk₁ _ _ (m.keep b o e),m.len,m.nd,fun k a ao h1 h2=>by
    obtain ⟨o,e1,e2⟩:=m.at' k a ao h1 h2
    exact ⟨o,hk₁ _ _ e1,e2⟩,m.out⟩
   ns:=⟨_,hns,fun x av Z hv=>hrel x av hv⟩
   cl:=fun x av hx hv=>by
    have hkf:(envOf qual scope s.heap.objs.size f cdv).kindOf x=scope.names.lookup x:=rfl
    obtain ⟨v,e1,_⟩:=hrel x av hv
    have hmem:∃p∈binds,p.1=x:=by
     have:binds.reverse.lookup x≠none:=by rw [e1];exact fun q=>nomatch q
     obtain ⟨p,hp,hpx⟩:∃p∈binds.reverse,p.1=x:=by
      clear hrel hloc hbi
      revert this
      generalize binds.reverse=l
      intro this
      induction l with
      | nil=>exact absurd rfl this
      | cons p l ih =>
       obtain ⟨p1,p2⟩:=p
       by_cases hb:(x==p1)=true
       ·exact ⟨(p1,p2),.head _,(beq_iff_eq.mp hb).symm⟩
       ·have hb':(x==p1)=false:=by simpa using hb
        rw [List.lookup_cons,hb'] at this
        obtain ⟨q,hq,e⟩:=ih this
        exact ⟨q,.tail _ hq,e⟩
     exact ⟨p,List.mem_reverse.mp hp,hpx⟩
    obtain ⟨p,hp,rfl⟩:=hmem
    rw [hkf,hloc p hp] at hx
    rcases hx with hx | hx <;> cases hx
   off:=fun a ha=>by
    rcases List.mem_cons.mp ha with e | e
    ·subst e;exact ⟨hL,hLas⟩
    ·cases e
   nd:=by simp
   cells:=fun x c' e=>by cases e
   inj:=fun x y c' e=>by cases e
   cc:=fun a ha=>by cases ha }
 exact h s.heap.objs.size (A.deeper (envOf qual scope s.heap.objs.size f cdv)) g as [] _ _ _ ⟨ro.hd,Nat.succ_le_succ ro.dp,Nat.add_le_add_right ro.un 3⟩ G r₀ fun fl g' as' h' tk' af σ' hg ha r' rf k=>by
  cases rf with
  | next=>exact q .none g' as' h' tk' .none σ'.mu hg ha r'.mu .none k
  | brk=>exact k.elim
  | cont=>exact k.elim
  | ret rv=>exact q _ g' as' h' tk' _ σ'.mu hg ha r'.mu rv k
theorem len1{ws:List Value}(h:ws.length=1):∃a,ws=[a]:=by
 cases ws with
 | nil=>cases h
 | cons a ws=>cases ws with
  | nil=>exact ⟨a,rfl⟩
  | cons b ws=>cases h
theorem lenS{ws:List Value}{n:Nat}(h:ws.length=n+1):∃a r,ws=a::r∧r.length=n:=by
 cases ws with
 | nil=>cases h
 | cons a r=>exact ⟨a,r,rfl,Nat.succ.inj h⟩
theorem len2{ws:List Value}(h:ws.length=2):∃a b,ws=[a,b]:=by
 obtain ⟨a,r,rfl,h'⟩:=lenS h
 obtain ⟨b,rfl⟩:=len1 h'
 exact ⟨a,b,rfl⟩
theorem len3{ws:List Value}(h:ws.length=3):∃a b c,ws=[a,b,c]:=by
 obtain ⟨a,r,rfl,h'⟩:=lenS h
 obtain ⟨b,c,rfl⟩:=len2 h'
 exact ⟨a,b,c,rfl⟩
theorem len4{ws:List Value}(h:ws.length=4):∃a b c d,ws=[a,b,c,d]:=by
 obtain ⟨a,r,rfl,h'⟩:=lenS h
 obtain ⟨b,c,d,rfl⟩:=len3 h'
 exact ⟨a,b,c,d,rfl⟩
theorem jF{names:List Str}(fd:FuncData)(hl:names.length=args.length)(hb:∀ws:List Value,ws.length=names.length→bindArgs fd ⟨ws,[]⟩=pure (names.zip ws))(hloc:∀x∈names,fd.scope.names.lookup x=some .local)(hnd:names.Nodup):
  BindOK c fd args [] (names.zip args):=fun g as s ws kws G k rs rk=>by
 obtain rfl:=rk.inv
 have hw:ws.length=names.length:=rs.length.trans hl.symm
 refine ⟨names.zip ws,BindsTo.of_eq (hb ws hw),fun x hx=>hloc x.1 (List.of_mem_zip hx).1,fun x av hv=>?_⟩
 clear hb hloc hw hl
 have aux:∀(names:List Str) (args:List AV) (ws:List Value),names.Nodup→Rels g as ws args→(names.zip args).lookup x=some av→∃v,(names.zip ws).reverse.lookup x=some v∧Rel g as v av:=by
  intro names
  induction names with
  | nil=>intro args ws _ _ e;cases e
  | cons n names ih =>
   intro args ws hn hr e
   cases hr with
   | nil=>cases e
   | cons h1 h2 =>
    rw [List.zip_cons_cons,List.lookup_cons] at e
    rw [List.zip_cons_cons,List.reverse_cons,List.lookup_append]
    by_cases hb:(x==n)=true
    ·rw [hb] at e
     cases e
     have hx:x=n:=beq_iff_eq.mp hb
     subst hx
     have hno:∀(l:List Str) (vs:List Value),x∉l→(l.zip vs).reverse.lookup x=none:=by
      intro l
      induction l with
      | nil=>intro vs _;rfl
      | cons y l ih =>
       intro vs hn
       cases vs with
       | nil=>rfl
       | cons v vs =>
        rw [List.zip_cons_cons,List.reverse_cons,List.lookup_append,ih vs fun h=>hn (.tail _ h)]
        have:(x==y)=false:=beq_eq_false_iff_ne.mpr fun h=>hn (h▸.head _)
        simp [List.lookup_cons,this]
     rw [hno names _ (List.nodup_cons.mp hn).1]
     exact ⟨_,by simp [List.lookup_cons],h1⟩
    ·have hb':(x==n)=false:=by simpa using hb
     rw [hb'] at e
     obtain ⟨v,e1,e2⟩:=ih _ _ (List.nodup_cons.mp hn).2 h2 e
     exact ⟨v,by rw [e1];rfl,e2⟩
 exact let ⟨v,e1,e2⟩:=aux names args ws hnd rs hv;⟨v,e1,e2⟩
end
section
variable {P:Params}{g:Heap}{as:List Addr}{mu:List AO}{h:Heap}
theorem MuR.size_out(m:MuR P g as mu h):g.get? h.objs.size=none∧h.objs.size∉as:=by
 constructor
 ·cases e:g.get? h.objs.size with
  | none=>rfl
  | some o=>exact absurd (Heap.lt_size (m.keep _ _ e)) (Nat.lt_irrefl _)
 ·intro hm
  obtain ⟨k,hk⟩:=List.getElem?_of_mem hm
  have hlt:k < mu.length:=by rw [← m.len];exact (List.getElem?_eq_some_iff.mp hk).1
  obtain ⟨o,e,_⟩:=m.at' k _ _ hk (List.getElem?_eq_getElem hlt)
  exact absurd (Heap.lt_size e) (Nat.lt_irrefl _)
theorem MuR.frozen(m:MuR P g as mu h)(o:Obj)(hf:o.isFreed=false):E3 (fun g'=>g.StaysIn g') (fun g'=>g'.get? h.objs.size=some o) (fun g'=>MuR P g' as mu (h.push o)):=by
 have mp:MuR P g as mu (h.push o):=⟨fun b o' e=>Heap.get?_push_of_some _ (m.keep b o' e),m.len,m.nd,fun k a ao h1 h2=>by
  obtain ⟨o',e1,e2⟩:=m.at' k a ao h1 h2
  exact ⟨o',Heap.get?_push_of_some _ e1,e2⟩,m.out⟩
 obtain ⟨st,m1,hin,_⟩:=mp.rebase [] (fun a ha=>(nomatch ha))
 exact ⟨_,st,hin _ _ (Heap.get?_push_size _ hf) (fun q=>nomatch q) m.size_out.2,m1⟩
theorem MuR.grow(m:MuR P g as mu h)(o:Obj)(hf:o.isFreed=false){ao:AO}(so:Sits P g as o ao):MuR P g (as++[h.objs.size]) (mu++[ao]) (h.push o) where
 keep:=fun b o' e=>Heap.get?_push_of_some _ (m.keep b o' e)
 len:=by simp [m.len]
 nd:=List.nodup_append.mpr ⟨m.nd,by simp,fun a ha b hb=>by
  rw [List.mem_singleton.mp hb]
  intro e
  exact m.size_out.2 (e▸ha)⟩
 at':=fun k a ao' h1 h2=>by
  have pf:as<+:as++[h.objs.size]:=List.prefix_append _ _
  by_cases hk:k < as.length
  ·rw [List.getElem?_append_left hk] at h1
   rw [List.getElem?_append_left (m.len▸hk)] at h2
   obtain ⟨o',e1,e2⟩:=m.at' k a ao' h1 h2
   exact ⟨o',Heap.get?_push_of_some _ e1,e2.mono (StaysIn.refl' g) pf⟩
  ·rw [List.getElem?_append_right (Nat.le_of_not_lt hk)] at h1
   rw [List.getElem?_append_right (m.len▸Nat.le_of_not_lt hk)] at h2
   have e0:k - as.length=0:=by
    have:=(List.getElem?_eq_some_iff.mp h1).1
    simp at this
    exact this
   rw [← m.len,e0] at h2
   rw [e0] at h1
   cases h1;cases h2
   exact ⟨o,Heap.get?_push_size _ hf,so.mono (StaysIn.refl' g) pf⟩
 out:=fun a ha=>by
  rcases List.mem_append.mp ha with ha | ha
  ·exact m.out a ha
  ·rw [List.mem_singleton.mp ha];exact m.size_out.1
end
section
variable {c:Cx}{d u:Nat}{env:Env}{σ:St}
theorem vR{elts:List Expr}{n:Nat}{pos:Pos}{K:AV→St→Prop}(h:AsOK c d u env elts σ (fun vs σ1=>vs.length≤1000∧K (.tup vs) σ1)):EvOK c d u env (.Tuple elts n pos) σ K:=fun A g as cs s Q E ro G r q=>by
 refine Tuple_ (h A g as cs s _ E pos ro G r fun vs g1 as1 h1 tk1 avs σ1 hg1 ha1 r1 rv1 k1=>?_)
 have hlen:=rv1.length
 refine wpAny_newObj_type ?_ (by show vs.toArray.size≤sizeLine;rw [List.size_toArray,hlen];exact Nat.le_trans k1.1 (by decide))
 obtain ⟨g₃,st,m3,k3⟩:=r1.op (α:=Unit) (s:=(sh s h1 tk1)) (K:=K) (Q:=Q) (fun v g' as' h' tk' av σ' x1 x2 x3 x4 x5=>q v g' as' h' tk' av σ' (StaysIn.trans' hg1 x1) (ha1.trans x2) x3 x4 x5)
 obtain ⟨g₄,st4,e4,m4⟩:=m3.frozen (tupObj vs 0) rfl
 exact k3 _ g₄ as1 _ tk1 _ σ1.mu st4 (List.prefix_refl _) m4 (.tup e4 (rv1.mono (StaysIn.trans' st st4) (List.prefix_refl _))) k1.2
theorem yB{elts:List Expr}{pos:Pos}{K:AV→St→Prop}(h:AsOK c d u env elts σ (fun vs σ1=>vs.length≤1000∧K (.lst vs) σ1)):EvOK c d u env (.List elts pos) σ K:=fun A g as cs s Q E ro G r q=>by
 refine List_ (h A g as cs s _ E pos ro G r fun vs g1 as1 h1 tk1 avs σ1 hg1 ha1 r1 rv1 k1=>?_)
 have hlen:=rv1.length
 refine wpAny_newObj_type ?_ (by show vs.toArray.size≤sizeLine;rw [List.size_toArray,hlen];exact Nat.le_trans k1.1 (by decide))
 obtain ⟨g₃,st,m3,k3⟩:=r1.op (α:=Unit) (s:=(sh s h1 tk1)) (K:=K) (Q:=Q) (fun v g' as' h' tk' av σ' x1 x2 x3 x4 x5=>q v g' as' h' tk' av σ' (StaysIn.trans' hg1 x1) (ha1.trans x2) x3 x4 x5)
 obtain ⟨g₄,st4,e4,m4⟩:=m3.frozen (lstObj vs 0) rfl
 exact k3 _ g₄ as1 _ tk1 _ σ1.mu st4 (List.prefix_refl _) m4 (.lst e4 (rv1.mono (StaysIn.trans' st st4) (List.prefix_refl _))) k1.2
theorem jC{elts:List Expr}{pos:Pos}{K:AV→St→Prop}(h:AsOK c d u env elts σ (fun vs σ1=>vs.length≤1000∧K (.mut σ1.mu.length) { σ1 with mu:=σ1.mu++[.list vs] })):EvOK c d u env (.List elts pos) σ K:=fun A g as cs s Q E ro G r q=>by
 refine List_ (h A g as cs s _ E pos ro G r fun vs g1 as1 h1 tk1 avs σ1 hg1 ha1 r1 rv1 k1=>?_)
 have hlen:=rv1.length
 refine wpAny_newObj_type ?_ (by show vs.toArray.size≤sizeLine;rw [List.size_toArray,hlen];exact Nat.le_trans k1.1 (by decide))
 obtain ⟨g₃,st,m3,k3⟩:=r1.op (α:=Unit) (s:=(sh s h1 tk1)) (K:=K) (Q:=Q) (fun v g' as' h' tk' av σ' x1 x2 x3 x4 x5=>q v g' as' h' tk' av σ' (StaysIn.trans' hg1 x1) (ha1.trans x2) x3 x4 x5)
 have m4:=m3.grow (lstObj vs 0) rfl (.list rfl (rv1.mono st (List.prefix_refl _)))
 exact k3 _ g₃ _ _ tk1 _ _ (StaysIn.refl' _) (List.prefix_append _ _) m4 (.mut (by rw [← m3.len];simp)) k1.2
theorem ev_sub{value slice:Expr}{pos:Pos}{K:AV→St→Prop}
  (h:EvOK c d u env value σ (fun a σ1=>EvOK c d u env slice σ1 (fun b σ2=>Op2OK c d u (subscriptTail value slice) a b σ2.mu (fun v mu'=>K v { σ2 with mu:=mu' })))):EvOK c d u env (.Subscript value slice pos) σ K:=fun A g as cs s Q E ro G rr q =>
 Subscript_ (h A g as cs s _ E ro G rr fun v1 g1 as1 h1 tk1 a σ1 hg1 ha1 r1 rv1 k1=>k1 A g1 as1 cs _ _ E ro (G.keeps hg1) r1 fun v2 g2 as2 h2 tk2 b σ2 hg2 ha2 r2 rv2 k2=>by
  obtain ⟨g₃,st,m3,k3⟩:=r2.op (α:=Unit) (s:=(sh s h2 tk2)) (K:=K) (Q:=Q) (fun v g' as' h' tk' av σ' x1 x2 x3 x4 x5=>q v g' as' h' tk' av σ' (StaysIn.trans' (StaysIn.trans' hg1 hg2) x1) ((ha1.trans ha2).trans x2) x3 x4 x5)
  exact k2 A g₃ as2 _ Q E v1 v2 ro ((G.keeps hg1).keeps hg2 |>.keeps st) m3 ((rv1.mono hg2 ha2).mono st (List.prefix_refl _)) (rv2.mono st (List.prefix_refl _)) k3)
theorem Rels.get{g:Heap}{as:List Addr}{ws:List Value}{vs:List AV}{j:Nat}{v:AV}(r:Rels g as ws vs)(e:vs[j]?=some v):∃w,ws[j]?=some w∧Rel g as w v:=by
 induction vs generalizing ws j with
 | nil=>cases e
 | cons v vs ih =>
  obtain ⟨_,_,rfl,h,r⟩:=r.inv
  cases j with
  | zero=>cases e;exact ⟨_,rfl,h⟩
  | succ j=>exact ih r (j:=j) e
variable {mu:List AO}{K:AV→List AO→Prop}
theorem seq_at{k:Int}{n:Nat}(h0:0≤k)(h:k.toNat < n):seqIndex? k n=some k.toNat:=by
 obtain ⟨m,rfl⟩:=Int.eq_ofNat_of_zero_le h0
 have h':(m:Int) < n:=Int.ofNat_lt.mpr h
 unfold seqIndex?
 rw [if_neg (Int.not_lt.mpr h0)]
 show (if (decide (0≤(m:Int))&&decide ((m:Int) < n))=true then some (m:Int).toNat else none)=_
 rw [decide_eq_true h0,decide_eq_true h']
 rfl
theorem sub_tup{value slice:Expr}{vs:List AV}{k:Int}{v:AV}(h0:0≤k)(h1:k < 2 ^ 63)(hv:vs[k.toNat]?=some v)(hs:∀o i,subscripted slice false o i=operate [o,i] (getItem o i))(h:K v mu):Op2OK c d u (subscriptTail value slice) (.tup vs) (.int k) mu K:=fun A g as s Q E w1 w2 ro G m r1 r2 q=>by
 obtain ⟨_,rfl⟩:=r2.inv
 obtain ⟨_,_,_,_,_,rfl,e,rs⟩:=r1.inv
 obtain ⟨w,e1,rw1⟩:=rs.get hv
 have hlt:=(List.getElem?_eq_some_iff.mp e1).1
 refine item_tupleT ⟨_,m.keep _ _ e,rfl,_,rfl⟩ (by exact o101 h0) h1 (j:=k.toNat) ?_ e1 (q _ g as s.heap s.toks _ mu (StaysIn.refl' g) (List.prefix_refl _) m rw1 h) (hs _ _)
 exact seq_at h0 (by simpa using hlt)
theorem sub_lst{value slice:Expr}{vs:List AV}{k:Int}{v:AV}(h0:0≤k)(h1:k < 2 ^ 63)(hv:vs[k.toNat]?=some v)(hs:∀o i,subscripted slice false o i=operate [o,i] (getItem o i))(h:K v mu):Op2OK c d u (subscriptTail value slice) (.lst vs) (.int k) mu K:=fun A g as s Q E w1 w2 ro G m r1 r2 q=>by
 obtain ⟨_,rfl⟩:=r2.inv
 obtain ⟨_,_,_,_,_,rfl,e,rs⟩:=r1.inv
 obtain ⟨w,e1,rw1⟩:=rs.get hv
 have hL:s.heap.IsList _ _:=⟨_,m.keep _ _ e,rfl,_,rfl⟩
 exact tail_any hL.typeIs slot_list_getitem.lookup (wpAny_getItem_list hL h0 h1 (by simpa using e1) (q _ g as s.heap s.toks _ mu (StaysIn.refl' g) (List.prefix_refl _) m rw1 h)) (hs _ _)
theorem qT{b:Bool}{K:Bool→Prop}(h:K b):TrOK c d u (.bool b) mu K:=fun A g as s Q E w ro G m r q=>by
 obtain ⟨_,rfl⟩:=r.inv;exact wpAny_truthy_bool (q b s.toks h)
theorem wP{pos:Pos}{K:Bool→St→Prop}(h:K true σ):TsOK c d u env (.BoolOp .And [] pos) σ K:=fun A g as cs s Q E ro G rr q =>
 isTrue_and_nil (q true g as s.heap s.toks σ (StaysIn.refl' g) (List.prefix_refl _) rr h)
theorem yS{pos:Pos}{K:Bool→St→Prop}(h:K false σ):TsOK c d u env (.BoolOp .Or [] pos) σ K:=fun A g as cs s Q E ro G rr q =>
 isTrue_or_nil (q false g as s.heap s.toks σ (StaysIn.refl' g) (List.prefix_refl _) rr h)
end
noncomputable def AV.plain:AV→Bool
 | .st v=>handedIn v
 | _=>true
theorem Rel.handed{g:Heap}{as:List Addr}{v:Value}{av:AV}(r:Rel g as v av)(h:av.plain=true):handedIn v=true:=by
 cases r <;> first | rfl | exact h
structure Reads'(K:Frag)(C:Addr)(name:Str)(attr:Option Value):Prop where
 hg:plainGet K C name=true
 hh:hasDictIn K C=true
 ha:findIn K (.ref C) name=some attr
 hn:noGet K attr=true
noncomputable def MethOK(c:Cx)(name:Str)(a:AV)(mu:List AO)(K:Value→List AV→Prop):Prop :=
 ∀(A:Around) (g:Heap) (as:List Addr) (s:Shared) (pl:Sem Bool) (Q:Value×List Value→Shared→Prop) (E:Value→Shared→Prop) (w:Value),Gd c.K c.mg c.mb g→MuR c.w.params g as mu s.heap→Rel g as w a →
  (∀f first firstA,Rels g as first firstA→K f firstA→Q (f,first) s)→wpAny (model c.prog c.w) A (getMethod w name pl) Q E s
section
variable {c:Cx}{d u:Nat}{env:Env}{σ:St}{mu:List AO}
theorem zZ{C:Addr}{k:Nat}{name:Str}{attr:Option Value}{attrs:List (Str×AV)}{av:AV}{K:AV→List AO→Prop}(rd:Reads' c.K C name attr)(hmu:mu[k]?=some (.dict attrs))(hv:attrs.lookup name=some av)(hp:av.plain=true)(h:K av mu):
  Op1OK c d u (fun o=>getAttr o name true) (.inst C k) mu K:=fun A g as s Q E w ro G m r q=>by
 obtain ⟨_,_,rfl,h1,h2⟩:=r.inv
 obtain ⟨o,e,so⟩:=m.at' _ _ _ h2 hmu
 cases so with
 | dict eo en =>
  subst eo
  have gl:=en.getL name
  rw [hv] at gl
  obtain ⟨v,gl,rv⟩:=gl
  have I:InstAt s.heap _ _ C (some (dictOf _ _)):=⟨m.keep _ _ h1,rfl,rfl,e⟩
  exact get_value (G.X.keeps m.keep) I (plainGet_of rd.hg).1 (findObj_own rd.hh rd.ha rd.hn gl) (rv.handed hp) (q v g as s.heap _ av mu (StaysIn.refl' g) (List.prefix_refl _) m rv h)
theorem meth_inst{C f:Addr}{k:Nat}{name:Str}{attrs:List (Str×AV)}{K:Value→List AV→Prop}(hg:plainGet c.K C name=true)(hf:findIn c.K (.ref C) name=some (some (.ref f)))(ht:isFn c.K (.ref f)=true)(hmu:mu[k]?=some (.dict attrs))(hv:attrs.lookup name=none)
  (h:K (.ref f) [.inst C k]):MethOK c name (.inst C k) mu K:=fun A g as s pl Q E w G m r q=>by
 obtain ⟨_,_,rfl,h1,h2⟩:=r.inv
 obtain ⟨o,e,so⟩:=m.at' _ _ _ h2 hmu
 cases so with
 | dict eo en =>
  subst eo
  have gl:=en.getL name
  rw [hv] at gl
  have I:InstAt s.heap _ _ C (some (dictOf _ _)):=⟨m.keep _ _ h1,rfl,rfl,e⟩
  exact method_fn (G.X.keeps m.keep) I (plainGet_of hg).1 (plainGet_of hg).2 hf (beq_iff_eq.mp ht) (by show (lookIn name (dictOf _ _)).map _=_;rw [lookIn_dict,gl];rfl) (q _ _ _ (.cons (.inst h1 h2) .nil) h)
theorem qZ {k:Nat} {name:Str} {id:String} {vs:List AV} {K:Value→List AV→Prop} (slot:Slot "list" name id) (hty:typeOf (.builtin id)=pure (.type "method_descriptor")) (hmu:mu[k]?=some (.list vs)) (h:K (.builtin id) [.mut k]):MethOK c name (.mut k) mu K:=fun A g as s pl Q E w G m r q=>by
 obtain ⟨_,rfl,h2⟩:=r.inv
 obtain ⟨o,e,so⟩:=m.at' _ _ _ h2 hmu
 obtain ⟨_,_,eo,rs⟩:=so.inv
 subst eo
 exact getMethod_list_of slot hty ⟨_,e,rfl,_,rfl⟩ ⟨_,e,rfl⟩ (q _ _ _ (.cons (.mut h2) .nil) h)
theorem ev_attr{value:Expr}{attr:Str}{pos:Pos}{K:AV→St→Prop}
  (he:eval (.Attribute value attr pos) env=(do let o ← eval value env;standAt pos.atName;let r ← holding [o] (getAttr o attr true);letTemporaryGo value o r;pure r))
  (h:EvOK c d u env value σ (fun a σ1=>Op1OK c d u (fun o=>getAttr o attr true) a σ1.mu (fun v mu'=>K v { σ1 with mu:=mu' }))):EvOK c d u env (.Attribute value attr pos) σ K:=fun A g as cs s Q E ro G rr q =>
 Attribute_any_ (h A g as cs s _ E ro G rr fun v1 g1 as1 h1 tk1 a σ1 hg1 ha1 r1 rv1 k1=>by
  obtain ⟨g₃,st,m3,k3⟩:=r1.op (α:=Unit) (s:=(sh s h1 tk1)) (K:=K) (Q:=Q) (fun v g' as' h' tk' av σ' x1 x2 x3 x4 x5=>q v g' as' h' tk' av σ' (StaysIn.trans' hg1 x1) (ha1.trans x2) x3 x4 x5)
  exact k1 A g₃ as1 _ Q E v1 ro ((G.keeps hg1).keeps st) m3 (rv1.mono st (List.prefix_refl _)) k3) he
theorem ev_meth{o:Expr}{name:Str}{apos pos:Pos}{args:List Expr}{pl:Sem Bool}{K:AV→St→Prop}(hne:∀e∈args,∀v p,e≠.Starred v p)
  (he:eval (.Call (.Attribute o name apos) args [] pos) env=(do
   let ov ← eval o env
   standAt apos.atName
   let (f,first) ← holding [ov] (getMethod ov name pl)
   callWith pos f first (backTo pos (starEach args env)) (backToKw pos (keywordEach [] env))))
  (h:EvOK c d u env o σ (fun a σ1=>MethOK c name a σ1.mu (fun f firstA=>Keeps c.K f∧AsOK c d u env args σ1 (fun vs σ2=>CallOK c d u f (firstA++vs) [] σ2.mu (fun v mu'=>K v { σ2 with mu:=mu' }))))) :
  EvOK c d u env (.Call (.Attribute o name apos) args [] pos) σ K:=fun A g as cs s Q E ro G rr q =>
 methodCall_KW (pl:=pl) (h A g as cs s _ E ro G rr fun v1 g1 as1 h1 tk1 a σ1 hg1 ha1 r1 rv1 k1=>k1 A g1 as1 _ pl _ E v1 (G.keeps hg1) r1.mu rv1 fun f first firstA rf kf =>
  as_call kf.1 hne kf.2 ro (G.keeps hg1) r1 rf fun v g' as' h' tk' av σ' x1 x2 x3 x4 x5=>q v g' as' h' tk' av σ' (StaysIn.trans' hg1 x1) (ha1.trans x2) x3 x4 x5) he
theorem xP{x y:Str}{K:AV→List AO→Prop}(hsz:x.length+y.length≤sizeLine)(h:K (.str (x++y)) mu):Op2OK c d u (binaryOp .Add) (.str x) (.str y) mu K:=fun A g as s Q E w1 w2 ro G m r1 r2 q=>by
 obtain ⟨_,rfl⟩:=r1.inv;obtain ⟨_,rfl⟩:=r2.inv
 exact PyProof.Rows.add_str (fun t' tk=>q _ g as s.heap tk _ mu (StaysIn.refl' g) (List.prefix_refl _) m (.str _ _) h) hsz
theorem iadd_ss{x y:Str}{K:AV→List AO→Prop}(hsz:x.length+y.length≤sizeLine)(h:K (.str (x++y)) mu):Op2OK c d u (inplaceOp .Add) (.str x) (.str y) mu K:=fun A g as s Q E w1 w2 ro G m r1 r2 q=>by
 obtain ⟨_,rfl⟩:=r1.inv;obtain ⟨_,rfl⟩:=r2.inv
 exact PyProof.Rows.iadd_str (fun t' tk=>q _ g as s.heap tk _ mu (StaysIn.refl' g) (List.prefix_refl _) m (.str _ _) h) hsz
theorem iadd_ii{a b:Int}{K:AV→List AO→Prop}(h:K (.int (a+b)) mu):Op2OK c d u (inplaceOp .Add) (.int a) (.int b) mu K:=xX (fun A s Q E t u' q=>iadd_int q) h
theorem vA{e:Expr}{pos:Pos}{K:Fl→St→Prop}(hi:interactive env=false)(hs:swapsWith e none pos.line env=pure false)
  (h:EvOK c d u env e σ (fun av σ'=>(match av with | .none=>True | .str _=>True | .bool _=>True | .int _=>True | _=>False)∧K .next σ')):SsOK c d u env (exec (.Expr e pos) env) σ K:=fun A g as cs s Q E ro G r q =>
 wpAny_Expr (h A g as cs s _ E ro G r fun v g' as' h' tk' av σ' hg ha r' rv k=>by
  have fin:=q .next g' as' h' tk' .next σ' hg ha r' .next k.2
  cases rv <;> first | exact fin | exact k.1.elim) hi hs
theorem ss_augname{x:Str}{pos' pos:Pos}{op:Operator}{value:Expr}{a:AV}{K:Fl→St→Prop}(hk:env.scope.kind=.function)(hl:env.kindOf x=some .local)(ha0:σ.loc.lookup x=some a)
  (h:EvOK c d u env value σ (fun b σ2=>Op2OK c d u (inplaceOp op) a b σ2.mu (fun v mu'=>K .next { loc:=setL x v σ2.loc,mu:=mu' }))):SsOK c d u env (exec (.AugAssign (.Name x pos') op value pos) env) σ K:=fun A g as cs s Q E ro G rr q=>by
 obtain ⟨m,hn,hm⟩:=rr.ns
 obtain ⟨v1,e1,rv1⟩:=hm x a hl ha0
 refine wpAny_AugAssign_Name (wpAny_loadName_local hk hl hn e1 (h A g as cs s _ E ro G rr fun v2 g2 as2 h2 tk2 b σ2 hg2 ha2 r2 rv2 k2=>?_))
 obtain ⟨g₃,st,m3,k3⟩:=r2.op (α:=Unit) (s:=(sh s h2 tk2)) (K:=fun v σ'=>K .next { σ' with loc:=setL x v σ'.loc }) (Q:=fun r s₃=>wpAny (model c.prog c.w) A (storeName env x r) (fun Z=>Q .next) E s₃) (fun v g' as' h' tk' av σ' x1 x2 x3 x4 x5=>qI hk hl A g' as' cs _ σ' v av _ E x3 x4 fun h5 tk5 r5=>q .next g' as' h5 tk5 .next _ (StaysIn.trans' hg2 x1) (ha2.trans x2) r5 .next x5)
 exact k2 A g₃ as2 _ _ E v1 v2 ro ((G.keeps hg2).keeps st) m3 ((rv1.mono hg2 ha2).mono st (List.prefix_refl _)) (rv2.mono st (List.prefix_refl _)) k3
theorem qY{x:Expr}{rest:List Expr}{pos:Pos}{K:Bool→St→Prop}(h:TsOK c d u env x σ (fun b σ1=>(b=true→TsOK c d u env (.BoolOp .And rest pos) σ1 K)∧(b=false→K false σ1))):TsOK c d u env (.BoolOp .And (x::rest) pos) σ K:=fun A g as cs s Q E ro G rr q =>
 isTrue_and (h A g as cs s _ E ro G rr fun b g' as' h' tk' σ' hg ha r' k=>by
  cases b with
  | true =>
   have z:=k.1 rfl A g' as' cs (sh s h' tk') Q E ro (G.keeps hg) r' fun b2 g2 as2 h2 tk2 σ2 hg2 ha2 r2 k2=>q b2 g2 as2 h2 tk2 σ2 (StaysIn.trans' hg hg2) (ha.trans ha2) r2 k2
   exact z
  | false=>exact q false g' as' h' tk' σ' hg ha r' (k.2 rfl))
theorem yG{x:Expr}{rest:List Expr}{pos:Pos}{K:Bool→St→Prop}(h:TsOK c d u env x σ (fun b σ1=>(b=false→TsOK c d u env (.BoolOp .Or rest pos) σ1 K)∧(b=true→K true σ1))):TsOK c d u env (.BoolOp .Or (x::rest) pos) σ K:=fun A g as cs s Q E ro G rr q =>
 isTrue_or (h A g as cs s _ E ro G rr fun b g' as' h' tk' σ' hg ha r' k=>by
  cases b with
  | false =>
   have z:=k.1 rfl A g' as' cs (sh s h' tk') Q E ro (G.keeps hg) r' fun b2 g2 as2 h2 tk2 σ2 hg2 ha2 r2 k2=>q b2 g2 as2 h2 tk2 σ2 (StaysIn.trans' hg hg2) (ha.trans ha2) r2 k2
   exact z
  | true=>exact q true g' as' h' tk' σ' hg ha r' (k.2 rfl))
theorem yQ{op:BoolOp}{e:Expr}{pos:Pos}{K:AV→St→Prop}(h:EvOK c d u env e σ K):EvOK c d u env (.BoolOp op [e] pos) σ K:=fun A g as cs s Q E ro G rr q=>BoolOp_one (h A g as cs s Q E ro G rr q)
theorem ev_and{e₁ e₂:Expr}{rest:List Expr}{pos:Pos}{K:AV→St→Prop}(h:EvOK c d u env e₁ σ (fun a σ1=>TrOK c d u a σ1.mu (fun b=>(b=true→EvOK c d u env (.BoolOp .And (e₂::rest) pos) σ1 K)∧(b=false→K a σ1)))):EvOK c d u env (.BoolOp .And (e₁::e₂::rest) pos) σ K:=fun A g as cs s Q E ro G rr q =>
 BoolOp_and (h A g as cs s _ E ro G rr fun v1 g1 as1 h1 tk1 a σ1 hg1 ha1 r1 rv1 k1=>k1 A g1 as1 _ _ E v1 ro (G.keeps hg1) r1.mu rv1 fun b tk' kb=>by
  cases b with
  | true=>exact kb.1 rfl A g1 as1 cs (sh s h1 tk') Q E ro (G.keeps hg1) r1 fun v g' as' h' tk2 av σ' x1 x2 x3 x4 x5=>q v g' as' h' tk2 av σ' (StaysIn.trans' hg1 x1) (ha1.trans x2) x3 x4 x5
  | false=>exact q v1 g1 as1 h1 tk' a σ1 hg1 ha1 r1 rv1 (kb.2 rfl))
theorem ev_or{e₁ e₂:Expr}{rest:List Expr}{pos:Pos}{K:AV→St→Prop}(h:EvOK c d u env e₁ σ (fun a σ1=>TrOK c d u a σ1.mu (fun b=>(b=false→EvOK c d u env (.BoolOp .Or (e₂::rest) pos) σ1 K)∧(b=true→K a σ1)))):EvOK c d u env (.BoolOp .Or (e₁::e₂::rest) pos) σ K:=fun A g as cs s Q E ro G rr q =>
 BoolOp_or (h A g as cs s _ E ro G rr fun v1 g1 as1 h1 tk1 a σ1 hg1 ha1 r1 rv1 k1=>k1 A g1 as1 _ _ E v1 ro (G.keeps hg1) r1.mu rv1 fun b tk' kb=>by
  cases b with
  | false=>exact kb.1 rfl A g1 as1 cs (sh s h1 tk') Q E ro (G.keeps hg1) r1 fun v g' as' h' tk2 av σ' x1 x2 x3 x4 x5=>q v g' as' h' tk2 av σ' (StaysIn.trans' hg1 x1) (ha1.trans x2) x3 x4 x5
  | true=>exact q v1 g1 as1 h1 tk' a σ1 hg1 ha1 r1 rv1 (kb.2 rfl))
end
theorem Ents.put{g:Heap}{as:List Addr}{name:Str}{hh:Int}{t:Tok}{v:Value}{av:AV}(rv:Rel g as v av){es:List DictEntry}{r:List (Str×AV)}(x:Ents g as es r):Ents g as (putL name hh (.str name t) v es) (setL name av r):=by
 induction x with
 | nil=>exact .cons rv .nil
 | @cons x _ _ _ _ es r h k ih =>
  unfold putL setL
  by_cases e:(x==name)=true
  ·rw [if_pos (by exact e),if_pos (by exact e),beq_iff_eq.mp e]
   exact .cons rv k
  ·rw [if_neg (by exact e),if_neg (by exact e)]
   exact .cons h ih
theorem kD(x:Str)(av:AV):∀l:List (Str×AV),(setL x av l).length≤l.length+1
 | []=>Nat.le_refl _
 | p::r=>by
  unfold setL
  split
  ·simp
  ·simp only [List.length_cons];have:=kD x av r;exact o102 this
section
variable {P:Params}{g:Heap}{as:List Addr}{mu:List AO}{h h':Heap}
theorem MuR.set(m:MuR P g as mu h){k:Nat}{a:Addr}{o':Obj}{ao':AO}(hk:as[k]?=some a)(hs:∀b o,b≠a→h.get? b=some o→((∃o,g.get? b=some o)∨b∈as)→h'.get? b=some o)(ho:h'.get? a=some o')(so:Sits P g as o' ao'):MuR P g as (mu.set k ao') h' where
 keep:=fun b o e=>hs b o (fun q=>by rw [q,m.out a (List.mem_of_getElem? hk)] at e;cases e) (m.keep b o e) (.inl ⟨o,e⟩)
 len:=by rw [List.length_set];exact m.len
 nd:=m.nd
 at':=fun j b ao h1 h2=>by
  by_cases e:j=k
  ·subst e
   rw [hk] at h1;cases h1
   have hlt:j < mu.length:=by rw [← m.len];exact (List.getElem?_eq_some_iff.mp hk).1
   rw [List.getElem?_set_self hlt] at h2
   cases h2
   exact ⟨o',ho,so⟩
  ·rw [List.getElem?_set_ne (Ne.symm e)] at h2
   obtain ⟨o,e1,e2⟩:=m.at' j b ao h1 h2
   refine ⟨o,hs b o (fun q=>?_) e1 (.inr (List.mem_of_getElem? h1)),e2⟩
   subst q
   obtain ⟨l1,f1⟩:=List.getElem?_eq_some_iff.mp h1
   obtain ⟨l2,f2⟩:=List.getElem?_eq_some_iff.mp hk
   exact e ((List.getElem?_inj l1 m.nd).mp (h1.trans hk.symm))
 out:=m.out
end
structure Stores(K:Frag)(C:Addr)(name:Str):Prop where
 hs:findIn K (.ref C) "__setattr__"=some (some (.builtin "object.__setattr__"))
 hp:plainOver K C=true
 ht:takerIn K C name=some none
 hh:hasDictIn K C=true
section
variable {c:Cx}{d u:Nat}{env:Env}{σ:St}
theorem gO{A:Around}{g:Heap}{as cs:List Addr}{s:Shared}{C:Addr}{k:Nat}{name:Str}{attrs:List (Str×AV)}{w v:Value}{av:AV}{Q:Unit→Shared→Prop}{E:Value→Shared→Prop}
  (r:R c.w.params g as cs env σ s.heap) (G:Gd c.K c.mg c.mb g) (ri:Rel g as w (.inst C k)) (rv:Rel g as v av) (st:Stores c.K C name) (hmu:σ.mu[k]?=some (.dict attrs)) (hz:attrs.length≤900)
  (q:∀h' tk',R c.w.params g as cs env { σ with mu:=σ.mu.set k (.dict (setL name av attrs)) } h'→Q () (sh s h' tk')):wpAny (model c.prog c.w) A (setAttr w name v) Q E s:=by
 obtain ⟨x,dx,rfl,h1,h2⟩:=ri.inv
 obtain ⟨o,e,so⟩:=r.mu.at' _ _ _ h2 hmu
 cases so with
 | @dict es n _ eo en =>
  subst eo
  obtain ⟨m,hn,hm⟩:=r.ns
  have X:=G.X.keeps r.mu.keep
  have I:InstAt s.heap x (instObj C dx) C (some (dictOf es n)):=⟨r.mu.keep _ _ h1,rfl,rfl,e⟩
  have e0:∀b,(⟨#[],s.heap.life⟩:Heap).get? b=none:=fun b=>by simp [Heap.get?]
  have F:Fr ⟨#[],s.heap.life⟩ env.locals s.heap m:=⟨hn,fun b o z=>(by rw [e0] at z;cases z),Nat.zero_le _⟩
  let rest:List (Addr×Obj):=(List.range s.heap.objs.size).filterMap fun a=>if a=env.locals∨a=dx then none else (s.heap.get? a).map fun o=>(a,o)
  have hrest:∀p∈rest,s.heap.get? p.1=some p.2∧p.1≠env.locals∧p.1≠dx:=fun p hp=>by
   obtain ⟨a,_,ha⟩:=List.mem_filterMap.mp hp
   by_cases z:a=env.locals∨a=dx
   ·rw [if_pos z] at ha;cases ha
   ·rw [if_neg z] at ha
    obtain ⟨o,ho,rfl⟩:=Option.map_eq_some_iff.mp ha
    exact ⟨ho,fun q=>z (.inl q),fun q=>z (.inr q)⟩
  have hmemr:∀b o,s.heap.get? b=some o→b≠env.locals→b≠dx→(b,o)∈rest:=fun b o hb n1 n2=>List.mem_filterMap.mpr ⟨b,List.mem_range.mpr (Heap.lt_size hb),by rw [if_neg (fun z=>z.elim n1 n2),hb];rfl⟩
  have hdx:dx∈as:=List.mem_of_getElem? h2
  have ndx:dx≠env.locals:=fun q=>(r.off _ (.head _)).2 (q▸hdx)
  have N:News ⟨#[],s.heap.life⟩ env.locals s.heap ([]++(dx,dictOf es n)::rest):=fun p hp=>by
   rcases List.mem_cons.mp hp with z | z
   ·subst z;exact ⟨e,ndx,e0 _⟩
   ·exact ⟨(hrest p z).1,(hrest p z).2.1,e0 _⟩
  have hl:(lookIn name (dictOf es n)).isSome=true:=by
   rw [lookIn_dict]
   have z:=en.getL name
   split at z
   ·obtain ⟨v',z,_⟩:=z;rw [z];rfl
   ·rw [z];rfl
  have hlen:(putL name (PyData.keyHash c.w.params name) (.str name (s.toks+1)) v es).length≤1000:=by
   have z:=(en.put (name:=name) (hh:=PyData.keyHash c.w.params name) (t:=s.toks+1) rv).length
   have y:=kD name av attrs
   exact o103 hz z y
  refine set_plain X I st.hs (osa_dict (s:={ s with toks:=s.toks+1 }) F N X I rfl st.hp st.ht st.hh hl (fun p hp=>nomatch hp) (fun p hp=>(hrest p hp).2.2) (putName_dict ..) rfl hlen fun h' F' N'=>?_)
  have hdx':=(N' _ (List.mem_append_right _ (List.Mem.head _))).1
  have oth:∀b o,b≠dx→b≠env.locals→s.heap.get? b=some o→h'.get? b=some o:=fun b o n1 n2 hb=>(N' (b,o) (List.mem_append_right _ (List.Mem.tail _ (hmemr b o hb n2 n1)))).1
  refine q h' _ { mu:=r.mu.set h2 (fun b o nb hb hor=>oth b o nb (fun z=>?_) hb) hdx' (.dict rfl (en.put rv)),ns:=⟨m,F'.ns,hm⟩,cl:=fun y av' hy hv'=>?_,off:=r.off,nd:=r.nd,cells:=r.cells,inj:=r.inj,cc:=fun a ha=>?_ }
  ·subst z
   rcases hor with ⟨o',z⟩ | z
   ·rw [(r.off _ (.head _)).1] at z;cases z
   ·exact (r.off _ (.head _)).2 z
  ·obtain ⟨c',o,v',e1,e2,e3,e4⟩:=r.cl y av' hy hv'
   refine ⟨c',o,v',e1,oth c' o (fun z=>?_) (fun z=>?_) e2,e3,e4⟩
   ·subst z
    rcases r.cells y _ e1 with z | ⟨_,o',z⟩
    ·exact (r.off _ (.tail _ z)).2 hdx
    ·rw [r.mu.out _ hdx] at z;cases z
   ·subst z
    rcases r.cells y _ e1 with z | ⟨_,o',z⟩
    ·exact (List.nodup_cons.mp r.nd).1 z
    ·rw [(r.off _ (.head _)).1] at z;cases z
  ·obtain ⟨o,v',e1,e2⟩:=r.cc a ha
   exact ⟨o,v',oth a o (fun z=>(r.off _ (.tail _ ha)).2 (z▸hdx)) (fun z=>(List.nodup_cons.mp r.nd).1 (z▸ha)) e1,e2⟩
theorem ss_setattr{o value:Expr}{attr:Str}{pos' pos:Pos}{K:Fl→St→Prop}(hs:swapsWith value (some (.Attribute o attr pos')) pos.line env=pure false)
  (h:EvOK c d u env value σ (fun v σ1=>EvOK c d u env o σ1 (fun ov σ2=>∃C k attrs,ov=.inst C k∧Stores c.K C attr∧σ2.mu[k]?=some (.dict attrs)∧attrs.length≤900∧K .next { σ2 with mu:=σ2.mu.set k (.dict (setL attr v attrs)) }))) :
  SsOK c d u env (exec (.Assign [.Attribute o attr pos'] value pos) env) σ K:=fun A g as cs s Q E ro G rr q =>
 plainObj_wpAny_Assign_Attribute (h A g as cs s _ E ro G rr fun v1 g1 as1 h1 tk1 a σ1 hg1 ha1 r1 rv1 k1=>k1 A g1 as1 cs _ _ E ro (G.keeps hg1) r1 fun v2 g2 as2 h2 tk2 b σ2 hg2 ha2 r2 rv2 k2=>by
  obtain ⟨C,k,attrs,rfl,st,hmu,hz,kk⟩:=k2
  exact gO r2 ((G.keeps hg1).keeps hg2) rv2 (rv1.mono hg2 ha2) st hmu hz fun h' tk' r'=>q .next g2 as2 h' tk' .next _ (StaysIn.trans' hg1 hg2) (ha1.trans ha2) r' .next kk) hs
end
section
variable {c:Cx}{d u:Nat}{env:Env}{σ:St}{mu:List AO}
noncomputable def turnK(Inv:Nat→St→Prop)(K:Fl→St→Prop)(n:Nat):Fl→St→Prop
 | .next,σ=>∃m,m < n∧Inv m σ
 | .cont,σ=>∃m,m < n∧Inv m σ
 | .brk,σ=>K .next σ
 | .ret v,σ=>K (.ret v) σ
theorem yL{test:Expr}{body orelse:List Stmt}{pos:Pos}{K:Fl→St→Prop}(Inv:Nat→St→Prop)
  (turn:∀n σ,Inv n σ→TsOK c d u env test σ (fun b σ1=>(b=true→SsOK c d u env (execs body env) σ1 (turnK Inv K n))∧(b=false→SsOK c d u env (execs orelse env) σ1 K))) (n:Nat) (h:Inv n σ) :
  SsOK c d u env (exec (.While test body orelse pos) env) σ K:=fun A g as cs s Q E ro G rr q=>by
 refine wpAny_While (codeAny_whileLoop (fun n s'=>∃g' as' h' tk' σ',s'=(sh s h' tk')∧g.StaysIn g'∧as<+:as'∧R c.w.params g' as' cs env σ' h'∧Inv n σ') ?_ n ⟨g,as,s.heap,s.toks,σ,rfl,StaysIn.refl' g,List.prefix_refl _,rr,h⟩)
 rintro n s' ⟨g1,as1,h1,tk1,σ1,rfl,hg1,ha1,r1,hI⟩
 refine turn n σ1 hI A g1 as1 cs (sh s h1 tk1) _ _ ro (G.keeps hg1) r1 fun b g2 as2 h2 tk2 σ2 hg2 ha2 r2 k2=>?_
 cases b with
 | true =>
  refine k2.1 rfl A g2 as2 cs (sh s h2 tk2) _ _ ro ((G.keeps hg1).keeps hg2) r2 fun f g3 as3 h3 tk3 af σ3 hg3 ha3 r3 rf k3=>?_
  cases rf with
  | next=>obtain ⟨m,hm,hI'⟩:=k3;exact ⟨m,hm,g3,as3,h3,tk3,σ3,rfl,StaysIn.trans' (StaysIn.trans' hg1 hg2) hg3,(ha1.trans ha2).trans ha3,r3,hI'⟩
  | cont=>obtain ⟨m,hm,hI'⟩:=k3;exact ⟨m,hm,g3,as3,h3,tk3,σ3,rfl,StaysIn.trans' (StaysIn.trans' hg1 hg2) hg3,(ha1.trans ha2).trans ha3,r3,hI'⟩
  | brk=>exact q .next g3 as3 h3 tk3 .next σ3 (StaysIn.trans' (StaysIn.trans' hg1 hg2) hg3) ((ha1.trans ha2).trans ha3) r3 .next k3
  | ret rv=>exact q _ g3 as3 h3 tk3 _ σ3 (StaysIn.trans' (StaysIn.trans' hg1 hg2) hg3) ((ha1.trans ha2).trans ha3) r3 (.ret rv) k3
 | false =>
  exact k2.2 rfl A g2 as2 cs (sh s h2 tk2) _ _ ro ((G.keeps hg1).keeps hg2) r2 fun f g3 as3 h3 tk3 af σ3 hg3 ha3 r3 rf k3=>q f g3 as3 h3 tk3 af σ3 (StaysIn.trans' (StaysIn.trans' hg1 hg2) hg3) ((ha1.trans ha2).trans ha3) r3 rf k3
theorem vB {k:Nat} {vs:List AV} {v:AV} {K:AV→List AO→Prop} (hmu:mu[k]?=some (.list vs)) (hz:vs.length≤100000) (h:K .none (mu.set k (.list (vs++[v])))):CallOK c d u (.builtin "list.append") [.mut k,v] [] mu K:=fun A g as s Q E ws kws ro G m rs rk q=>by
 obtain rfl:=rk.inv
 obtain ⟨_,_,rfl,r1,rs⟩:=rs.inv
 obtain ⟨_,_,rfl,r2,rs⟩:=rs.inv
 obtain rfl:=rs.inv
 obtain ⟨_,rfl,h2⟩:=r1.inv
 obtain ⟨o,e,so⟩:=m.at' _ _ _ h2 hmu
 obtain ⟨ws,n,eo,rl⟩:=so.inv
 subst eo
 refine append_at (its:=ws.toArray) (n:=n) e (fun h' hs ho'=>?_) (by rw [List.size_toArray,rl.length];unfold sizeLine;exact o0 hz)
 refine q .none g as h' s.toks .none _ (StaysIn.refl' g) (List.prefix_refl _) (m.set h2 (fun b o nb hb Z=>(hs.2 b nb).trans hb) (o':=lstObj (ws++[_]) (n+1)) ?_ (.list rfl (rl.append (.cons r2 .nil)))) .none h
 rw [ho']
 simp
end
section
variable {P:Params}{g:Heap}{as cs:List Addr}{env:Env}{σ:St}{h h':Heap}
theorem R.keepBut(r:R P g as cs env σ h){wr:List Addr}(hw:∀b∈wr,g.get? b=none∧b∉as∧b∉env.locals::cs)(hk:∀b o,b∉wr→h.get? b=some o→h'.get? b=some o):R P g as cs env σ h' where
 mu:=⟨fun b o e=>hk b o (fun q=>by rw [(hw b q).1] at e;cases e) (r.mu.keep b o e),r.mu.len,r.mu.nd,fun k a ao h1 h2=>by
  obtain ⟨o,e1,e2⟩:=r.mu.at' k a ao h1 h2
  exact ⟨o,hk a o (fun q=>(hw a q).2.1 (List.mem_of_getElem? h1)) e1,e2⟩,r.mu.out⟩
 ns:=by
  obtain ⟨m,hn,hm⟩:=r.ns
  exact ⟨m,hn.at' fun o e=>hk _ o (fun q=>(hw _ q).2.2 (.head _)) e,hm⟩
 cl:=fun x av hx hv=>by
  obtain ⟨c',o,v,e1,e2,e3,e4⟩:=r.cl x av hx hv
  refine ⟨c',o,v,e1,hk c' o (fun q=>?_) e2,e3,e4⟩
  rcases r.cells x c' e1 with z | ⟨_,o',z⟩
  ·exact (hw c' q).2.2 (.tail _ z)
  ·rw [(hw c' q).1] at z;cases z
 off:=r.off
 nd:=r.nd
 cells:=r.cells
 inj:=r.inj
 cc:=fun a ha=>by
  obtain ⟨o,v,e1,e2⟩:=r.cc a ha
  exact ⟨o,v,hk a o (fun q=>(hw a q).2.2 (.tail _ ha)) e1,e2⟩
theorem R.rebase(r:R P g as cs env σ h):E3 (fun g₁=>g.StaysIn g₁) (fun g₁=>R P g₁ as cs env σ h) (fun g₁=>∀b o,h.get? b=some o→b∉env.locals::cs→b∉as→g₁.get? b=some o):=by
 obtain ⟨st,m1,hin,hown⟩:=r.mu.rebase (env.locals::cs) (fun a ha=>(r.off a ha).1)
 refine ⟨_,st,{ mu:=m1,ns:=?_,cl:=fun x av hx hv=>?_,off:=fun a ha=>⟨hown a ha,(r.off a ha).2⟩,nd:=r.nd,cells:=fun x c' e=>(r.cells x c' e).imp id fun ⟨hf,o,e2⟩=>⟨hf,o,st _ _ e2⟩,inj:=r.inj,cc:=r.cc },hin⟩
 ·obtain ⟨m,hn,hm⟩:=r.ns
  exact ⟨m,hn,fun x av hx hv=>by obtain ⟨v,e1,e2⟩:=hm x av hx hv;exact ⟨v,e1,e2.mono st (List.prefix_refl _)⟩⟩
 ·obtain ⟨c',o,v,e1,e2,e3,e4⟩:=r.cl x av hx hv
  exact ⟨c',o,v,e1,e2,e3,e4.mono st (List.prefix_refl _)⟩
end
section
variable {c:Cx}{d u:Nat}{env:Env}{σ:St}
end
theorem Rels.get'{g:Heap}{as:List Addr}{ws:List Value}{vs:List AV}{j:Nat}{w:Value}(r:Rels g as ws vs)(e:ws[j]?=some w):∃v,vs[j]?=some v∧Rel g as w v:=by
 induction vs generalizing ws j with
 | nil=>obtain rfl:=r.inv;cases e
 | cons v vs ih =>
  obtain ⟨_,_,rfl,h,r⟩:=r.inv
  cases j with
  | zero=>cases e;exact ⟨_,rfl,h⟩
  | succ j=>exact ih r (j:=j) e
section
variable {P:Params}{g:Heap}{as cs:List Addr}{env:Env}{σ:St}{h:Heap}
theorem R.fresh(r:R P g as cs env σ h):g.get? h.objs.size=none∧h.objs.size∉as∧h.objs.size∉env.locals::cs∧∀y,env.cells.lookup y≠some h.objs.size:=by
 obtain ⟨m,hn,hm⟩:=r.ns
 have hcs:h.objs.size∉cs:=fun q=>by
  obtain ⟨o,v,e,_⟩:=r.cc _ q
  exact absurd (Heap.lt_size e) (Nat.lt_irrefl _)
 refine ⟨r.mu.size_out.1,r.mu.size_out.2,fun q=>?_,fun y e=>?_⟩
 ·rcases List.mem_cons.mp q with z | z
  ·exact absurd hn.lt (by rw [← z];exact Nat.lt_irrefl _)
  ·exact hcs z
 ·rcases r.cells y _ e with z | ⟨_,o,z⟩
  ·exact hcs z
  ·rw [r.mu.size_out.1] at z;cases z
theorem R.push(r:R P g as cs env σ h)(o:Obj):R P g as cs env σ (h.push o):=r.keepBut (wr:=[]) (fun b hb=>(nomatch hb)) fun b o' Z e=>Heap.get?_push_of_some _ e
end
section
variable {c:Cx}{d u:Nat}{env:Env}{σ:St}
end
section
variable {c:Cx}{d u:Nat}{env:Env}{σ:St}{mu:List AO}{K:AV→List AO→Prop}
theorem yD {k:Nat} {vs:List AV} (hmu:mu[k]?=some (.list vs)) (hz:vs.length≤100000) (h:K (.int vs.length) mu):CallOK c d u (.builtin "len") [.mut k] [] mu K:=fun A g as s Q E ws kws ro G m rs rk q=>by
 obtain rfl:=rk.inv
 obtain ⟨_,_,rfl,r1,rs⟩:=rs.inv
 obtain rfl:=rs.inv
 obtain ⟨_,rfl,h2⟩:=r1.inv
 obtain ⟨o,e,so⟩:=m.at' _ _ _ h2 hmu
 obtain ⟨ws,n,eo,rl⟩:=so.inv
 subst eo
 have hl:s.heap.IsList _ ws.toArray:=⟨_,e,rfl,_,rfl⟩
 have hs:ws.toArray.size=vs.length:=by rw [List.size_toArray,rl.length]
 exact call_len_list hl (by rw [hs];exact o5 hz) (q _ g as s.heap _ _ mu (StaysIn.refl' g) (List.prefix_refl _) m (by rw [hs];exact .int _ _) h)
theorem yC {x:Str} (hz:x.length≤100000) (h:K (.int x.length) mu):CallOK c d u (.builtin "len") [.str x] [] mu K:=fun A g as s Q E ws kws ro G m rs rk q=>by
 obtain rfl:=rk.inv
 obtain ⟨_,_,rfl,r1,rs⟩:=rs.inv
 obtain rfl:=rs.inv
 obtain ⟨_,rfl⟩:=r1.inv
 exact PyProof.Rows.len_str (by exact o6 hz) (q _ g as s.heap _ _ mu (StaysIn.refl' g) (List.prefix_refl _) m (.int _ _) h)
theorem Rels.snoc{g:Heap}{as:List Addr}{v:AV}:∀{vs:List AV} {ws:List Value},Rels g as ws (vs++[v])→∃ws' w,ws=ws'++[w]∧Rels g as ws' vs∧Rel g as w v:=by
 intro vs
 induction vs with
 | nil =>
  intro ws r
  obtain ⟨_,_,rfl,h,r⟩:=r.inv
  obtain rfl:=r.inv
  exact ⟨[],_,rfl,.nil,h⟩
 | cons a vs ih =>
  intro ws r
  obtain ⟨_,_,rfl,h,r⟩:=r.inv
  obtain ⟨ws',w,rfl,h1,h2⟩:=ih r
  exact ⟨_::ws',w,rfl,.cons h h1,h2⟩
theorem erase_last(ws:List Value)(w:Value):(ws++[w]).toArray.eraseIdxIfInBounds ((ws++[w]).toArray.size - 1)=ws.toArray:=by
 unfold Array.eraseIdxIfInBounds
 rw [dif_pos (by simp)]
 apply Array.ext'
 rw [Array.toList_eraseIdx]
 simp [List.eraseIdx_append_of_length_le]
theorem xG {k:Nat} {vs:List AV} {v:AV} (hmu:mu[k]?=some (.list (vs++[v]))) (hz:vs.length≤100000) (h:K v (mu.set k (.list vs))):CallOK c d u (.builtin "list.pop") [.mut k] [] mu K:=fun A g as s Q E ws kws ro G m rs rk q=>by
 obtain rfl:=rk.inv
 obtain ⟨_,_,rfl,r1,rs⟩:=rs.inv
 obtain rfl:=rs.inv
 obtain ⟨a,rfl,h2⟩:=r1.inv
 obtain ⟨o,e,so⟩:=m.at' _ _ _ h2 hmu
 obtain ⟨ws,n,eo,rl⟩:=so.inv
 subst eo
 obtain ⟨ws',w,rfl,rl',rw'⟩:=rl.snoc
 have hlen:=rl'.length
 refine call_meets F.slot_list_pop ⟨_,e,rfl⟩ F.entry_list_pop (F.args_list_pop_1 _) (PySem.MeetsSeq.list_pop_last a (ws'++[w]).toArray n w (by simp) (by simp;unfold sizeLine;exact o7 hz hlen)) ⟨e,?_⟩
 have this:(ws'++[w]).toArray.eraseIdxIfInBounds ((ws'++[w]).toArray.size - 1)=ws'.toArray:=erase_last ws' w
 have e1:(Obj.mapSeq fun xs=>xs.eraseIdxIfInBounds ((ws'++[w]).toArray.size - 1)) (lstObj (ws'++[w]) n)=lstObj ws' (n+1):=by
  have key:∀ys:Array Value,ys=ws'.toArray→({ cls:=.type "list",data:=.seq ys (if (ys.size==(ws'++[w]).toArray.size)=true then n else n+1) }:Obj)=lstObj ws' (n+1):=by
   intro ys hy
   subst hy
   have hne:¬(ws'.toArray.size==(ws'++[w]).toArray.size)=true:=by simp
   rw [if_neg hne]
  exact key _ this
 refine q w g as _ s.toks v _ (StaysIn.refl' g) (List.prefix_refl _) (m.set h2 (fun b o nb hb Z=>(Heap.get?_update_ne _ _ _ _ nb).trans hb) (o':=lstObj ws' (n+1)) ?_ (.list rfl rl')) rw' h
 rw [Heap.get?_update_self _ e (by rw [e1];rfl),e1]
theorem wL{value slice:Expr}{x:Str}{k:Int}{cp:Nat}(h0:0≤k)(h1:k < 2 ^ 63)(hv:x.cps[k.toNat]?=some cp)(hs:∀o i,subscripted slice false o i=operate [o,i] (getItem o i))(h:K (.str ⟨#[cp]⟩) mu):Op2OK c d u (subscriptTail value slice) (.str x) (.int k) mu K:=fun A g as s Q E w1 w2 ro G m r1 r2 q=>by
 obtain ⟨_,rfl⟩:=r2.inv
 obtain ⟨_,rfl⟩:=r1.inv
 have hlt:k.toNat < x.cps.size:=(Array.getElem?_eq_some_iff.mp hv).1
 refine tail_any (typeIs_str s x _) F.slot_str_getitem.lookup (PyProof.Rows.getItem_str (c:=cp) ?_ ?_ (q _ g as s.heap _ _ mu (StaysIn.refl' g) (List.prefix_refl _) m (.str _ _) h)) (hs _ _)
 ·simp;exact o8 h0 h1
 ·have:seqIndex? k x.length=some k.toNat:=seq_at h0 hlt
  rw [this]
  exact hv
end
mutual
noncomputable def AV.flat:AV→Bool
 | .tup vs=>flats vs
 | .lst vs=>flats vs
 | .mut _=>false
 | .inst _ _=>false
 | _=>true
noncomputable def flats:List AV→Bool
 | []=>true
 | v::vs=>v.flat&&flats vs
end
theorem Rel.flat2{g:Heap}{as as':List Addr}:(∀w v,Rel g as w v→v.flat=true→Rel g as' w v)∧(∀ws vs,Rels g as ws vs→flats vs=true→Rels g as' ws vs) :=
 yV (M:=fun w v=>v.flat=true→Rel g as' w v) (N:=fun ws vs=>flats vs=true→Rels g as' ws vs) (fun Z=>.none) (fun b Z=>.bool b) (fun i t Z=>.int i t) (fun x t Z=>.str x t) (fun h r e=>.tup h (r (by unfold AV.flat at e;exact e))) (fun h r e=>.lst h (r (by unfold AV.flat at e;exact e)))
  (fun Z e=>by unfold AV.flat at e;cases e) (fun Z Z e=>by unfold AV.flat at e;cases e) (fun v Z=>.st v) (fun Z=>.nil) (fun h r e=>by
   unfold flats at e
   rw [Bool.and_eq_true] at e
   exact .cons (h e.1) (r e.2))
theorem Rel.flat{g:Heap}{as as':List Addr}{w:Value}{v:AV}(r:Rel g as w v)(e:v.flat=true):Rel g as' w v:=Rel.flat2.1 _ _ r e
theorem Rels.flat{g:Heap}{as as':List Addr}{ws:List Value}{vs:List AV}(r:Rels g as ws vs)(e:flats vs=true):Rels g as' ws vs:=Rel.flat2.2 _ _ r e
mutual
noncomputable def AV.under(n:Nat):AV→Bool
 | .tup vs=>unders n vs
 | .lst vs=>unders n vs
 | .mut k=>k < n
 | .inst _ k=>k < n
 | _=>true
noncomputable def unders(n:Nat):List AV→Bool
 | []=>true
 | v::vs=>v.under n&&unders n vs
end
theorem take_get{as:List Addr}{n k:Nat}{a:Addr}(h:as[k]?=some a)(e:k < n):(as.take n)[k]?=some a:=by rw [List.getElem?_take_of_lt e];exact h
theorem Rel.under2{g:Heap}{as:List Addr}{n:Nat}:(∀w v,Rel g as w v→v.under n=true→Rel g (as.take n) w v)∧(∀ws vs,Rels g as ws vs→unders n vs=true→Rels g (as.take n) ws vs) :=
 yV (M:=fun w v=>v.under n=true→Rel g (as.take n) w v) (N:=fun ws vs=>unders n vs=true→Rels g (as.take n) ws vs) (fun Z=>.none) (fun b Z=>.bool b) (fun i t Z=>.int i t) (fun x t Z=>.str x t) (fun h r e=>.tup h (r (by unfold AV.under at e;exact e))) (fun h r e=>.lst h (r (by unfold AV.under at e;exact e)))
  (fun h e=>.mut (take_get h (by unfold AV.under at e;exact of_decide_eq_true e))) (fun h1 h e=>.inst h1 (take_get h (by unfold AV.under at e;exact of_decide_eq_true e))) (fun v Z=>.st v) (fun Z=>.nil) (fun h r e=>by
   unfold unders at e
   rw [Bool.and_eq_true] at e
   exact .cons (h e.1) (r e.2))
theorem Rel.under{g:Heap}{as:List Addr}{n:Nat}{w:Value}{v:AV}(r:Rel g as w v)(e:v.under n=true):Rel g (as.take n) w v:=Rel.under2.1 _ _ r e
theorem Rels.under{g:Heap}{as:List Addr}{n:Nat}{ws:List Value}{vs:List AV}(r:Rels g as ws vs)(e:unders n vs=true):Rels g (as.take n) ws vs:=Rel.under2.2 _ _ r e
mutual
theorem AV.flat_under{n:Nat}:∀{v:AV},v.flat=true→v.under n=true
 | .none,_=>by simp [AV.under]
 | .bool b,_=>by simp [AV.under]
 | .int i,_=>by simp [AV.under]
 | .str x,_=>by simp [AV.under]
 | .tup vs,e=>by unfold AV.flat at e;unfold AV.under;exact wC e
 | .lst vs,e=>by unfold AV.flat at e;unfold AV.under;exact wC e
 | .mut k,e=>by unfold AV.flat at e;cases e
 | .inst C k,e=>by unfold AV.flat at e;cases e
 | .st v,_=>by simp [AV.under]
theorem wC{n:Nat}:∀{vs:List AV},flats vs=true→unders n vs=true
 | [],_=>by simp [unders]
 | v::vs,e=>by
  unfold flats at e;rw [Bool.and_eq_true] at e
  unfold unders;rw [AV.flat_under e.1,wC e.2];rfl
end
noncomputable def entsUnder(n:Nat):List (Str×AV)→Bool
 | []=>true
 | p::r=>p.2.under n&&entsUnder n r
theorem Ents.under{g:Heap}{as:List Addr}{n:Nat}{es:List DictEntry}{r:List (Str×AV)}(q:Ents g as es r):entsUnder n r=true→Ents g (as.take n) es r:=by
 induction q with
 | nil=>exact fun Z=>.nil
 | cons h _ ih=>exact fun e=>.cons (h.under (Bool.and_eq_true_iff.mp e).1) (ih (Bool.and_eq_true_iff.mp e).2)
noncomputable def AO.under(n:Nat):AO→Bool
 | .list vs=>unders n vs
 | .dict r=>entsUnder n r
 | .deque vs=>unders n vs
 | .raw _=>true
theorem Sits.under{P:Params}{g:Heap}{as:List Addr}{n:Nat}{o:Obj}{ao:AO}(q:Sits P g as o ao):ao.under n=true→Sits P g (as.take n) o ao:=by
 induction q with
 | list e r=>exact fun b=>.list e (r.under b)
 | dict e r=>exact fun b=>.dict e (r.under b)
 | deque e r=>exact fun b=>.deque e (r.under b)
 | raw=>exact fun Z=>.raw
theorem MuR.take{P:Params}{g:Heap}{as:List Addr}{mu1 mu2:List AO}{h:Heap}(m:MuR P g as (mu1++mu2) h)(hb:∀ao∈mu1,ao.under mu1.length=true):MuR P g (as.take mu1.length) mu1 h where
 keep:=m.keep
 len:=by have:=m.len;rw [List.length_append] at this;rw [List.length_take];exact o9 this
 nd:=m.nd.sublist (List.take_sublist ..)
 at':=fun k a ao h1 h2=>by
  have hk:k < mu1.length:=(List.getElem?_eq_some_iff.mp h2).1
  rw [List.getElem?_take_of_lt hk] at h1
  obtain ⟨o,e1,e2⟩:=m.at' k a ao h1 (by rw [List.getElem?_append_left hk];exact h2)
  exact ⟨o,e1,e2.under (hb ao (List.mem_of_getElem? h2))⟩
 out:=fun a ha=>m.out a (List.mem_of_mem_take ha)
section
variable {c:Cx}{d u:Nat}
theorem call_drop{f:Value}{args:List AV}{kw:List (Str×AV)}{mu:List AO}{K:AV→List AO→Prop}
  (h:CallOK c d u f args kw mu (fun av mu'=>∃mu1 mu2,mu'=mu1++mu2∧mu.length≤mu1.length∧(∀ao∈mu1,ao.under mu1.length=true)∧av.under mu1.length=true∧K av mu1)):CallOK c d u f args kw mu K:=fun A g as s Q E ws kws ro G m rs rk q =>
 h A g as s Q E ws kws ro G m rs rk fun v g' as' h' tk' av mu' hg ha m' rv k=>by
  obtain ⟨mu1,mu2,rfl,hl,hb,hv,hk⟩:=k
  refine q v g' (as'.take mu1.length) h' tk' av mu1 hg ?_ (m'.take hb) (rv.under hv) hk
  obtain ⟨t,rfl⟩:=ha
  have:=m.len
  rw [List.take_append,List.take_of_length_le (by exact o10 hl this)]
  exact List.prefix_append _ _
end
noncomputable def nmOf:Expr→Option Str
 | .Name x _=>some x
 | _=>none
noncomputable def bindNs:List Expr→List AV→List (Str×AV)→Option (List (Str×AV))
 | [],[],l=>some l
 | e::es,a::vs,l=>(nmOf e).bind fun x=>bindNs es vs (setL x a l)
 | _,_,_=>none
noncomputable def bindT:Expr→AV→List (Str×AV)→Option (List (Str×AV))
 | .Name x _,av,l=>some (setL x av l)
 | .Tuple es _ _,.tup vs,l=>bindNs es vs l
 | _,_,_=>none
noncomputable def SvsOK(c:Cx)(env:Env):List Expr→Prop
 | []=>True
 | .Name x _::es=>SvOK c env x∧SvsOK c env es
 | _::_=>False
noncomputable def SvtOK(c:Cx)(env:Env):Expr→Prop
 | .Name x _=>SvOK c env x
 | .Tuple es _ _=>SvsOK c env es
 | _=>False
section
variable {c:Cx}{env:Env}
theorem nnE{α:Type}{a:α}{P:Prop}(e:none=some a):P:=by cases e
theorem fK{es:List Expr}{x:Expr}{l l':List (Str×AV)}(e:bindNs (x::es) [] l=some l'):False:=nnE e
theorem kN{x:Expr}{es:List Expr}{a:AV}{vs:List AV}{l l':List (Str×AV)}(e:bindNs (x::es) (a::vs) l=some l'):∃n,nmOf x=some n∧bindNs es vs (setL n a l)=some l':=Option.bind_eq_some_iff.mp e
theorem bindNs_length{es:List Expr}:∀{vs:List AV} {l l':List (Str×AV)},bindNs es vs l=some l'→es.length=vs.length:=by
 induction es with
 | nil=>intro vs l l' e;cases vs with
  | nil=>rfl
  | cons a vs=>exact nnE e
 | cons x es ih=>intro vs l l' e;cases vs with
  | nil=>exact (fK e).elim
  | cons a vs=>obtain ⟨n,_,e⟩:=kN e;exact congrArg (·+1) (ih e)
theorem svs_inv{x:Expr}{es:List Expr}(h:SvsOK c env (x::es)):∃n p,x=.Name n p∧SvOK c env n∧SvsOK c env es:=by
 cases x with
 | Name n p=>exact ⟨n,p,rfl,h.1,h.2⟩
 | _=>exact h.elim
theorem svt_inv{t:Expr}(h:SvtOK c env t):(∃n p,t=.Name n p∧SvOK c env n)∨∃es n p,t=.Tuple es n p∧SvsOK c env es:=by
 cases t with
 | Name n p=>exact .inl ⟨n,p,rfl,h⟩
 | Tuple es n p=>exact .inr ⟨es,n,p,rfl,h⟩
 | _=>exact h.elim
theorem bindT_tup{es:List Expr}{n:Nat}{p:Pos}{av:AV}{l l':List (Str×AV)}(e:bindT (.Tuple es n p) av l=some l'):∃vs,av=.tup vs∧bindNs es vs l=some l':=by
 cases av with
 | tup vs=>exact ⟨vs,rfl,e⟩
 | _=>exact nnE e
theorem each_name{n:Str}{p:Pos}{es:List Expr}:assignEach (.Name n p::es) env=(false,assign (.Name n p) env)::assignEach es env:=rfl
theorem svs_each{es:List Expr}:SvsOK c env es→(assignEach es env).length=es.length∧(assignEach es env).findIdx? (·.1)=none:=by
 induction es with
 | nil=>exact fun Z=>⟨rfl,rfl⟩
 | cons x es ih =>
  intro h
  obtain ⟨n,p,rfl,_,h2⟩:=svs_inv h
  refine ⟨congrArg (·+1) (ih h2).1,?_⟩
  rw [each_name,List.findIdx?_cons]
  simp [(ih h2).2]
theorem svs_go{A:Around}{g:Heap}{as cs:List Addr}{Q:Unit→Shared→Prop}{E:Value→Shared→Prop}{es:List Expr}:∀{vs:List AV} {ws:List Value} {s:Shared} {σ:St} {loc':List (Str×AV)},SvsOK c env es→bindNs es vs σ.loc=some loc'→Rels g as ws vs→R c.w.params g as cs env σ s.heap →
  (∀h' tk',R c.w.params g as cs env { σ with loc:=loc' } h'→Q () (sh s h' tk'))→wpAny (model c.prog c.w) A (assignInOrder ((assignEach es env).map (·.2)) ws) Q E s:=by
 induction es with
 | nil =>
  intro vs ws s σ loc' _ e rs r q
  cases vs with
  | nil =>
   obtain rfl:=rs.inv
   obtain rfl:σ.loc=loc':=Option.some.inj e
   exact wpAny_pure (q s.heap s.toks r)
  | cons a vs=>exact nnE e
 | cons x es ih =>
  intro vs ws s σ loc' h e rs r q
  obtain ⟨n,p,rfl,h1,h2⟩:=svs_inv h
  cases vs with
  | nil=>exact (fK e).elim
  | cons a vs =>
   obtain ⟨w,ws',rfl,r1,rs⟩:=rs.inv
   obtain ⟨n',en,e⟩:=kN e
   obtain rfl:n=n':=Option.some.inj en
   show wpAny _ _ (holding _ (assign (.Name n p) env _) >>= fun Z=>assignInOrder ((assignEach es env).map (·.2)) _) _ _ _
   refine wpAny_bind (wpAny_holding (wpAny_assign_Name (h1 A g as cs s σ _ _ _ _ r r1 fun h' tk' r'=>?_)))
   exact ih (s:=(sh s h' tk')) h2 e rs r' fun h'' tk'' r''=>q h'' tk'' r''
theorem tg_ok{t:Expr}(ht:SvtOK c env t){A:Around}{g:Heap}{as cs:List Addr}{s:Shared}{σ:St}{v:Value}{av:AV}{loc':List (Str×AV)}{Q:Unit→Shared→Prop}{E:Value→Shared→Prop}(hh:A.handled=none)
  (r:R c.w.params g as cs env σ s.heap) (rv:Rel g as v av) (e:bindT t av σ.loc=some loc') (q:∀h' tk',R c.w.params g as cs env { σ with loc:=loc' } h'→Q () (sh s h' tk')):wpAny (model c.prog c.w) A (assign t env v) Q E s:=by
 rcases svt_inv ht with ⟨x,p,rfl,ht⟩ | ⟨es,n,p,rfl,ht⟩
 ·obtain rfl:setL x av σ.loc=loc':=Option.some.inj e
  exact wpAny_assign_Name (ht A g as cs s σ v av _ _ r rv q)
 ·obtain ⟨vs,rfl,e⟩:=bindT_tup e
  obtain ⟨a,ws,n',dd,sl,rfl,e1,rs⟩:=rv.inv
  have se:=svs_each ht
  refine wpAny_assign_Tuple (items:=ws.toArray) hh ⟨_,r.mu.keep _ _ e1,rfl,_,rfl⟩ (by rw [se.1,bindNs_length e,List.size_toArray,rs.length]) se.2 fun h' he=>?_
  have fr:=r.fresh
  have r':R c.w.params g as cs env σ h':=r.keepBut (wr:=[s.heap.objs.size]) (fun b hb=>by rw [List.mem_singleton.mp hb];exact ⟨fr.1,fr.2.1,fr.2.2.1⟩) fun b o hb e=>he b o (fun z=>hb (by simp [z])) e
  exact svs_go (s:={ s with heap:=h' }) ht e rs r' q
end
inductive TupAt(g₀:Heap)(as₀ wr:List Addr)(n:Nat)(h':Heap)(v:Value)(av:AV):Prop
 | mk (T:Addr) (ws:List Value) (avs:List AV) (e1:v=.ref T) (e2:av=.tup avs) (hT:n≤T) (hw:T∉wr) (ht:h'.IsTuple T ws.toArray) (hr:Rels g₀ as₀ ws avs):TupAt g₀ as₀ wr n h' v av
structure Itr(c:Cx)(A:Around)(I:Addr)(tgt:Expr)(fp wr:List Addr)(items:List AV)(g₀:Heap)(as₀:List Addr)(St:Nat→Heap→Prop):Prop where
 frame:∀i h h',St i h→(∀b∈fp,∀o,h.get? b=some o→h'.get? b=some o)→St i h'
 live:∀i h,St i h→∀b∈wr,∃o,h.get? b=some o
 item:∀i (s:Shared) (Q:Value→Shared→Prop) (QQ:Option Value→Shared→Prop) (E:Value→Shared→Prop),i < items.length→St i s.heap →
  (∀v s₁,wpAny (model c.prog c.w) A (letOwnedTupleGo tgt (.ref I) v) (fun Z s₂=>Q v s₂) E s₁→QQ (some v) s₁) →
  (∀v h' tk av,items[i]?=some av→(Rel g₀ as₀ v av∨TupAt g₀ as₀ wr s.heap.objs.size h' v av) →
   St (i+1) h'→(∀b o,b∉wr→s.heap.get? b=some o→h'.get? b=some o)→Q v (sh s h' tk)) →
  wpAny (model c.prog c.w) A (pyNext (.ref I)) QQ E s
 done:∀(s:Shared) (Q:Option Value→Shared→Prop) (E:Value→Shared→Prop),St items.length s.heap →
  (∀h' tk,(∀b o,b∉wr→s.heap.get? b=some o→h'.get? b=some o)→Q none (sh s h' tk))→wpAny (model c.prog c.w) A (pyNext (.ref I)) Q E s
 self:∀i (s:Shared) (Q:Value→Shared→Prop) (E:Value→Shared→Prop),St i s.heap→Q (.ref I) s→wpAny (model c.prog c.w) A (pyIter (.ref I)) Q E s
noncomputable def allRaw:List AO→Prop
 | []=>True
 | .raw _::r=>allRaw r
 | _::_=>False
section
variable {P:Params}{g:Heap}{asA wr asB cs:List Addr}{A B raws:List AO}{h h':Heap}{env:Env}{loc:List (Str×AV)}
theorem raws_of:∀(wr:List Addr),(∀b∈wr,∃o,h'.get? b=some o)→∃raws:List AO,raws.length=wr.length∧allRaw raws∧∀(j:Nat) (b:Addr),wr[j]?=some b→∃o,h'.get? b=some o∧raws[j]?=some (.raw o):=by
 intro zz
 induction zz with
 | nil =>
  intro Z
  exact ⟨[],rfl,trivial,fun j b e=>by cases e⟩
 | cons b wr ih =>
  intro h
  obtain ⟨o,e⟩:=h b (.head _)
  obtain ⟨raws,h1,h2,h3⟩:=ih fun b' hb'=>h b' (.tail _ hb')
  refine ⟨.raw o::raws,by simp [h1],h2,fun j b' e'=>?_⟩
  cases j with
  | zero=>simp at e';subst e';exact ⟨o,e,rfl⟩
  | succ j=>simpa using h3 j b' (by simpa using e')
theorem MuR.moved(m:MuR P g (asA++wr++asB) (A++raws++B) h)(hA:asA.length=A.length)(hr:raws.length=wr.length)(hl:∀b∈wr,∃o,h'.get? b=some o)(hk:∀b o,b∉wr→h.get? b=some o→h'.get? b=some o):
  E3 (fun raws'=>raws'.length=wr.length) (fun raws'=>allRaw raws') (fun raws'=>MuR P g (asA++wr++asB) (A++raws'++B) h'):=by
 obtain ⟨raws',h1,h2,h3⟩:=raws_of wr hl
 have nd:=m.nd
 refine ⟨raws',h1,h2,⟨fun b o e=>hk b o (fun q=>?_) (m.keep b o e),?_,m.nd,fun k a ao e1 e2=>?_,m.out⟩⟩
 ·have:=m.out b (by simp [q]);rw [e] at this;cases this
 ·have:=m.len;simp only [List.length_append] at this ⊢;exact o12 hr h1 this
 ·by_cases hk1:k < A.length
  ·have e2':(A++raws++B)[k]?=some ao:=by
    rw [List.append_assoc,List.getElem?_append_left hk1] at e2 ⊢;exact e2
   obtain ⟨o,f1,f2⟩:=m.at' k a ao e1 e2'
   refine ⟨o,hk a o (fun q=>?_) f1,f2⟩
   rw [List.append_assoc,List.getElem?_append_left (by exact o3 hA hk1)] at e1
   rw [List.append_assoc] at nd
   exact (List.nodup_append.mp nd).2.2 a (List.mem_of_getElem? e1) a (by simp [q]) rfl
  ·by_cases hk2:k < A.length+raws'.length
   ·have l1:=Nat.le_of_not_lt hk1
    have l2:=Nat.sub_lt_left_of_lt_add l1 hk2
    rw [List.append_assoc,List.getElem?_append_right (Nat.le_trans (Nat.le_of_eq hA) l1),List.getElem?_append_left (by rw [hA,← h1];exact l2)] at e1
    rw [List.append_assoc,List.getElem?_append_right l1,List.getElem?_append_left l2] at e2
    obtain ⟨o,f1,f2⟩:=h3 _ a e1
    rw [← hA] at e2
    rw [e2] at f2
    cases f2
    exact ⟨o,f1,.raw⟩
   ·have e2':(A++raws++B)[k]?=some ao:=by
     rw [List.getElem?_append_right (by rw [List.length_append];first | exact Nat.le_of_not_lt hk2 | (rw [hr,← h1];exact Nat.le_of_not_lt hk2))] at e2 ⊢
     simp only [List.length_append] at e2 ⊢
     rw [hr,← h1];exact e2
    obtain ⟨o,f1,f2⟩:=m.at' k a ao e1 e2'
    refine ⟨o,hk a o (fun q=>?_) f1,f2⟩
    rw [List.getElem?_append_right (by simp;exact o13 hA h1 hk2)] at e1
    exact (List.nodup_append.mp nd).2.2 a (by simp [q]) a (List.mem_of_getElem? e1) rfl
end
section
variable {P:Params}{g:Heap}{asA wr asB cs:List Addr}{A B raws:List AO}{h h':Heap}{env:Env}{loc:List (Str×AV)}
theorem R.moved(r:R P g (asA++wr++asB) cs env ⟨loc,A++raws++B⟩ h)(hA:asA.length=A.length)(hr:raws.length=wr.length)(hl:∀b∈wr,∃o,h'.get? b=some o)(hk:∀b o,b∉wr→h.get? b=some o→h'.get? b=some o):
  E3 (fun raws'=>raws'.length=wr.length) (fun raws'=>allRaw raws') (fun raws'=>R P g (asA++wr++asB) cs env ⟨loc,A++raws'++B⟩ h'):=by
 obtain ⟨raws',h1,h2,m'⟩:=r.mu.moved hA hr hl hk
 have own:∀a∈env.locals::cs,a∉wr:=fun a ha q=>(r.off a ha).2 (by simp [q])
 refine ⟨raws',h1,h2,{ mu:=m',ns:=?_,cl:=fun x av hx hv=>?_,off:=r.off,nd:=r.nd,cells:=r.cells,inj:=r.inj,cc:=fun a ha=>?_ }⟩
 ·obtain ⟨m,hn,hm⟩:=r.ns
  exact ⟨m,hn.at' fun o e=>hk _ o (own _ (.head _)) e,hm⟩
 ·obtain ⟨c',o,v,e1,e2,e3,e4⟩:=r.cl x av hx hv
  refine ⟨c',o,v,e1,hk c' o (fun q=>?_) e2,e3,e4⟩
  rcases r.cells x c' e1 with z | ⟨_,o',z⟩
  ·exact own c' (.tail _ z) q
  ·have:=r.mu.out c' (by simp [q]);rw [z] at this;cases this
 ·obtain ⟨o,v,e1,e2⟩:=r.cc a ha
  exact ⟨o,v,hk a o (own a (.tail _ ha)) e1,e2⟩
theorem R.ended(r:R P g (asA++wr++asB) cs env ⟨loc,A++raws++B⟩ h)(hA:asA.length=A.length)(hk:∀b o,b∉wr→h.get? b=some o→h'.get? b=some o)
  (hl:∀p∈loc,p.2.under A.length=true) (hu:∀ao∈A,ao.under A.length=true):R P g asA cs env ⟨loc,A⟩ h':=by
 have own:∀a∈env.locals::cs,a∉wr:=fun a ha q=>(r.off a ha).2 (by simp [q])
 have tk:(asA++wr++asB).take A.length=asA:=by rw [List.append_assoc,List.take_append_of_le_length (by exact o14 hA),List.take_of_length_le (by exact o15 hA)]
 have m0:=MuR.take (as:=asA++wr++asB) (mu1:=A) (mu2:=raws++B) (by rw [← List.append_assoc];exact r.mu) hu
 rw [tk] at m0
 have nw:∀a∈asA,a∉wr:=fun a ha q=>by
  have nd:=r.mu.nd
  rw [List.append_assoc] at nd
  exact (List.nodup_append.mp nd).2.2 a ha a (by simp [q]) rfl
 have und:∀v av x,loc.lookup x=some av→Rel g (asA++wr++asB) v av→Rel g asA v av:=fun v av x e rv=>by
  have hm:∃p∈loc,p.2=av:=by
   clear hl r m0 tk
   induction loc with
   | nil=>cases e
   | cons p l ih =>
    obtain ⟨p1,p2⟩:=p
    by_cases hb:(x==p1)=true
    ·rw [List.lookup_cons,hb] at e;cases e;exact ⟨_,.head _,rfl⟩
    ·have hb':(x==p1)=false:=by simpa using hb
     rw [List.lookup_cons,hb'] at e
     obtain ⟨p,hp,e⟩:=ih e
     exact ⟨p,.tail _ hp,e⟩
  obtain ⟨p,hp,rfl⟩:=hm
  have:=rv.under (n:=A.length) (hl p hp)
  rwa [tk] at this
 refine { mu:=⟨fun b o e=>hk b o (fun q=>?_) (m0.keep b o e),m0.len,m0.nd,fun k a ao e1 e2=>?_,m0.out⟩,ns:=?_,cl:=fun x av hx hv=>?_,off:=fun a ha=>⟨(r.off a ha).1,fun q=>(r.off a ha).2 (by simp [q])⟩,nd:=r.nd,cells:=r.cells,inj:=r.inj,cc:=fun a ha=>?_ }
 ·have:=r.mu.out b (by simp [q]);rw [e] at this;cases this
 ·obtain ⟨o,f1,f2⟩:=m0.at' k a ao e1 e2
  exact ⟨o,hk a o (nw a (List.mem_of_getElem? e1)) f1,f2⟩
 ·obtain ⟨m,hn,hm⟩:=r.ns
  exact ⟨m,hn.at' fun o e=>hk _ o (own _ (.head _)) e,fun x av hx hv=>by obtain ⟨v,e1,e2⟩:=hm x av hx hv;exact ⟨v,e1,und v av x hv e2⟩⟩
 ·obtain ⟨c',o,v,e1,e2,e3,e4⟩:=r.cl x av hx hv
  refine ⟨c',o,v,e1,hk c' o (fun q=>?_) e2,e3,und v av x hv e4⟩
  rcases r.cells x c' e1 with z | ⟨_,o',z⟩
  ·exact own c' (.tail _ z) q
  ·have:=r.mu.out c' (by simp [q]);rw [z] at this;cases this
 ·obtain ⟨o,v,e1,e2⟩:=r.cc a ha
  exact ⟨o,v,hk a o (own a (.tail _ ha)) e1,e2⟩
end
noncomputable def Sub(l' l:List (Str×AV)):Prop:=∀x av,l'.lookup x=some av→l.lookup x=some av
theorem Sub.refl(l:List (Str×AV)):Sub l l:=fun Z Z h=>h
theorem Sub.nil(l:List (Str×AV)):Sub [] l:=fun Z Z h=>by cases h
theorem Sub.cons{x:Str}{v:AV}{r l:List (Str×AV)}(h:l.lookup x=some v)(k:Sub r l):Sub ((x,v)::r) l:=fun y av e=>by
 rw [List.lookup_cons] at e
 by_cases hb:(y==x)=true
 ·rw [hb] at e;cases e;rw [beq_iff_eq.mp hb];exact h
 ·have hb':(y==x)=false:=by simpa using hb
  rw [hb'] at e;exact k y av e
theorem R.forget{P:Params}{g:Heap}{as cs:List Addr}{env:Env}{loc loc':List (Str×AV)}{mu:List AO}{h:Heap}(r:R P g as cs env ⟨loc,mu⟩ h)(hs:Sub loc' loc):R P g as cs env ⟨loc',mu⟩ h where
 mu:=r.mu
 ns:=by
  obtain ⟨m,hn,hm⟩:=r.ns
  exact ⟨m,hn,fun x av hx hv=>hm x av hx (hs x av hv)⟩
 cl:=fun x av hx hv=>r.cl x av hx (hs x av hv)
 off:=r.off
 nd:=r.nd
 cells:=r.cells
 inj:=r.inj
 cc:=r.cc
section
variable {c:Cx}{d u:Nat}{env:Env}
noncomputable def ForOK'(c:Cx)(d u:Nat)(env:Env)(tgt:Expr)(body orelse:List Stmt)(m:Nat):List AV→List (Str×AV)→List AO→List AO→(Fl→St→Prop)→Prop
 | [],loc,A,B,K=>(∀p∈loc,p.2.under A.length=true)∧(∀ao∈A,ao.under A.length=true)∧SsOK c d u env (execs orelse env) ⟨loc,A⟩ K
 | a::r,loc,A,B,K=>∃loc',bindT tgt a loc=some loc'∧∀raws,raws.length=m→allRaw raws→SsOK c d u env (execs body env) ⟨loc',A++raws++B⟩ (fun f σ'=>match f with
   | .next=>∃l A' B',Sub l σ'.loc∧σ'.mu=A'++raws++B'∧A'.length=A.length∧ForOK' c d u env tgt body orelse m r l A' B' K
   | .cont=>∃l A' B',Sub l σ'.loc∧σ'.mu=A'++raws++B'∧A'.length=A.length∧ForOK' c d u env tgt body orelse m r l A' B' K
   | .brk=>K .next σ'
   | .ret v=>K (.ret v) σ')
theorem zQ{α:Type}{a w b l:List α}(h:a++w++b<+:l):∃b',l=a++w++b':=by
 obtain ⟨t,rfl⟩:=h
 exact ⟨b++t,by simp⟩
inductive ForI(c:Cx)(d u:Nat)(env:Env)(tgt:Expr)(body orelse:List Stmt)(K:Fl→St→Prop)(g₀:Heap)(asA wr cs:List Addr)(s:Shared)(St':Nat→Heap→Prop)(items:List AV)(k:Nat)(s':Shared):Prop
 | mk (i:Nat) (g':Heap) (asB:List Addr) (h':Heap) (tk':Nat) (loc':List (Str×AV)) (mA' mB raws':List AO) (h1:k+i=items.length) (h2:s'=(sh s h' tk')) (h3:g₀.StaysIn g') (h4:asA.length=mA'.length) (h5:raws'.length=wr.length) (h6:R c.w.params g' (asA++wr++asB) cs env ⟨loc',mA'++raws'++mB⟩ h') (h7:St' i h') (h8:ForOK' c d u env tgt body orelse wr.length (items.drop i) loc' mA' mB K):ForI c d u env tgt body orelse K g₀ asA wr cs s St' items k s'
end
namespace for_itr
noncomputable def Cq(c:Cx)(d u:Nat)(env:Env)(tgt:Expr)(body orelse:List Stmt)(K:Fl→St→Prop)(A:Around)(g₀:Heap)(as₀ cs asA wr fp:List Addr)(s:Shared)(Rr:Result→Shared→Prop)(I:Addr)(St':Nat→Heap→Prop)(items:List AV)(loc:List (Str×AV))(mA raws₀:List AO):Prop:=∀(ht:SvtOK c env tgt) (ro:Room A d u) (G:Gd c.K c.mg c.mb g₀) (W:Itr c A I tgt fp wr items g₀ as₀ St') (hp:as₀<+:asA++wr) (hfp:∀b∈fp,b∈wr∨∃o,g₀.get? b=some o) (hA:asA.length=mA.length) (hr0:raws₀.length=wr.length) (r₀:R c.w.params g₀ (asA++wr++[]) cs env ⟨loc,mA++raws₀++[]⟩ s.heap) (h₀:St' 0 s.heap) (hk:ForOK' c d u env tgt body orelse wr.length items loc mA [] K) (q:∀f g' as' h' tk' af σ',g₀.StaysIn g'→asA<+:as'→R c.w.params g' as' cs env σ' h'→FlR g' as' f af→K af σ'→Rr (.ok f) (sh s h' tk')),codeAny (model c.prog c.w) A (.forLoop tgt (.ref I) body orelse env) Rr s
noncomputable def Dq(p:Cx×Nat×Nat×Env×Expr×(List Stmt)×(List Stmt)×(Fl→St→Prop)×Around×Heap×(List Addr)×(List Addr)×(List Addr)×(List Addr)×(List Addr)×Shared×(Result→Shared→Prop)×Addr×(Nat→Heap→Prop)×(List AV)×(List (Str×AV))×(List AO)×(List AO)):Prop:=Cq p.1 p.2.1 p.2.2.1 p.2.2.2.1 p.2.2.2.2.1 p.2.2.2.2.2.1 p.2.2.2.2.2.2.1 p.2.2.2.2.2.2.2.1 p.2.2.2.2.2.2.2.2.1 p.2.2.2.2.2.2.2.2.2.1 p.2.2.2.2.2.2.2.2.2.2.1 p.2.2.2.2.2.2.2.2.2.2.2.1 p.2.2.2.2.2.2.2.2.2.2.2.2.1 p.2.2.2.2.2.2.2.2.2.2.2.2.2.1 p.2.2.2.2.2.2.2.2.2.2.2.2.2.2.1 p.2.2.2.2.2.2.2.2.2.2.2.2.2.2.2.1 p.2.2.2.2.2.2.2.2.2.2.2.2.2.2.2.2.1 p.2.2.2.2.2.2.2.2.2.2.2.2.2.2.2.2.2.1 p.2.2.2.2.2.2.2.2.2.2.2.2.2.2.2.2.2.2.1 p.2.2.2.2.2.2.2.2.2.2.2.2.2.2.2.2.2.2.2.1 p.2.2.2.2.2.2.2.2.2.2.2.2.2.2.2.2.2.2.2.2.1 p.2.2.2.2.2.2.2.2.2.2.2.2.2.2.2.2.2.2.2.2.2.1 p.2.2.2.2.2.2.2.2.2.2.2.2.2.2.2.2.2.2.2.2.2.2
def tq:=@ep _ (by have:=neAround;have:=neCx;have:=neEnv;have:=neHeap;have:=neShared;infer_instance) Dq
def c:=tq.1
def d:=tq.2.1
def u:=tq.2.2.1
def env:=tq.2.2.2.1
def tgt:=tq.2.2.2.2.1
def body:=tq.2.2.2.2.2.1
def orelse:=tq.2.2.2.2.2.2.1
def K:=tq.2.2.2.2.2.2.2.1
def A:=tq.2.2.2.2.2.2.2.2.1
def g₀:=tq.2.2.2.2.2.2.2.2.2.1
def as₀:=tq.2.2.2.2.2.2.2.2.2.2.1
def cs:=tq.2.2.2.2.2.2.2.2.2.2.2.1
def asA:=tq.2.2.2.2.2.2.2.2.2.2.2.2.1
def wr:=tq.2.2.2.2.2.2.2.2.2.2.2.2.2.1
def fp:=tq.2.2.2.2.2.2.2.2.2.2.2.2.2.2.1
def s:=tq.2.2.2.2.2.2.2.2.2.2.2.2.2.2.2.1
def Rr:=tq.2.2.2.2.2.2.2.2.2.2.2.2.2.2.2.2.1
def I:=tq.2.2.2.2.2.2.2.2.2.2.2.2.2.2.2.2.2.1
def St':=tq.2.2.2.2.2.2.2.2.2.2.2.2.2.2.2.2.2.2.1
def items:=tq.2.2.2.2.2.2.2.2.2.2.2.2.2.2.2.2.2.2.2.1
def loc:=tq.2.2.2.2.2.2.2.2.2.2.2.2.2.2.2.2.2.2.2.2.1
def mA:=tq.2.2.2.2.2.2.2.2.2.2.2.2.2.2.2.2.2.2.2.2.2.1
def raws₀:=tq.2.2.2.2.2.2.2.2.2.2.2.2.2.2.2.2.2.2.2.2.2.2
theorem T0:Cq c d u env tgt body orelse K A g₀ as₀ cs asA wr fp s Rr I St' items loc mA raws₀:=by
 intro ht ro G W hp hfp hA hr0 r₀ h₀ hk q
 refine codeAny_forLoop_any (ForI c d u env tgt body orelse K g₀ asA wr cs s St' items) ?_ items.length
  ⟨0,g₀,[],s.heap,s.toks,loc,mA,[],raws₀,rfl,rfl,StaysIn.refl' _,hA,hr0,r₀,h₀,hk⟩
 rintro k s' ⟨i,g1,asB,h1,tk1,loc1,mA1,mB,raws1,hki,rfl,hg1,hA1,hr1,r1,st1,hk1⟩
 cases k with
 | zero =>
  have hi:i=items.length:=by exact o1 hki
  subst hi
  rw [List.drop_length] at hk1
  refine W.done _ _ _ st1 fun h2 tk2 kp=>?_
  have r2:=r1.ended hA1 kp hk1.1 hk1.2.1
  exact hk1.2.2 A g1 _ cs (sh s h2 tk2) _ _ ro (G.keeps hg1) r2 fun f g3 as3 h3 tk3 af σ3 hg3 ha3 r3 rf k3=>q f g3 as3 h3 tk3 af σ3 (StaysIn.trans' hg1 hg3) ha3 r3 rf k3
 | succ k =>
  have hi:i < items.length:=by exact o2 hki
  refine W.item i (sh s h1 tk1) _ _ _ hi st1 (fun v s₁ hv=>hv) fun v h2 tk2 av hav hrel st2 kp=>?_
  obtain ⟨raws2,hl2,har,r2⟩:=r1.moved hA1 hr1 (W.live _ _ st2) kp
  obtain ⟨g₂,hg2,r2',hin⟩:=r2.rebase
  have hdrop:items.drop i=av::items.drop (i+1):=by
   rw [List.drop_eq_getElem_cons (by exact o16 hi)]
   congr 1
   exact (List.getElem?_eq_some_iff.mp hav).2
  rw [hdrop] at hk1
  obtain ⟨loc2,hb2,hk2⟩:=hk1
  have pre:as₀<+:asA++wr++asB:=hp.trans (List.prefix_append _ _)
  have rv2:Rel g₂ (asA++wr++asB) v av:=by
   rcases hrel with hrel | ⟨T,ws,avs,rfl,rfl,hT,hTw,⟨o,ho,hc,n,hd⟩,hrs⟩
   ·exact hrel.mono (StaysIn.trans' hg1 hg2) pre
   ·obtain ⟨cl,dd,dt,sl⟩:=o
    dsimp only at hc hd
    subst hc hd
    have hTs:∀b o,h1.get? b=some o→T≠b:=fun b o e z=>absurd (Heap.lt_size e) (by rw [← z];exact Nat.not_lt.mpr hT)
    refine .tup (hin T _ ho (fun z=>?_) (fun z=>?_)) (hrs.mono (StaysIn.trans' hg1 hg2) pre)
    ·rcases List.mem_cons.mp z with z | z
     ·obtain ⟨m,hn,_⟩:=r1.ns
      obtain ⟨oL,_,_,hL,_⟩:=hn
      exact hTs _ _ hL z
     ·obtain ⟨o,_,e,_⟩:=r1.cc _ z
      exact hTs _ _ e rfl
    ·obtain ⟨j,hj⟩:=List.getElem?_of_mem z
     have hlt:j < (mA1++raws1++mB).length:=by rw [← r1.mu.len];exact (List.getElem?_eq_some_iff.mp hj).1
     obtain ⟨o,e,_⟩:=r1.mu.at' j _ _ hj (List.getElem?_eq_getElem hlt)
     exact hTs _ _ e rfl
  refine tg_ok (s:=(sh s h2 tk2)) ht ro.hd r2' rv2 hb2 fun h3 tk3 r3=>?_
  refine hk2 raws2 hl2 har A g₂ _ cs (sh s h3 tk3) _ _ ro ((G.keeps hg1).keeps hg2) r3 fun f g4 as4 h4 tk4 af σ4 hg4 ha4 r4 rf k4=>?_
  have fin:(∃l A' B',Sub l σ4.loc∧σ4.mu=A'++raws2++B'∧A'.length=mA1.length∧ForOK' c d u env tgt body orelse wr.length (items.drop (i+1)) l A' B' K)→∃m,m < k+1∧ForI c d u env tgt body orelse K g₀ asA wr cs s St' items m (sh s h4 tk4):=by
   rintro ⟨l5,A',B',hsub,hmu,hlen,hf⟩
   obtain ⟨asB',rfl⟩:=zQ ha4
   obtain ⟨l4,m4⟩:=σ4
   dsimp only at hmu hf hsub
   subst hmu
   replace r4:=r4.forget hsub
   refine ⟨k,Nat.lt_succ_self _,i+1,g4,asB',h4,tk4,l5,A',B',raws2,by exact o4 hki,rfl,StaysIn.trans' (StaysIn.trans' hg1 hg2) hg4,by exact o17 hA1 hlen,hl2,r4,?_,hf⟩
   refine W.frame _ _ _ st2 fun b hb o e=>?_
   rcases hfp b hb with z | ⟨o',z⟩
   ·obtain ⟨j,hj⟩:=List.getElem?_of_mem z
    have hjl:j < wr.length:=(List.getElem?_eq_some_iff.mp hj).1
    have hraw:∃o1,raws2[j]?=some (.raw o1):=by
     have:∀(l:List AO) (j:Nat),allRaw l→j < l.length→∃o,l[j]?=some (.raw o):=by
      intro l
      induction l with
      | nil=>intro j _ hj;simp at hj
      | cons a l ih =>
       intro j ha hj
       cases a with
       | raw o=>cases j with
        | zero=>exact ⟨o,rfl⟩
        | succ j=>simpa using ih j ha (by simpa using hj)
       | _=>exact ha.elim
     exact this _ _ har (by exact o3 hl2 hjl)
    obtain ⟨o1,ho1⟩:=hraw
    have ix:∀(B:List Addr),(asA++wr++B)[asA.length+j]?=some b:=fun B=>by
     rw [List.append_assoc,List.getElem?_append_right (by exact o18),List.getElem?_append_left (by exact o19 hjl),show asA.length+j - asA.length=j by exact o20];exact hj
    have iy:∀(X Y:List AO),X.length=asA.length→(X++raws2++Y)[asA.length+j]?=some (.raw o1):=fun X Y hX=>by
     rw [List.append_assoc,List.getElem?_append_right (by exact o21 hX),List.getElem?_append_left (by exact o22 hl2 hjl hX),hX,show asA.length+j - asA.length=j by exact o20];exact ho1
    obtain ⟨oa,ea,sa⟩:=r2.mu.at' _ _ _ (ix asB) (iy mA1 mB hA1.symm)
    obtain ⟨ob,eb,sb⟩:=r4.mu.at' _ _ _ (ix asB') (iy A' B' (by exact o23 hA1 hlen))
    cases sa;cases sb
    rw [e] at ea;cases ea
    exact eb
   ·have z1:=hg2 _ _ (hg1 _ _ z)
    have z2:=r2'.mu.keep _ _ z1
    rw [e] at z2;cases z2
    exact r4.mu.keep _ _ (hg4 _ _ z1)
  have lift:∀f af,FlR g4 as4 f af→K af σ4→Rr (.ok f) (sh s h4 tk4):=fun f af rf kk=>q f g4 as4 h4 tk4 af σ4 (StaysIn.trans' (StaysIn.trans' hg1 hg2) hg4) (((List.prefix_append _ _).trans (List.prefix_append _ _)).trans ha4) r4 rf kk
  cases rf with
  | next=>exact fin k4
  | cont=>exact fin k4
  | brk=>exact lift .next .next .next k4
  | ret rv=>exact lift _ _ (.ret rv) k4
end for_itr
section
variable {c:Cx}{d u:Nat}{env:Env}
theorem for_itr{tgt:Expr}{body orelse:List Stmt}{K:Fl→St→Prop}{A:Around}{g₀:Heap}{as₀ cs asA wr fp:List Addr}{s:Shared}{Rr:Result→Shared→Prop}{I:Addr}{St':Nat→Heap→Prop}{items:List AV}{loc:List (Str×AV)}{mA raws₀:List AO}
  (ht:SvtOK c env tgt) (ro:Room A d u) (G:Gd c.K c.mg c.mb g₀) (W:Itr c A I tgt fp wr items g₀ as₀ St') (hp:as₀<+:asA++wr)
  (hfp:∀b∈fp,b∈wr∨∃o,g₀.get? b=some o) (hA:asA.length=mA.length) (hr0:raws₀.length=wr.length) (r₀:R c.w.params g₀ (asA++wr++[]) cs env ⟨loc,mA++raws₀++[]⟩ s.heap) (h₀:St' 0 s.heap)
  (hk:ForOK' c d u env tgt body orelse wr.length items loc mA [] K)
  (q:∀f g' as' h' tk' af σ',g₀.StaysIn g'→asA<+:as'→R c.w.params g' as' cs env σ' h'→FlR g' as' f af→K af σ'→Rr (.ok f) (sh s h' tk')) :
  codeAny (model c.prog c.w) A (.forLoop tgt (.ref I) body orelse env) Rr s:=(@eps _ _ for_itr.Dq for_itr.tq rfl @for_itr.T0 (c,d,u,env,tgt,body,orelse,K,A,g₀,as₀,cs,asA,wr,fp,s,Rr,I,St',items,loc,mA,raws₀)) ht ro G W hp hfp hA hr0 r₀ h₀ hk q
end
section
variable {c:Cx}{A:Around}{I:Addr}{fp wr:List Addr}{n:Nat}{g₀:Heap}{as₀:List Addr}{items:List AV}
theorem itr_tup{elts:List Expr}{k:Nat}{pos:Pos}{Pt:Nat→Array Value→Prop}{St':Nat→Heap→Prop}{Mid:Nat→Addr→Heap→Prop}(W:WalksT c.prog c.w A I fp wr n Pt St' Mid)(hl:items.length=n)
  (hP:∀i vals,Pt i vals→∃avs,items[i]?=some (.tup avs)∧Rels g₀ as₀ vals.toList avs) (live:∀i h,St' i h→∀b∈wr,∃o,h.get? b=some o) :
  Itr c A I (.Tuple elts k pos) fp wr items g₀ as₀ St' where
 frame:=W.frame
 live:=live
 item:=fun i s Q QQ E hi st hQQ hQ=>W.item i s QQ E (hl▸hi) st fun T vals h' tk hv hT hIs hMid kp=>by
  obtain ⟨avs,h1,h2⟩:=hP i vals hv
  have hTw:=W.apart i T h' hMid
  refine hQQ (.ref T) _ (W.go elts k pos i T (sh s h' tk) _ E hMid fun h'' st'' kp''=>?_)
  refine hQ (.ref T) h'' tk _ h1 (.inr ⟨T,vals.toList,avs,rfl,rfl,hT,hTw,?_,h2⟩) st'' fun b o hb e=>kp'' b o hb (kp b o hb e)
  obtain ⟨o,ho,r⟩:=hIs
  exact ⟨o,kp'' T o hTw ho,r⟩
 done:=fun s Q E st hQ=>W.done s Q E (hl▸st) hQ
 self:=W.self
end
section
variable {P:Params}{g:Heap}{as wr cs:List Addr}{mu:List AO}{h:Heap}{env:Env}{loc:List (Str×AV)}
theorem MuR.adopt(m:MuR P g as mu h)(nd:wr.Nodup)(hw:∀b∈wr,g.get? b=none∧b∉as∧∃o,h.get? b=some o):E3 (fun raws=>raws.length=wr.length) (fun raws=>allRaw raws) (fun raws=>MuR P g (as++wr) (mu++raws) h):=by
 obtain ⟨raws,h1,h2,h3⟩:=raws_of (h':=h) wr fun b hb=>(hw b hb).2.2
 refine ⟨raws,h1,h2,⟨m.keep,by simp [m.len,h1],List.nodup_append.mpr ⟨m.nd,nd,fun a ha b hb e=>(hw b hb).2.1 (e▸ha)⟩,fun k a ao e1 e2=>?_,fun a ha=>?_⟩⟩
 ·by_cases hk:k < as.length
  ·rw [List.getElem?_append_left hk] at e1
   rw [List.getElem?_append_left (m.len▸hk)] at e2
   obtain ⟨o,f1,f2⟩:=m.at' k a ao e1 e2
   exact ⟨o,f1,f2.mono (StaysIn.refl' g) (List.prefix_append _ _)⟩
  ·rw [List.getElem?_append_right (by exact o24 hk)] at e1
   rw [List.getElem?_append_right (by have:=m.len;exact o25 hk this),← m.len] at e2
   obtain ⟨o,f1,f2⟩:=h3 _ a e1
   rw [e2] at f2;cases f2
   exact ⟨o,f1,.raw⟩
 ·rcases List.mem_append.mp ha with z | z
  ·exact m.out a z
  ·exact (hw a z).1
theorem R.adopt(r:R P g as cs env ⟨loc,mu⟩ h)(nd:wr.Nodup)(hw:∀b∈wr,g.get? b=none∧b∉as∧b∉env.locals::cs∧∃o,h.get? b=some o):E3 (fun raws=>raws.length=wr.length) (fun raws=>allRaw raws) (fun raws=>R P g (as++wr) cs env ⟨loc,mu++raws⟩ h):=by
 obtain ⟨raws,h1,h2,m'⟩:=r.mu.adopt nd fun b hb=>⟨(hw b hb).1,(hw b hb).2.1,(hw b hb).2.2.2⟩
 refine ⟨raws,h1,h2,{ mu:=m',ns:=?_,cl:=fun x av hx hv=>?_,off:=fun a ha=>⟨(r.off a ha).1,fun q=>?_⟩,nd:=r.nd,cells:=r.cells,inj:=r.inj,cc:=r.cc }⟩
 ·obtain ⟨m,hn,hm⟩:=r.ns
  exact ⟨m,hn,fun x av hx hv=>by obtain ⟨v,e1,e2⟩:=hm x av hx hv;exact ⟨v,e1,e2.mono (StaysIn.refl' g) (List.prefix_append _ _)⟩⟩
 ·obtain ⟨c',o,v,e1,e2,e3,e4⟩:=r.cl x av hx hv
  exact ⟨c',o,v,e1,e2,e3,e4.mono (StaysIn.refl' g) (List.prefix_append _ _)⟩
 ·rcases List.mem_append.mp q with z | z
  ·exact (r.off a ha).2 z
  ·exact (hw a z).2.2.1 ha
end
section
variable {prog:Program}{w:World}{A:Around}{E:Value→Shared→Prop}{s:Shared}
theorem go_quiet{tgt:Expr}{I:Addr}{v:Value}{o:Obj}{n:String}{Q:Unit→Shared→Prop}(ho:s.heap.get? I=some o)(hc:o.cls=.type n)
  (hn:["enumerate","zip","dict_itemiterator","dict_reverseitemiterator","odict_iterator","itertools.zip_longest","itertools.pairwise"].contains n=false) (hQ:Q () s) :
  wpAny (model prog w) A (letOwnedTupleGo tgt (.ref I) v) Q E s:=by
 have key:∀T:Addr,wpAny (model prog w) A (do
   let o ← load I
   match o.cls,o.data with
   | .type n,.fields vs =>
    if ["enumerate","zip","dict_itemiterator","dict_reverseitemiterator","odict_iterator","itertools.zip_longest","itertools.pairwise"].contains n&&vs[0]?==some (rawInt T) then
     rule "for.unpacks-the-owned-tuple"
     updateField I 0 .none
   | _,_=>pure ()) Q E s:=fun T=>by
  refine wpAny_bind (wpAny_load ho ?_)
  rw [hc]
  cases o.data with
  | fields vs =>
   dsimp only
   rw [hn,Bool.false_and]
   exact wpAny_pure hQ
  | _=>exact wpAny_pure hQ
 unfold letOwnedTupleGo
 cases tgt with
 | Tuple es k p =>
  cases v with
  | ref a=>exact key a
  | _=>exact wpAny_pure hQ
 | List es p =>
  cases v with
  | ref a=>exact key a
  | _=>exact wpAny_pure hQ
 | _=>exact wpAny_pure hQ
end
section
variable {c:Cx}{A:Around}{I:Addr}{fp wr:List Addr}{n:Nat}{g₀:Heap}{as₀:List Addr}{items:List AV}
theorem zW{tgt:Expr}{nm:String}{Pv:Nat→Value→Prop}{St':Nat→Heap→Prop}(W:Walks c.prog c.w A I fp wr n Pv St')(hl:items.length=n)(hP:∀i v,Pv i v→∃av,items[i]?=some av∧Rel g₀ as₀ v av)(live:∀i h,St' i h→∀b∈wr,∃o,h.get? b=some o)
  (hcls:∀i h,St' i h→∃o,h.get? I=some o∧o.cls=.type nm) (hn:["enumerate","zip","dict_itemiterator","dict_reverseitemiterator","odict_iterator","itertools.zip_longest","itertools.pairwise"].contains nm=false) :
  Itr c A I tgt fp wr items g₀ as₀ St' where
 frame:=W.frame
 live:=live
 item:=fun i s Q QQ E hi st hQQ hQ=>W.item i s QQ E (hl▸hi) st fun v h' tk hv st' kp=>by
  obtain ⟨av,h1,h2⟩:=hP i v hv
  obtain ⟨o,ho,hc⟩:=hcls _ _ st'
  exact hQQ v _ (go_quiet (s:=(sh s h' tk)) ho hc hn (hQ v h' tk av h1 (.inl h2) st' kp))
 done:=fun s Q E st hQ=>W.done s Q E (hl▸st) hQ
 self:=W.self
end
noncomputable def ItEOK(c:Cx)(d u:Nat)(env:Env)(tgt:Expr)(e:Expr)(σ:St)(K:List AV→Nat→St→Prop):Prop :=
 ∀(A:Around) (g:Heap) (as cs:List Addr) (s:Shared) (Q:Value→Shared→Prop) (E:Value→Shared→Prop),Room A d u→Gd c.K c.mg c.mb g→R c.w.params g as cs env σ s.heap →
  (∀I fp wr St' g' as' h' tk' items σ',g.StaysIn g'→as<+:as'→R c.w.params g' as' cs env σ' h'→Itr c A I tgt fp wr items g' as' St'→wr.Nodup→(∀b∈fp,b∈wr∨∃o,g'.get? b=some o) →
   (∀b∈wr,g'.get? b=none∧b∉as'∧b∉env.locals::cs∧∃o,h'.get? b=some o)→St' 0 h'→K items wr.length σ'→Q (.ref I) (sh s h' tk')) →
  wpAny (model c.prog c.w) A (eval e env) (fun x s₁=>wpAny (model c.prog c.w) A (pyIter x) Q E s₁) E s
section
variable {c:Cx}{d u:Nat}{env:Env}{σ:St}
theorem gH{tgt iter:Expr}{body orelse:List Stmt}{pos:Pos}{K:Fl→St→Prop}(ht:SvtOK c env tgt)(hs:∀v,foldedSetIterable iter env v=pure v)
  (h:ItEOK c d u env tgt iter σ (fun items m σ1=>ForOK' c d u env tgt body orelse m items σ1.loc σ1.mu [] K)):SsOK c d u env (exec (.For tgt iter body orelse pos) env) σ K:=fun A g as cs s Q E ro G rr q =>
 wpAny_For (h A g as cs s _ E ro G rr fun I fp wr St' g1 as1 h1 tk1 items σ1 hg1 ha1 r1 W nd hfp hw h0 k1=>by
  obtain ⟨raws,hl,har,r2⟩:=r1.adopt nd hw
  refine for_itr (s:=(sh s h1 tk1)) (asA:=as1) (raws₀:=raws) ht ro (G.keeps hg1) W (List.prefix_append _ _) hfp r1.mu.len hl ?_ h0 k1 fun f g' as' h' tk' af σ' x1 x2 x3 x4 x5=>q f g' as' h' tk' af σ' (StaysIn.trans' hg1 x1) (ha1.trans x2) x3 x4 x5
  rw [List.append_nil,List.append_nil]
  exact r2) hs
end
section
variable {c:Cx}{d u:Nat}{env:Env}{σ:St}
theorem xD{tgt e:Expr}{K:List AV→Nat→St→Prop}(h:EvOK c d u env e σ (fun a σ1=>∃items,a=.lst items∧K items 1 σ1)):ItEOK c d u env tgt e σ K:=fun A g as cs s Q E ro G rr q =>
 h A g as cs s _ E ro G rr fun v1 g1 as1 h1 tk1 a σ1 hg1 ha1 r1 rv1 k1=>by
  obtain ⟨items,rfl,hk⟩:=k1
  obtain ⟨l,ws,n,dd,sl,rfl,e,rs⟩:=rv1.inv
  have hL:h1.IsList l ws.toArray:=⟨_,r1.mu.keep _ _ e,rfl,_,rfl⟩
  have hne:l≠h1.objs.size:=fun z=>absurd (Heap.lt_size (r1.mu.keep _ _ e)) (by rw [← z];exact Nat.lt_irrefl _)
  refine wpAny_pyIter_list (s:=(sh s h1 tk1)) hL ?_
  have fr:=r1.fresh
  refine q h1.objs.size [h1.objs.size,l] [h1.objs.size] _ g1 as1 (h1.push _) tk1 items σ1 hg1 ha1 (r1.push _) (zW (nm:="list_iterator") (Walks.list ro.hd h1.objs.size l hne ws.toArray) (by rw [List.size_toArray,rs.length]) (fun i v hv=>rs.get' (by simpa using hv)) (fun i h st b hb=>?_) (fun i h st=>?_) (by decide)) (by simp) (fun b hb=>?_) (fun b hb=>?_) ⟨⟨_,Heap.get?_push_size _ rfl,rfl,rfl⟩,hL.at fun o e=>Heap.get?_push_of_some _ e⟩ hk
  ·rw [List.mem_singleton.mp hb];obtain ⟨o,e1,_⟩:=st.1;exact ⟨o,e1⟩
  ·obtain ⟨o,e1,e2,_⟩:=st.1;exact ⟨o,e1,e2⟩
  ·rcases List.mem_cons.mp hb with z | z
   ·exact .inl (z▸.head _)
   ·rw [List.mem_singleton.mp z];exact .inr ⟨_,e⟩
  ·rw [List.mem_singleton.mp hb];exact ⟨fr.1,fr.2.1,fr.2.2.1,_,Heap.get?_push_size _ rfl⟩
theorem it_tup{tgt e:Expr}{K:List AV→Nat→St→Prop}(h:EvOK c d u env e σ (fun a σ1=>∃items,a=.tup items∧K items 1 σ1)):ItEOK c d u env tgt e σ K:=fun A g as cs s Q E ro G rr q =>
 h A g as cs s _ E ro G rr fun v1 g1 as1 h1 tk1 a σ1 hg1 ha1 r1 rv1 k1=>by
  obtain ⟨items,rfl,hk⟩:=k1
  obtain ⟨l,ws,n,dd,sl,rfl,e,rs⟩:=rv1.inv
  have hL:h1.IsTuple l ws.toArray:=⟨_,r1.mu.keep _ _ e,rfl,_,rfl⟩
  have hne:l≠h1.objs.size:=fun z=>absurd (Heap.lt_size (r1.mu.keep _ _ e)) (by rw [← z];exact Nat.lt_irrefl _)
  refine wpAny_pyIter_tuple (s:=(sh s h1 tk1)) hL ?_
  have fr:=r1.fresh
  refine q h1.objs.size [h1.objs.size,l] [h1.objs.size] _ g1 as1 (h1.push _) tk1 items σ1 hg1 ha1 (r1.push _) (zW (nm:="tuple_iterator") (Walks.tuple ro.hd h1.objs.size l hne ws.toArray) (by rw [List.size_toArray,rs.length]) (fun i v hv=>rs.get' (by simpa using hv)) (fun i h st b hb=>?_) (fun i h st=>?_) (by decide)) (by simp) (fun b hb=>?_) (fun b hb=>?_) ⟨⟨_,Heap.get?_push_size _ rfl,rfl,rfl⟩,hL.at fun o e=>Heap.get?_push_of_some _ e⟩ hk
  ·rw [List.mem_singleton.mp hb];obtain ⟨o,e1,_⟩:=st.1;exact ⟨o,e1⟩
  ·obtain ⟨o,e1,e2,_⟩:=st.1;exact ⟨o,e1,e2⟩
  ·rcases List.mem_cons.mp hb with z | z
   ·exact .inl (z▸.head _)
   ·rw [List.mem_singleton.mp z];exact .inr ⟨_,e⟩
  ·rw [List.mem_singleton.mp hb];exact ⟨fr.1,fr.2.1,fr.2.2.1,_,Heap.get?_push_size _ rfl⟩
noncomputable def signsOf(x:Str):List AV:=x.cps.toList.map fun c=>.str ⟨#[c]⟩
theorem it_str{x':Str}{p':Pos}{e:Expr}{K:List AV→Nat→St→Prop}(h:EvOK c d u env e σ (fun a σ1=>∃x,a=.str x∧K (signsOf x) 1 σ1)):ItEOK c d u env (.Name x' p') e σ K:=fun A g as cs s Q E ro G rr q =>
 h A g as cs s _ E ro G rr fun v1 g1 as1 h1 tk1 a σ1 hg1 ha1 r1 rv1 k1=>by
  obtain ⟨x,rfl,hk⟩:=k1
  obtain ⟨t,rfl⟩:=rv1.inv
  have hP:∀i v,SignAt x i v→∃av,(signsOf x)[i]?=some av∧Rel g1 as1 v av:=fun i v hv=>by
   obtain ⟨c,u,e1,rfl⟩:=hv
   refine ⟨.str ⟨#[c]⟩,?_,.str _ u⟩
   unfold signsOf
   rw [List.getElem?_map,Array.getElem?_toList,e1];rfl
  have fr:=r1.fresh
  have fin:∀(o:Obj) (St':Nat→Heap→Prop),Itr c A h1.objs.size (.Name x' p') [h1.objs.size] [h1.objs.size] (signsOf x) g1 as1 St'→o.isFreed=false→St' 0 (h1.push o)→Q (.ref h1.objs.size) (sh s (h1.push o) tk1):=fun o St' W hf h0=>by
   refine q h1.objs.size [h1.objs.size] [h1.objs.size] St' g1 as1 (h1.push o) tk1 (signsOf x) σ1 hg1 ha1 (r1.push _) W (by simp) (fun b hb=>.inl hb) (fun b hb=>?_) h0 hk
   rw [List.mem_singleton.mp hb];exact ⟨fr.1,fr.2.1,fr.2.2.1,_,Heap.get?_push_size _ hf⟩
  have hlen:(signsOf x).length=x.cps.size:=by unfold signsOf;simp
  cases ha:x.cps.all (· < 128)
  ·exact wpAny_pyIter_wide (s:=(sh s h1 tk1)) ha (fin _ _ (zW (nm:="str_iterator") (Walks.strWide ro.hd _ x t) hlen hP (fun i h st b hb=>by rw [List.mem_singleton.mp hb];obtain ⟨o,e1,_⟩:=st;exact ⟨o,e1⟩) (fun i h st=>by obtain ⟨o,e1,e2,_⟩:=st;exact ⟨o,e1,e2⟩) (by decide)) rfl ⟨_,Heap.get?_push_size _ rfl,rfl,rfl⟩)
  ·exact wpAny_pyIter_ascii (s:=(sh s h1 tk1)) ha (fin _ _ (zW (nm:="str_ascii_iterator") (Walks.strAscii ro.hd _ x t) hlen hP (fun i h st b hb=>by rw [List.mem_singleton.mp hb];obtain ⟨o,e1,_⟩:=st;exact ⟨o,e1⟩) (fun i h st=>by obtain ⟨o,e1,e2,_⟩:=st;exact ⟨o,e1,e2⟩) (by decide)) rfl ⟨_,Heap.get?_push_size _ rfl,rfl,rfl⟩)
end
theorem Rel.isUnder2{g:Heap}{as:List Addr}:(∀w v,Rel g as w v→v.under as.length=true)∧(∀ws vs,Rels g as ws vs→unders as.length vs=true):=by
 have lt:∀{a:Addr} {k:Nat},as[k]?=some a→decide (k < as.length)=true:=fun h=>decide_eq_true (List.getElem?_eq_some_iff.mp h).1
 refine yV (M:=fun w v=>v.under as.length=true) (N:=fun ws vs=>unders as.length vs=true) ?_ (fun b=>?_) (fun i t=>?_) (fun x t=>?_) (fun h r=>?_) (fun h r=>?_) (fun h=>?_) (fun h1 h=>?_) (fun v=>?_) ?_ (fun h r=>?_)
 all_goals first | (unfold AV.under;first | rfl | exact r | exact lt h) | (unfold unders;first | rfl | (rw [h,r];rfl))
theorem Rel.isUnder{g:Heap}{as:List Addr}{w:Value}{v:AV}(r:Rel g as w v):v.under as.length=true:=Rel.isUnder2.1 _ _ r
theorem Rels.isUnder{g:Heap}{as:List Addr}{ws:List Value}{vs:List AV}(r:Rels g as ws vs):unders as.length vs=true:=Rel.isUnder2.2 _ _ r
theorem Ents.isUnder{g:Heap}{as:List Addr}{es:List DictEntry}{r:List (Str×AV)}(q:Ents g as es r):entsUnder as.length r=true:=by
 induction q with
 | nil=>rfl
 | cons h _ ih=>exact Bool.and_eq_true_iff.mpr ⟨h.isUnder,ih⟩
theorem Sits.isUnder{P:Params}{g:Heap}{as:List Addr}{o:Obj}{ao:AO}:Sits P g as o ao→ao.under as.length=true
 | .list e r=>r.isUnder
 | .dict e r=>r.isUnder
 | .deque e r=>r.isUnder
 | .raw=>rfl
theorem MuR.isUnder{P:Params}{g:Heap}{as:List Addr}{mu:List AO}{h:Heap}(m:MuR P g as mu h):∀ao∈mu,ao.under mu.length=true:=fun ao hm=>by
 obtain ⟨k,hk⟩:=List.getElem?_of_mem hm
 have hlt:k < as.length:=by rw [m.len];exact (List.getElem?_eq_some_iff.mp hk).1
 obtain ⟨o,_,so⟩:=m.at' k _ ao (List.getElem?_eq_getElem hlt) hk
 rw [← m.len];exact so.isUnder
section
variable {P:Params}{g:Heap}{as cs:List Addr}{env:Env}{σ:St}{h:Heap}
theorem R.frameBut(r:R P g as cs env σ h)(wr:List Addr)(hw:∀b∈wr,g.get? b=none∧b∉as∧b∉env.locals::cs):
  E5 (fun g₁=>g.StaysIn g₁) (fun g₁=>MuR P g₁ as σ.mu h) (fun g₁=>∀b∈wr,g₁.get? b=none) (fun g₁=>∀b o,h.get? b=some o→b∉wr→b∉as→g₁.get? b=some o) (fun g₁=>∀g' as' h' mu',g₁.StaysIn g'→as<+:as'→MuR P g' as' mu' h' →
   E4 (fun g''=>g.StaysIn g'') (fun g''=>R P g'' as' cs env { σ with mu:=mu' } h') (fun g''=>∀v av,Rel g' as' v av→Rel g'' as' v av) (fun g''=>∀b o,g''.get? b=some o→g'.get? b=some o)):=by
 have hc:=r.cc
 obtain ⟨st,m1,hin,hout⟩:=r.mu.rebase wr (fun a ha=>(hw a ha).1)
 refine ⟨_,st,m1,hout,hin,fun g' as' h' mu' hg ha m'=>?_⟩
 obtain ⟨m,hn,hm⟩:=r.ns
 obtain ⟨oL,es,ep,hL,hLd,hLr⟩:=id hn
 have gL:g'.get? env.locals=some oL:=hg _ _ (hin _ _ hL (fun q=>(hw _ q).2.2 (.head _)) (r.off _ (.head _)).2)
 have gc:∀a∈cs,∃o v,g'.get? a=some o∧h.get? a=some o∧o.data=.cell v:=fun a hac=>by
  obtain ⟨o,v,e1,e2⟩:=hc a hac
  exact ⟨o,v,hg _ _ (hin _ _ e1 (fun q=>(hw _ q).2.2 (.tail _ hac)) (r.off _ (.tail _ hac)).2),e1,e2⟩
 have ho:∀a∈env.locals::cs,∀o,g'.get? a=some o→Plainless o:=fun a hac o e=>by
  rcases List.mem_cons.mp hac with q | q
  ·subst q
   rw [gL] at e;cases e
   exact ⟨fun es n=>(by rw [hLd];intro q;cases q),(by rw [hLd];intro q;cases q)⟩
  ·obtain ⟨o',v,e1,_,e2⟩:=gc a q
   rw [e1] at e;cases e
   exact ⟨fun es n=>(by rw [e2];intro q;cases q),(by rw [e2];intro q;cases q)⟩
 have off0:∀a∈env.locals::cs,g.get? a=none:=fun a h=>(r.off a h).1
 have hgg:g.StaysIn (hideAll g' (env.locals::cs)):=fun b o e=>hideAll_get _ (hg _ _ (st _ _ e)) fun q=>by rw [off0 b q] at e;cases e
 refine ⟨hideAll g' (env.locals::cs),hgg,?_,fun v av rv=>rv.hide ho,fun b o e=>of_hideAll _ e⟩
 ·refine { mu:=⟨fun b o e=>m'.keep _ _ (of_hideAll _ e),m'.len,m'.nd,fun k a ao h1 h2=>?_,fun a hm'=>?_⟩,ns:=⟨m,hn.at' fun o e=>?_,fun x av hx hv=>?_⟩,cl:=fun x av hx hv=>?_,off:=fun a hm'=>⟨hideAll_none _ hm',fun q=>?_⟩,nd:=r.nd,cells:=fun x c' e=>(r.cells x c' e).imp id fun ⟨hf,o,e2⟩=>⟨hf,o,hgg _ _ e2⟩,inj:=r.inj,cc:=fun a hac=>?_ }
  ·obtain ⟨o,e1,e2⟩:=m'.at' k a ao h1 h2
   exact ⟨o,e1,e2.hide ho⟩
  ·cases q:(hideAll g' (env.locals::cs)).get? a with
   | none=>rfl
   | some o=>have:=of_hideAll _ q;rw [m'.out a hm'] at this;cases this
  ·rw [hL] at e;cases e
   exact m'.keep _ _ gL
  ·obtain ⟨v,e1,e2⟩:=hm x av hx hv
   exact ⟨v,e1,e2.mono hgg ha⟩
  ·obtain ⟨c',o,v,e1,e2,e3,e4⟩:=r.cl x av hx hv
   refine ⟨c',o,v,e1,?_,e3,e4.mono hgg ha⟩
   rcases r.cells x c' e1 with q | ⟨_,o',q⟩
   ·obtain ⟨o2,v2,f1,f2,_⟩:=gc c' q
    rw [e2] at f2;cases f2
    exact m'.keep _ _ f1
   ·have:=r.mu.keep _ _ q
    rw [e2] at this;cases this
    exact m'.keep _ _ (hg _ _ (st _ _ q))
  ·have hnone:=m'.out a q
   rcases List.mem_cons.mp hm' with z | z
   ·subst z;rw [gL] at hnone;cases hnone
   ·obtain ⟨o2,v2,f1,_⟩:=gc a z
    rw [f1] at hnone;cases hnone
  ·obtain ⟨o2,v2,f1,_,f3⟩:=gc a hac
   exact ⟨o2,v2,m'.keep _ _ f1,f3⟩
end
section
variable {prog:Program}{w:World}{A:Around}{R:Result→Shared→Prop}{s:Shared}
end
namespace codeAny_compLoop_own
noncomputable def Cq(prog:Program)(w:World)(A:Around)(R:Result→Shared→Prop)(s:Shared)(elt target iter:Expr)(ifs:List Expr)(scope:Scope)(pos:Pos)(it acc:Value)(env:Env)(I:Nat→Shared→Prop)(n:Nat):Prop:=∀(turn:∀n s,I n s→wpAny (model prog w) A (pyNext it) (fun r s₁=>match r with
   | none=>R (.ok .next) s₁
   | some v=>wpAny (model prog w) A (letOwnedTupleGo target it v) (fun Z s₁'=>wpAny (model prog w) A (assign target env v) (fun Z s₂ =>
     wpAny (model prog w) A (forIn ifs true fun c r=>if r=true then do let ok ← isTrue c env (eval c env);pure (ForInStep.yield ok) else pure (ForInStep.yield r)) (fun ok s₃ =>
      if ok=true then wpAny (model prog w) A (eval elt env) (fun x s₄ =>
       wpAny (model prog w) A (call (.builtin "list.append") [acc,x]) (fun Z s₅=>∃m,m < n∧I m s₅) (notedBy (model prog w) A env fun e s'=>R (.error e) s') s₄) (notedBy (model prog w) A env fun e s'=>R (.error e) s') s₃
      else ∃m,m < n∧I m s₃) (notedBy (model prog w) A env fun e s'=>R (.error e) s') s₂) (notedBy (model prog w) A env fun e s'=>R (.error e) s') s₁') (notedBy (model prog w) A env fun e s'=>R (.error e) s') s₁) (notedBy (model prog w) A env fun e s'=>R (.error e) s') s) (h:I n s),codeAny (model prog w) A (.compLoop (.ListComp elt [⟨target,iter,ifs,0⟩] scope pos) 0 it acc env) R s
noncomputable def Dq(p:Program×World×Around×(Result→Shared→Prop)×Shared×Expr×Expr×Expr×(List Expr)×Scope×Pos×Value×Value×Env×(Nat→Shared→Prop)×Nat):Prop:=Cq p.1 p.2.1 p.2.2.1 p.2.2.2.1 p.2.2.2.2.1 p.2.2.2.2.2.1 p.2.2.2.2.2.2.1 p.2.2.2.2.2.2.2.1 p.2.2.2.2.2.2.2.2.1 p.2.2.2.2.2.2.2.2.2.1 p.2.2.2.2.2.2.2.2.2.2.1 p.2.2.2.2.2.2.2.2.2.2.2.1 p.2.2.2.2.2.2.2.2.2.2.2.2.1 p.2.2.2.2.2.2.2.2.2.2.2.2.2.1 p.2.2.2.2.2.2.2.2.2.2.2.2.2.2.1 p.2.2.2.2.2.2.2.2.2.2.2.2.2.2.2
def tq:=@ep _ (by have:=neAround;have:=neEnv;have:=neProgram;have:=neScope;have:=neShared;have:=neWorld;infer_instance) Dq
def prog:=tq.1
def w:=tq.2.1
def A:=tq.2.2.1
def R:=tq.2.2.2.1
def s:=tq.2.2.2.2.1
def elt:=tq.2.2.2.2.2.1
def target:=tq.2.2.2.2.2.2.1
def iter:=tq.2.2.2.2.2.2.2.1
def ifs:=tq.2.2.2.2.2.2.2.2.1
def scope:=tq.2.2.2.2.2.2.2.2.2.1
def pos:=tq.2.2.2.2.2.2.2.2.2.2.1
def it:=tq.2.2.2.2.2.2.2.2.2.2.2.1
def acc:=tq.2.2.2.2.2.2.2.2.2.2.2.2.1
def env:=tq.2.2.2.2.2.2.2.2.2.2.2.2.2.1
def I:=tq.2.2.2.2.2.2.2.2.2.2.2.2.2.2.1
def n:=tq.2.2.2.2.2.2.2.2.2.2.2.2.2.2.2
theorem T0:Cq prog w A R s elt target iter ifs scope pos it acc env I n:=by
 intro turn h
 refine codeAny_loop rfl I (fun n s hI=>?_) n h
 show wpAny _ A ((compTurn (.ListComp elt [⟨target,iter,ifs,0⟩] scope pos) 0 it acc env).onRaise (fun x=>do noteFrame x env;theTreesLotGoes x)) _ _ s
 refine wpAny_noted ?_
 rw [compTurn_list]
 refine wpAny_bind (wpAny_standAt (wpAny_bind (wpAny_mono (turn n s hI) (fun r s₁ h₁=>?_) fun Z Z h'=>h')))
 cases r with
 | none=>exact wpAny_pure h₁
 | some v =>
  refine wpAny_bind (wpAny_mono h₁ (fun Z s₁' h₁'=>?_) fun Z Z h'=>h')
  refine wpAny_bind (wpAny_mono h₁' (fun Z s₂ h₂=>wpAny_bind (wpAny_mono h₂ (fun ok s₃ h₃=>?_) fun Z Z h'=>h')) fun Z Z h'=>h')
  cases ok with
  | false=>exact wpAny_pure ⟨rfl,h₃⟩
  | true =>
   exact wpAny_bind (wpAny_bind (wpAny_mono h₃ (fun x s₄ h₄=>wpAny_bind (wpAny_mono h₄ (fun Z s₅ h₅=>wpAny_pure (wpAny_pure ⟨rfl,h₅⟩)) fun Z Z h'=>h')) fun Z Z h'=>h'))
end codeAny_compLoop_own
section
variable {prog:Program}{w:World}{A:Around}{R:Result→Shared→Prop}{s:Shared}
theorem codeAny_compLoop_own{elt target iter:Expr}{ifs:List Expr}{scope:Scope}{pos:Pos}{it acc:Value}{env:Env}(I:Nat→Shared→Prop)
  (turn:∀n s,I n s→wpAny (model prog w) A (pyNext it) (fun r s₁=>match r with
   | none=>R (.ok .next) s₁
   | some v=>wpAny (model prog w) A (letOwnedTupleGo target it v) (fun Z s₁'=>wpAny (model prog w) A (assign target env v) (fun Z s₂ =>
     wpAny (model prog w) A (forIn ifs true fun c r=>if r=true then do let ok ← isTrue c env (eval c env);pure (ForInStep.yield ok) else pure (ForInStep.yield r)) (fun ok s₃ =>
      if ok=true then wpAny (model prog w) A (eval elt env) (fun x s₄ =>
       wpAny (model prog w) A (call (.builtin "list.append") [acc,x]) (fun Z s₅=>∃m,m < n∧I m s₅) (notedBy (model prog w) A env fun e s'=>R (.error e) s') s₄) (notedBy (model prog w) A env fun e s'=>R (.error e) s') s₃
      else ∃m,m < n∧I m s₃) (notedBy (model prog w) A env fun e s'=>R (.error e) s') s₂) (notedBy (model prog w) A env fun e s'=>R (.error e) s') s₁') (notedBy (model prog w) A env fun e s'=>R (.error e) s') s₁) (notedBy (model prog w) A env fun e s'=>R (.error e) s') s)
  (n:Nat) (h:I n s) :
  codeAny (model prog w) A (.compLoop (.ListComp elt [⟨target,iter,ifs,0⟩] scope pos) 0 it acc env) R s:=(@eps _ _ codeAny_compLoop_own.Dq codeAny_compLoop_own.tq rfl @codeAny_compLoop_own.T0 (prog,w,A,R,s,elt,target,iter,ifs,scope,pos,it,acc,env,I,n)) turn h
end
noncomputable def IfsOK(c:Cx)(d u:Nat)(env:Env):List Expr→St→(Bool→Prop)→Prop
 | [],σ,K=>K true
 | [e],σ,K=>TsOK c d u env e σ (fun b σ'=>σ'=σ∧K b)
 | _,_,_=>False
noncomputable def CompOK(c:Cx)(d u:Nat)(env:Env)(tgt elt:Expr)(ifs:List Expr)(mu:List AO):List AV→List (Str×AV)→List AV→(List AV→Prop)→Prop
 | [],loc,ys,K=>K ys
 | a::r,loc,ys,K=>∃loc',bindT tgt a loc=some loc'∧∀raws,IfsOK c d u env ifs ⟨loc',mu++raws⟩ (fun b =>
   (b=true→EvOK c d u env elt ⟨loc',mu++raws⟩ (fun v σ'=>σ'=⟨loc',mu++raws⟩∧v.flat=true∧CompOK c d u env tgt elt ifs mu r loc' (ys++[v]) K)) ∧
   (b=false→CompOK c d u env tgt elt ifs mu r loc' ys K))
theorem zG:∀{ys:List AV} {v:AV},flats ys=true→v.flat=true→flats (ys++[v])=true:=by
 intro zz
 induction zz with
 | nil =>
  intro v Z h
  simp [flats,h]
 | cons y ys ih =>
  intro v h1 h2
  unfold flats at h1
  rw [Bool.and_eq_true] at h1
  simp [flats,h1.1,ih h1.2 h2]
theorem yP{α:Type}{a b:List α}(h:a<+:b)(hl:a.length=b.length):b=a:=(List.IsPrefix.eq_of_length h hl).symm
section
variable {c:Cx}{d u:Nat}{env:Env}
theorem ifs_go{A:Around}{ifs:List Expr}{σ:St}{K:Bool→Prop}{g:Heap}{as cs:List Addr}{s:Shared}{Q:Bool→Shared→Prop}{E:Value→Shared→Prop}(h:IfsOK c d u env ifs σ K)(ro:Room A d u)(G:Gd c.K c.mg c.mb g)(r:R c.w.params g as cs env σ s.heap)
  (q:∀b g' as' h' tk',g.StaysIn g'→as<+:as'→R c.w.params g' as' cs env σ h'→K b→Q b (sh s h' tk')) :
  wpAny (model c.prog c.w) A (forIn ifs true fun c r=>if r=true then do let ok ← isTrue c env (eval c env);pure (ForInStep.yield ok) else pure (ForInStep.yield r)) Q E s:=by
 match ifs,h with
 | [],h=>exact wpAny_tests_nil (q true g as s.heap s.toks (StaysIn.refl' g) (List.prefix_refl _) r h)
 | [e],h=>exact wpAny_tests_one (h A g as cs s Q E ro G r fun b g' as' h' tk' σ' hg ha r' k=>by obtain ⟨rfl,k⟩:=k;exact q b g' as' h' tk' hg ha r' k)
inductive CompI(c:Cx)(d u:Nat)(env:Env)(tgt elt:Expr)(ifs:List Expr)(mA:List AO)(K:List AV→Prop)(g₀:Heap)(asA wr:List Addr)(D:Addr)(s:Shared)(St':Nat→Heap→Prop)(items:List AV)(k:Nat)(s':Shared):Prop
 | mk (i:Nat) (g':Heap) (h':Heap) (tk':Nat) (loc':List (Str×AV)) (raws':List AO) (ys:List AV) (h1:k+i=items.length) (h2:s'=(sh s h' tk')) (h3:g₀.StaysIn g') (h5:raws'.length=wr.length) (h9:ys.length≤i) (h10:flats ys=true) (h6:R c.w.params g' (asA++wr++[D]) [] env ⟨loc',mA++raws'++[.list ys]⟩ h') (h7:St' i h') (h8:CompOK c d u env tgt elt ifs mA (items.drop i) loc' ys K):CompI c d u env tgt elt ifs mA K g₀ asA wr D s St' items k s'
end
namespace comp_itr
noncomputable def Cq(c:Cx)(d u:Nat)(env:Env)(tgt elt iter:Expr)(ifs:List Expr)(scope:Scope)(pos:Pos)(K:List AV→Prop)(A:Around)(g₀:Heap)(as₀ asA wr fp:List Addr)(s:Shared)(Rr:Result→Shared→Prop)(I D:Addr)(St':Nat→Heap→Prop)(items:List AV)(loc:List (Str×AV))(mA raws₀:List AO):Prop:=∀(ht:SvtOK c env tgt) (ro:Room A d u) (G:Gd c.K c.mg c.mb g₀) (W:Itr c A I tgt fp wr items g₀ as₀ St') (hp:as₀<+:asA) (hz:items.length≤100000) (hu:∀ao∈mA,ao.under mA.length=true) (hfp:∀b∈fp,b∈wr∨∃o,g₀.get? b=some o) (hA:asA.length=mA.length) (hr0:raws₀.length=wr.length) (r₀:R c.w.params g₀ (asA++wr++[D]) [] env ⟨loc,mA++raws₀++[.list []]⟩ s.heap) (h₀:St' 0 s.heap) (hk:CompOK c d u env tgt elt ifs mA items loc [] K) (q:∀g' h' tk' m ws n ys,g₀.StaysIn g'→MuR c.w.params g' asA mA h'→h'.get? D=some (lstObj ws n)→Rels g' asA ws ys→g'.get? D=none→D∉asA→h'.Ns env.locals m→g'.get? env.locals=none→env.locals∉asA→env.locals≠D→K ys→Rr (.ok .next) (sh s h' tk')),codeAny (model c.prog c.w) A (.compLoop (.ListComp elt [⟨tgt,iter,ifs,0⟩] scope pos) 0 (.ref I) (.ref D) env) Rr s
noncomputable def Dq(p:Cx×Nat×Nat×Env×Expr×Expr×Expr×(List Expr)×Scope×Pos×(List AV→Prop)×Around×Heap×(List Addr)×(List Addr)×(List Addr)×(List Addr)×Shared×(Result→Shared→Prop)×Addr×Addr×(Nat→Heap→Prop)×(List AV)×(List (Str×AV))×(List AO)×(List AO)):Prop:=Cq p.1 p.2.1 p.2.2.1 p.2.2.2.1 p.2.2.2.2.1 p.2.2.2.2.2.1 p.2.2.2.2.2.2.1 p.2.2.2.2.2.2.2.1 p.2.2.2.2.2.2.2.2.1 p.2.2.2.2.2.2.2.2.2.1 p.2.2.2.2.2.2.2.2.2.2.1 p.2.2.2.2.2.2.2.2.2.2.2.1 p.2.2.2.2.2.2.2.2.2.2.2.2.1 p.2.2.2.2.2.2.2.2.2.2.2.2.2.1 p.2.2.2.2.2.2.2.2.2.2.2.2.2.2.1 p.2.2.2.2.2.2.2.2.2.2.2.2.2.2.2.1 p.2.2.2.2.2.2.2.2.2.2.2.2.2.2.2.2.1 p.2.2.2.2.2.2.2.2.2.2.2.2.2.2.2.2.2.1 p.2.2.2.2.2.2.2.2.2.2.2.2.2.2.2.2.2.2.1 p.2.2.2.2.2.2.2.2.2.2.2.2.2.2.2.2.2.2.2.1 p.2.2.2.2.2.2.2.2.2.2.2.2.2.2.2.2.2.2.2.2.1 p.2.2.2.2.2.2.2.2.2.2.2.2.2.2.2.2.2.2.2.2.2.1 p.2.2.2.2.2.2.2.2.2.2.2.2.2.2.2.2.2.2.2.2.2.2.1 p.2.2.2.2.2.2.2.2.2.2.2.2.2.2.2.2.2.2.2.2.2.2.2.1 p.2.2.2.2.2.2.2.2.2.2.2.2.2.2.2.2.2.2.2.2.2.2.2.2.1 p.2.2.2.2.2.2.2.2.2.2.2.2.2.2.2.2.2.2.2.2.2.2.2.2.2
def tq:=@ep _ (by have:=neAround;have:=neCx;have:=neEnv;have:=neHeap;have:=neScope;have:=neShared;infer_instance) Dq
def c:=tq.1
def d:=tq.2.1
def u:=tq.2.2.1
def env:=tq.2.2.2.1
def tgt:=tq.2.2.2.2.1
def elt:=tq.2.2.2.2.2.1
def iter:=tq.2.2.2.2.2.2.1
def ifs:=tq.2.2.2.2.2.2.2.1
def scope:=tq.2.2.2.2.2.2.2.2.1
def pos:=tq.2.2.2.2.2.2.2.2.2.1
def K:=tq.2.2.2.2.2.2.2.2.2.2.1
def A:=tq.2.2.2.2.2.2.2.2.2.2.2.1
def g₀:=tq.2.2.2.2.2.2.2.2.2.2.2.2.1
def as₀:=tq.2.2.2.2.2.2.2.2.2.2.2.2.2.1
def asA:=tq.2.2.2.2.2.2.2.2.2.2.2.2.2.2.1
def wr:=tq.2.2.2.2.2.2.2.2.2.2.2.2.2.2.2.1
def fp:=tq.2.2.2.2.2.2.2.2.2.2.2.2.2.2.2.2.1
def s:=tq.2.2.2.2.2.2.2.2.2.2.2.2.2.2.2.2.2.1
def Rr:=tq.2.2.2.2.2.2.2.2.2.2.2.2.2.2.2.2.2.2.1
def I:=tq.2.2.2.2.2.2.2.2.2.2.2.2.2.2.2.2.2.2.2.1
def D:=tq.2.2.2.2.2.2.2.2.2.2.2.2.2.2.2.2.2.2.2.2.1
def St':=tq.2.2.2.2.2.2.2.2.2.2.2.2.2.2.2.2.2.2.2.2.2.1
def items:=tq.2.2.2.2.2.2.2.2.2.2.2.2.2.2.2.2.2.2.2.2.2.2.1
def loc:=tq.2.2.2.2.2.2.2.2.2.2.2.2.2.2.2.2.2.2.2.2.2.2.2.1
def mA:=tq.2.2.2.2.2.2.2.2.2.2.2.2.2.2.2.2.2.2.2.2.2.2.2.2.1
def raws₀:=tq.2.2.2.2.2.2.2.2.2.2.2.2.2.2.2.2.2.2.2.2.2.2.2.2.2
theorem T0:Cq c d u env tgt elt iter ifs scope pos K A g₀ as₀ asA wr fp s Rr I D St' items loc mA raws₀:=by
 intro ht ro G W hp hz hu hfp hA hr0 r₀ h₀ hk q
 refine codeAny_compLoop_own (CompI c d u env tgt elt ifs mA K g₀ asA wr D s St' items) ?_ items.length
  ⟨0,g₀,s.heap,s.toks,loc,raws₀,[],rfl,rfl,StaysIn.refl' _,hr0,Nat.le_refl _,rfl,r₀,h₀,hk⟩
 rintro k s' ⟨i,g1,h1,tk1,loc1,raws1,ys,hki,rfl,hg1,hr1,hyl,hyf,r1,st1,hk1⟩
 have nd1:=r1.mu.nd
 have hDas:D∉asA∧D∉wr:=by
  constructor <;> intro z
  ·exact (List.nodup_append.mp nd1).2.2 D (by simp [z]) D (by simp) rfl
  ·exact (List.nodup_append.mp nd1).2.2 D (by simp [z]) D (by simp) rfl
 have ixD:(asA++wr++[D])[mA.length+wr.length]?=some D:=by
  rw [List.getElem?_append_right (by simp;exact o15 hA)]
  simp [hA]
 have iyD:∀(raws:List AO) (ys:List AV),raws.length=wr.length→(mA++raws++[AO.list ys])[mA.length+wr.length]?=some (.list ys):=fun raws ys hr=>by
  rw [List.getElem?_append_right (by simp;exact o15 hr)]
  simp [hr]
 cases k with
 | zero =>
  have hi:i=items.length:=by exact o1 hki
  subst hi
  rw [List.drop_length] at hk1
  refine W.done _ _ _ st1 fun h2 tk2 kp=>?_
  obtain ⟨oD,eD,sD⟩:=r1.mu.at' _ _ _ ixD (iyD raws1 ys hr1)
  obtain ⟨ws,n,eo,rl⟩:=sD.inv
  subst eo
  obtain ⟨m,hn,_⟩:=r1.ns
  have offL:=r1.off _ (.head _)
  have tk:(asA++wr++[D]).take mA.length=asA:=by rw [List.append_assoc,List.take_append_of_le_length (by exact o14 hA),List.take_of_length_le (by exact o15 hA)]
  have m0:=MuR.take (as:=asA++wr++[D]) (mu1:=mA) (mu2:=raws1++[.list ys]) (by rw [← List.append_assoc];exact r1.mu) hu
  rw [tk] at m0
  refine q g1 h2 tk2 m ws n ys hg1 ⟨fun b o e=>kp b o (fun z=>?_) (m0.keep b o e),m0.len,m0.nd,fun k a ao e1 e2=>?_,m0.out⟩ (kp D _ hDas.2 eD) (rl.flat hyf) (r1.mu.out D (by simp)) hDas.1 (hn.at' fun o e=>kp _ o (fun z=>offL.2 (by simp [z])) e) offL.1 (fun z=>offL.2 (by simp [z])) (fun z=>offL.2 (by simp [z])) hk1
  ·have:=r1.mu.out b (by simp [z]);rw [e] at this;cases this
  ·obtain ⟨o,f1,f2⟩:=m0.at' k a ao e1 e2
   refine ⟨o,kp a o (fun z=>?_) f1,f2⟩
   rw [List.append_assoc] at nd1
   exact (List.nodup_append.mp nd1).2.2 a (List.mem_of_getElem? e1) a (by simp [z]) rfl
 | succ k =>
  have hi:i < items.length:=by exact o2 hki
  refine W.item i (sh s h1 tk1) _ _ _ hi st1 (fun v s₁ hv=>hv) fun v h2 tk2 av hav hrel st2 kp=>?_
  obtain ⟨raws2,hl2,har,r2⟩:=r1.moved hA hr1 (W.live _ _ st2) kp
  obtain ⟨g₂,hg2,r2',hin⟩:=r2.rebase
  have hdrop:items.drop i=av::items.drop (i+1):=by
   rw [List.drop_eq_getElem_cons (by exact o16 hi)]
   congr 1
   exact (List.getElem?_eq_some_iff.mp hav).2
  rw [hdrop] at hk1
  obtain ⟨loc2,hb2,hk2⟩:=hk1
  have pre:as₀<+:asA++wr++[D]:=(hp.trans (List.prefix_append _ _)).trans (List.prefix_append _ _)
  have rv2:Rel g₂ (asA++wr++[D]) v av:=by
   rcases hrel with hrel | ⟨T,ws,avs,rfl,rfl,hT,hTw,⟨o,ho,hc,n,hd⟩,hrs⟩
   ·exact hrel.mono (StaysIn.trans' hg1 hg2) pre
   ·obtain ⟨cl,dd,dt,sl⟩:=o
    dsimp only at hc hd
    subst hc hd
    have hTs:∀b o,h1.get? b=some o→T≠b:=fun b o e z=>absurd (Heap.lt_size e) (by rw [← z];exact Nat.not_lt.mpr hT)
    refine .tup (hin T _ ho (fun z=>?_) (fun z=>?_)) (hrs.mono (StaysIn.trans' hg1 hg2) pre)
    ·rcases List.mem_cons.mp z with z | z
     ·obtain ⟨m,hn,_⟩:=r1.ns
      obtain ⟨oL,_,_,hL,_⟩:=hn
      exact hTs _ _ hL z
     ·cases z
    ·obtain ⟨j,hj⟩:=List.getElem?_of_mem z
     have hlt:j < (mA++raws1++[AO.list ys]).length:=by rw [← r1.mu.len];exact (List.getElem?_eq_some_iff.mp hj).1
     obtain ⟨o,e,_⟩:=r1.mu.at' j _ _ hj (List.getElem?_eq_getElem hlt)
     exact hTs _ _ e rfl
  refine tg_ok (s:=(sh s h2 tk2)) ht ro.hd r2' rv2 hb2 fun h3 tk3 r3=>?_
  have hk3:=hk2 (raws2++[.list ys])
  rw [← List.append_assoc] at hk3
  have G2:=(G.keeps hg1).keeps hg2
  -- the iterator stands as it stood
  have still:∀g4 as4 h4 (X:List AO),g₂.StaysIn g4→as4=asA++wr++[D]→R c.w.params g4 as4 [] env ⟨loc2,mA++raws2++X⟩ h4→St' (i+1) h4:=by
   rintro g4 _ h4 X hg4 rfl r4
   refine W.frame _ _ _ st2 fun b hb o e=>?_
   rcases hfp b hb with z | ⟨o',z⟩
   ·obtain ⟨j,hj⟩:=List.getElem?_of_mem z
    have hjl:j < wr.length:=(List.getElem?_eq_some_iff.mp hj).1
    have hraw:∃o1,raws2[j]?=some (.raw o1):=by
     have:∀(l:List AO) (j:Nat),allRaw l→j < l.length→∃o,l[j]?=some (.raw o):=by
      intro l
      induction l with
      | nil=>intro j _ hj;simp at hj
      | cons a l ih =>
       intro j ha hj
       cases a with
       | raw o=>cases j with
        | zero=>exact ⟨o,rfl⟩
        | succ j=>simpa using ih j ha (by simpa using hj)
       | _=>exact ha.elim
     exact this _ _ har (by exact o3 hl2 hjl)
    obtain ⟨o1,ho1⟩:=hraw
    have ix:(asA++wr++[D])[asA.length+j]?=some b:=by
     rw [List.append_assoc,List.getElem?_append_right (by exact o18),List.getElem?_append_left (by exact o19 hjl),show asA.length+j - asA.length=j by exact o20];exact hj
    have iy:∀(Y:List AO),(mA++raws2++Y)[asA.length+j]?=some (.raw o1):=fun Y=>by
     rw [List.append_assoc,List.getElem?_append_right (by exact o26 hA),List.getElem?_append_left (by exact o27 hA hl2 hjl),hA,show mA.length+j - mA.length=j by exact o20];exact ho1
    obtain ⟨oa,ea,sa⟩:=r2.mu.at' _ _ _ ix (iy _)
    obtain ⟨ob,eb,sb⟩:=r4.mu.at' _ _ _ ix (iy _)
    cases sa;cases sb
    rw [e] at ea;cases ea
    exact eb
   ·have z1:=hg2 _ _ (hg1 _ _ z)
    have z2:=r2'.mu.keep _ _ z1
    rw [e] at z2;cases z2
    exact r4.mu.keep _ _ (hg4 _ _ z1)
  have hg02:=StaysIn.trans' hg1 hg2
  have hlenA:∀X:List AO,X.length=1→(asA++wr++[D]).length=(mA++raws2++X).length:=fun X hX=>by simp [hA,hl2,hX]
  refine ifs_go (s:=(sh s h3 tk3)) hk3 ro G2 r3 fun b g4 as4 h4 tk4 hg4 ha4 r4 kb=>?_
  have e4:as4=asA++wr++[D]:=yP ha4 ((hlenA [.list ys] rfl).trans r4.mu.len.symm)
  subst e4
  cases b with
  | false=>exact ⟨k,Nat.lt_succ_self _,i+1,g4,h4,tk4,loc2,raws2,ys,by exact o4 hki,rfl,StaysIn.trans' hg02 hg4,hl2,by exact o28 hyl,hyf,r4,still g4 _ h4 _ hg4 rfl r4,kb.2 rfl⟩
  | true =>
   refine kb.1 rfl A g4 _ [] (sh s h4 tk4) _ _ ro (G2.keeps hg4) r4 fun x g5 as5 h5 tk5 y σ5 hg5 ha5 r5 ry ky=>?_
   obtain ⟨rfl,hyflat,hrest⟩:=ky
   have e5:as5=asA++wr++[D]:=yP ha5 ((hlenA [.list ys] rfl).trans r5.mu.len.symm)
   subst e5
   obtain ⟨g₆,st6,m6,k6⟩:=r5.frame
   refine vB (c:=c) (d:=d) (u:=u) (k:=mA.length+wr.length) (vs:=ys) (v:=y) (mu:=mA++raws2++[.list ys]) (K:=fun v mu'=>mu'=mA++raws2++[.list (ys++[y])]) (iyD raws2 ys hl2) (by exact o29 hz hyl hki) ?_ A g₆ _ (sh s h5 tk5) _ _ [.ref D,x] [] ro ((G2.keeps hg4).keeps hg5 |>.keeps st6) m6 (.cons (.mut ixD) (.cons (ry.mono st6 (List.prefix_refl _)) .nil)) .nil fun v7 g7 as7 h7 tk7 av7 mu7 hg7 ha7 m7 rv7 kk7=>?_
   ·rw [List.set_append_right _ _ (by simp [hl2])]
    simp [hl2]
   ·subst kk7
    have e7:as7=asA++wr++[D]:=yP ha7 ((hlenA [.list (ys++[y])] rfl).trans m7.len.symm)
    subst e7
    obtain ⟨g8,hg8,r8,_⟩:=k6 g7 _ h7 _ hg7 (List.prefix_refl _) m7
    have hg28:g₂.StaysIn g8:=StaysIn.trans' (StaysIn.trans' hg4 hg5) hg8
    exact ⟨k,Nat.lt_succ_self _,i+1,g8,h7,tk7,loc2,raws2,ys++[y],by exact o4 hki,rfl,StaysIn.trans' hg02 hg28,hl2,by simp;exact o30 hyl,zG hyf hyflat,r8,still g8 _ h7 _ hg28 rfl r8,hrest⟩
end comp_itr
section
variable {c:Cx}{d u:Nat}{env:Env}
theorem comp_itr{tgt elt iter:Expr}{ifs:List Expr}{scope:Scope}{pos:Pos}{K:List AV→Prop}{A:Around}{g₀:Heap}{as₀ asA wr fp:List Addr}{s:Shared}{Rr:Result→Shared→Prop}{I D:Addr}{St':Nat→Heap→Prop}{items:List AV}{loc:List (Str×AV)}{mA raws₀:List AO}
  (ht:SvtOK c env tgt) (ro:Room A d u) (G:Gd c.K c.mg c.mb g₀) (W:Itr c A I tgt fp wr items g₀ as₀ St') (hp:as₀<+:asA) (hz:items.length≤100000) (hu:∀ao∈mA,ao.under mA.length=true)
  (hfp:∀b∈fp,b∈wr∨∃o,g₀.get? b=some o) (hA:asA.length=mA.length) (hr0:raws₀.length=wr.length) (r₀:R c.w.params g₀ (asA++wr++[D]) [] env ⟨loc,mA++raws₀++[.list []]⟩ s.heap) (h₀:St' 0 s.heap)
  (hk:CompOK c d u env tgt elt ifs mA items loc [] K)
  (q:∀g' h' tk' m ws n ys,g₀.StaysIn g'→MuR c.w.params g' asA mA h'→h'.get? D=some (lstObj ws n)→Rels g' asA ws ys→g'.get? D=none→D∉asA→h'.Ns env.locals m→g'.get? env.locals=none→env.locals∉asA→env.locals≠D→K ys→Rr (.ok .next) (sh s h' tk')) :
  codeAny (model c.prog c.w) A (.compLoop (.ListComp elt [⟨tgt,iter,ifs,0⟩] scope pos) 0 (.ref I) (.ref D) env) Rr s:=(@eps _ _ comp_itr.Dq comp_itr.tq rfl @comp_itr.T0 (c,d,u,env,tgt,elt,iter,ifs,scope,pos,K,A,g₀,as₀,asA,wr,fp,s,Rr,I,D,St',items,loc,mA,raws₀)) ht ro G W hp hz hu hfp hA hr0 r₀ h₀ hk q
end
theorem Itr.mono{c:Cx}{A:Around}{I:Addr}{tgt:Expr}{fp wr:List Addr}{items:List AV}{g g':Heap}{as as':List Addr}{St:Nat→Heap→Prop}(W:Itr c A I tgt fp wr items g as St)(hg:g.StaysIn g')(ha:as<+:as'):Itr c A I tgt fp wr items g' as' St where
 frame:=W.frame
 live:=W.live
 item:=fun i s Q QQ E hi st h1 h2=>W.item i s Q QQ E hi st h1 fun v h' tk av hav hrel st' kp=>h2 v h' tk av hav (hrel.imp (fun r=>r.mono hg ha) fun ⟨T,ws,avs,e1,e2,e3,e4,e5,e6⟩=>⟨T,ws,avs,e1,e2,e3,e4,e5,e6.mono hg ha⟩) st' kp
 done:=W.done
 self:=W.self
structure CapOK(scope:Scope)(env:Env)(cl:List (Str×Addr))(σ:St)(p:Str×AV):Prop where
 val:σ.loc.lookup p.1=some p.2
 out:env.kindOf p.1=some .cell∨env.kindOf p.1=some .free
 inn:(relabel scope env).names.lookup p.1=some .cell∨(relabel scope env).names.lookup p.1=some .free
 at':∃cc,cl.lookup p.1=some cc∧env.cells.lookup p.1=some cc
theorem vH{x:Str}{av:AV}{l:List (Str×AV)}(e:l.lookup x=some av):(x,av)∈l:=by
 induction l with
 | nil=>cases e
 | cons p l ih =>
  obtain ⟨y,b⟩:=p
  rw [List.lookup_cons] at e
  cases hb:x==y with
  | true=>rw [hb] at e;rw [beq_iff_eq.mp hb,← Option.some.inj e];exact .head _
  | false=>rw [hb] at e;exact .tail _ (ih e)
section
variable {c:Cx}{d u:Nat}{env:Env}{σ:St}
theorem wI{elt tgt iter:Expr}{ifs:List Expr}{scope:Scope}{pos:Pos}{K:AV→St→Prop}{cl:List (Str×Addr)}(hs:∀v,foldedSetIterable iter env v=pure v)(hclos:closureFor scope env=pure cl)
  (hkind:scope.kind=.function) (hcell:∀y∈scope.names,y.2≠.cell) (hnames:∀x∈scope.names,x.2=.local→scope.names.lookup x.1=some .local)
  (ht:∀C,SvtOK c (compEnvC scope cl C env) tgt) (hcl:∀x cc,cl.lookup x=some cc→env.cells.lookup x=some cc)
  (h:ItEOK c d u env tgt iter σ (fun items m σ1=>items.length≤100000∧∃loc₀,(∀p∈loc₀,CapOK scope env cl σ1 p)∧∀C,CompOK c d u (compEnvC scope cl C env) tgt elt ifs σ1.mu items loc₀ [] (fun ys=>K (.lst ys) σ1))) :
  EvOK c d u env (.ListComp elt [⟨tgt,iter,ifs,0⟩] scope pos) σ K:=fun A g as cs s Q E ro G r q=>by
 rw [eval_ListComp]
 refine wpAny_comprehension_free (use:=none) rfl hs hclos hkind hnames (h A g as cs s _ E ro G r fun I fp wr St' g1 as1 h1 tk1 items σ1 hg1 ha1 r1 W nd hfp hw h0 k1=>?_)
 obtain ⟨hz,loc₀,hcap,hC⟩:=k1
 obtain ⟨g₁,st1,m1,hwr,hin,kf⟩:=r1.frameBut wr fun b hb=>⟨(hw b hb).1,(hw b hb).2.1,(hw b hb).2.2.1⟩
 obtain ⟨raws,hrl,har,m2⟩:=m1.adopt (wr:=wr) nd fun b hb=>⟨hwr b hb,(hw b hb).2.1,(hw b hb).2.2.2⟩
 refine wpAny_newObj_type (wpAny_newFunctionEnv hcell (by intro y hy;simp at hy) (fun h₂ hns₂ hsb₂=>?_) hkind)
 dsimp only at hns₂ hsb₂ ⊢
 have m3:=m2.grow (lstObj [] 0) rfl (ao:=.list []) (.list rfl .nil)
 generalize hH:h1.push { cls:=.type "list",dict:=none,data:=.seq ([]:List Value).toArray }=H at hns₂ hsb₂ ⊢
 have m3':MuR c.w.params g₁ (as1++wr++[h1.objs.size]) (σ1.mu++raws++[.list []]) H:=by rw [← hH];exact m3
 have fr:=m3'.size_out
 have m4:MuR c.w.params g₁ (as1++wr++[h1.objs.size]) (σ1.mu++raws++[.list []]) h₂:=⟨fun b o e=>(hsb₂.2 b (fun z=>by rw [z,fr.1] at e;cases e)).trans (Heap.get?_push_of_some _ (m3'.keep b o e)),m3'.len,m3'.nd,fun k a ao e1 e2=>by
  obtain ⟨o,f1,f2⟩:=m3'.at' k a ao e1 e2
  exact ⟨o,(hsb₂.2 a (fun z=>fr.2 (z▸List.mem_of_getElem? e1))).trans (Heap.get?_push_of_some _ f1),f2⟩,m3'.out⟩
 have old:∀b o,h1.get? b=some o→h₂.get? b=some o:=fun b o e=>by
  have eb:H.get? b=some o:=by rw [← hH];exact Heap.get?_push_of_some _ e
  exact (hsb₂.2 b (fun z=>absurd (Heap.lt_size eb) (by rw [z];exact Nat.lt_irrefl _))).trans (Heap.get?_push_of_some _ eb)
 have pre1:as1<+:as1++wr++[h1.objs.size]:=(List.prefix_append _ _).trans (List.prefix_append _ _)
 have r3:R c.w.params g₁ (as1++wr++[h1.objs.size]) [] (compEnvC scope cl H.objs.size env) ⟨loc₀,σ1.mu++raws++[.list []]⟩ h₂ :=
  {mu:=m4
   ns:=⟨_,hns₂,fun x av hx hv=>by
    have cp:=hcap _ (vH hv)
    have hx':(relabel scope env).names.lookup x=some .local:=hx
    rcases cp.inn with z | z <;> (dsimp only at z;rw [hx'] at z;cases z)⟩
   cl:=fun x av hx hv=>by
    have cp:=hcap _ (vH hv)
    obtain ⟨c',o,v,e1,e2,e3,e4⟩:=r1.cl x av cp.out cp.val
    obtain ⟨cc,f1,f2⟩:=cp.at'
    dsimp only at f1 f2
    rw [f2] at e1;cases e1
    exact ⟨c',o,v,f1,old _ _ e2,e3,e4.mono st1 pre1⟩
   off:=fun a ha=>by
    rcases List.mem_cons.mp ha with z | z
    ·subst z;exact fr
    ·cases z
   nd:=by simp
   cells:=fun x c' e=>by
    have e':=hcl x c' e
    rcases r1.cells x c' e' with z | ⟨_,o,z⟩
    ·obtain ⟨o,v,f1,_⟩:=r1.cc _ z
     exact .inr ⟨rfl,o,hin c' o f1 (fun y=>(hw _ y).2.2.1 (.tail _ z)) (r1.off _ (.tail _ z)).2⟩
    ·exact .inr ⟨rfl,o,st1 _ _ z⟩
   inj:=fun x y c' e1 e2=>r1.inj x y c' (hcl _ _ e1) (hcl _ _ e2)
   cc:=fun a ha=>by cases ha }
 have G1:=(G.keeps hg1).keeps st1
 have st₂:St' 0 h₂:=W.frame _ _ _ h0 fun b hb o e=>old b o e
 have loop:codeAny (model c.prog c.w) A (.compLoop (.ListComp elt [⟨tgt,iter,ifs,0⟩] scope pos) 0 (.ref I) (.ref h1.objs.size) (compEnvC scope cl H.objs.size env)) (compPost (model c.prog c.w) A E none Q (.ref h1.objs.size) H.objs.size) { s with heap:=h₂,toks:=tk1+([]:List (Str×Value)).length }:=by
  refine comp_itr (s:={ s with heap:=h₂,toks:=tk1+([]:List (Str×Value)).length }) (raws₀:=raws) (ht _) ro G1 (W.mono st1 (List.prefix_refl _)) (List.prefix_refl _) hz m1.isUnder (fun b hb=>(hfp b hb).imp id fun ⟨o,e⟩=>⟨o,st1 _ _ e⟩) m1.len hrl r3 st₂ (hC _) fun g' h' tk' m ws n ys hg' m' eD rl gD hD hn' gL hL hLD kys=>?_
  refine ⟨m,hn',fun h'' hs''=>?_⟩
  have m'':MuR c.w.params g' as1 σ1.mu h'':=⟨fun b o e=>(hs''.2 b (fun z=>by rw [z,show g'.get? H.objs.size=none from gL] at e;cases e)).trans (m'.keep b o e),m'.len,m'.nd,fun k a ao e1 e2=>by
   obtain ⟨o,f1,f2⟩:=m'.at' k a ao e1 e2
   exact ⟨o,(hs''.2 a (fun z=>hL (show H.objs.size∈as1 from z▸List.mem_of_getElem? e1))).trans f1,f2⟩,m'.out⟩
  have eD'':h''.get? h1.objs.size=some (lstObj ws n):=(hs''.2 _ (fun z=>hLD z.symm)).trans eD
  obtain ⟨sr,mr,hinr,_⟩:=m''.rebase [] (fun a ha=>(nomatch ha))
  obtain ⟨g'',hgg,rr,tr,back⟩:=kf _ as1 h'' σ1.mu (StaysIn.trans' hg' sr) (List.prefix_refl _) mr
  exact q _ g'' as1 h'' tk' (.lst ys) σ1 (StaysIn.trans' hg1 hgg) ha1 rr (tr _ _ (.lst (hinr _ _ eD'' (fun z=>nomatch z) hD) (rl.mono sr (List.prefix_refl _)))) kys
 exact codeAny_compStart_list loop (W.self 0 _ _ _ st₂ loop)
theorem comp_map{α:Type}{tgt elt:Expr}{ifs:List Expr}{mu:List AO}{K:List AV→Prop}(emb:α→AV)(f:α→AV)(p:α→Bool)(L:α→List (Str×AV)):∀(xs:List α) (loc:List (Str×AV)) (ys:List AV),
  (∀a∈xs,bindT tgt (emb a) loc=some (L a))→(∀a b,bindT tgt (emb b) (L a)=some (L b)) →
  (∀a∈xs,∀raws,IfsOK c d u env ifs ⟨L a,mu++raws⟩ (fun b=>b=p a)) →
  (∀a∈xs,p a=true→(f a).flat=true)→(∀a∈xs,p a=true→∀raws,EvOK c d u env elt ⟨L a,mu++raws⟩ (fun v σ'=>σ'=⟨L a,mu++raws⟩∧v=f a)) →
  K (ys++(xs.filter p).map f)→CompOK c d u env tgt elt ifs mu (xs.map emb) loc ys K:=by
 intro xs
 induction xs with
 | nil =>
  intro loc ys Z Z Z Z Z hk
  rw [List.filter_nil,List.map_nil,List.append_nil] at hk
  exact hk
 | cons a xs ih =>
  intro loc ys h0 h1 hi hf he hk
  refine ⟨L a,h0 a (.head _),fun raws=>?_⟩
  have key:∀b,b=p a→(b=true→EvOK c d u env elt ⟨L a,mu++raws⟩ (fun v σ'=>σ'=⟨L a,mu++raws⟩∧v.flat=true∧CompOK c d u env tgt elt ifs mu (xs.map emb) (L a) (ys++[v]) K)) ∧
   (b=false→CompOK c d u env tgt elt ifs mu (xs.map emb) (L a) ys K):=by
   rintro b rfl
   constructor
   ·intro hp A g as cs s Q E ro G r q
    refine he a (.head _) hp raws A g as cs s Q E ro G r fun v g' as' h' tk' av σ' hg ha r' rv k=>?_
    obtain ⟨rfl,rfl⟩:=k
    refine q v g' as' h' tk' _ _ hg ha r' rv ⟨rfl,hf a (.head _) hp,?_⟩
    refine ih (L a) _ (fun b Z=>h1 a b) h1 (fun b hb=>hi b (.tail _ hb)) (fun b hb=>hf b (.tail _ hb)) (fun b hb=>he b (.tail _ hb)) ?_
    rw [List.filter_cons_of_pos hp] at hk
    simpa using hk
   ·intro hp
    refine ih (L a) _ (fun b Z=>h1 a b) h1 (fun b hb=>hi b (.tail _ hb)) (fun b hb=>hf b (.tail _ hb)) (fun b hb=>he b (.tail _ hb)) ?_
    rw [List.filter_cons_of_neg (by simp [hp])] at hk
    exact hk
  have:=hi a (.head _) raws
  rcases ifs with _ | ⟨e,_ | ⟨e2,es⟩⟩
  ·exact key true this
  ·exact fun A g as cs s Q E ro G r q=>this A g as cs s Q E ro G r fun b g' as' h' tk' σ' hg ha r' k=>q b g' as' h' tk' σ' hg ha r' ⟨k.1,key b k.2⟩
  ·exact this.elim
theorem vJ{α:Type}{tgt elt:Expr}{mu:List AO}{K:List AV→Prop}(emb:α→AV)(f:α→AV)(L:α→List (Str×AV))(xs:List α)(loc:List (Str×AV))
  (h0:∀a∈xs,bindT tgt (emb a) loc=some (L a)) (h1:∀a b,bindT tgt (emb b) (L a)=some (L b)) (hf:∀a∈xs,(f a).flat=true)
  (he:∀a∈xs,∀raws,EvOK c d u env elt ⟨L a,mu++raws⟩ (fun v σ'=>σ'=⟨L a,mu++raws⟩∧v=f a)) (hk:K (xs.map f)):CompOK c d u env tgt elt [] mu (xs.map emb) loc [] K :=
 comp_map emb f (fun Z=>true) L xs loc [] h0 h1 (fun Z Z Z=>rfl) (fun a h Z=>hf a h) (fun a h Z=>he a h) (by rw [List.nil_append,List.filter_eq_self.mpr fun Z Z=>rfl];exact hk)
end
section
variable {P:Params}{g:Heap}{as cs:List Addr}{env:Env}{σ:St}{h:Heap}
theorem R.rebaseBut(r:R P g as cs env σ h)(wr:List Addr)(hw:∀b∈wr,g.get? b=none):E4 (fun g₁=>g.StaysIn g₁) (fun g₁=>R P g₁ as cs env σ h) (fun g₁=>∀b∈wr,g₁.get? b=none) (fun g₁=>∀b o,h.get? b=some o→b∉env.locals::cs→b∉wr→b∉as→g₁.get? b=some o):=by
 obtain ⟨st,m1,hin,hown⟩:=r.mu.rebase (env.locals::cs++wr) (fun a ha=>(List.mem_append.mp ha).elim (fun z=>(r.off a z).1) (hw a))
 refine ⟨_,st,{ mu:=m1,ns:=?_,cl:=fun x av hx hv=>?_,off:=fun a ha=>⟨hown a (List.mem_append_left _ ha),(r.off a ha).2⟩,nd:=r.nd,cells:=fun x c' e=>(r.cells x c' e).imp id fun ⟨hf,o,e2⟩=>⟨hf,o,st _ _ e2⟩,inj:=r.inj,cc:=r.cc },fun b hb=>hown b (List.mem_append_right _ hb),fun b o e n1 n2 n3=>hin b o e (fun z=>(List.mem_append.mp z).elim n1 n2) n3⟩
 ·obtain ⟨m,hn,hm⟩:=r.ns
  exact ⟨m,hn,fun x av hx hv=>by obtain ⟨v,e1,e2⟩:=hm x av hx hv;exact ⟨v,e1,e2.mono st (List.prefix_refl _)⟩⟩
 ·obtain ⟨c',o,v,e1,e2,e3,e4⟩:=r.cl x av hx hv
  exact ⟨c',o,v,e1,e2,e3,e4.mono st (List.prefix_refl _)⟩
theorem R.notOwn(r:R P g as cs env σ h){b:Addr}(hb:h.get? b=none):g.get? b=none∧b∉as∧b∉env.locals::cs:=by
 refine ⟨?_,fun z=>?_,fun z=>?_⟩
 ·cases e:g.get? b with
  | none=>rfl
  | some o=>have:=r.mu.keep b o e;rw [hb] at this;cases this
 ·obtain ⟨j,hj⟩:=List.getElem?_of_mem z
  have hlt:j < σ.mu.length:=by rw [← r.mu.len];exact (List.getElem?_eq_some_iff.mp hj).1
  obtain ⟨o,e,_⟩:=r.mu.at' j _ _ hj (List.getElem?_eq_getElem hlt)
  rw [hb] at e;cases e
 ·rcases List.mem_cons.mp z with z | z
  ·obtain ⟨m,hn,_⟩:=r.ns
   obtain ⟨oL,_,_,hL,_⟩:=hn
   rw [← z,hb] at hL;cases hL
  ·obtain ⟨o,v,e,_⟩:=r.cc _ z
   rw [hb] at e;cases e
end
section
variable {c:Cx}{d u:Nat}{env:Env}{σ:St}
theorem xI{f:Value}{args:List Expr}{first:List Value}{pos:Pos}{A:Around}{s:Shared}{Q:Value→Shared→Prop}{E:Value→Shared→Prop}
  (hk:Keeps c.K f) (hne:∀e∈args,∀v p,e≠.Starred v p) (hX:c.K.In s.heap)
  (key:wpAny (model c.prog c.w) A (spliced (backTo pos (starEach args env))) (fun vs s₁=>c.K.In s₁.heap∧wpAny (model c.prog c.w) A (call f (first++vs)) Q E s₁) E s) :
  wpAny (model c.prog c.w) A (callWith pos f first (backTo pos (starEach args env)) []) Q E s:=by
 exact jV (P:=c.K.In) (fun hp X=>hk.looks hp X) hne hX key
noncomputable def ItCOK(c:Cx)(f:Value)(tgt:Expr)(args:List AV)(mu:List AO)(K:List AV→Nat→Prop):Prop :=
 ∀(A:Around) (g:Heap) (as:List Addr) (s:Shared) (Q:Value→Shared→Prop) (E:Value→Shared→Prop) (ws:List Value),A.handled=none→MuR c.w.params g as mu s.heap→Rels g as ws args →
  (∀I fp wr St' h' tk' items,(∀b o,s.heap.get? b=some o→h'.get? b=some o)→Itr c A I tgt fp wr items g as St'→wr.Nodup→(∀b∈fp,b∈wr∨(∃o,g.get? b=some o)∨(s.heap.get? b=none∧∃o,h'.get? b=some o)) →
   (∀b∈wr,s.heap.get? b=none∧∃o,h'.get? b=some o)→St' 0 h'→K items wr.length→Q (.ref I) (sh s h' tk')) →
  wpAny (model c.prog c.w) A (call f ws) (fun x s₁=>wpAny (model c.prog c.w) A (pyIter x) Q E s₁) E s
theorem it_call{n:Str}{np:Pos}{tgt:Expr}{args:List Expr}{pos:Pos}{K:List AV→Nat→St→Prop}(hne:∀e∈args,∀v p,e≠.Starred v p)
  (h:EvOK c d u env (.Name n np) σ (fun fv σ1=>∃f,fv=.st f∧Keeps c.K f∧AsOK c d u env args σ1 (fun vs σ2=>ItCOK c f tgt vs σ2.mu (fun items m=>K items m σ2)))) :
  ItEOK c d u env tgt (.Call (.Name n np) args [] pos) σ K:=fun A g as cs s Q E ro G r q=>by
 show wpAny (model c.prog c.w) A (do callWith pos (← eval (.Name n np) env) [] (backTo pos (starEach args env)) (backToKw pos (keywordEach [] env))) _ E s
 refine wpAny_bind (h A g as cs s _ E ro G r fun v1 g1 as1 h1 tk1 a σ1 hg1 ha1 r1 rv1 k1=>?_)
 obtain ⟨f,rfl,hk,k2⟩:=k1
 obtain ⟨_,rfl⟩:=rv1.inv
 refine xI (c:=c) (first:=[]) hk hne ((G.X.keeps hg1).keeps r1.mu.keep) (k2 A g1 as1 cs (sh s h1 tk1) _ E pos ro (G.keeps hg1) r1 fun vs g2 as2 h2 tk2 avs σ2 hg2 ha2 r2 rvs k3=>⟨(G.X.keeps hg1).keeps hg2 |>.keeps r2.mu.keep,?_⟩)
 refine k3 A g2 as2 (sh s h2 tk2) Q E vs ro.hd r2.mu rvs fun I fp wr St' h' tk' items kp W nd hfp hw h0 kk=>?_
 have r3:R c.w.params g2 as2 cs env σ2 h':=r2.keepBut (wr:=[]) (fun b hb=>nomatch hb) fun b o Z e=>kp b o e
 obtain ⟨g₃,st,r4,hwo,hin⟩:=r3.rebaseBut wr fun b hb=>(r2.notOwn (hw b hb).1).1
 refine q I fp wr St' g₃ as2 h' tk' items σ2 (StaysIn.trans' (StaysIn.trans' hg1 hg2) st) (ha1.trans ha2) r4 (W.mono st (List.prefix_refl _)) nd (fun b hb=>?_) (fun b hb=>?_) h0 kk
 ·rcases hfp b hb with z | ⟨o,z⟩ | ⟨z,o,e⟩
  ·exact .inl z
  ·exact .inr ⟨o,st _ _ z⟩
  ·by_cases hbw:b∈wr
   ·exact .inl hbw
   ·have no:=r2.notOwn z
    exact .inr ⟨o,hin b o e no.2.2 hbw no.2.1⟩
 ·have no:=r2.notOwn (hw b hb).1
  exact ⟨hwo b hb,no.2.1,no.2.2,(hw b hb).2⟩
theorem vG{h:Heap}{b:Addr}(hb:h.objs.size≤b):h.get? b=none:=by
 cases e:h.get? b with
 | none=>rfl
 | some o=>exact absurd (Heap.lt_size e) (Nat.not_lt.mpr hb)
noncomputable def zipItems:List AV→List AV→List AV
 | a::as,b::bs=>.tup [a,b]::zipItems as bs
 | _,_=>[]
theorem wW:∀(a b:List AV),(zipItems a b).length=min a.length b.length
 | [],_=>by simp [zipItems]
 | _::_,[]=>by simp [zipItems]
 | a::as,b::bs=>by simp [zipItems,wW as bs,Nat.succ_min_succ]
theorem xV:∀(xs ys:List AV) (i:Nat) (x y:AV),xs[i]?=some x→ys[i]?=some y→(zipItems xs ys)[i]?=some (.tup [x,y])
 | a::as,b::bs,0,x,y,h1,h2=>by cases h1;cases h2;rfl
 | a::as,b::bs,i+1,x,y,h1,h2=>by simpa [zipItems] using xV as bs i x y (by simpa using h1) (by simpa using h2)
theorem ic_zip {tgts:List Expr} {kk:Nat} {tp:Pos} {xs ys:List AV} {mu:List AO} {K:List AV→Nat→Prop} (h:K (zipItems xs ys) 4):ItCOK c (.type "zip") (.Tuple tgts kk tp) [.lst xs,.lst ys] mu K:=fun A g as s Q E ws hh m rs q=>by
 obtain ⟨_,_,rfl,r1,rs⟩:=rs.inv
 obtain ⟨_,_,rfl,r2,rs⟩:=rs.inv
 obtain rfl:=rs.inv
 obtain ⟨l1,w1,n1,dd1,sl1,rfl,e1,q1⟩:=r1.inv
 obtain ⟨l2,w2,n2,dd2,sl2,rfl,e2,q2⟩:=r2.inv
 have hl1:s.heap.IsList l1 w1.toArray:=⟨_,m.keep _ _ e1,rfl,_,rfl⟩
 have hl2:s.heap.IsList l2 w2.toArray:=⟨_,m.keep _ _ e2,rfl,_,rfl⟩
 have lt1:l1 < s.heap.objs.size:=Heap.lt_size (m.keep _ _ e1)
 have lt2:l2 < s.heap.objs.size:=Heap.lt_size (m.keep _ _ e2)
 refine call_zip_2 hl1 hl2 fun h' a1 a2 a3 a4 a5 a6 kp=>?_
 have hl1':h'.IsList l1 w1.toArray:=⟨_,kp _ _ (m.keep _ _ e1),rfl,_,rfl⟩
 have hl2':h'.IsList l2 w2.toArray:=⟨_,kp _ _ (m.keep _ _ e2),rfl,_,rfl⟩
 have D:ZipApart (s.heap.objs.size+4) (s.heap.objs.size+2) (s.heap.objs.size+3) s.heap.objs.size (s.heap.objs.size+1) l1 l2:=by
  have lt1':@LT.lt Nat _ l1 s.heap.objs.size:=lt1
  have lt2':@LT.lt Nat _ l2 s.heap.objs.size:=lt2
  constructor <;> (show @Ne Nat _ _;first | exact nA rfl | exact nB rfl | exact nB' rfl | exact nC lt1' | exact Nat.ne_of_lt lt1' | exact nC lt2' | exact Nat.ne_of_lt lt2' | exact nC' lt1' | exact (Nat.ne_of_lt lt1').symm | exact nC' lt2' | exact (Nat.ne_of_lt lt2').symm)
 have W:=WalksT.zip2 (prog:=c.prog) (w:=c.w) (A:=A) hh _ _ _ _ _ _ _ D w1.toArray w2.toArray
 have I:=itr_tup (g₀:=g) (as₀:=as) (items:=zipItems xs ys) (elts:=tgts) (k:=kk) (pos:=tp) W (by rw [wW,List.size_toArray,List.size_toArray,q1.length,q2.length]) (fun i vals hp=>by
  obtain ⟨x,y,h1,h2,rfl⟩:=hp
  obtain ⟨v1,f1,g1⟩:=q1.get' (by simpa using h1)
  obtain ⟨v2,f2,g2⟩:=q2.get' (by simpa using h2)
  exact ⟨[v1,v2],xV _ _ _ _ _ f1 f2,.cons g1 (.cons g2 .nil)⟩) (fun i hh st=>by
  obtain ⟨z1,z2,⟨a,b',z3⟩,⟨_,z4,_⟩,⟨_,z5,_⟩,_⟩:=st
  refine all4 ?_ ?_ ?_ ?_
  ·exact ⟨_,z1⟩
  ·exact ⟨_,z3⟩
  ·exact ⟨_,z4⟩
  ·exact ⟨_,z5⟩)
 have lv:∀b,b∈[s.heap.objs.size+4,s.heap.objs.size+3,s.heap.objs.size,s.heap.objs.size+1]→s.heap.get? b=none∧∃o,h'.get? b=some o:=by
  refine all4 ?_ ?_ ?_ ?_
  ·exact ⟨vG (by exact o31),_,a1⟩
  ·exact ⟨vG (by exact o32),_,a3⟩
  ·obtain ⟨o,e,_⟩:=a4;exact ⟨vG (by exact o33),o,e⟩
  ·obtain ⟨o,e,_⟩:=a5;exact ⟨vG (by exact o34),o,e⟩
 exact wpAny_pyIter_zip (s:={ s with heap:=h' }) a1 (q _ _ _ _ h' s.toks _ kp I (by simp) (by
  refine all7 ?_ ?_ ?_ ?_ ?_ ?_ ?_
  ·exact .inl (.head _)
  ·exact .inr (.inr ⟨vG (by exact o35),_,a2⟩)
  ·exact .inl (.tail _ (.head _))
  ·exact .inl (.tail _ (.tail _ (.head _)))
  ·exact .inl (.tail _ (.tail _ (.tail _ (.head _))))
  ·exact .inr (.inl ⟨_,e1⟩)
  ·exact .inr (.inl ⟨_,e2⟩)) lv ⟨a1,a2,⟨_,_,a3⟩,a4,a5,hl1',hl2'⟩ h)
theorem Walks.bound{prog:Program}{w:World}{A:Around}{I:Addr}{fp wr:List Addr}{n:Nat}{P:Nat→Value→Prop}{St:Nat→Heap→Prop}(W:Walks prog w A I fp wr n P St):Walks prog w A I fp wr n (fun i v=>i < n∧P i v) St where
 sub:=W.sub
 frame:=W.frame
 item:=fun i s Q E hi st hQ=>W.item i s Q E hi st fun v h' tk hv=>hQ v h' tk ⟨hi,hv⟩
 done:=W.done
 self:=W.self
noncomputable def rangeItems(n:Nat):List AV:=(List.range n).map fun (i:Nat)=>.int (i:Int)
theorem ic_range {tgt:Expr} {n:Nat} {mu:List AO} {K:List AV→Nat→Prop} (hn:n < 1000) (h:K (rangeItems n) 1):ItCOK c (.type "range") tgt [.int n] mu K:=fun A g as s Q E ws hh m rs q=>by
 obtain ⟨_,_,rfl,r1,rs⟩:=rs.inv
 obtain rfl:=rs.inv
 obtain ⟨t,rfl⟩:=r1.inv
 refine call_range_1 ?_
 have hr:=IsRange.new s.heap 0 n 1 s.toks t (s.toks+1)
 refine wpAny_pyIter_range hr (small_one (by exact o36) (by exact o37) (by exact o38) (by exact o39 hn)) ?_
 dsimp only
 generalize hH:s.heap.push { cls:=.type "range",data:=.fields #[.int 0 s.toks,.int n t,.int 1 (s.toks+1)] }=H
 have hsz:H.objs.size=s.heap.objs.size+1:=by rw [← hH,Heap.size_push]
 have old:∀b o,s.heap.get? b=some o→H.get? b=some o:=fun b o e=>by rw [← hH];exact Heap.get?_push_of_some _ e
 have W:=Walks.bound (Walks.range (prog:=c.prog) (w:=c.w) (A:=A) hh H.objs.size 0 1 n)
 have I:=zW (c:=c) (g₀:=g) (as₀:=as) (items:=rangeItems n) (tgt:=tgt) (nm:="range_iterator") W (by simp [rangeItems]) (fun i v hp=>by
  obtain ⟨hi,t,rfl⟩:=hp
  refine ⟨.int i,by simp [rangeItems,hi],?_⟩
  have e:(0:Int)+i*1=i:=by exact o40
  rw [e];exact .int _ _) (fun i h st b hb=>by rw [List.mem_singleton.mp hb];exact ⟨_,st⟩) (fun i h st=>⟨_,st,rfl⟩) (by decide)
 refine q H.objs.size [H.objs.size] [H.objs.size] _ (H.push _) _ (rangeItems n) (fun b o e=>Heap.get?_push_of_some _ (old b o e)) I (by simp) (fun b hb=>.inl hb) (fun b hb=>?_) ?_ h
 ·rw [List.mem_singleton.mp hb];exact ⟨vG (by exact o41 hsz),_,Heap.get?_push_size _ rfl⟩
 ·have:=Heap.get?_push_size H (o:={ cls:=.type "range_iterator",data:=.fields #[rawInt 0,rawInt (Builtin.Range.rangeSize 0 n 1),rawInt 1] }) rfl
  rw [rangeSize_one] at this ⊢
  have e:(if (0:Int) < (n:Int) then (n:Int) - 0 else 0)=(n:Int) - 0:=by cases n with | zero=>rfl | succ k=>exact if_pos (Int.ofNat_lt.mpr (Nat.succ_pos k))
  rw [e] at this ⊢
  exact this
end
section
variable {prog:Program}{w:World}{A:Around}{E:Value→Shared→Prop}{s:Shared}
structure ZA(z TI TO i1 i2 l2:Addr):Prop where
 TIz:TI≠z
 TOz:TO≠z
 i1z:i1≠z
 i2z:i2≠z
 TITO:TI≠TO
 TIi1:TI≠i1
 TIi2:TI≠i2
 TOi1:TO≠i1
 TOi2:TO≠i2
 i12:i1≠i2
 l2z:l2≠z
 l2TO:l2≠TO
 l2i1:l2≠i1
 l2i2:l2≠i2
noncomputable abbrev SI (h:Heap) (i1:Addr) (x:Str) (t:Tok) (k:Nat):Prop:=h.IsStrIter i1 "str_ascii_iterator" x t k
theorem jL{h h':Heap}{a i1:Addr}{x:Str}{t:Tok}{k:Nat}(h1:SI h i1 x t k)(hs:Heap.ExtBut a h h')(hn:i1≠a):SI h' i1 x t k:=by
 obtain ⟨o,ho,r⟩:=h1
 exact ⟨o,hs _ _ hn ho,r⟩
end
namespace zipS_next_item
noncomputable def Cq(prog:Program)(w:World)(A:Around)(E:Value→Shared→Prop)(s:Shared)(z TI TO i1 i2 l2:Addr)(k1 k2 c1:Nat)(xs:Str)(xt:Tok)(ys:Array Value)(y a b:Value)(Q:Value→Shared→Prop):Prop:=∀(D:ZA z TI TO i1 i2 l2) (hz:IsZip s.heap z TI TO .none) (hTI:IsPair s.heap TI (.ref i1) (.ref i2)) (hTO:IsPair s.heap TO a b) (h1:SI s.heap i1 xs xt k1) (h2:s.heap.IsListIter i2 l2 k2) (hl2:s.heap.IsList l2 ys) (hx:xs.cps[k1]?=some c1) (hy:ys[k2]?=some y) (hQ:∀h' tk,IsZip h' z TI TO (rawInt s.heap.objs.size)→IsPair h' TO (.str ⟨#[c1]⟩ s.toks) y→SI h' i1 xs xt (k1+1)→h'.IsListIter i2 l2 (k2+1)→IsPair h' s.heap.objs.size (.str ⟨#[c1]⟩ s.toks) y→h'.objs.size=s.heap.objs.size+1 →
   (∀c o,c≠z→c≠TO→c≠i1→c≠i2→s.heap.get? c=some o→h'.get? c=some o)→Q (.ref s.heap.objs.size) (sh s h' tk)),wpAny (model prog w) A (Builtin.«zip.__next__» ⟨[.ref z],[]⟩) (fun fin s'=>∃v,fin=.done (.ret v)∧Q v s') E s
noncomputable def Dq(p:Program×World×Around×(Value→Shared→Prop)×Shared×Addr×Addr×Addr×Addr×Addr×Addr×Nat×Nat×Nat×Str×Tok×(Array Value)×Value×Value×Value×(Value→Shared→Prop)):Prop:=Cq p.1 p.2.1 p.2.2.1 p.2.2.2.1 p.2.2.2.2.1 p.2.2.2.2.2.1 p.2.2.2.2.2.2.1 p.2.2.2.2.2.2.2.1 p.2.2.2.2.2.2.2.2.1 p.2.2.2.2.2.2.2.2.2.1 p.2.2.2.2.2.2.2.2.2.2.1 p.2.2.2.2.2.2.2.2.2.2.2.1 p.2.2.2.2.2.2.2.2.2.2.2.2.1 p.2.2.2.2.2.2.2.2.2.2.2.2.2.1 p.2.2.2.2.2.2.2.2.2.2.2.2.2.2.1 p.2.2.2.2.2.2.2.2.2.2.2.2.2.2.2.1 p.2.2.2.2.2.2.2.2.2.2.2.2.2.2.2.2.1 p.2.2.2.2.2.2.2.2.2.2.2.2.2.2.2.2.2.1 p.2.2.2.2.2.2.2.2.2.2.2.2.2.2.2.2.2.2.1 p.2.2.2.2.2.2.2.2.2.2.2.2.2.2.2.2.2.2.2.1 p.2.2.2.2.2.2.2.2.2.2.2.2.2.2.2.2.2.2.2.2
def tq:=@ep _ (by have:=neAround;have:=neProgram;have:=neShared;have:=neWorld;infer_instance) Dq
def prog:=tq.1
def w:=tq.2.1
def A:=tq.2.2.1
def E:=tq.2.2.2.1
def s:=tq.2.2.2.2.1
def z:=tq.2.2.2.2.2.1
def TI:=tq.2.2.2.2.2.2.1
def TO:=tq.2.2.2.2.2.2.2.1
def i1:=tq.2.2.2.2.2.2.2.2.1
def i2:=tq.2.2.2.2.2.2.2.2.2.1
def l2:=tq.2.2.2.2.2.2.2.2.2.2.1
def k1:=tq.2.2.2.2.2.2.2.2.2.2.2.1
def k2:=tq.2.2.2.2.2.2.2.2.2.2.2.2.1
def c1:=tq.2.2.2.2.2.2.2.2.2.2.2.2.2.1
def xs:=tq.2.2.2.2.2.2.2.2.2.2.2.2.2.2.1
def xt:=tq.2.2.2.2.2.2.2.2.2.2.2.2.2.2.2.1
def ys:=tq.2.2.2.2.2.2.2.2.2.2.2.2.2.2.2.2.1
def y:=tq.2.2.2.2.2.2.2.2.2.2.2.2.2.2.2.2.2.1
def a:=tq.2.2.2.2.2.2.2.2.2.2.2.2.2.2.2.2.2.2.1
def b:=tq.2.2.2.2.2.2.2.2.2.2.2.2.2.2.2.2.2.2.2.1
def Q:=tq.2.2.2.2.2.2.2.2.2.2.2.2.2.2.2.2.2.2.2.2
theorem T0:Cq prog w A E s z TI TO i1 i2 l2 k1 k2 c1 xs xt ys y a b Q:=by
 intro D hz hTI hTO h1 h2 hl2 hx hy hQ
 show wpAny _ _ (field (.ref z) 2 >>= _) _ _ _
 refine wpAny_bind (wpAny_field hz rfl (x:=.bool false) rfl ?_)
 show wpAny _ _ (field (.ref z) 3 >>= _) _ _ _
 refine wpAny_bind (wpAny_field hz rfl (x:=.ref TI) rfl ?_)
 refine wpAny_bind (wpAny_seqItems hTI rfl ?_)
 show wpAny _ _ (Builtin.SmallTypes.ownedTupleIsFree (.ref z) >>= _) _ _ _
 refine wpAny_bind ?_
 unfold Builtin.SmallTypes.ownedTupleIsFree
 refine wpAny_bind (wpAny_field hz rfl (x:=.none) rfl (wpAny_pure ?_))
 simp only [if_true]
 refine wpAny_bind (wpAny_rule ?_)
 refine wpAny_bind (wpAny_field hz rfl (x:=.ref TO) rfl ?_)
 refine wpAny_bind (wpAny_setField_rec hz (by simp) fun h₁ hz₁ hs₁=>?_)
 replace hz₁:IsZip h₁ z TI TO .ellipsis:=hz₁
 refine wpAny_bind ?_
 simp only [List.zipIdx_cons,List.zipIdx_nil,List.forIn_cons,List.forIn_nil]
 refine wpAny_bind (wpAny_bind (wpAny_onRaise ?_))
 show wpAny _ _ (Builtin.SmallTypes.nextOf (.ref i1) >>= _) _ _ _
 refine wpAny_bind (wpAny_nextOf_ascii_item (jL h1 hs₁.extBut D.i1z) hx fun h₂ h1₂ hs₂=>wpAny_pure ?_)
 have hTO₂:IsPair h₂ TO a b:=hs₂.extBut _ _ D.TOi1 (hs₁.extBut _ _ D.TOz hTO)
 refine wpAny_bind (wpAny_seqItems hTO₂ rfl ?_)
 refine wpAny_bind (wpAny_updateSeq_pair hTO₂ fun h₃ hTO₃ hs₃=>?_)
 replace hTO₃:IsPair h₃ TO (.str ⟨#[c1]⟩ s.toks) b:=hTO₃
 refine wpAny_bind (wpAny_letGo (wpAny_pure ?_))
 refine wpAny_bind (wpAny_bind (wpAny_onRaise ?_))
 show wpAny _ _ (Builtin.SmallTypes.nextOf (.ref i2) >>= _) _ _ _
 refine wpAny_bind (wpAny_nextOf_list_item (((h2.extBut hs₁.extBut D.i2z).extBut hs₂.extBut D.i12.symm).extBut hs₃.extBut D.TOi2.symm)
  (((hl2.extBut hs₁.extBut D.l2z).extBut hs₂.extBut D.l2i1).extBut hs₃.extBut D.l2TO) hy fun h₄ h2₄ hs₄=>wpAny_pure ?_)
 have hTO₄:IsPair h₄ TO (.str ⟨#[c1]⟩ s.toks) b:=hs₄.extBut _ _ D.TOi2 hTO₃
 refine wpAny_bind (wpAny_seqItems hTO₄ rfl ?_)
 refine wpAny_bind (wpAny_updateSeq_pair hTO₄ fun h₅ hTO₅ hs₅=>?_)
 replace hTO₅:IsPair h₅ TO (.str ⟨#[c1]⟩ s.toks) y:=hTO₅
 refine wpAny_bind (wpAny_letGo (wpAny_pure (wpAny_pure ?_)))
 refine wpAny_bind (wpAny_seqItems hTO₅ rfl ?_)
 refine wpAny_bind (wpAny_newTuple ?_)
 have hsz:h₅.objs.size=s.heap.objs.size:=by rw [hs₅.1,hs₄.1,hs₃.1,hs₂.1,hs₁.1]
 have hz₅:IsZip h₅ z TI TO .ellipsis:=hs₅.extBut _ _ D.TOz.symm (hs₄.extBut _ _ D.i2z.symm (hs₃.extBut _ _ D.TOz.symm (hs₂.extBut _ _ D.i1z.symm hz₁)))
 have hk₅:∀c o,c≠z→c≠TO→c≠i1→c≠i2→s.heap.get? c=some o→h₅.get? c=some o:=fun c o c1 c2 c3 c4 e =>
  hs₅.extBut _ _ c2 (hs₄.extBut _ _ c4 (hs₃.extBut _ _ c2 (hs₂.extBut _ _ c3 (hs₁.extBut _ _ c1 e))))
 have h1₅:SI h₅ i1 xs xt (k1+1):=jL (jL (jL h1₂ hs₃.extBut D.TOi1.symm) hs₄.extBut D.i12) hs₅.extBut D.TOi1.symm
 have h2₅:h₅.IsListIter i2 l2 (k2+1):=h2₄.extBut hs₅.extBut D.TOi2.symm
 have hzlt:z < h₅.objs.size:=Heap.lt_size hz₅
 have hTOlt:TO < h₅.objs.size:=Heap.lt_size hTO₅
 have hi1lt:i1 < h₅.objs.size:=by obtain ⟨_,e,_⟩:=h1₅;exact Heap.lt_size e
 have hi2lt:i2 < h₅.objs.size:=by obtain ⟨_,e,_⟩:=h2₅;exact Heap.lt_size e
 show wpAny _ _ (Builtin.SmallTypes.ownedTupleHandOut (.ref z) (.ref h₅.objs.size) >>= _) _ _ _
 refine wpAny_bind ?_
 unfold Builtin.SmallTypes.ownedTupleHandOut
 have hz₆:IsZip (h₅.push { cls:=.type "tuple",data:=.seq #[.str ⟨#[c1]⟩ s.toks,y] }) z TI TO .ellipsis:=Heap.get?_push_of_some _ hz₅
 refine wpAny_bind (wpAny_setField_rec hz₆ (by simp) fun h₇ hz₇ hs₇=>?_)
 replace hz₇:IsZip h₇ z TI TO (rawInt h₅.objs.size):=hz₇
 refine wpAny_setField_rec hz₇ (by simp) fun h₈ hz₈ hs₈=>?_
 replace hz₈:IsZip h₈ z TI TO (rawInt h₅.objs.size):=hz₈
 have up:∀c o,c≠z→h₅.get? c=some o→h₈.get? c=some o:=fun c o c1 e=>hs₈.extBut _ _ c1 (hs₇.extBut _ _ c1 (Heap.get?_push_of_some _ e))
 have hT₈:IsPair h₈ h₅.objs.size (.str ⟨#[c1]⟩ s.toks) y:=hs₈.extBut _ _ (Nat.ne_of_gt hzlt) (hs₇.extBut _ _ (Nat.ne_of_gt hzlt) (Heap.get?_push_size _ rfl))
 have hz8:h₈.objs.size=h₅.objs.size+1:=by rw [hs₈.1,hs₇.1,Heap.size_push]
 rw [hsz] at hz₈ hT₈ hz8
 refine wpAny_pure ⟨_,rfl,?_⟩
 show Q (.ref h₅.objs.size) _
 rw [hsz]
 obtain ⟨oi,hoi,roi⟩:=h1₅
 exact hQ h₈ _ hz₈ (up _ _ D.TOz hTO₅) ⟨oi,up _ _ D.i1z hoi,roi⟩ (h2₅.at fun o e=>up _ o D.i2z e) hT₈ hz8 fun c o c1 c2 c3 c4 e=>up c o c1 (hk₅ c o c1 c2 c3 c4 e)
end zipS_next_item
section
variable {prog:Program}{w:World}{A:Around}{E:Value→Shared→Prop}{s:Shared}
theorem zipS_next_item{z TI TO i1 i2 l2:Addr}{k1 k2 c1:Nat}{xs:Str}{xt:Tok}{ys:Array Value}{y a b:Value}{Q:Value→Shared→Prop}(D:ZA z TI TO i1 i2 l2)
  (hz:IsZip s.heap z TI TO .none) (hTI:IsPair s.heap TI (.ref i1) (.ref i2)) (hTO:IsPair s.heap TO a b)
  (h1:SI s.heap i1 xs xt k1) (h2:s.heap.IsListIter i2 l2 k2) (hl2:s.heap.IsList l2 ys) (hx:xs.cps[k1]?=some c1) (hy:ys[k2]?=some y)
  (hQ:∀h' tk,IsZip h' z TI TO (rawInt s.heap.objs.size)→IsPair h' TO (.str ⟨#[c1]⟩ s.toks) y→SI h' i1 xs xt (k1+1)→h'.IsListIter i2 l2 (k2+1)→IsPair h' s.heap.objs.size (.str ⟨#[c1]⟩ s.toks) y→h'.objs.size=s.heap.objs.size+1 →
   (∀c o,c≠z→c≠TO→c≠i1→c≠i2→s.heap.get? c=some o→h'.get? c=some o)→Q (.ref s.heap.objs.size) (sh s h' tk)) :
  wpAny (model prog w) A (Builtin.«zip.__next__» ⟨[.ref z],[]⟩) (fun fin s'=>∃v,fin=.done (.ret v)∧Q v s') E s:=(@eps _ _ zipS_next_item.Dq zipS_next_item.tq rfl @zipS_next_item.T0 (prog,w,A,E,s,z,TI,TO,i1,i2,l2,k1,k2,c1,xs,xt,ys,y,a,b,Q)) D hz hTI hTO h1 h2 hl2 hx hy hQ
end
namespace zipS_next_end
noncomputable def Cq (prog:Program) (w:World) (A:Around) (E:Value→Shared→Prop) (s:Shared) (z TI TO i1 i2 l2:Addr) (k1:Nat) (xs:Str) (xt:Tok) (a b:Value) (Q:Fin→Shared→Prop):Prop:=∀(hh:A.handled=none) (D:ZA z TI TO i1 i2 l2) (hz:IsZip s.heap z TI TO .none) (hTI:IsPair s.heap TI (.ref i1) (.ref i2)) (hTO:IsPair s.heap TO a b) (h1:SI s.heap i1 xs xt k1) (hend:xs.cps[k1]?=none) (hE:∀h' e,(∀c o,c≠z→c≠TO→c≠i1→c≠i2→s.heap.get? c=some o→h'.get? c=some o)→(∃o,h'.get? e=some o∧o.cls=.type "StopIteration")→E (.ref e) { s with heap:=h' }),wpAny (model prog w) A (Builtin.«zip.__next__» ⟨[.ref z],[]⟩) Q E s
noncomputable def Dq(p:Program×World×Around×(Value→Shared→Prop)×Shared×Addr×Addr×Addr×Addr×Addr×Addr×Nat×Str×Tok×Value×Value×(Fin→Shared→Prop)):Prop:=Cq p.1 p.2.1 p.2.2.1 p.2.2.2.1 p.2.2.2.2.1 p.2.2.2.2.2.1 p.2.2.2.2.2.2.1 p.2.2.2.2.2.2.2.1 p.2.2.2.2.2.2.2.2.1 p.2.2.2.2.2.2.2.2.2.1 p.2.2.2.2.2.2.2.2.2.2.1 p.2.2.2.2.2.2.2.2.2.2.2.1 p.2.2.2.2.2.2.2.2.2.2.2.2.1 p.2.2.2.2.2.2.2.2.2.2.2.2.2.1 p.2.2.2.2.2.2.2.2.2.2.2.2.2.2.1 p.2.2.2.2.2.2.2.2.2.2.2.2.2.2.2.1 p.2.2.2.2.2.2.2.2.2.2.2.2.2.2.2.2
def tq:=@ep _ (by have:=neAround;have:=neProgram;have:=neShared;have:=neWorld;infer_instance) Dq
def prog:=tq.1
def w:=tq.2.1
def A:=tq.2.2.1
def E:=tq.2.2.2.1
def s:=tq.2.2.2.2.1
def z:=tq.2.2.2.2.2.1
def TI:=tq.2.2.2.2.2.2.1
def TO:=tq.2.2.2.2.2.2.2.1
def i1:=tq.2.2.2.2.2.2.2.2.1
def i2:=tq.2.2.2.2.2.2.2.2.2.1
def l2:=tq.2.2.2.2.2.2.2.2.2.2.1
def k1:=tq.2.2.2.2.2.2.2.2.2.2.2.1
def xs:=tq.2.2.2.2.2.2.2.2.2.2.2.2.1
def xt:=tq.2.2.2.2.2.2.2.2.2.2.2.2.2.1
def a:=tq.2.2.2.2.2.2.2.2.2.2.2.2.2.2.1
def b:=tq.2.2.2.2.2.2.2.2.2.2.2.2.2.2.2.1
def Q:=tq.2.2.2.2.2.2.2.2.2.2.2.2.2.2.2.2
theorem T0:Cq prog w A E s z TI TO i1 i2 l2 k1 xs xt a b Q:=by
 intro hh D hz hTI hTO h1 hend hE
 show wpAny _ _ (field (.ref z) 2 >>= _) _ _ _
 refine wpAny_bind (wpAny_field hz rfl (x:=.bool false) rfl ?_)
 show wpAny _ _ (field (.ref z) 3 >>= _) _ _ _
 refine wpAny_bind (wpAny_field hz rfl (x:=.ref TI) rfl ?_)
 refine wpAny_bind (wpAny_seqItems hTI rfl ?_)
 show wpAny _ _ (Builtin.SmallTypes.ownedTupleIsFree (.ref z) >>= _) _ _ _
 refine wpAny_bind ?_
 unfold Builtin.SmallTypes.ownedTupleIsFree
 refine wpAny_bind (wpAny_field hz rfl (x:=.none) rfl (wpAny_pure ?_))
 simp only [if_true]
 refine wpAny_bind (wpAny_rule ?_)
 refine wpAny_bind (wpAny_field hz rfl (x:=.ref TO) rfl ?_)
 refine wpAny_bind (wpAny_setField_rec hz (by simp) fun h₁ hz₁ hs₁=>?_)
 replace hz₁:IsZip h₁ z TI TO .ellipsis:=hz₁
 refine wpAny_bind ?_
 simp only [List.zipIdx_cons,List.zipIdx_nil,List.forIn_cons,List.forIn_nil]
 refine wpAny_bind (wpAny_bind (wpAny_onRaise ?_))
 show wpAny _ _ (Builtin.SmallTypes.nextOf (.ref i1) >>= _) _ _ _
 refine wpAny_bind (wpAny_nextOf_ascii_end hh (jL h1 hs₁.extBut D.i1z) hend fun h₂ e hs₂ he=>?_)
 obtain ⟨oe,hoe,hce⟩:=he
 have hz₂:IsZip h₂ z TI TO .ellipsis:=hs₂ _ _ D.i1z.symm hz₁
 have hez:e≠z:=fun x=>by subst x;rw [hz₂] at hoe;cases hoe;simp at hce
 exact wpAny_setField_rec hz₂ (by simp) fun h₃ Z hs₃=>hE h₃ e (fun c o c1 Z c3 Z x=>hs₃.extBut _ _ c1 (hs₂ _ _ c3 (hs₁.extBut _ _ c1 x))) ⟨oe,hs₃.extBut _ _ hez hoe,hce⟩
end zipS_next_end
section
variable {prog:Program}{w:World}{A:Around}{E:Value→Shared→Prop}{s:Shared}
theorem zipS_next_end{z TI TO i1 i2 l2:Addr}{k1:Nat}{xs:Str}{xt:Tok}{a b:Value}{Q:Fin→Shared→Prop}(hh:A.handled=none)(D:ZA z TI TO i1 i2 l2)
  (hz:IsZip s.heap z TI TO .none) (hTI:IsPair s.heap TI (.ref i1) (.ref i2)) (hTO:IsPair s.heap TO a b)
  (h1:SI s.heap i1 xs xt k1) (hend:xs.cps[k1]?=none)
  (hE:∀h' e,(∀c o,c≠z→c≠TO→c≠i1→c≠i2→s.heap.get? c=some o→h'.get? c=some o)→(∃o,h'.get? e=some o∧o.cls=.type "StopIteration")→E (.ref e) { s with heap:=h' }) :
  wpAny (model prog w) A (Builtin.«zip.__next__» ⟨[.ref z],[]⟩) Q E s:=(@eps _ _ zipS_next_end.Dq zipS_next_end.tq rfl @zipS_next_end.T0 (prog,w,A,E,s,z,TI,TO,i1,i2,l2,k1,xs,xt,a,b,Q)) hh D hz hTI hTO h1 hend hE
theorem jO{z TI TO i1 i2 l2:Addr}{k1 k2 c1:Nat}{xs:Str}{xt:Tok}{ys:Array Value}{y a b:Value}{Q:Option Value→Shared→Prop}(D:ZA z TI TO i1 i2 l2)
  (hz:IsZip s.heap z TI TO .none) (hTI:IsPair s.heap TI (.ref i1) (.ref i2)) (hTO:IsPair s.heap TO a b)
  (h1:SI s.heap i1 xs xt k1) (h2:s.heap.IsListIter i2 l2 k2) (hl2:s.heap.IsList l2 ys) (hx:xs.cps[k1]?=some c1) (hy:ys[k2]?=some y)
  (hQ:∀h' tk,IsZip h' z TI TO (rawInt s.heap.objs.size)→IsPair h' TO (.str ⟨#[c1]⟩ s.toks) y→SI h' i1 xs xt (k1+1)→h'.IsListIter i2 l2 (k2+1)→IsPair h' s.heap.objs.size (.str ⟨#[c1]⟩ s.toks) y→h'.objs.size=s.heap.objs.size+1 →
   (∀c o,c≠z→c≠TO→c≠i1→c≠i2→s.heap.get? c=some o→h'.get? c=some o)→Q (some (.ref s.heap.objs.size)) (sh s h' tk)) :
  wpAny (model prog w) A (pyNext (.ref z)) Q E s:=by
 have hT:s.TypeIs (.ref z) "zip":=⟨_,hz,rfl⟩
 unfold pyNext
 exact wpAny_bind (wpAny_attempt (wpAny_callSpecial?_slot (name:=Str.ofString "__next__") hT F.slot_zip_next
  (wpAny_call_entry F.slot_zip_next hT F.entry_zip_next
   (zipS_next_item D hz hTI hTO h1 h2 hl2 hx hy fun h' tk a1 a2 a3 a4 a5 a6 a7=>wpAny_pure (hQ h' tk a1 a2 a3 a4 a5 a6 a7)) (F.args_zip_next_1 _))))
theorem kQ{z TI TO i1 i2 l2:Addr}{k1:Nat}{xs:Str}{xt:Tok}{a b:Value}{Q:Option Value→Shared→Prop}(hh:A.handled=none)(D:ZA z TI TO i1 i2 l2)
  (hz:IsZip s.heap z TI TO .none) (hTI:IsPair s.heap TI (.ref i1) (.ref i2)) (hTO:IsPair s.heap TO a b)
  (h1:SI s.heap i1 xs xt k1) (hend:xs.cps[k1]?=none)
  (hQ:∀h',(∀c o,c≠z→c≠TO→c≠i1→c≠i2→s.heap.get? c=some o→h'.get? c=some o)→Q none { s with heap:=h' }):wpAny (model prog w) A (pyNext (.ref z)) Q E s:=by
 have hT:s.TypeIs (.ref z) "zip":=⟨_,hz,rfl⟩
 unfold pyNext
 refine wpAny_bind (wpAny_attempt (wpAny_callSpecial?_slot (name:=Str.ofString "__next__") hT F.slot_zip_next
  (wpAny_call_entry F.slot_zip_next hT F.entry_zip_next (zipS_next_end hh D hz hTI hTO h1 hend fun h' e hk he=>?_) (F.args_zip_next_1 _))))
 obtain ⟨o,ho,hc⟩:=he
 refine wpAny_bind (wpAny_isInstance (T:="StopIteration") (b:=true) ⟨o,ho,hc⟩ isSubtype_stop ?_)
 exact wpAny_pure (hQ _ hk)
end
namespace walks_zipS
noncomputable def Cq(prog:Program)(w:World)(A:Around)(z TI TO i1 i2 l2:Addr)(xs:Str)(xt:Tok)(ys:Array Value):Prop:=∀(hh:A.handled=none) (D:ZA z TI TO i1 i2 l2) (hle:xs.cps.size≤ys.size),WalksT prog w A z [z,TI,TO,i1,i2,l2] [z,TO,i1,i2] xs.cps.size
   (fun i vals=>∃c t y,xs.cps[i]?=some c∧ys[i]?=some y∧vals=#[.str ⟨#[c]⟩ t,y])
   (fun i h=>IsZip h z TI TO .none∧IsPair h TI (.ref i1) (.ref i2)∧(∃a b,IsPair h TO a b)∧SI h i1 xs xt i∧h.IsListIter i2 l2 i∧h.IsList l2 ys)
   (fun i T h=>IsZip h z TI TO (rawInt T)∧IsPair h TI (.ref i1) (.ref i2)∧(∃a b,IsPair h TO a b)∧SI h i1 xs xt (i+1)∧h.IsListIter i2 l2 (i+1)∧h.IsList l2 ys ∧
    T≠z∧T≠TO∧T≠i1∧T≠i2)
noncomputable def Dq(p:Program×World×Around×Addr×Addr×Addr×Addr×Addr×Addr×Str×Tok×(Array Value)):Prop:=Cq p.1 p.2.1 p.2.2.1 p.2.2.2.1 p.2.2.2.2.1 p.2.2.2.2.2.1 p.2.2.2.2.2.2.1 p.2.2.2.2.2.2.2.1 p.2.2.2.2.2.2.2.2.1 p.2.2.2.2.2.2.2.2.2.1 p.2.2.2.2.2.2.2.2.2.2.1 p.2.2.2.2.2.2.2.2.2.2.2
def tq:=@ep _ (by have:=neAround;have:=neProgram;have:=neWorld;infer_instance) Dq
def prog:=tq.1
def w:=tq.2.1
def A:=tq.2.2.1
def z:=tq.2.2.2.1
def TI:=tq.2.2.2.2.1
def TO:=tq.2.2.2.2.2.1
def i1:=tq.2.2.2.2.2.2.1
def i2:=tq.2.2.2.2.2.2.2.1
def l2:=tq.2.2.2.2.2.2.2.2.1
def xs:=tq.2.2.2.2.2.2.2.2.2.1
def xt:=tq.2.2.2.2.2.2.2.2.2.2.1
def ys:=tq.2.2.2.2.2.2.2.2.2.2.2
theorem T0(hh:A.handled=none)(D:ZA z TI TO i1 i2 l2)(hle:xs.cps.size≤ys.size):WalksT prog w A z [z,TI,TO,i1,i2,l2] [z,TO,i1,i2] xs.cps.size
   (fun i vals=>∃c t y,xs.cps[i]?=some c∧ys[i]?=some y∧vals=#[.str ⟨#[c]⟩ t,y])
   (fun i h=>IsZip h z TI TO .none∧IsPair h TI (.ref i1) (.ref i2)∧(∃a b,IsPair h TO a b)∧SI h i1 xs xt i∧h.IsListIter i2 l2 i∧h.IsList l2 ys)
   (fun i T h=>IsZip h z TI TO (rawInt T)∧IsPair h TI (.ref i1) (.ref i2)∧(∃a b,IsPair h TO a b)∧SI h i1 xs xt (i+1)∧h.IsListIter i2 l2 (i+1)∧h.IsList l2 ys ∧
    T≠z∧T≠TO∧T≠i1∧T≠i2) where
 sub:=all4 (.head _) (.tail _ (.tail _ (.head _))) (.tail _ (.tail _ (.tail _ (.head _)))) (.tail _ (.tail _ (.tail _ (.tail _ (.head _)))))
 frame:=fun i h h' hst hk=>by
  obtain ⟨hz,hTI,⟨a,b,hTO⟩,⟨o1,h1,r1⟩,h2,hl2⟩:=hst
  exact ⟨hk z (.head _) _ hz,hk TI (.tail _ (.head _)) _ hTI,⟨a,b,hk TO (.tail _ (.tail _ (.head _))) _ hTO⟩,⟨o1,hk i1 (.tail _ (.tail _ (.tail _ (.head _)))) _ h1,r1⟩,h2.at fun o e=>hk i2 (.tail _ (.tail _ (.tail _ (.tail _ (.head _))))) o e,hl2.at fun o e=>hk l2 (.tail _ (.tail _ (.tail _ (.tail _ (.tail _ (.head _)))))) o e⟩
 item:=fun i s Q E hi hst hQ=>by
  obtain ⟨hz,hTI,⟨a,b,hTO⟩,h1,h2,hl2⟩:=hst
  have hiy:i < ys.size:=by exact o42 hle hi
  refine jO D hz hTI hTO h1 h2 hl2 (Array.getElem?_eq_getElem hi) (Array.getElem?_eq_getElem hiy) fun h' tk a1 a2 a3 a4 a5 a6 hk=>?_
  have lt:∀{c o},s.heap.get? c=some o→s.heap.objs.size≠c:=fun e=>Nat.ne_of_gt (Heap.lt_size e)
  exact hQ s.heap.objs.size #[.str ⟨#[xs.cps[i]]⟩ s.toks,ys[i]] h' tk ⟨_,_,_,Array.getElem?_eq_getElem hi,Array.getElem?_eq_getElem hiy,rfl⟩ (Nat.le_refl _) ⟨_,a5,rfl,_,rfl⟩
   ⟨a1,hk _ _ D.TIz D.TITO D.TIi1 D.TIi2 hTI,⟨_,_,a2⟩,a3,a4,hl2.at fun o e=>hk _ o D.l2z D.l2TO D.l2i1 D.l2i2 e,
    lt hz,lt hTO,(by obtain ⟨_,e,_⟩:=h1;exact lt e),(by obtain ⟨_,e,_⟩:=h2;exact lt e)⟩
   fun c o hc e=>hk c o (fun x=>hc (mq0 x)) (fun x=>hc (.tail _ (mq0 x))) (fun x=>hc (.tail _ (.tail _ (mq0 x)))) (fun x=>hc (.tail _ (.tail _ (.tail _ (mq0 x))))) e
 go:=fun elts k pos i T s Q E hm hQ=>by
  obtain ⟨hz,hTI,⟨a,b,hTO⟩,h1,h2,hl2,_⟩:=hm
  refine wpAny_letOwnedTupleGo_zip hz fun h' hz' hs'=>hQ h' ⟨hz',hs'.extBut _ _ D.TIz hTI,⟨a,b,hs'.extBut _ _ D.TOz hTO⟩,jL h1 hs'.extBut D.i1z,h2.extBut hs'.extBut D.i2z,
   hl2.extBut hs'.extBut D.l2z⟩ fun c o hc e=>hs'.extBut _ _ (fun x=>hc (mq0 x)) e
 apart:=fun i T h hm hT=>by
  obtain ⟨_,_,_,_,_,_,t1,t2,t3,t4⟩:=hm
  simp at hT
  rcases hT with rfl | rfl | rfl | rfl
  ·exact t1 rfl
  ·exact t2 rfl
  ·exact t3 rfl
  ·exact t4 rfl
 done:=fun s Q E hst hQ=>by
  obtain ⟨hz,hTI,⟨a,b,hTO⟩,h1,h2,hl2⟩:=hst
  exact kQ hh D hz hTI hTO h1 (by simp) fun h' hk=>hQ h' s.toks fun c o hc e=>hk c o (fun x=>hc (mq0 x)) (fun x=>hc (.tail _ (mq0 x))) (fun x=>hc (.tail _ (.tail _ (mq0 x)))) (fun x=>hc (.tail _ (.tail _ (.tail _ (mq0 x))))) e
 self:=fun i s Q E hst hQ=>wpAny_pyIter_zip hst.1 hQ
end walks_zipS
section
variable {prog:Program}{w:World}{A:Around}{E:Value→Shared→Prop}{s:Shared}
theorem walks_zipS(hh:A.handled=none)(z TI TO i1 i2 l2:Addr)(D:ZA z TI TO i1 i2 l2)(xs:Str)(xt:Tok)(ys:Array Value)(hle:xs.cps.size≤ys.size):
  WalksT prog w A z [z,TI,TO,i1,i2,l2] [z,TO,i1,i2] xs.cps.size
   (fun i vals=>∃c t y,xs.cps[i]?=some c∧ys[i]?=some y∧vals=#[.str ⟨#[c]⟩ t,y])
   (fun i h=>IsZip h z TI TO .none∧IsPair h TI (.ref i1) (.ref i2)∧(∃a b,IsPair h TO a b)∧SI h i1 xs xt i∧h.IsListIter i2 l2 i∧h.IsList l2 ys)
   (fun i T h=>IsZip h z TI TO (rawInt T)∧IsPair h TI (.ref i1) (.ref i2)∧(∃a b,IsPair h TO a b)∧SI h i1 xs xt (i+1)∧h.IsListIter i2 l2 (i+1)∧h.IsList l2 ys ∧
    T≠z∧T≠TO∧T≠i1∧T≠i2):=(@eps _ _ walks_zipS.Dq walks_zipS.tq rfl @walks_zipS.T0 (prog,w,A,z,TI,TO,i1,i2,l2,xs,xt,ys)) hh D hle
end
end Mine.Internal
end
section
open PySem PySem.Spec PySem.Calls PyProof PyProof.Rows PySem.W
open AutoSeq1 (wpAny_loadPart')
namespace Mine.Internal
noncomputable abbrev zsH1 (h:Heap) (x:Str) (t:Tok):Heap:=h.push { cls:=.type "str_ascii_iterator",data:=.fields #[.str x t,.int 0 0] }
noncomputable abbrev zsH2 (h:Heap) (x:Str) (t:Tok) (l2:Addr):Heap:=(zsH1 h x t).push { cls:=.type "list_iterator",data:=.fields #[.ref l2,.int 0 0] }
noncomputable abbrev zsH3 (h:Heap) (x:Str) (t:Tok) (l2:Addr):Heap:=(zsH2 h x t l2).push { cls:=.type "tuple",data:=.seq #[.ref h.objs.size,.ref (zsH1 h x t).objs.size] }
noncomputable abbrev zsH4 (h:Heap) (x:Str) (t:Tok) (l2:Addr):Heap:=(zsH3 h x t l2).push { cls:=.type "tuple",data:=.seq #[.none,.none] }
noncomputable abbrev zsH5 (h:Heap) (x:Str) (t:Tok) (l2:Addr):Heap:=(zsH4 h x t l2).push { cls:=.type "zip",data:=.fields #[.none,.bool false,.bool false,.ref (zsH2 h x t l2).objs.size,.ref (zsH3 h x t l2).objs.size] }
set_option maxHeartbeats 4000000 in
theorem gU(x:Str)(t:Tok)(l2:Addr)(ys:Array Value)(ha:x.cps.all (· < 128)=true):
  Meets (Builtin.«zip.__new__» ⟨[.type "zip",.str x t,.ref l2],[]⟩) (fun Z R s=>s.heap.IsList l2 ys ∧
   R (.ok (.ret (.ref (zsH4 s.heap x t l2).objs.size))) { s with heap:=zsH5 s.heap x t l2 }) :=
 .of_wp fun prog w A R s h=>by
  obtain ⟨hp,g,d,tk,os⟩:=s;obtain ⟨hl2,h⟩:=h
  have hsub:=sub_zip
  generalize hv:Value.str x t=v1
  have hI:∀{A:Around} {E:Value→Shared→Prop} {Q:Value→Shared→Prop},Q (.ref hp.objs.size) ⟨zsH1 hp x t,g,d,tk,os⟩→wpAny (model prog w) A (pyIter v1) Q E ⟨hp,g,d,tk,os⟩:=fun h=>by subst hv;exact wpAny_pyIter_ascii ha h
  have hL2:Heap.IsList (Shared.heap ⟨zsH1 hp x t,g,d,tk,os⟩) l2 ys:=Heap.IsList.push hl2 _
  clear hv
  wp_walk using hI,wpAny_pyIter_list hL2
  exact ⟨_,rfl,h⟩
theorem pure_bool{prog:Program}{w:World}{A:Around}{Q:Bool→Shared→Prop}{E:Value→Shared→Prop}{s:Shared}{b:Bool}(h:∀b,Q b s):wpAny (model prog w) A (pure b) Q E s:=wpAny_pure (h b)
namespace meets_enumerate_newT
noncomputable def Cq (l:Addr) (items:Array Value) (n:Nat) (dct:Option Addr) (sl:Array (Option Value)):Prop:=Meets (Builtin.«enumerate.__new__» ⟨[.type "enumerate",.ref l],[]⟩) (fun Z R s=>s.heap.get? l=some { cls:=.type "tuple",dict:=dct,data:=.seq items n,slots:=sl } ∧
   R (.ok (.ret (.ref (s.heap.push { cls:=.type "tuple_iterator",data:=.fields #[.ref l,.int 0 0] }).objs.size)))
    {s with heap:=(s.heap.push { cls:=.type "tuple_iterator",data:=.fields #[.ref l,.int 0 0] }).push { cls:=.type "enumerate",data:=.fields #[.none,.bool false,.ref s.heap.objs.size,rawInt 0,.none,.none] } })
noncomputable def Dq(p:Addr×(Array Value)×Nat×(Option Addr)×(Array (Option Value))):Prop:=Cq p.1 p.2.1 p.2.2.1 p.2.2.2.1 p.2.2.2.2
def tq:=@ep _ _ Dq
def l:=tq.1
def items:=tq.2.1
def n:=tq.2.2.1
def dct:=tq.2.2.2.1
def sl:=tq.2.2.2.2
theorem T0 :Meets (Builtin.«enumerate.__new__» ⟨[.type "enumerate",.ref l],[]⟩) (fun Z R s=>s.heap.get? l=some { cls:=.type "tuple",dict:=dct,data:=.seq items n,slots:=sl } ∧
   R (.ok (.ret (.ref (s.heap.push { cls:=.type "tuple_iterator",data:=.fields #[.ref l,.int 0 0] }).objs.size)))
    {s with heap:=(s.heap.push { cls:=.type "tuple_iterator",data:=.fields #[.ref l,.int 0 0] }).push { cls:=.type "enumerate",data:=.fields #[.none,.bool false,.ref s.heap.objs.size,rawInt 0,.none,.none] } }) :=
 .of_wp fun prog w A R s h=>by
  obtain ⟨hp,g,d,tk,os⟩:=s;obtain ⟨hl,h⟩:=h
  have hsub:=sub_enumerate
  have hL:Heap.IsTuple (Shared.heap ⟨hp,g,d,tk,os⟩) l items:=⟨_,hl,rfl,n,rfl⟩
  wp_walk using wpAny_loadPart' hl
  refine wpAny_stack_any fun st=>pure_bool fun b=>?_
  cases b
  ·wp_walk using wpAny_loadPart' hl,wpAny_pyIter_tuple hL
   exact ⟨_,rfl,h⟩
  ·wp_walk using wpAny_loadPart' hl,wpAny_pyIter_tuple hL
   exact ⟨_,rfl,h⟩
end meets_enumerate_newT
theorem meets_enumerate_newT(l:Addr)(items:Array Value)(n:Nat)(dct:Option Addr)(sl:Array (Option Value)):
  Meets (Builtin.«enumerate.__new__» ⟨[.type "enumerate",.ref l],[]⟩) (fun Z R s=>s.heap.get? l=some { cls:=.type "tuple",dict:=dct,data:=.seq items n,slots:=sl } ∧
   R (.ok (.ret (.ref (s.heap.push { cls:=.type "tuple_iterator",data:=.fields #[.ref l,.int 0 0] }).objs.size)))
    {s with heap:=(s.heap.push { cls:=.type "tuple_iterator",data:=.fields #[.ref l,.int 0 0] }).push { cls:=.type "enumerate",data:=.fields #[.none,.bool false,.ref s.heap.objs.size,rawInt 0,.none,.none] } }):=(@eps _ _ meets_enumerate_newT.Dq meets_enumerate_newT.tq rfl @meets_enumerate_newT.T0 (l,items,n,dct,sl))
section
variable {prog:Program}{w:World}{A:Around}{E:Value→Shared→Prop}{s:Shared}
theorem zT{it l:Addr}{i:Nat}{items}{x:Value}{Q:Value→Shared→Prop}(hit:s.heap.IsTupleIter it l i)
  (hl:s.heap.IsTuple l items) (hx:items[i]?=some x)
  (hQ:∀h',h'.IsTupleIter it l (i+1)→Heap.SameBut it s.heap h'→Q x { s with heap:=h' }) :
  wpAny (model prog w) A (Builtin.SmallTypes.nextOf (.ref it)) Q E s:=by
 obtain ⟨o,ho,hc,hd⟩:=id hit
 obtain ⟨ol,hol,_,nl,hdl⟩:=hl
 unfold Builtin.SmallTypes.nextOf
 refine wpAny_bind (wpAny_callSpecial?_slot (name:=Str.ofString "__next__") hit.typeIs F.slot_tuple_iterator_next
  (wpAny_call_entry F.slot_tuple_iterator_next hit.typeIs F.entry_tuple_iterator_next ?_ (F.args_tuple_iterator_next_1 _)))
 show wpAny _ _ (field (.ref it) 0 >>= _) _ _ s
 refine wpAny_bind (wpAny_field ho hd (x:=.ref l) rfl ?_)
 show wpAny _ _ (if (Value.ref l==Value.none)=true then _ else _) _ _ s
 rw [if_neg (show ¬((Value.ref l==Value.none)=true) from Bool.false_ne_true)]
 show wpAny _ _ (field (.ref it) 1 >>= _) _ _ s
 refine wpAny_bind (wpAny_field ho hd (x:=.int i 0) rfl ?_)
 show wpAny _ _ (seqItems? (.ref l) >>= _) _ _ s
 refine wpAny_bind (wpAny_seqItems hol hdl ?_)
 simp only [Int.toNat_natCast,hx]
 refine wpAny_bind (wpAny_setField ho hd (by simp) (wpAny_pure ⟨x,rfl,wpAny_pure (hQ _ ?_ (Heap.SameBut.update ..))⟩))
 exact ⟨_,Heap.get?_update_self _ ho (Obj.isFreed_of_fields (Obj.data_mapFields hd _)),(Obj.cls_mapFields ..).trans hc,by
  rw [Obj.data_mapFields hd];simp [rawInt]⟩
theorem jQ{it l:Addr}{i:Nat}{items}{Q:Value→Shared→Prop}(hh:A.handled=none)
  (hit:s.heap.IsTupleIter it l i) (hl:s.heap.IsTuple l items) (hx:items[i]?=none)
  (hE:∀h' e,Heap.ExtBut it s.heap h'→(∃o,h'.get? e=some o∧o.cls=.type "StopIteration")→E (.ref e) { s with heap:=h' }) :
  wpAny (model prog w) A (Builtin.SmallTypes.nextOf (.ref it)) Q E s:=by
 obtain ⟨o,ho,hc,hd⟩:=id hit
 obtain ⟨ol,hol,_,nl,hdl⟩:=hl
 unfold Builtin.SmallTypes.nextOf
 refine wpAny_bind (wpAny_callSpecial?_slot (name:=Str.ofString "__next__") hit.typeIs F.slot_tuple_iterator_next
  (wpAny_call_entry F.slot_tuple_iterator_next hit.typeIs F.entry_tuple_iterator_next ?_ (F.args_tuple_iterator_next_1 _)))
 show wpAny _ _ (field (.ref it) 0 >>= _) _ _ s
 refine wpAny_bind (wpAny_field ho hd (x:=.ref l) rfl ?_)
 show wpAny _ _ (if (Value.ref l==Value.none)=true then _ else _) _ _ s
 rw [if_neg (show ¬((Value.ref l==Value.none)=true) from Bool.false_ne_true)]
 show wpAny _ _ (field (.ref it) 1 >>= _) _ _ s
 refine wpAny_bind (wpAny_field ho hd (x:=.int i 0) rfl ?_)
 show wpAny _ _ (seqItems? (.ref l) >>= _) _ _ s
 refine wpAny_bind (wpAny_seqItems hol hdl ?_)
 simp only [Int.toNat_natCast,hx]
 refine wpAny_bind (wpAny_rule (wpAny_bind (wpAny_setField ho hd (by simp) ?_)))
 show wpAny _ _ (newExc (.type "StopIteration") [] >>= _) _ _ _
 refine wpAny_bind ?_
 simp only [newExc,newTuple]
 refine wpAny_bind (wpAny_newObj_type ?_ (by size_fits))
 refine wpAny_bind (m:=firstArgMember _ _) (wpAny_of_eq (a:=Value.none) (by first | rfl | (simp only [firstArgMember];rfl)) ?_)
 refine wpAny_newObj_type ?_ (by size_fits)
 unfold raiseNew
 refine wpAny_bind (wpAny_handled ?_)
 first | rw [show A.in1.handled=none from hh] | rw [hh]
 refine wpAny_bind (wpAny_pure (wpAny_throw ?_))
 exact hE _ _ (((Heap.SameBut.update ..).extBut.push _).push _) ⟨_,Heap.get?_push_size _ rfl,rfl⟩
theorem draws_tuple(hh:A.handled=none)(it l:Addr)(hne:l≠it)(items:Array Value):
  Draws prog w A it [it,l] items.size (fun i v=>items[i]?=some v) (fun i h=>h.IsTupleIter it l i∧h.IsTuple l items) where
 live:=fun Z Z st=>let ⟨o,ho,_⟩:=st.1;⟨o,ho⟩
 frame:=fun Z Z Z st hk=>⟨st.1.at fun o e=>hk it (by simp) o e,st.2.at fun o e=>hk l (by simp) o e⟩
 item:=fun i s Q E hi st hQ=>by
  refine zT st.1 st.2 (x:=items[i]) (by simp [hi]) fun h' hit' hs'=>?_
  exact hQ _ h' s.toks (by simp [hi]) ⟨hit',st.2.extBut hs'.extBut hne⟩ hs'
 done:=fun s Q E st hE=>jQ hh st.1 st.2 (by simp) hE
theorem call_enumT{l:Addr}{items:Array Value}{Q:Value→Shared→Prop}(hL:s.heap.IsTuple l items)
  (h:∀h',IsEnum h' (s.heap.objs.size+1) s.heap.objs.size 0 .none→h'.IsTupleIter s.heap.objs.size l 0→h'.objs.size=s.heap.objs.size+2 →
   (∀b o,s.heap.get? b=some o→h'.get? b=some o)→Q (.ref (s.heap.objs.size+1)) { s with heap:=h' }) :
  wpAny (model prog w) A (call (.type "enumerate") [.ref l]) Q E s:=by
 obtain ⟨⟨c,dct,dt,sl⟩,hl,hc,n,hd⟩:=hL
 replace hc:c=.type "tuple":=hc
 replace hd:dt=.seq items n:=hd
 subst hc hd
 refine callType_new F.called_enumerate (by decide) (F.typeCall_enumerate_1 _) (F.newCall_enumerate_1 _) (fun obj=>F.args_object_init_2 obj _) F.entry_enumerate_new
  (meets_enumerate_newT l items n dct sl) ⟨hl,?_⟩
 have hz:(s.heap.push { cls:=.type "tuple_iterator",data:=.fields #[.ref l,.int 0 0] }).objs.size=s.heap.objs.size+1:=Heap.size_push ..
 show _∧_
 rw [hz]
 have he:IsEnum ((s.heap.push { cls:=.type "tuple_iterator",data:=.fields #[.ref l,.int 0 0] }).push
   {cls:=.type "enumerate",data:=.fields #[.none,.bool false,.ref s.heap.objs.size,rawInt 0,.none,.none] }) (s.heap.objs.size+1) s.heap.objs.size 0 .none:=by
  have:=Heap.get?_push_size (s.heap.push { cls:=.type "tuple_iterator",data:=.fields #[.ref l,.int 0 0] })
   (o:={ cls:=.type "enumerate",data:=.fields #[.none,.bool false,.ref s.heap.objs.size,rawInt 0,.none,.none] }) rfl
  rw [hz] at this;exact this
 refine ⟨⟨_,he,rfl⟩,h _ he ⟨_,Heap.get?_push_of_some _ (Heap.get?_push_size _ rfl),rfl,rfl⟩ (by rw [Heap.size_push,hz]) fun b o x=>Heap.get?_push_of_some _ (Heap.get?_push_of_some _ x)⟩
theorem call_zipS{l2:Addr}{x:Str}{t:Tok}{ys:Array Value}{Q:Value→Shared→Prop}(ha:x.cps.all (· < 128)=true)(hl2:s.heap.IsList l2 ys)
  (h:∀h',IsZip h' (s.heap.objs.size+4) (s.heap.objs.size+2) (s.heap.objs.size+3) .none→IsPair h' (s.heap.objs.size+2) (.ref s.heap.objs.size) (.ref (s.heap.objs.size+1)) →
   IsPair h' (s.heap.objs.size+3) .none .none→SI h' s.heap.objs.size x t 0→h'.IsListIter (s.heap.objs.size+1) l2 0→h'.objs.size=s.heap.objs.size+5 →
   (∀c o,s.heap.get? c=some o→h'.get? c=some o)→Q (.ref (s.heap.objs.size+4)) { s with heap:=h' }) :
  wpAny (model prog w) A (call (.type "zip") [.str x t,.ref l2]) Q E s:=by
 refine callType_new F.called_zip (by decide) (F.typeCall_zip_2 _ _) (F.newCall_zip_2 _ _) (fun obj=>F.args_object_init_3 obj _ _) F.entry_zip_new
  (gU x t l2 ys ha) ⟨hl2,?_⟩
 have z1:(zsH1 s.heap x t).objs.size=s.heap.objs.size+1:=Heap.size_push ..
 have z2:(zsH2 s.heap x t l2).objs.size=s.heap.objs.size+2:=by rw [Heap.size_push,z1]
 have z3:(zsH3 s.heap x t l2).objs.size=s.heap.objs.size+3:=by rw [Heap.size_push,z2]
 have z4:(zsH4 s.heap x t l2).objs.size=s.heap.objs.size+4:=by rw [Heap.size_push,z3]
 have z5:(zsH5 s.heap x t l2).objs.size=s.heap.objs.size+5:=by rw [Heap.size_push,z4]
 have g5:(zsH5 s.heap x t l2).get? (zsH4 s.heap x t l2).objs.size=some _:=Heap.get?_push_size _ rfl
 have g4:(zsH5 s.heap x t l2).get? (zsH3 s.heap x t l2).objs.size=some _:=Heap.get?_push_of_some _ (Heap.get?_push_size _ rfl)
 have g3:(zsH5 s.heap x t l2).get? (zsH2 s.heap x t l2).objs.size=some _:=Heap.get?_push_of_some _ (Heap.get?_push_of_some _ (Heap.get?_push_size _ rfl))
 have g2:(zsH5 s.heap x t l2).get? (zsH1 s.heap x t).objs.size=some _:=Heap.get?_push_of_some _ (Heap.get?_push_of_some _ (Heap.get?_push_of_some _ (Heap.get?_push_size _ rfl)))
 have g1:(zsH5 s.heap x t l2).get? s.heap.objs.size=some _:=Heap.get?_push_of_some _ (Heap.get?_push_of_some _ (Heap.get?_push_of_some _ (Heap.get?_push_of_some _ (Heap.get?_push_size _ rfl))))
 show _∧_
 rw [z2,z3,z4] at g5
 rw [z1,z2] at g3
 rw [z3] at g4
 rw [z1] at g2
 rw [z4]
 exact ⟨⟨_,g5,rfl⟩,h _ g5 g3 g4 ⟨_,g1,rfl,rfl⟩ ⟨_,g2,rfl,rfl⟩ z5 fun c o x =>
  Heap.get?_push_of_some _ (Heap.get?_push_of_some _ (Heap.get?_push_of_some _ (Heap.get?_push_of_some _ (Heap.get?_push_of_some _ x))))⟩
end
end Mine.Internal
end
section
open PySem PySem.Spec PySem.Calls PyProof PyProof.Rows PySem.W
set_option tactic.hygienic false
namespace Mine.Internal
section
variable {c:Cx}{d u:Nat}{env:Env}{σ:St}
theorem signsOf_get{x:Str}{i cp:Nat}(h:x.cps[i]?=some cp):(signsOf x)[i]?=some (.str ⟨#[cp]⟩):=by
 unfold signsOf
 rw [List.getElem?_map,Array.getElem?_toList,h];rfl
theorem ic_zipS {tgts:List Expr} {kk:Nat} {tp:Pos} {x:Str} {ys:List AV} {mu:List AO} {K:List AV→Nat→Prop} (ha:x.cps.all (· < 128)=true) (hle:x.cps.size≤ys.length) (h:K (zipItems (signsOf x) ys) 4):ItCOK c (.type "zip") (.Tuple tgts kk tp) [.str x,.lst ys] mu K:=fun A g as s Q E ws hh m rs q=>by
 obtain ⟨_,_,rfl,r1,rs⟩:=rs.inv
 obtain ⟨_,_,rfl,r2,rs⟩:=rs.inv
 obtain rfl:=rs.inv
 obtain ⟨t,rfl⟩:=r1.inv
 obtain ⟨l2,w2,n2,dd2,sl2,rfl,e2,q2⟩:=r2.inv
 have hl2:s.heap.IsList l2 w2.toArray:=⟨_,m.keep _ _ e2,rfl,_,rfl⟩
 have lt2:l2 < s.heap.objs.size:=Heap.lt_size (m.keep _ _ e2)
 refine call_zipS ha hl2 fun h' a1 a2 a3 a4 a5 a6 kp=>?_
 have hl2':h'.IsList l2 w2.toArray:=⟨_,kp _ _ (m.keep _ _ e2),rfl,_,rfl⟩
 have D:ZA (s.heap.objs.size+4) (s.heap.objs.size+2) (s.heap.objs.size+3) s.heap.objs.size (s.heap.objs.size+1) l2:=by
  have lt2':@LT.lt Nat _ l2 s.heap.objs.size:=lt2
  constructor <;> (show @Ne Nat _ _;first | exact nA rfl | exact nB rfl | exact nB' rfl | exact nC lt2' | exact Nat.ne_of_lt lt2' | exact nC' lt2' | exact (Nat.ne_of_lt lt2').symm)
 have W:=walks_zipS (prog:=c.prog) (w:=c.w) (A:=A) hh _ _ _ _ _ _ D x t w2.toArray (by have e1:w2.toArray.size=w2.length:=List.size_toArray;rw [e1,q2.length];exact hle)
 have I:=itr_tup (g₀:=g) (as₀:=as) (items:=zipItems (signsOf x) ys) (elts:=tgts) (k:=kk) (pos:=tp) W (by rw [wW];unfold signsOf;simp;exact o43 hle) (fun i vals hp=>by
  obtain ⟨cp,t',y,h1,h2,rfl⟩:=hp
  obtain ⟨v2,f2,g2⟩:=q2.get' (by simpa using h2)
  exact ⟨[.str ⟨#[cp]⟩,v2],xV _ _ _ _ _ (signsOf_get h1) f2,.cons (.str _ _) (.cons g2 .nil)⟩) (fun i hh st=>by
  obtain ⟨z1,z2,⟨a,b',z3⟩,⟨_,z4,_⟩,⟨_,z5,_⟩,_⟩:=st
  refine all4 ?_ ?_ ?_ ?_
  ·exact ⟨_,z1⟩
  ·exact ⟨_,z3⟩
  ·exact ⟨_,z4⟩
  ·exact ⟨_,z5⟩)
 have lv:∀b,b∈[s.heap.objs.size+4,s.heap.objs.size+3,s.heap.objs.size,s.heap.objs.size+1]→s.heap.get? b=none∧∃o,h'.get? b=some o:=by
  refine all4 ?_ ?_ ?_ ?_
  ·exact ⟨vG (by exact o31),_,a1⟩
  ·exact ⟨vG (by exact o32),_,a3⟩
  ·obtain ⟨o,e,_⟩:=a4;exact ⟨vG (by exact o33),o,e⟩
  ·obtain ⟨o,e,_⟩:=a5;exact ⟨vG (by exact o34),o,e⟩
 exact wpAny_pyIter_zip (s:={ s with heap:=h' }) a1 (q _ _ _ _ h' s.toks _ kp I (by simp) (by
  refine all6 ?_ ?_ ?_ ?_ ?_ ?_
  ·exact .inl (.head _)
  ·exact .inr (.inr ⟨vG (by exact o35),_,a2⟩)
  ·exact .inl (.tail _ (.head _))
  ·exact .inl (.tail _ (.tail _ (.head _)))
  ·exact .inl (.tail _ (.tail _ (.tail _ (.head _))))
  ·exact .inr (.inl ⟨_,e2⟩)) lv ⟨a1,a2,⟨_,_,a3⟩,a4,a5,hl2'⟩ h)
noncomputable def enumItems(n:Nat):List AV→List AV
 | []=>[]
 | a::r=>.tup [.int n,a]::enumItems (n+1) r
theorem jS:∀(n:Nat) (l:List AV),(enumItems n l).length=l.length:=by
 intro n zz
 induction zz generalizing n with
 | nil =>
  exact rfl
 | cons a r ih =>
  simp [enumItems,ih (n+1)]
theorem zD:∀(n:Nat) (l:List AV) (i:Nat) (x:AV),l[i]?=some x→(enumItems n l)[i]?=some (.tup [.int (n+i:Nat),x])
 | n,a::r,0,x,h=>by cases h;rfl
 | n,a::r,i+1,x,h=>by
  have:=zD (n+1) r i x (by simpa using h)
  simp only [enumItems,List.getElem?_cons_succ,this]
  rw [show n+1+i=n+(i+1) by exact o44]
theorem ic_enum {tgts:List Expr} {kk:Nat} {tp:Pos} {xs:List AV} {mu:List AO} {K:List AV→Nat→Prop} (h:K (enumItems 0 xs) 2):ItCOK c (.type "enumerate") (.Tuple tgts kk tp) [.tup xs] mu K:=fun A g as s Q E ws hh m rs q=>by
 obtain ⟨_,_,rfl,r1,rs⟩:=rs.inv
 obtain rfl:=rs.inv
 obtain ⟨l2,w2,n2,dd2,sl2,rfl,e2,q2⟩:=r1.inv
 have hl2:s.heap.IsTuple l2 w2.toArray:=⟨_,m.keep _ _ e2,rfl,_,rfl⟩
 have lt2:@LT.lt Nat _ l2 s.heap.objs.size:=Heap.lt_size (m.keep _ _ e2)
 refine call_enumT hl2 fun h' a1 a2 a3 kp=>?_
 have hl2':h'.IsTuple l2 w2.toArray:=⟨_,kp _ _ (m.keep _ _ e2),rfl,_,rfl⟩
 have Dr:=draws_tuple (prog:=c.prog) (w:=c.w) (A:=A.in1) hh s.heap.objs.size l2 (by show @Ne Nat _ _;exact o45 lt2) w2.toArray
 have W:=WalksT.enumerateD Dr (s.heap.objs.size+1) (by show @Ne Nat _ _;exact o46) (by
  intro z
  simp only [List.mem_cons,List.not_mem_nil,or_false] at z
  rcases z with z | z
  ·have z':@Eq Nat (s.heap.objs.size+1) s.heap.objs.size:=z;exact Nat.succ_ne_self _ z'
  ·have z':@Eq Nat (s.heap.objs.size+1) l2:=z;exact nC' lt2 z') (by simp)
 have I:=itr_tup (g₀:=g) (as₀:=as) (items:=enumItems 0 xs) (elts:=tgts) (k:=kk) (pos:=tp) W (by rw [jS,List.size_toArray,q2.length]) (fun i vals hp=>by
  obtain ⟨t',x,h1,rfl⟩:=hp
  obtain ⟨v2,f2,g2⟩:=q2.get' (by simpa using h1)
  refine ⟨[.int i,v2],?_,.cons (.int _ _) (.cons g2 .nil)⟩
  have:=zD 0 xs i v2 f2
  rwa [Nat.zero_add] at this) (fun i hh st=>by
  obtain ⟨⟨old,z1⟩,⟨⟨_,z2,_⟩,_⟩⟩:=st
  refine all2 ?_ ?_
  ·exact ⟨_,z1⟩
  ·exact ⟨_,z2⟩)
 have lv:∀b,b∈[s.heap.objs.size+1,s.heap.objs.size]→s.heap.get? b=none∧∃o,h'.get? b=some o:=by
  refine all2 ?_ ?_
  ·exact ⟨vG (by exact o34),_,a1⟩
  ·obtain ⟨o,e,_⟩:=a2;exact ⟨vG (by exact o33),o,e⟩
 exact wpAny_pyIter_enum (s:={ s with heap:=h' }) a1 (q _ _ _ _ h' s.toks _ kp I (by simp) (by
  refine all3 ?_ ?_ ?_
  ·exact .inl (.head _)
  ·exact .inl (.tail _ (.head _))
  ·exact .inr (.inl ⟨_,e2⟩)) lv ⟨⟨_,a1⟩,a2,hl2'⟩ h)
end
section
variable {c:Cx}{d u:Nat}{env:Env}{σ:St}
theorem ss_comp{y:Str}{py spos:Pos}{elt tgt iter:Expr}{ifs:List Expr}{scope:Scope}{pos:Pos}{K:Fl→St→Prop}{cl:List (Str×Addr)}(hsw:swapsWith (.ListComp elt [⟨tgt,iter,ifs,0⟩] scope pos) (some (.Name y py)) spos.line env=pure true)(hfk:env.scope.kind=.function)(hy:env.kindOf y=some .local)(hs:∀v,foldedSetIterable iter env v=pure v)(hclos:closureFor scope env=pure cl)
  (hkind:scope.kind=.function) (hcell:∀y∈scope.names,y.2≠.cell) (hnames:∀x∈scope.names,x.2=.local→scope.names.lookup x.1=some .local)
  (ht:∀C,SvtOK c (compEnvC scope cl C env) tgt) (hcl:∀x cc,cl.lookup x=some cc→env.cells.lookup x=some cc)
  (h:ItEOK c d u env tgt iter σ (fun items m σ1=>items.length≤100000∧∃loc₀,(∀p∈loc₀,CapOK scope env cl σ1 p)∧∀C,CompOK c d u (compEnvC scope cl C env) tgt elt ifs σ1.mu items loc₀ [] (fun ys=>K .next { σ1 with loc:=setL y (.lst ys) σ1.loc }))) :
  SsOK c d u env (exec (.Assign [.Name y py] (.ListComp elt [⟨tgt,iter,ifs,0⟩] scope pos) spos) env) σ K:=fun A g as cs s Q E ro G r q=>by
 rw [exec_Assign_Name_used _ _ _ _ hsw]
 refine wpAny_bind (wpAny_standAt (wpAny_bind ?_))
 show wpAny _ A (do let _ ← comprehension (.ListComp elt [⟨tgt,iter,ifs,0⟩] scope pos) scope env _ (newList []) false (eval iter env) (some (assign (.Name y py) env))) _ _ s
 refine wpAny_bind (wpAny_mono (wpAny_comprehension_free (use:=some (assign (.Name y py) env)) (Q:=fun Z s'=>Q .next s') rfl hs hclos hkind hnames ?_) (fun Z s' hq=>wpAny_pure (wpAny_pure hq)) fun Z Z e=>e)
 refine (h A g as cs s _ E ro G r fun I fp wr St' g1 as1 h1 tk1 items σ1 hg1 ha1 r1 W nd hfp hw h0 k1=>?_)
 obtain ⟨hz,loc₀,hcap,hC⟩:=k1
 obtain ⟨g₁,st1,m1,hwr,hin,kf⟩:=r1.frameBut wr fun b hb=>⟨(hw b hb).1,(hw b hb).2.1,(hw b hb).2.2.1⟩
 obtain ⟨raws,hrl,har,m2⟩:=m1.adopt (wr:=wr) nd fun b hb=>⟨hwr b hb,(hw b hb).2.1,(hw b hb).2.2.2⟩
 refine wpAny_newObj_type (wpAny_newFunctionEnv hcell (by intro y hy;simp at hy) (fun h₂ hns₂ hsb₂=>?_) hkind)
 dsimp only at hns₂ hsb₂ ⊢
 have m3:=m2.grow (lstObj [] 0) rfl (ao:=.list []) (.list rfl .nil)
 generalize hH:h1.push { cls:=.type "list",dict:=none,data:=.seq ([]:List Value).toArray }=H at hns₂ hsb₂ ⊢
 have m3':MuR c.w.params g₁ (as1++wr++[h1.objs.size]) (σ1.mu++raws++[.list []]) H:=by rw [← hH];exact m3
 have fr:=m3'.size_out
 have m4:MuR c.w.params g₁ (as1++wr++[h1.objs.size]) (σ1.mu++raws++[.list []]) h₂:=⟨fun b o e=>(hsb₂.2 b (fun z=>by rw [z,fr.1] at e;cases e)).trans (Heap.get?_push_of_some _ (m3'.keep b o e)),m3'.len,m3'.nd,fun k a ao e1 e2=>by
  obtain ⟨o,f1,f2⟩:=m3'.at' k a ao e1 e2
  exact ⟨o,(hsb₂.2 a (fun z=>fr.2 (z▸List.mem_of_getElem? e1))).trans (Heap.get?_push_of_some _ f1),f2⟩,m3'.out⟩
 have old:∀b o,h1.get? b=some o→h₂.get? b=some o:=fun b o e=>by
  have eb:H.get? b=some o:=by rw [← hH];exact Heap.get?_push_of_some _ e
  exact (hsb₂.2 b (fun z=>absurd (Heap.lt_size eb) (by rw [z];exact Nat.lt_irrefl _))).trans (Heap.get?_push_of_some _ eb)
 have pre1:as1<+:as1++wr++[h1.objs.size]:=(List.prefix_append _ _).trans (List.prefix_append _ _)
 have r3:R c.w.params g₁ (as1++wr++[h1.objs.size]) [] (compEnvC scope cl H.objs.size env) ⟨loc₀,σ1.mu++raws++[.list []]⟩ h₂ :=
  {mu:=m4
   ns:=⟨_,hns₂,fun x av hx hv=>by
    have cp:=hcap _ (vH hv)
    have hx':(relabel scope env).names.lookup x=some .local:=hx
    rcases cp.inn with z | z <;> (dsimp only at z;rw [hx'] at z;cases z)⟩
   cl:=fun x av hx hv=>by
    have cp:=hcap _ (vH hv)
    obtain ⟨c',o,v,e1,e2,e3,e4⟩:=r1.cl x av cp.out cp.val
    obtain ⟨cc,f1,f2⟩:=cp.at'
    dsimp only at f1 f2
    rw [f2] at e1;cases e1
    exact ⟨c',o,v,f1,old _ _ e2,e3,e4.mono st1 pre1⟩
   off:=fun a ha=>by
    rcases List.mem_cons.mp ha with z | z
    ·subst z;exact fr
    ·cases z
   nd:=by simp
   cells:=fun x c' e=>by
    have e':=hcl x c' e
    rcases r1.cells x c' e' with z | ⟨_,o,z⟩
    ·obtain ⟨o,v,f1,_⟩:=r1.cc _ z
     exact .inr ⟨rfl,o,hin c' o f1 (fun y=>(hw _ y).2.2.1 (.tail _ z)) (r1.off _ (.tail _ z)).2⟩
    ·exact .inr ⟨rfl,o,st1 _ _ z⟩
   inj:=fun x y c' e1 e2=>r1.inj x y c' (hcl _ _ e1) (hcl _ _ e2)
   cc:=fun a ha=>by cases ha }
 have G1:=(G.keeps hg1).keeps st1
 have st₂:St' 0 h₂:=W.frame _ _ _ h0 fun b hb o e=>old b o e
 have loop:codeAny (model c.prog c.w) A (.compLoop (.ListComp elt [⟨tgt,iter,ifs,0⟩] scope pos) 0 (.ref I) (.ref h1.objs.size) (compEnvC scope cl H.objs.size env)) (compPost (model c.prog c.w) A E (some (assign (.Name y py) env)) (fun Z s'=>Q .next s') (.ref h1.objs.size) H.objs.size) { s with heap:=h₂,toks:=tk1+([]:List (Str×Value)).length }:=by
  refine comp_itr (s:={ s with heap:=h₂,toks:=tk1+([]:List (Str×Value)).length }) (raws₀:=raws) (ht _) ro G1 (W.mono st1 (List.prefix_refl _)) (List.prefix_refl _) hz m1.isUnder (fun b hb=>(hfp b hb).imp id fun ⟨o,e⟩=>⟨o,st1 _ _ e⟩) m1.len hrl r3 st₂ (hC _) fun g' h' tk' m ws n ys hg' m' eD rl gD hD hn' gL hL hLD kys=>?_
  have hCnone:h1.get? H.objs.size=none:=vG (by have:H.objs.size=h1.objs.size+1:=(by rw [← hH,Heap.size_push]);exact o41 this)
  have nC:=r1.notOwn hCnone
  obtain ⟨sr,mr,hinr,hCr⟩:=m'.rebase [H.objs.size] (fun a ha=>by rw [List.mem_singleton.mp ha];exact gL)
  obtain ⟨g'',hgg,rr,tr,back⟩:=kf _ as1 h' σ1.mu (StaysIn.trans' hg' sr) (List.prefix_refl _) mr
  have rv:=tr (.ref h1.objs.size) (.lst ys) (.lst (hinr _ _ eD (fun z=>hLD (List.mem_singleton.mp z).symm) hD) (rl.mono sr (List.prefix_refl _)))
  obtain ⟨mo,hno,hmo⟩:=rr.ns
  show wpAny _ A (assign (.Name y py) env (.ref h1.objs.size)) _ _ _
  refine wpAny_assign_Name (wpAny_storeName_local hy hno (fun h₅ hn₅ hs₅=>?_) (by rw [hfk];rfl))
  have hCL:H.objs.size≠env.locals:=fun z=>nC.2.2 (z▸.head _)
  have r5:=rr.setLocal hmo hy hn₅ hs₅ rv
  refine ⟨m,hn'.sameBut hs₅ hCL,fun h₆ hs₆=>?_⟩
  have gC:g''.get? H.objs.size=none:=by
   cases e:g''.get? H.objs.size with
   | none=>rfl
   | some o=>have e':=back _ _ e;rw [hCr _ (by simp)] at e';cases e'
  have r6:=r5.keepBut (wr:=[H.objs.size]) (fun b hb=>by rw [List.mem_singleton.mp hb];exact ⟨gC,hL,nC.2.2⟩) fun b o hb e=>(hs₆.2 b fun z=>hb (by simp [z])).trans e
  exact q .next g'' as1 h₆ _ .next _ (StaysIn.trans' hg1 hgg) ha1 r6 .next kys
 exact codeAny_compStart_list loop (W.self 0 _ _ _ st₂ loop)
end
theorem fL{kindOf:Str→Option NameKind}{x:Str}:∀{names:List Str} {ws:List Value} {m:Str→Option Value},x∉names→bindL kindOf (names.zip ws) m x=m x
 | [],_,_,_=>rfl
 | n::names,[],_,_=>rfl
 | n::names,w::ws,m,h=>by
  rw [List.zip_cons_cons,bindL,fL fun z=>h (.tail _ z)]
  split
  ·exact if_neg fun (z:x=n)=>h (z▸.head _)
  ·rfl
theorem bindC_keep{kindOf:Str→Option NameKind}{x:Str}{names:List Str}{ws:List Value}{m:Str→Option Value}(h:x∉names):bindC kindOf (names.zip ws) m x=m x:=by
 induction names generalizing ws m with
 | nil=>rfl
 | cons n names ih =>
  cases ws with
  | nil=>rfl
  | cons w ws =>
   rw [List.zip_cons_cons,bindC,ih fun z=>h (.tail _ z)]
   split
   ·rfl
   ·exact if_neg fun (z:x=n)=>h (z▸.head _)
theorem bindL_at{g:Heap}{as:List Addr}{kindOf:Str→Option NameKind}{x:Str}{av:AV}(hk:kindOf x=some .local):∀{names:List Str} {ws:List Value} {args:List AV} {m:Str→Option Value},names.Nodup→Rels g as ws args→(names.zip args).lookup x=some av→∃v,bindL kindOf (names.zip ws) m x=some v∧Rel g as v av:=by
 intro names
 induction names with
 | nil=>intro ws args m hn r e;cases e
 | cons n names ih =>
  intro ws args m hn r e
  cases args with
  | nil=>cases e
  | cons a0 args =>
  obtain ⟨w,ws,rfl,h1,h2⟩:=r.inv
  rw [List.zip_cons_cons,List.lookup_cons] at e
  rw [List.zip_cons_cons,bindL]
  by_cases hb:(x==n)=true
  ·rw [hb] at e;cases e
   have hx:x=n:=beq_iff_eq.mp hb
   subst hx
   rw [fL (List.nodup_cons.mp hn).1,if_pos hk]
   exact ⟨w,if_pos rfl,h1⟩
  ·have hb':(x==n)=false:=by simpa using hb
   rw [hb'] at e
   exact ih (List.nodup_cons.mp hn).2 h2 e
theorem bindC_at{g:Heap}{as:List Addr}{kindOf:Str→Option NameKind}{x:Str}{av:AV}(hk:kindOf x≠some .local):∀{names:List Str} {ws:List Value} {args:List AV} {m:Str→Option Value},names.Nodup→Rels g as ws args→(names.zip args).lookup x=some av→∃v,bindC kindOf (names.zip ws) m x=some v∧Rel g as v av:=by
 intro names
 induction names with
 | nil=>intro ws args m hn r e;cases e
 | cons n names ih =>
  intro ws args m hn r e
  cases args with
  | nil=>cases e
  | cons a0 args =>
  obtain ⟨w,ws,rfl,h1,h2⟩:=r.inv
  rw [List.zip_cons_cons,List.lookup_cons] at e
  rw [List.zip_cons_cons,bindC]
  by_cases hb:(x==n)=true
  ·rw [hb] at e;cases e
   have hx:x=n:=beq_iff_eq.mp hb
   subst hx
   rw [bindC_keep (List.nodup_cons.mp hn).1,if_neg hk]
   exact ⟨w,if_pos rfl,h1⟩
  ·have hb':(x==n)=false:=by simpa using hb
   rw [hb'] at e
   exact ih (List.nodup_cons.mp hn).2 h2 e
theorem xN{α:Type}{l:List (Str×α)}{p:Str×α}(hn:(l.map Prod.fst).Nodup)(h:p∈l):l.lookup p.1=some p.2:=by
 induction l with
 | nil=>cases h
 | cons q l ih =>
  rw [List.map_cons,List.nodup_cons] at hn
  rw [show (q::l).lookup p.1=_ from List.lookup_cons]
  cases hb:p.1==q.1 with
  | true =>
   rcases List.mem_cons.mp h with z | z
   ·rw [z]
   ·exact absurd (by rw [← beq_iff_eq.mp hb];exact List.mem_map_of_mem z) hn.1
  | false =>
   rcases List.mem_cons.mp h with z | z
   ·rw [z,beq_self_eq_true] at hb;cases hb
   ·exact ih hn.2 z
section
variable {c:Cx}{d u:Nat}{f:Addr}{args:List AV}{mu:List AO}{K:AV→List AO→Prop}
 {name qual:Str} {params:Arguments} {body:List Stmt} {scope:Scope} {dV kV doc pm cdv ct oc:Value} {an od:Option Addr} {osl:Array (Option Value)}
theorem jD{names:List Str}{cells:List (Str×Nat)}(ho:c.K.lookup f=some ⟨oc,od,.func (fnOf name qual params body scope dV kV doc pm an cdv ct),osl⟩)(hcd:codeIn c.K cdv qual=true)(hroom:d < recursionLimit)
  (hl:names.length=args.length) (hb:∀ws:List Value,ws.length=names.length→bindArgs (fnOf name qual params body scope dV kV doc pm an cdv ct) ⟨ws,[]⟩=pure (names.zip ws)) (hnd:names.Nodup)
  (hcl:∀L:Nat,cellsFrom (L+1) scope.names []=cells.map fun p=>(p.1,L+1+p.2)) (hcn:(cells.map Prod.fst).Nodup)
  (hkd:∀x∈names,scope.names.lookup x=some .local∨(scope.names.lookup x=some .cell∧x∈cells.map Prod.fst))
  (h:∀L,SsOK c (d+1) (u+3) (envOfC qual scope L f cdv) (execs body (envOfC qual scope L f cdv)) ⟨names.zip args,mu⟩ (backK K))
  (hco:scope.isCoroutine=false) (hgen:scope.isGenerator=false) (hk:scope.kind=.function) :
  CallOK c d u (.ref f) args [] mu K:=fun A g as s Q E ws kws ro G m rs rk q=>by
 obtain rfl:=rk.inv
 have hw:ws.length=names.length:=rs.length.trans hl.symm
 have cn:∀L:Nat,((cellsFrom (L+1) scope.names []).map Prod.fst).Nodup:=fun L=>by rw [hcl,List.map_map];exact hcn
 refine wpAny_call (codeAny_call_cells (fd:=fnOf name qual params body scope dV kV doc pm an cdv ct) (body:=body) (binds:=names.zip ws) (Nat.lt_of_le_of_lt ro.dp hroom) (m.keep _ _ (G.X _ _ ho)) rfl (G.lim.keeps m.keep) (codeRec_of (G.X.keeps m.keep) hcd) rfl (hb ws hw) rfl (fun x hx=>?_) (fun s₁ X=>?_) hco hgen hk)
 ·rcases hkd x.1 (List.of_mem_zip hx).1 with z | ⟨z,y⟩
  ·exact .inl z
  ·refine .inr ⟨z,?_⟩
   show ((cellsFrom (s.heap.objs.size+1) scope.names []).lookup x.1).isSome=true
   have:x.1∈(cellsFrom (s.heap.objs.size+1) scope.names []).map Prod.fst:=by rw [hcl,List.map_map];exact y
   obtain ⟨p,hp,e⟩:=List.mem_map.mp this
   rw [← e,xN (cn _) hp];rfl
 obtain ⟨h₁,tk,rfl,hk₁⟩:=X.done
 have hL:=m.size_out
 have hab:∀a,a∈(cellsFrom (s.heap.objs.size+1) scope.names []).map Prod.snd→s.heap.objs.size < a:=fun a ha=>by
  obtain ⟨p,hp,e⟩:=List.mem_map.mp ha
  exact e▸X.above p.1 p.2 hp
 have r₀:R c.w.params g as ((cellsFrom (s.heap.objs.size+1) scope.names []).map Prod.snd) (envOfC qual scope s.heap.objs.size f cdv) ⟨names.zip args,mu⟩ h₁ :=
  {mu:=⟨fun b o e=>hk₁ _ _ (m.keep b o e),m.len,m.nd,fun k a ao h1 h2=>by
    obtain ⟨o,e1,e2⟩:=m.at' k a ao h1 h2
    exact ⟨o,hk₁ _ _ e1,e2⟩,m.out⟩
   ns:=⟨_,X.toInCall.ns,fun x av hx hv=>let ⟨v,e1,e2⟩:=bindL_at hx hnd rs hv;⟨v,e1,e2⟩⟩
   cl:=fun x av hx hv=>by
    have hkx:(envOfC qual scope s.heap.objs.size f cdv).kindOf x≠some .local:=fun z=>by rcases hx with hx | hx <;> (rw [z] at hx;cases hx)
    obtain ⟨v,e1,e2⟩:=bindC_at (m:=fun Z=>none) hkx hnd rs hv
    have hxn:x∈names:=by
     obtain hm:=mem_of_lookup hv
     exact (List.of_mem_zip hm).1
    have hxc:x∈cells.map Prod.fst:=by
     rcases hkd x hxn with z | ⟨_,y⟩
     ·exact absurd z hkx
     ·exact y
    have:x∈(cellsFrom (s.heap.objs.size+1) scope.names []).map Prod.fst:=by rw [hcl,List.map_map];exact hxc
    obtain ⟨p,hp,e⟩:=List.mem_map.mp this
    have lk:=xN (cn _) hp
    rw [e] at lk
    obtain ⟨o,f1,f2⟩:=X.cell x p.2 lk
    exact ⟨p.2,o,v,lk,f1,f2.trans (congrArg _ e1),e2⟩
   off:=fun a ha=>by
    rcases List.mem_cons.mp ha with e | e
    ·subst e;exact hL
    ·have:=hab a e
     refine ⟨?_,fun z=>?_⟩
     ·cases e':g.get? a with
      | none=>rfl
      | some o=>exact absurd (Heap.lt_size (m.keep _ _ e')) (Nat.lt_asymm this)
     ·obtain ⟨k,hk'⟩:=List.getElem?_of_mem z
      have hlt:k < mu.length:=by rw [← m.len];exact (List.getElem?_eq_some_iff.mp hk').1
      obtain ⟨o,e',_⟩:=m.at' k _ _ hk' (List.getElem?_eq_getElem hlt)
      exact absurd (Heap.lt_size e') (Nat.lt_asymm this)
   nd:=List.nodup_cons.mpr ⟨fun z=>absurd (hab _ z) (Nat.lt_irrefl _),by
    have ap:=X.apart
    show ((cellsFrom (s.heap.objs.size+1) scope.names []).map Prod.snd).Nodup
    exact List.pairwise_map.mpr ap⟩
   cells:=fun x c' e=>.inl (List.mem_map.mpr ⟨(x,c'),mem_of_lookup e,rfl⟩)
   inj:=fun x y c' e1 e2=>name_of_addr X.apart (mem_of_lookup e1) (mem_of_lookup e2)
   cc:=fun a ha=>by
    obtain ⟨p,hp,e⟩:=List.mem_map.mp ha
    obtain ⟨o,f1,f2⟩:=X.cell p.1 p.2 (xN (cn _) hp)
    exact ⟨o,_,e▸f1,f2⟩ }
 exact h s.heap.objs.size (A.deeper (envOfC qual scope s.heap.objs.size f cdv)) g as _ _ _ _ ⟨ro.hd,Nat.succ_le_succ ro.dp,Nat.add_le_add_right ro.un 3⟩ G r₀ fun fl g' as' h' tk' af σ' hg ha r' rf k=>by
  cases rf with
  | next=>exact q .none g' as' h' tk' .none σ'.mu hg ha r'.mu .none k
  | brk=>exact k.elim
  | cont=>exact k.elim
  | ret rv=>exact q _ g' as' h' tk' _ σ'.mu hg ha r'.mu rv k
theorem zJ{env:Env}{x:Str}{cc:Addr}(hk:env.scope.kind=.function)(hf:env.func≠none)(hl:env.kindOf x=some .cell)(hc:env.cells.lookup x=some cc):SvOK c env x:=fun A g as cs s σ v av Q E r rv q=>by
 rcases r.cells x cc hc with hm | ⟨z,_⟩
 ·obtain ⟨o,v0,e1,e2⟩:=r.cc _ hm
  exact wpAny_storeName_cell hk hl hc ⟨o,e1,e2⟩ fun h' hv hs=>q h' _ (r.setCell hl hc hm hv hs rv)
 ·exact absurd z hf
end
section
variable {c:Cx}{d u:Nat}{env:Env}{σ:St}{mu:List AO}{K:AV→List AO→Prop}{a b:Int}{x y:Str}
theorem wX(hb:0 < b)(hs:b < 1073741824)(h:K (.int (a / b)) mu):Op2OK c d u (binaryOp .FloorDiv) (.int a) (.int b) mu K:=xX (r:=a.fdiv b) (fun A s Q E t u' q=>PyProof.Rows.floordiv_int (by exact o47 hb) q (.inl (noPylong_small (by exact o48 hb hs)))) (by rw [Int.fdiv_eq_ediv_of_nonneg _ (by exact o49 hb)];exact h)
theorem vW(hb:0 < b)(h:K (.int (a%b)) mu):Op2OK c d u (binaryOp .Mod) (.int a) (.int b) mu K:=xX (r:=a.fmod b) (fun A s Q E t u' q=>PyProof.Rows.mod_int' (by exact o47 hb) q) (by rw [Int.fmod_eq_emod_of_nonneg _ (by exact o49 hb)];exact h)
theorem gT(hm:IntMulOk a b)(h:K (.int (a*b)) mu):Op2OK c d u (binaryOp .Mult) (.int a) (.int b) mu K:=xX (fun A s Q E t u' q=>PyProof.Rows.mul_int q hm) h
theorem pow_ii(h0:0≤b)(h1:b≤1000)(ha:a.natAbs < 2 ^ 64)(h:K (.int (a ^ b.toNat)) mu):Op2OK c d u (binaryOp .Pow) (.int a) (.int b) mu K:=xX (fun A s Q E t u' q=>PyProof.Rows.pow_int_small h0 (by exact o50 h1) ha q) h
noncomputable def AV.isNone:AV→Bool
 | .none=>true
 | _=>false
noncomputable def AV.sure:AV→Bool
 | .st _=>false
 | _=>true
theorem Rel.none_iff{g:Heap}{as:List Addr}{w:Value}{v:AV}(r:Rel g as w v)(hs:v.sure=true):(w==Value.none)=v.isNone:=by
 cases r <;> first | rfl | cases hs
theorem vP{v:AV}(hs:v.sure=true)(h:K (.bool v.isNone) mu):Op2OK c d u (compareOp .Is) v .none mu K:=fun A g as s Q E w1 w2 ro G m r1 r2 q=>by
 obtain ⟨_,rfl⟩:=r2.inv
 exact is_none_gen (by rw [r1.none_iff hs];exact q _ g as s.heap s.toks _ mu (StaysIn.refl' g) (List.prefix_refl _) m (.bool _) h)
theorem vT{v:AV}(hs:v.sure=true)(h:K (.bool (!v.isNone)) mu):Op2OK c d u (compareOp .IsNot) v .none mu K:=fun A g as s Q E w1 w2 ro G m r1 r2 q=>by
 obtain ⟨_,rfl⟩:=r2.inv
 exact isnot_none_gen (by rw [r1.none_iff hs];exact q _ g as s.heap s.toks _ mu (StaysIn.refl' g) (List.prefix_refl _) m (.bool _) h)
theorem is_bb{p q':Bool}(h:K (.bool (p==q')) mu):Op2OK c d u (compareOp .Is) (.bool p) (.bool q') mu K:=fun A g as s Q E w1 w2 ro G m r1 r2 q=>by
 obtain ⟨_,rfl⟩:=r1.inv;obtain ⟨_,rfl⟩:=r2.inv
 exact is_bool (q _ g as s.heap s.toks _ mu (StaysIn.refl' g) (List.prefix_refl _) m (.bool _) h)
theorem fA{X Y:String}(h:K (.bool (!(Value.type X==Value.type Y))) mu):Op2OK c d u (compareOp .IsNot) (.st (.type X)) (.st (.type Y)) mu K:=fun A g as s Q E w1 w2 ro G m r1 r2 q=>by
 obtain ⟨_,rfl⟩:=r1.inv;obtain ⟨_,rfl⟩:=r2.inv
 exact isnot_type (q _ g as s.heap s.toks _ mu (StaysIn.refl' g) (List.prefix_refl _) m (.bool _) h)
theorem gE{K:Bool→Prop}(hz:x.length≤100000)(h:K ((x.length:Int) != 0)):TrOK c d u (.str x) mu K:=fun A g as s Q E w ro G m r q=>by
 obtain ⟨_,rfl⟩:=r.inv;exact P.truthy_str (by exact o6 hz) (q _ _ h)
theorem ev_not{e:Expr}{pos:Pos}{K:AV→St→Prop}(h:EvOK c d u env e σ (fun a σ1=>TrOK c d u a σ1.mu (fun b=>K (.bool (!b)) σ1))):EvOK c d u env (.UnaryOp .Not e pos) σ K:=fun A g as cs s Q E ro G rr q =>
 wpAny_UnaryOp (h A g as cs s _ E ro G rr fun v1 g1 as1 h1 tk1 a σ1 hg1 ha1 r1 rv1 k1=>not_of (k1 A g1 as1 _ _ E v1 ro (G.keeps hg1) r1.mu rv1 fun b tk' kb=>q (.bool (!b)) g1 as1 h1 tk' _ σ1 hg1 ha1 r1 (.bool _) kb))
theorem ev_neg{e:Expr}{pos:Pos}{K:AV→St→Prop}(h:EvOK c d u env e σ (fun a σ1=>∃i,a=.int i∧K (.int (-i)) σ1)):EvOK c d u env (.UnaryOp .USub e pos) σ K:=fun A g as cs s Q E ro G rr q =>
 wpAny_UnaryOp (h A g as cs s _ E ro G rr fun v1 g1 as1 h1 tk1 a σ1 hg1 ha1 r1 rv1 k1=>by
  obtain ⟨i,rfl,k⟩:=k1
  obtain ⟨_,rfl⟩:=rv1.inv
  exact neg_int (q _ g1 as1 h1 _ _ σ1 hg1 ha1 r1 (.int _ _) k))
end
noncomputable def reCodeL:List Nat:=[14,17,4,1,1,21,9,0,604043296,1,0,0,0,0,0,8,4,0,13,14,21,9,0,604043296,1,0,0,0,0,0,8,4,0,1]
noncomputable def reCode:Array Nat:=reCodeL.toArray
noncomputable def inCharset(c:Nat):Bool:=decide (c < 256)&&([0,604043296,1,0,0,0,0,0].getD (c / 32) 0).testBit (c%32)
noncomputable def unsafeC(c:Nat):Bool:=!inCharset c&&!Sre.isWord c
theorem cs1(c:Nat):(decide (c < 256)&&(reCode.getD (6+(1+c / 32)) 0).testBit (c%32))=inCharset c:=by
 unfold inCharset
 by_cases h:c < 256
 ·have h8:c / 32 < 8:=by exact o52 h
  have:∀i:Fin 8,reCode.getD (6+(1+(i:Nat))) 0=[0,604043296,1,0,0,0,0,0].getD (i:Nat) 0:=by decide
  rw [this ⟨c / 32,h8⟩]
 ·simp [h]
theorem cs2(c:Nat):(decide (c < 256)&&(reCode.getD (21+(1+c / 32)) 0).testBit (c%32))=inCharset c:=by
 unfold inCharset
 by_cases h:c < 256
 ·have h8:c / 32 < 8:=by exact o52 h
  have:∀i:Fin 8,reCode.getD (21+(1+(i:Nat))) 0=[0,604043296,1,0,0,0,0,0].getD (i:Nat) 0:=by decide
  rw [this ⟨c / 32,h8⟩]
 ·simp [h]
theorem inSet1(c:Nat)(seen:Sre.Seen):∃seen',Sre.inSet reCode c reCode.size 5 true seen=.ok (unsafeC c,seen'):=by
 have e:Sre.inSet reCode c reCode.size 5 true seen=(if (decide (c < 256)&&(reCode.getD (6+(1+c / 32)) 0).testBit (c%32))=true then .ok (false,(seen.add 21).add 9) else (if Sre.isWord c=true then .ok (false,(((seen.add 21).add 9).add 8).add 59) else .ok (true,((((seen.add 21).add 9).add 8).add 59).add 0)):Except String (Bool×Sre.Seen)):=by
  have hs:reCode.size=34:=rfl
  rw [hs]
  rw [show Sre.inSet reCode c 34 5 true seen=Sre.inSet reCode c 33 6 false (seen.add 21) from rfl]
  rw [show Sre.inSet reCode c 33 6 false (seen.add 21)=(if (decide (c < 256)&&(reCode.getD (6+(1+c / 32)) 0).testBit (c%32))=true then .ok (false,(seen.add 21).add 9) else Sre.inSet reCode c 32 15 false ((seen.add 21).add 9)) from rfl]
  congr 1
  show (Sre.category 4 c >>= fun b=>if b=true then _ else Sre.inSet reCode c 31 17 false _)=_
  have hc:Sre.category 4 c=.ok (Sre.isWord c):=by
   unfold Sre.category
   show Except.map _ (.ok (Sre.isWord c))=_
   cases Sre.isWord c <;> rfl
  rw [hc]
  cases Sre.isWord c <;> rfl
 rw [e,cs1]
 unfold unsafeC
 cases inCharset c
 ·cases Sre.isWord c
  ·exact ⟨_,rfl⟩
  ·exact ⟨_,rfl⟩
 ·exact ⟨_,rfl⟩
theorem inSet2(c:Nat)(seen:Sre.Seen):∃seen',Sre.inSet reCode c reCode.size 20 true seen=.ok (unsafeC c,seen'):=by
 have e:Sre.inSet reCode c reCode.size 20 true seen=(if (decide (c < 256)&&(reCode.getD (21+(1+c / 32)) 0).testBit (c%32))=true then .ok (false,(seen.add 21).add 9) else (if Sre.isWord c=true then .ok (false,(((seen.add 21).add 9).add 8).add 59) else .ok (true,((((seen.add 21).add 9).add 8).add 59).add 0)):Except String (Bool×Sre.Seen)):=by
  have hs:reCode.size=34:=rfl
  rw [hs]
  rw [show Sre.inSet reCode c 34 20 true seen=Sre.inSet reCode c 33 21 false (seen.add 21) from rfl]
  rw [show Sre.inSet reCode c 33 21 false (seen.add 21)=(if (decide (c < 256)&&(reCode.getD (21+(1+c / 32)) 0).testBit (c%32))=true then .ok (false,(seen.add 21).add 9) else Sre.inSet reCode c 32 30 false ((seen.add 21).add 9)) from rfl]
  congr 1
  show (Sre.category 4 c >>= fun b=>if b=true then _ else Sre.inSet reCode c 31 32 false _)=_
  have hc:Sre.category 4 c=.ok (Sre.isWord c):=by
   unfold Sre.category
   show Except.map _ (.ok (Sre.isWord c))=_
   cases Sre.isWord c <;> rfl
  rw [hc]
  cases Sre.isWord c <;> rfl
 rw [e,cs2]
 unfold unsafeC
 cases inCharset c
 ·cases Sre.isWord c
  ·exact ⟨_,rfl⟩
  ·exact ⟨_,rfl⟩
 ·exact ⟨_,rfl⟩
theorem admitted_re(m:Sre.M)(hc:m.code=reCode):∀(fuel s:Nat) (seen:Sre.Seen),m.lim - s < fuel→∃seen',(∃k,s≤k∧k < m.lim∧unsafeC (m.text.getD k 0)=true∧m.admitted fuel s seen=.ok (some k,seen')) ∨
  ((∀k,s≤k→k < m.lim→unsafeC (m.text.getD k 0)=false)∧m.admitted fuel s seen=.ok (none,seen')):=by
 intro zz
 induction zz with
 | zero =>
  intro s seen h
  exact absurd h (Nat.not_lt_zero _)
 | succ fuel ih =>
  intro s seen h
  unfold Sre.M.admitted
  by_cases hl:s≥m.lim
  ·rw [if_pos hl]
   exact ⟨seen,.inr ⟨fun k h1 h2=>absurd (Nat.le_trans hl h1) (Nat.not_le.mpr h2),rfl⟩⟩
  ·rw [if_neg hl,hc]
   obtain ⟨seen1,e1⟩:=inSet1 (m.text.getD s 0) seen
   rw [e1]
   cases hu:unsafeC (m.text.getD s 0)
   ·dsimp only
    obtain ⟨seen',h'⟩:=ih (s+1) seen1 (by exact o53 h hl)
    refine ⟨seen',?_⟩
    rcases h' with ⟨k,h1,h2,h3,h4⟩ | ⟨h1,h2⟩
    ·exact .inl ⟨k,by exact o54 h1,h2,h3,h4⟩
    ·refine .inr ⟨fun k h3 h4=>?_,h2⟩
     by_cases hk:k=s
     ·rw [hk];exact hu
     ·exact h1 k (by exact o55 h3 hk) h4
   ·exact ⟨seen1,.inl ⟨s,Nat.le_refl _,by exact o56 hl,hu,rfl⟩⟩
namespace re_run
noncomputable def Cq(text:Array Nat):Prop:=∀(h0:0 < text.size),∃m',(Sre.forSearch reCode text 0 0 text.size false).runFor 4=m' ∧
  ((text.toList.any unsafeC=true∧m'.outcome=some .matched)∨(text.toList.any unsafeC=false∧m'.outcome=some .failed))
noncomputable def Dq(p:(Array Nat)):Prop:=Cq p
def tq:=@ep _ _ Dq
def text:=tq
theorem T0:Cq text:=by
 intro h0
 refine ⟨_,rfl,?_⟩
 have e0:Sre.forSearch reCode text 0 0 text.size false=(if (decide (0 > text.size) || decide (text.size - 0 < 1))=true then _ else Sre.M.attemptFrom { code:=reCode,text:=text,lim:=text.size,start:=0,pc:=18,pos:=0,handed:=0,marks:=Array.replicate (2*0) none,mustAdvance:=false,seen:=({}:Sre.Seen).add 14,lastStart:=text.size } 0 true):=rfl
 rw [e0,if_neg (by rw [Bool.or_eq_true,decide_eq_true_eq,decide_eq_true_eq];exact o57 h0)]
 generalize hM:({ code:=reCode,text:=text,lim:=text.size,start:=0,pc:=18,pos:=0,handed:=0,marks:=Array.replicate (2*0) none,mustAdvance:=false,seen:=({}:Sre.Seen).add 14,lastStart:=text.size }:Sre.M)=M
 have hcode:M.code=reCode:=by rw [← hM]
 have htext:M.text=text:=by rw [← hM]
 have hlim:M.lim=text.size:=by rw [← hM]
 have hany:∀b,(∃k,k < text.size∧unsafeC (text.getD k 0)=true)∨(∀k,k < text.size→unsafeC (text.getD k 0)=false)→text.toList.any unsafeC=b→((∃k,k < text.size∧unsafeC (text.getD k 0)=true)↔b=true):=by
  intro b _ hb
  subst hb
  rw [List.any_eq_true]
  constructor
  ·rintro ⟨k,hk,hu⟩
   refine ⟨text[k],by simp,?_⟩
   rw [← hu];simp [Array.getD,hk]
  ·rintro ⟨x,hx,hu⟩
   obtain ⟨k,hk,rfl⟩:=Array.mem_iff_getElem.mp (Array.mem_toList_iff.mp hx)
   exact ⟨k,hk,by rw [← hu];simp [Array.getD,hk]⟩
 have hfs:M.hasFirstSet=true:=by rw [← hM];rfl
 unfold Sre.M.attemptFrom
 rw [hfs]
 simp only [Bool.not_true,Bool.false_eq_true,if_false]
 obtain ⟨seen',h'⟩:=admitted_re M hcode (M.lim+1 - 0) 0 M.seen (by exact o58)
 rcases h' with ⟨k,h1,h2,h3,h4⟩ | ⟨h1,h2⟩
 ·left
  rw [htext] at h3
  rw [hlim] at h2
  refine ⟨(hany _ (.inl ⟨k,h2,h3⟩) rfl).mp ⟨k,h2,h3⟩,?_⟩
  rw [h4]
  dsimp only
  rw [← hM]
  obtain ⟨seen2,e2⟩:=inSet2 (text.getD k 0) (seen'.add 13)
  rw [h3] at e2
  generalize hM1:Sre.M.attemptAt _ k true=M1
  have s1:M1.step={ M1 with seen:=seen2,pc:=33,pos:=k+1 }:=by
   rw [← hM1]
   show (if k≥text.size then _ else match Sre.inSet reCode (text.getD k 0) reCode.size 20 true (seen'.add 13) with
    | .error why=>_
    | .ok (false,seen)=>_
    | .ok (true,seen)=>_:Sre.M)=_
   rw [if_neg (by exact o59 h2),e2]
   rfl
  have ho:M1.outcome=none:=by rw [← hM1];rfl
  have e4:Sre.M.runFor 4 M1=if M1.outcome.isSome=true then M1 else Sre.M.runFor 3 M1.step:=rfl
  rw [e4,ho,s1,← hM1]
  rfl
 ·right
  rw [htext,hlim] at h1
  refine ⟨?_,?_⟩
  ·cases ha:text.toList.any unsafeC with
   | false=>rfl
   | true =>
    obtain ⟨k,hk,hu⟩:=(hany _ (.inr fun k hk=>h1 k (Nat.zero_le _) hk) rfl).mpr ha
    rw [h1 k (Nat.zero_le _) hk] at hu;cases hu
  ·rw [h2]
   rw [← hM]
   rfl
end re_run
theorem re_run(text:Array Nat)(h0:0 < text.size):∃m',(Sre.forSearch reCode text 0 0 text.size false).runFor 4=m' ∧
  ((text.toList.any unsafeC=true∧m'.outcome=some .matched)∨(text.toList.any unsafeC=false∧m'.outcome=some .failed)):=(@eps _ _ re_run.Dq re_run.tq rfl @re_run.T0 (text)) h0
section
variable {prog:Program}{w:World}{A:Around}{E:Value→Shared→Prop}{s:Shared}
noncomputable def sigS:Manifest.Signature:=⟨.keywords,"Pattern.search","search",.self,[⟨"string",.posOrKw,true⟩,⟨"pos",.posOrKw,false⟩,⟨"endpos",.posOrKw,false⟩]⟩
theorem sig_search:Manifest.signature? "re.Pattern.search"=some sigS:=by kernel_rfl
theorem kind_search:builtinKind "re.Pattern.search"=some .method:=by kernel_rfl
theorem sub_pat_mod:isSubtype (.type "re.Pattern") (.type "module")=pure false:=by rw [isSubtype_type];kernel_rfl
theorem va_search:Manifest.varargsMethods.contains "re.Pattern.search"=false:=by kernel_rfl
theorem args_search (a v:Value):Bind.checkArgs "re.Pattern.search" { sigS with full:=s!"{Bind.lastOf "re.Pattern"}.{Bind.lastOf "re.Pattern.search"}" } ⟨[a,v],[]⟩=pure ():=by kernel_rfl
theorem check_search {a:Addr} {o:Obj} {v:Value} {Q:Unit→Shared→Prop} (ho:s.heap.get? a=some o) (hc:o.cls=.type "re.Pattern") (hd:∃vs,o.data=.fields vs) (h:Q () s):wpAny (model prog w) A (checkBoundCall "re.Pattern.search" ⟨[.ref a,v],[]⟩) Q E s:=by
 unfold checkBoundCall
 rw [sig_search,kind_search]
 dsimp only
 have hT:s.TypeIs (.ref a) "re.Pattern":=⟨o,ho,hc⟩
 rw [if_neg (by decide)]
 refine wpAny_bind (wpAny_isInstance hT sub_pat_mod ?_)
 rw [va_search]
 rw [if_neg (by decide)]
 refine wpAny_bind (wpAny_bind ?_)
 refine wpAny_loadPart ho (wpAny_pure ?_)
 obtain ⟨vs,hd⟩:=hd
 rw [hd]
 dsimp only
 rw [if_neg (by decide)]
 refine wpAny_bind (wpAny_typeOf hT ?_)
 dsimp only
 exact wpAny_of_eq (args_search _ _) h
theorem named_search (v:Value):Builtin.Re.reNamed "re.Pattern.search" "search" ["string","pos","endpos"] 1 [v] []=pure [some v,none,none]:=by first | kernel_rfl | rfl
theorem entry_search:entryFor table "re.Pattern.search"=some Builtin.«re.Pattern.search»:=entryFor_of_tree (by kernel_rfl)
theorem zR:plainId "re.Pattern.search"=true:=by decide +kernel
theorem drive_succ (n:Nat) (m:Sre.M):Builtin.Re.reDrive (n+1) m=(if (m.runFor 4).outcome.isSome=true then pure (m.runFor 4) else (do rule "sre.turn";Builtin.Re.reDrive n (m.runFor 4))):=by
 rw [Builtin.Re.reDrive];rfl
end
namespace call_search
noncomputable def Cq (prog:Program) (w:World) (A:Around) (E:Value→Shared→Prop) (s:Shared) (f p cd:Addr) (x:Str) (t t1 t2:Tok) (ps:Str) (fl:Int) (of op oc:Obj) (Q:Value→Shared→Prop):Prop:=∀(hf:s.heap.get? f=some of) (hfc:of.cls=.type "builtin_function_or_method") (hfd:of.data=.fields #[.builtin "re.Pattern.search",.ref p]) (hp:s.heap.get? p=some op) (hpc:op.cls=.type "re.Pattern") (hpd:op.data=.fields #[.str ps t1,.int fl t2,.int 0 0,.none,.none,.ref cd,.int 0 0]) (hc:s.heap.get? cd=some oc) (hcd:∃n,oc.data=.seq (reCode.map fun (i:Nat)=>rawInt (i:Int)) n) (h0:0 < x.cps.size) (hz:x.cps.size < 2 ^ 60) (hno:x.cps.toList.any unsafeC=false→Q .none s) (hyes:x.cps.toList.any unsafeC=true→∀h' a,(∀b o,s.heap.get? b=some o→h'.get? b=some o)→Q (.ref a) { s with heap:=h' }),wpAny (model prog w) A (call (.ref f) [.str x t]) Q E s
noncomputable def Dq(p:Program×World×Around×(Value→Shared→Prop)×Shared×Addr×Addr×Addr×Str×Tok×Tok×Tok×Str×Int×Obj×Obj×Obj×(Value→Shared→Prop)):Prop:=Cq p.1 p.2.1 p.2.2.1 p.2.2.2.1 p.2.2.2.2.1 p.2.2.2.2.2.1 p.2.2.2.2.2.2.1 p.2.2.2.2.2.2.2.1 p.2.2.2.2.2.2.2.2.1 p.2.2.2.2.2.2.2.2.2.1 p.2.2.2.2.2.2.2.2.2.2.1 p.2.2.2.2.2.2.2.2.2.2.2.1 p.2.2.2.2.2.2.2.2.2.2.2.2.1 p.2.2.2.2.2.2.2.2.2.2.2.2.2.1 p.2.2.2.2.2.2.2.2.2.2.2.2.2.2.1 p.2.2.2.2.2.2.2.2.2.2.2.2.2.2.2.1 p.2.2.2.2.2.2.2.2.2.2.2.2.2.2.2.2.1 p.2.2.2.2.2.2.2.2.2.2.2.2.2.2.2.2.2
def tq:=@ep _ (by have:=neAround;have:=neObj;have:=neProgram;have:=neShared;have:=neWorld;infer_instance) Dq
def prog:=tq.1
def w:=tq.2.1
def A:=tq.2.2.1
def E:=tq.2.2.2.1
def s:=tq.2.2.2.2.1
def f:=tq.2.2.2.2.2.1
def p:=tq.2.2.2.2.2.2.1
def cd:=tq.2.2.2.2.2.2.2.1
def x:=tq.2.2.2.2.2.2.2.2.1
def t:=tq.2.2.2.2.2.2.2.2.2.1
def t1:=tq.2.2.2.2.2.2.2.2.2.2.1
def t2:=tq.2.2.2.2.2.2.2.2.2.2.2.1
def ps:=tq.2.2.2.2.2.2.2.2.2.2.2.2.1
def fl:=tq.2.2.2.2.2.2.2.2.2.2.2.2.2.1
def of:=tq.2.2.2.2.2.2.2.2.2.2.2.2.2.2.1
def op:=tq.2.2.2.2.2.2.2.2.2.2.2.2.2.2.2.1
def oc:=tq.2.2.2.2.2.2.2.2.2.2.2.2.2.2.2.2.1
def Q:=tq.2.2.2.2.2.2.2.2.2.2.2.2.2.2.2.2.2
theorem T0:Cq prog w A E s f p cd x t t1 t2 ps fl of op oc Q:=by
 intro hf hfc hfd hp hpc hpd hc hcd h0 hz hno hyes
 refine wpAny_call (codeAny_of_tree ?_)
 show wpAny _ A.in1 (callAny (.ref f) ⟨[.str x t],[]⟩) _ _ s
 unfold callAny
 refine wpAny_bind (wpAny_load hf ?_)
 rw [hfd]
 dsimp only
 rw [hfc]
 rw [if_pos (by decide)]
 show wpAny _ A.in1 (checkBoundCall "re.Pattern.search" ⟨[.ref p,.str x t],[]⟩ >>= fun Z=>again (.builtin "re.Pattern.search" ⟨[.ref p,.str x t],[]⟩)) _ _ s
 refine wpAny_bind (check_search hp hpc ⟨_,hpd⟩ (wpAny_pure (And.intro (plainId_quiet zR _) (codeAny_builtin entry_search ?_))))
 rw [Around.under_plainId zR]
 show wpAny _ A.in1 (Builtin.Re.reTarget "re.Pattern.search" "search" ⟨[.ref p,.str x t],[]⟩ >>= fun t=>Builtin.Re.reAnswer t (Sre.forSearch t.code t.text t.groups t.pos t.lim false)) _ _ s
 refine wpAny_bind ?_
 unfold Builtin.Re.reTarget
 dsimp only
 refine wpAny_bind (wpAny_of_eq (named_search _) ?_)
 dsimp only
 refine wpAny_bind (wpAny_pure (wpAny_bind (wpAny_pure (wpAny_bind (wpAny_fieldsOf hp hpd ?_)))))
 refine wpAny_bind (m:=Builtin.Re.reTextOf (.str x t)) ?_
 refine wpAny_of_eq (a:=(x.cps,0)) (by first | rfl | kernel_rfl) ?_
 dsimp only
 show wpAny _ A.in1 (Builtin.Re.reRawItems (.ref cd) >>= fun l=>pure (Builtin.Re.ReTarget.mk (.ref p) (.str x t) (l.map fun i=>i.toNat) x.cps 0 0 (min (Int.toNat 0) x.cps.size) (min ((2:Int) ^ 63 - 1).toNat x.cps.size))) _ _ s
 obtain ⟨n,hcd⟩:=hcd
 refine wpAny_bind ?_
 unfold Builtin.Re.reRawItems
 refine wpAny_bind (wpAny_seqItems hc hcd (wpAny_pure (wpAny_pure ?_)))
 dsimp only
 have ecode:((Option.getD (some (Array.map (fun (i:Nat)=>rawInt (i:Int)) reCode)) #[]).map Builtin.Re.reRawOf).map (fun i=>i.toNat)=reCode:=by
  rw [Option.getD_some,Array.map_map,Array.map_map]
  exact Array.map_id'' (fun i=>rfl) reCode
 have epos:min (Int.toNat 0) x.cps.size=0:=by simp
 have elim:min ((2:Int) ^ 63 - 1).toNat x.cps.size=x.cps.size:=by
  have e63:((2:Int) ^ 63 - 1).toNat=9223372036854775807:=by decide
  rw [e63];exact o60 hz
 rw [ecode,epos,elim]
 obtain ⟨m',em,hm⟩:=re_run x.cps h0
 unfold Builtin.Re.reAnswer
 dsimp only
 refine wpAny_bind ?_
 unfold Builtin.Re.reRunToEnd
 refine wpAny_bind (m:=Builtin.Re.reDrive (2 ^ 64) _) ?_
 have ed:Builtin.Re.reDrive (2 ^ 64) (Sre.forSearch reCode x.cps 0 0 x.cps.size false)=pure m':=by
  have e1:Builtin.Re.reDrive (2 ^ 64) (Sre.forSearch reCode x.cps 0 0 x.cps.size false)=(if ((Sre.forSearch reCode x.cps 0 0 x.cps.size false).runFor 4).outcome.isSome=true then pure ((Sre.forSearch reCode x.cps 0 0 x.cps.size false).runFor 4) else (do rule "sre.turn";Builtin.Re.reDrive (2 ^ 64 - 1) ((Sre.forSearch reCode x.cps 0 0 x.cps.size false).runFor 4))):=by
   exact drive_succ (2 ^ 64 - 1) _
  rw [e1,em,if_pos (by rcases hm with ⟨_,h⟩ | ⟨_,h⟩ <;> rw [h] <;> rfl)]
 refine wpAny_of_eq ed ?_
 have rules:∀(l:List Nat) (Q':PUnit→Shared→Prop),Q' ⟨⟩ s→wpAny (model prog w) A.in1 (forIn l PUnit.unit fun i Z=>if m'.seen.has i=true then (do rule (Sre.names.getD i "");pure (ForInStep.yield PUnit.unit)) else pure (ForInStep.yield PUnit.unit)) Q' (fun e s'=>E e s') s:=by
  intro l
  induction l with
  | nil=>intro Q' h;exact wpAny_pure h
  | cons i l ih =>
   intro Q' h
   rw [List.forIn_cons]
   refine wpAny_bind ?_
   split
   ·exact wpAny_bind (wpAny_rule (wpAny_pure (ih Q' h)))
   ·exact wpAny_pure (ih Q' h)
 refine wpAny_bind (rules _ _ ?_)
 rcases hm with ⟨ha,ho⟩ | ⟨ha,ho⟩
 ·rw [ho]
  refine wpAny_pure ?_
  dsimp only
  refine wpAny_bind ?_
  unfold Builtin.Re.reNewMatch
  dsimp only
  show wpAny _ A.in1 (newTuple [rawInt (m'.start:Int),rawInt (m'.handed:Int)] >>= fun tt=>newFields "re.Match" [.str x t,.ref p,rawInt ((0:Nat):Int),rawInt (x.cps.size:Int),rawInt m'.lastindex,tt]) _ _ s
  refine wpAny_bind (wpAny_newTuple ?_)
  refine wpAny_newObj_type ?_ (by size_fits)
  refine wpAny_pure ?_
  exact hyes ha _ _ fun b o e=>Heap.get?_push_of_some _ (Heap.get?_push_of_some _ e)
 ·rw [ho]
  exact wpAny_pure (wpAny_pure (hno ha))
end call_search
section
variable {prog:Program}{w:World}{A:Around}{E:Value→Shared→Prop}{s:Shared}
theorem call_search{f p cd:Addr}{x:Str}{t t1 t2:Tok}{ps:Str}{fl:Int}{of op oc:Obj}{Q:Value→Shared→Prop}
  (hf:s.heap.get? f=some of) (hfc:of.cls=.type "builtin_function_or_method") (hfd:of.data=.fields #[.builtin "re.Pattern.search",.ref p])
  (hp:s.heap.get? p=some op) (hpc:op.cls=.type "re.Pattern") (hpd:op.data=.fields #[.str ps t1,.int fl t2,.int 0 0,.none,.none,.ref cd,.int 0 0])
  (hc:s.heap.get? cd=some oc) (hcd:∃n,oc.data=.seq (reCode.map fun (i:Nat)=>rawInt (i:Int)) n) (h0:0 < x.cps.size) (hz:x.cps.size < 2 ^ 60)
  (hno:x.cps.toList.any unsafeC=false→Q .none s)
  (hyes:x.cps.toList.any unsafeC=true→∀h' a,(∀b o,s.heap.get? b=some o→h'.get? b=some o)→Q (.ref a) { s with heap:=h' }) :
  wpAny (model prog w) A (call (.ref f) [.str x t]) Q E s:=(@eps _ _ call_search.Dq call_search.tq rfl @call_search.T0 (prog,w,A,E,s,f,p,cd,x,t,t1,t2,ps,fl,of,op,oc,Q)) hf hfc hfd hp hpc hpd hc hcd h0 hz hno hyes
end
section
variable {c:Cx}{d u:Nat}{mu:List AO}{K:AV→List AO→Prop}
noncomputable def AV.noneB:AV→Bool
 | .none=>true
 | .st v=>v==.none
 | _=>false
theorem Rel.noneB{g:Heap}{as:List Addr}{w:Value}{v:AV}(r:Rel g as w v):(w==Value.none)=v.noneB:=by
 cases r <;> rfl
theorem is_noneB{v:AV}(h:K (.bool v.noneB) mu):Op2OK c d u (compareOp .Is) v .none mu K:=fun A g as s Q E w1 w2 ro G m r1 r2 q=>by
 obtain ⟨_,rfl⟩:=r2.inv
 exact is_none_gen (by rw [r1.noneB];exact q _ g as s.heap s.toks _ mu (StaysIn.refl' g) (List.prefix_refl _) m (.bool _) h)
structure ReAt(K:Frag)(f p cd:Addr):Prop where
 f:∃o,K.lookup f=some o∧o.cls=.type "builtin_function_or_method"∧o.data=.fields #[.builtin "re.Pattern.search",.ref p]
 p:∃o ps t1 fl t2,K.lookup p=some o∧o.cls=.type "re.Pattern"∧o.data=.fields #[.str ps t1,.int fl t2,.int 0 0,.none,.none,.ref cd,.int 0 0]
 c:∃o n,K.lookup cd=some o∧o.data=.seq (reCodeL.map fun (i:Nat)=>rawInt (i:Int)).toArray n
theorem c_search{f p cd:Addr}(hR:ReAt c.K f p cd){x:Str}(h0:0 < x.cps.size)(hz:x.cps.size < 2 ^ 60)(hno:x.cps.toList.any unsafeC=false→K .none mu)(hyes:x.cps.toList.any unsafeC=true→∀a,K (.st (.ref a)) mu):CallOK c d u (.ref f) [.str x] [] mu K:=fun A g as s Q E ws kws ro G m rs rk q=>by
 obtain rfl:=rk.inv
 obtain ⟨_,_,rfl,r1,rs⟩:=rs.inv
 obtain rfl:=rs.inv
 obtain ⟨_,rfl⟩:=r1.inv
 obtain ⟨of,e1,e2,e3⟩:=hR.f
 obtain ⟨op,ps,t1,fl,t2,f1,f2,f3⟩:=hR.p
 obtain ⟨oc,n,g1,g2⟩:=hR.c
 have X:=G.X.keeps m.keep
 refine call_search (X _ _ e1) e2 e3 (X _ _ f1) f2 f3 (X _ _ g1) ⟨n,by rw [g2];unfold reCode;rw [List.map_toArray]⟩ h0 hz (fun ha=>q .none g as s.heap s.toks .none mu (StaysIn.refl' g) (List.prefix_refl _) m .none (hno ha)) fun ha h' a kp=>?_
 exact q (.ref a) g as h' s.toks (.st (.ref a)) mu (StaysIn.refl' g) (List.prefix_refl _) ⟨fun b o e=>kp _ _ (m.keep b o e),m.len,m.nd,fun k a ao e1 e2=>by
  obtain ⟨o,f1,f2⟩:=m.at' k a ao e1 e2
  exact ⟨o,kp _ _ f1,f2⟩,m.out⟩ (.st _) (hyes ha a)
end
noncomputable def modeTab:List (List (Int×Nat)):=[[(40960,108),(49152,115),(32768,45),(24576,98),(16384,100),(8192,99),(4096,112)],[(256,114)],[(128,119)],[(2112,115),(2048,83),(64,120)],[(32,114)],[(16,119)],[(1032,115),(1024,83),(8,120)],[(4,114)],[(2,119)],[(513,116),(512,84),(1,120)]]
noncomputable abbrev cellAV(p:Int×Nat):AV:=.tup [.int p.1,.str ⟨#[p.2]⟩]
noncomputable abbrev rowAV(r:List (Int×Nat)):AV:=.tup (r.map cellAV)
noncomputable abbrev tabAV:AV:=.tup (modeTab.map rowAV)
noncomputable def TabAt(K:Frag)(a:Addr):Prop:=∀g as,K.In g→Rel g as (.ref a) tabAV
theorem ev_globX {c:Cx} {d u:Nat} {env:Env} {σ:St} {x:Str} {pos:Pos} {v:Value} {av:AV} {K:AV→St→Prop} (hk:env.scope.kind=.function) (hl:env.kindOf x=some .globalImplicit) (hg:env.globals=mainGlobals) (hd:(x==("__debug__":Str))=false)
  (e:nsIn c.K mainGlobals x=some (some v)) (rv:∀g as,c.K.In g→Rel g as v av) (h:K av σ):EvOK c d u env (.Name x pos) σ K:=fun A g as cs s Q E Z G r q =>
 Name_function_global hk hl (loadGlobal_global (hg▸G.G.keeps r.mu.keep) (mg_of G.X G.G e) (q v g as s.heap s.toks av σ (StaysIn.refl' g) (List.prefix_refl _) r (rv g as G.X) h)) hd
structure FnRec where
 name:Str
 qual:Str
 params:Arguments
 body:List Stmt
 scope:Scope
def fnRec:Stmt→Str→FnRec
 | .FunctionDef name args body _ _ _ scope _ _ _,q=>⟨name,q,args,body,scope⟩
 | _,q=>⟨q,q,⟨[],[],none,[],[],none,[]⟩,[],⟨.function,[],false,false,[]⟩⟩
def topSt(i:Nat):Stmt:=(PySem.Challenge.pw_mr0368_01.main.body[i]?).getD (.Pass ⟨0,0,0,0⟩)
def memSt(i j:Nat):Stmt:=match topSt i with
 | .ClassDef _ _ _ b _ _ _ _ _ _ _=>(b[j]?).getD (.Pass ⟨0,0,0,0⟩)
 | _=>.Pass ⟨0,0,0,0⟩
inductive FnAt(K:Frag)(a:Addr)(r:FnRec)(dV kV:Value):Prop
 | mk (oc:Value) (od:Option Addr) (osl:Array (Option Value)) (doc pm:Value) (an:Option Addr) (cdv ct:Value) (ho:K.lookup a=some ⟨oc,od,.func (fnOf r.name r.qual r.params r.body r.scope dV kV doc pm an cdv ct),osl⟩) (hcd:codeIn K cdv r.qual=true):FnAt K a r dV kV
def FnAtD(K:Frag)(a:Addr)(r:FnRec)(P:Array Value→Prop):Prop:=∃T oT its n,K.lookup T=some oT∧oT.data=.seq its n∧P its∧FnAt K a r (.ref T) .none
structure ClsKit(K:Frag)(C:Addr):Prop where
 hg:plainGet K C "x"=true
 hh:hasDictIn K C=true
 hp:plainOver K C=true
 hs:findIn K (.ref C) "__setattr__"=some (some (.builtin "object.__setattr__"))
def lexAttrs:List String:=["instream","infile","posix","eof","commenters","wordchars","whitespace","whitespace_split","quotes","escape","escapedquotes","state","pushback","lineno","debug","token","filestack","source","_punctuation_chars","_pushback_chars"]
def sioAttrs:List String:=["_StringIO__newline","_StringIO__buf","_StringIO__pos"]
def lexMeths:List (Addr×String×Addr):=[(856,"get_token",817),(856,"read_token",824),(721,"read",667),(721,"readline",675),(721,"_StringIO__check",505),(721,"_StringIO__line",519),(721,"_StringIO__translated",498)]
def f_S_IMODE:FnRec:=fnRec (topSt 4) (Str.ofString "S_IMODE")
def f_S_IFMT:FnRec:=fnRec (topSt 5) (Str.ofString "S_IFMT")
def f_S_ISDIR:FnRec:=fnRec (topSt 13) (Str.ofString "S_ISDIR")
def f_S_ISCHR:FnRec:=fnRec (topSt 14) (Str.ofString "S_ISCHR")
def f_S_ISBLK:FnRec:=fnRec (topSt 15) (Str.ofString "S_ISBLK")
def f_S_ISREG:FnRec:=fnRec (topSt 16) (Str.ofString "S_ISREG")
def f_S_ISFIFO:FnRec:=fnRec (topSt 17) (Str.ofString "S_ISFIFO")
def f_S_ISLNK:FnRec:=fnRec (topSt 18) (Str.ofString "S_ISLNK")
def f_S_ISSOCK:FnRec:=fnRec (topSt 19) (Str.ofString "S_ISSOCK")
def f_S_ISDOOR:FnRec:=fnRec (topSt 20) (Str.ofString "S_ISDOOR")
def f_S_ISPORT:FnRec:=fnRec (topSt 21) (Str.ofString "S_ISPORT")
def f_S_ISWHT:FnRec:=fnRec (topSt 22) (Str.ofString "S_ISWHT")
def f_filemode:FnRec:=fnRec (topSt 36) (Str.ofString "filemode")
def f_index:FnRec:=fnRec (topSt 40) (Str.ofString "_index")
def f_IOBase_new:FnRec:=fnRec (memSt 42 1) (Str.ofString "IOBase.__new__")
def kT:FnRec:=fnRec (memSt 46 1) (Str.ofString "StringIO.__init__")
def yI:FnRec:=fnRec (memSt 46 2) (Str.ofString "StringIO.__translated")
def jR:FnRec:=fnRec (memSt 46 3) (Str.ofString "StringIO.__check")
def kS:FnRec:=fnRec (memSt 46 5) (Str.ofString "StringIO.__line")
def kR:FnRec:=fnRec (memSt 46 25) (Str.ofString "StringIO.read")
def zB:FnRec:=fnRec (memSt 46 26) (Str.ofString "StringIO.readline")
def f_shlex_init:FnRec:=fnRec (memSt 56 0) (Str.ofString "shlex.__init__")
def f_shlex_punctuation_chars:FnRec:=fnRec (memSt 56 1) (Str.ofString "shlex.punctuation_chars")
def jA:FnRec:=fnRec (memSt 56 5) (Str.ofString "shlex.get_token")
def f_shlex_read_token:FnRec:=fnRec (memSt 56 6) (Str.ofString "shlex.read_token")
def f_join:FnRec:=fnRec (topSt 57) (Str.ofString "join")
def f_quote:FnRec:=fnRec (topSt 60) (Str.ofString "quote")
def f_law_signs:FnRec:=fnRec (topSt 62) (Str.ofString "_law_signs")
def f_law_figures:FnRec:=fnRec (topSt 63) (Str.ofString "_law_figures")
def f_law_files:FnRec:=fnRec (topSt 64) (Str.ofString "_law_files")
def f_law_shown:FnRec:=fnRec (topSt 65) (Str.ofString "_law_shown")
def f_law_within:FnRec:=fnRec (topSt 66) (Str.ofString "_law_within")
def f_law_pair:FnRec:=fnRec (topSt 67) (Str.ofString "_law_pair")
def f_law_drawn:FnRec:=fnRec (topSt 68) (Str.ofString "_law_drawn")
def f_law_tokens:FnRec:=fnRec (topSt 69) (Str.ofString "_law_tokens")
def f_law_kind:FnRec:=fnRec (topSt 70) (Str.ofString "_law_kind")
def f_law_holds:FnRec:=fnRec (topSt 71) (Str.ofString "_law_holds")
def f_law_read:FnRec:=fnRec (topSt 72) (Str.ofString "_law_read")
def f_law:FnRec:=fnRec (topSt 73) (Str.ofString "law")
structure Keys(K:Frag):Prop where
 k_S_IMODE:FnAt K 51 f_S_IMODE .none .none
 k_S_IFMT:FnAt K 58 f_S_IFMT .none .none
 k_S_ISDIR:FnAt K 65 f_S_ISDIR .none .none
 k_S_ISCHR:FnAt K 72 f_S_ISCHR .none .none
 k_S_ISBLK:FnAt K 79 f_S_ISBLK .none .none
 k_S_ISREG:FnAt K 86 f_S_ISREG .none .none
 k_S_ISFIFO:FnAt K 93 f_S_ISFIFO .none .none
 k_S_ISLNK:FnAt K 100 f_S_ISLNK .none .none
 k_S_ISSOCK:FnAt K 107 f_S_ISSOCK .none .none
 k_S_ISDOOR:FnAt K 114 f_S_ISDOOR .none .none
 k_S_ISPORT:FnAt K 121 f_S_ISPORT .none .none
 k_S_ISWHT:FnAt K 128 f_S_ISWHT .none .none
 k_filemode:FnAt K 168 f_filemode .none .none
 k_index:FnAt K 187 f_index .none .none
 k_IOBase_new:FnAt K 214 f_IOBase_new .none .none
 k_StringIO_translated:FnAt K 498 yI .none .none
 k_StringIO_check:FnAt K 505 jR .none .none
 k_StringIO_line:FnAt K 519 kS .none .none
 k_shlex_punctuation_chars:FnAt K 787 f_shlex_punctuation_chars .none .none
 k_shlex_get_token:FnAt K 817 jA .none .none
 k_shlex_read_token:FnAt K 824 f_shlex_read_token .none .none
 k_quote:FnAt K 875 f_quote .none .none
 k_law_signs:FnAt K 882 f_law_signs .none .none
 k_law_figures:FnAt K 889 f_law_figures .none .none
 k_law_files:FnAt K 894 f_law_files .none .none
 k_law_shown:FnAt K 901 f_law_shown .none .none
 k_law_within:FnAt K 908 f_law_within .none .none
 k_law_pair:FnAt K 913 f_law_pair .none .none
 k_law_drawn:FnAt K 918 f_law_drawn .none .none
 k_law_tokens:FnAt K 923 f_law_tokens .none .none
 k_law_kind:FnAt K 928 f_law_kind .none .none
 k_law_holds:FnAt K 935 f_law_holds .none .none
 k_law_read:FnAt K 940 f_law_read .none .none
 k_law:FnAt K 945 f_law .none .none
 g_S_IMODE:nsIn K mainGlobals (Str.ofString "S_IMODE")=some (some (.ref 51))
 g_S_IFMT:nsIn K mainGlobals (Str.ofString "S_IFMT")=some (some (.ref 58))
 g_S_ISDIR:nsIn K mainGlobals (Str.ofString "S_ISDIR")=some (some (.ref 65))
 g_S_ISCHR:nsIn K mainGlobals (Str.ofString "S_ISCHR")=some (some (.ref 72))
 g_S_ISBLK:nsIn K mainGlobals (Str.ofString "S_ISBLK")=some (some (.ref 79))
 g_S_ISREG:nsIn K mainGlobals (Str.ofString "S_ISREG")=some (some (.ref 86))
 g_S_ISFIFO:nsIn K mainGlobals (Str.ofString "S_ISFIFO")=some (some (.ref 93))
 g_S_ISLNK:nsIn K mainGlobals (Str.ofString "S_ISLNK")=some (some (.ref 100))
 g_S_ISSOCK:nsIn K mainGlobals (Str.ofString "S_ISSOCK")=some (some (.ref 107))
 g_S_ISDOOR:nsIn K mainGlobals (Str.ofString "S_ISDOOR")=some (some (.ref 114))
 g_S_ISPORT:nsIn K mainGlobals (Str.ofString "S_ISPORT")=some (some (.ref 121))
 g_S_ISWHT:nsIn K mainGlobals (Str.ofString "S_ISWHT")=some (some (.ref 128))
 g_filemode:nsIn K mainGlobals (Str.ofString "filemode")=some (some (.ref 168))
 g_index:nsIn K mainGlobals (Str.ofString "_index")=some (some (.ref 187))
 g_quote:nsIn K mainGlobals (Str.ofString "quote")=some (some (.ref 875))
 g_law_signs:nsIn K mainGlobals (Str.ofString "_law_signs")=some (some (.ref 882))
 g_law_figures:nsIn K mainGlobals (Str.ofString "_law_figures")=some (some (.ref 889))
 g_law_files:nsIn K mainGlobals (Str.ofString "_law_files")=some (some (.ref 894))
 g_law_shown:nsIn K mainGlobals (Str.ofString "_law_shown")=some (some (.ref 901))
 g_law_within:nsIn K mainGlobals (Str.ofString "_law_within")=some (some (.ref 908))
 g_law_pair:nsIn K mainGlobals (Str.ofString "_law_pair")=some (some (.ref 913))
 g_law_drawn:nsIn K mainGlobals (Str.ofString "_law_drawn")=some (some (.ref 918))
 g_law_tokens:nsIn K mainGlobals (Str.ofString "_law_tokens")=some (some (.ref 923))
 g_law_kind:nsIn K mainGlobals (Str.ofString "_law_kind")=some (some (.ref 928))
 g_law_holds:nsIn K mainGlobals (Str.ofString "_law_holds")=some (some (.ref 935))
 g_law_read:nsIn K mainGlobals (Str.ofString "_law_read")=some (some (.ref 940))
 g_join_shlex:nsIn K mainGlobals (Str.ofString "join_shlex")=some (some (.ref 867))
 g_StringIO:nsIn K mainGlobals (Str.ofString "StringIO")=some (some (.ref 721))
 g_shlex:nsIn K mainGlobals (Str.ofString "shlex")=some (some (.ref 856))
 g_find_unsafe:nsIn K mainGlobals (Str.ofString "_find_unsafe")=some (some (.ref 868))
 g_filemode_table:nsIn K mainGlobals (Str.ofString "_filemode_table")=some (some (.ref 161))
 g_S_IFDIR:∃t,nsIn K mainGlobals (Str.ofString "S_IFDIR")=some (some (.int 16384 t))
 g_S_IFCHR:∃t,nsIn K mainGlobals (Str.ofString "S_IFCHR")=some (some (.int 8192 t))
 g_S_IFBLK:∃t,nsIn K mainGlobals (Str.ofString "S_IFBLK")=some (some (.int 24576 t))
 g_S_IFREG:∃t,nsIn K mainGlobals (Str.ofString "S_IFREG")=some (some (.int 32768 t))
 g_S_IFIFO:∃t,nsIn K mainGlobals (Str.ofString "S_IFIFO")=some (some (.int 4096 t))
 g_S_IFLNK:∃t,nsIn K mainGlobals (Str.ofString "S_IFLNK")=some (some (.int 40960 t))
 g_S_IFSOCK:∃t,nsIn K mainGlobals (Str.ofString "S_IFSOCK")=some (some (.int 49152 t))
 b_zip:nsIn K mainGlobals (Str.ofString "zip")=some none
 b_range:nsIn K mainGlobals (Str.ofString "range")=some none
 b_len:nsIn K mainGlobals (Str.ofString "len")=some none
 b_enumerate:nsIn K mainGlobals (Str.ofString "enumerate")=some none
 b_isinstance:nsIn K mainGlobals (Str.ofString "isinstance")=some none
 b_str:nsIn K mainGlobals (Str.ofString "str")=some none
 b_type:nsIn K mainGlobals (Str.ofString "type")=some none
 b_int:nsIn K mainGlobals (Str.ofString "int")=some none
 b_dict:nsIn K mainGlobals (Str.ofString "dict")=some none
 b_object:nsIn K mainGlobals (Str.ofString "object")=some none
 p_S_IMODE:keepIn K (.ref 51)=true
 p_S_IFMT:keepIn K (.ref 58)=true
 p_S_ISDIR:keepIn K (.ref 65)=true
 p_S_ISCHR:keepIn K (.ref 72)=true
 p_S_ISBLK:keepIn K (.ref 79)=true
 p_S_ISREG:keepIn K (.ref 86)=true
 p_S_ISFIFO:keepIn K (.ref 93)=true
 p_S_ISLNK:keepIn K (.ref 100)=true
 p_S_ISSOCK:keepIn K (.ref 107)=true
 p_S_ISDOOR:keepIn K (.ref 114)=true
 p_S_ISPORT:keepIn K (.ref 121)=true
 p_S_ISWHT:keepIn K (.ref 128)=true
 p_filemode:keepIn K (.ref 168)=true
 p_index:keepIn K (.ref 187)=true
 p_quote:keepIn K (.ref 875)=true
 p_law_signs:keepIn K (.ref 882)=true
 p_law_figures:keepIn K (.ref 889)=true
 p_law_files:keepIn K (.ref 894)=true
 p_law_shown:keepIn K (.ref 901)=true
 p_law_within:keepIn K (.ref 908)=true
 p_law_pair:keepIn K (.ref 913)=true
 p_law_drawn:keepIn K (.ref 918)=true
 p_law_tokens:keepIn K (.ref 923)=true
 p_law_kind:keepIn K (.ref 928)=true
 p_law_holds:keepIn K (.ref 935)=true
 p_law_read:keepIn K (.ref 940)=true
 p_join_shlex:keepIn K (.ref 867)=true
 re:ReAt K 868 173 172
 tab:TabAt K 161
 d_shlex_init:FnAtD K 780 f_shlex_init (fun its=>its=#[.none,.none,.bool false,.bool false])
 d_StringIO_init:FnAtD K 491 kT (fun its=>∃t1 t2,its=#[.str (Str.ofString "") t1,.str (Str.ofString "\n") t2])
 d_StringIO_read:FnAtD K 667 kR (fun its=>∃t,its=#[.int (-1) t])
 d_StringIO_readline:FnAtD K 675 zB (fun its=>∃t,its=#[.int (-1) t])
 kit721:ClsKit K 721
 kit856:ClsKit K 856
 lx:∀n∈lexAttrs,findIn K (.ref 856) (Str.ofString n)=some none∧takerIn K 856 (Str.ofString n)=some none
 sx:∀n∈sioAttrs,findIn K (.ref 721) (Str.ofString n)=some none∧takerIn K 721 (Str.ofString n)=some none
 mt:∀p∈lexMeths,findIn K (.ref p.1) (Str.ofString p.2.1)=some (some (.ref p.2.2))∧isFn K (.ref p.2.2)=true∧keepIn K (.ref p.2.2)=true
 pr:findIn K (.ref 856) "punctuation_chars"=some (some (.ref 788))∧specialIn K (.ref 788) "__get__"=some (some (.builtin "property.__get__"))∧takesIn K (.ref 788)=some true∧∃rest,recIn K 788 "property"=some (.ref 787::rest)
 mk856:makesIn K 856=true
 in856:findIn K (.ref 856) "__init__"=some (some (.ref 780))
 ty780:typeIn K (.ref 780)=some (.type "function")
 kp856:keepIn K (.ref 856)=true
 kp721:keepIn K (.ref 721)=true
 in721:findIn K (.ref 721) "__init__"=some (some (.ref 491))
 ty491:typeIn K (.ref 491)=some (.type "function")
 oo721:∃oc od cd sl,K.lookup 721=some ⟨oc,od,.cls cd,sl⟩∧(sl.toList[4]?).join=some .none∧cd.mro.isEmpty=false∧cd.mro.contains (.ref 721)=true∧cd.abstract=false∧cd.hasDel=false∧cd.mro.contains (.type "object")=true
 oc721:specialIn K (.ref 721) "__call__"=some (some (.builtin "type.__call__"))
 ot721:instIn K (.ref 721) (.type "type")=some true
 or721:readsIn K 721 (.type "type")=true
 of721:findCls K (.ref 721) (.type "type") "__new__"=some (.get (.builtin "staticmethod.__get__") (.ref 218) .none (.ref 721))
 os218:∃rest,recIn K 218 "staticmethod"=some (.ref 214::rest)
 sb721:∀S,peek K S (Bind.staticBase (.ref 721))=some (.type "object")
 g_deque:nsIn K mainGlobals "deque"=some (some (.type "collections.deque"))
 g_BytesIO:nsIn K mainGlobals "BytesIO"=some (some (.ref 474))
 ic474:isClsIn K 474=true
 ic721:isClsIn K 721=true
 fobj:findCls K (.type "object") (.type "type") "__new__"=some (.val (.builtin "object.__new__"))
 ffk:findCls K (.type "dict") (.type "type") "fromkeys"=some (.get (.builtin "classmethod_descriptor.__get__") (.builtin "dict.fromkeys") .none (.type "dict"))
 j_join:∃oc od osl doc pm an ct,K.lookup 867=some ⟨oc,od,.func (fnOf f_join.name f_join.qual f_join.params f_join.body f_join.scope .none .none doc pm an (.ref 866) ct),osl⟩∧codeIn K (.ref 866) f_join.qual=true
 jhd:codeHdIn K 866 862=true
 notab:noTabs K=true
theorem ev_callG {c:Cx} {d u:Nat} {env:Env} {σ:St} {n:Str} {np:Pos} {args:List Expr} {pos:Pos} {K:AV→St→Prop} {f:Addr} (hk:env.scope.kind=.function) (hl:env.kindOf n=some .globalImplicit) (hg:env.globals=mainGlobals) (hd:(n==("__debug__":Str))=false)
  (hne:∀e∈args,∀v p,e≠.Starred v p) (e:nsIn c.K mainGlobals n=some (some (.ref f))) (hp:keepIn c.K (.ref f)=true)
  (h:AsOK c d u env args σ (fun vs σ2=>CallOK c d u (.ref f) vs [] σ2.mu (fun v mu'=>K v { σ2 with mu:=mu' }))):EvOK c d u env (.Call (.Name n np) args [] pos) σ K :=
 hV hne (wT hk hl hg hd e (fun g as=>.st _) ⟨_,rfl,.inl (.inl hp),h⟩)
theorem xF {c:Cx} {d u:Nat} {env:Env} {σ:St} {n:Str} {np:Pos} {i:Int} {K:AV→St→Prop} (hk:env.scope.kind=.function) (hl:env.kindOf n=some .globalImplicit) (hg:env.globals=mainGlobals) (hd:(n==("__debug__":Str))=false)
  (e:∃t,nsIn c.K mainGlobals n=some (some (.int i t))) (h:K (.int i) σ):EvOK c d u env (.Name n np) σ K:=by
 obtain ⟨t,e⟩:=e
 exact wT hk hl hg hd e (fun g as=>.int _ _) h
theorem ev_callB {c:Cx} {d u:Nat} {env:Env} {σ:St} {n:Str} {np:Pos} {args:List Expr} {pos:Pos} {K:AV→St→Prop} {v:Value} (hk:env.scope.kind=.function) (hl:env.kindOf n=some .globalImplicit) (hg:env.globals=mainGlobals) (hb:env.builtins=builtinsNs) (hd:(n==("__debug__":Str))=false)
  (hne:∀e∈args,∀v p,e≠.Starred v p) (e:nsIn c.K mainGlobals n=some none) (hv:bootBuiltins n=some v) (hn:n≠"__name__") (hr:∀a,v≠.ref a)
  (h:AsOK c d u env args σ (fun vs σ2=>CallOK c d u v vs [] σ2.mu (fun v mu'=>K v { σ2 with mu:=mu' }))):EvOK c d u env (.Call (.Name n np) args [] pos) σ K :=
 hV hne (wD hk hl hg hb hd e hv hn ⟨_,rfl,.inr hr,h⟩)
theorem xE {c:Cx} {d u:Nat} {env:Env} {σ:St} {n:Str} {np:Pos} {tgt:Expr} {args:List Expr} {pos:Pos} {K:List AV→Nat→St→Prop} {v:Value} (hk:env.scope.kind=.function) (hl:env.kindOf n=some .globalImplicit) (hg:env.globals=mainGlobals) (hb:env.builtins=builtinsNs) (hd:(n==("__debug__":Str))=false)
  (hne:∀e∈args,∀v p,e≠.Starred v p) (e:nsIn c.K mainGlobals n=some none) (hv:bootBuiltins n=some v) (hn:n≠"__name__") (hr:∀a,v≠.ref a)
  (h:AsOK c d u env args σ (fun vs σ2=>ItCOK c v tgt vs σ2.mu (fun items m=>K items m σ2))):ItEOK c d u env tgt (.Call (.Name n np) args [] pos) σ K :=
 it_call hne (wD hk hl hg hb hd e hv hn ⟨_,rfl,.inr hr,h⟩)
noncomputable def St.setLoc(σ:St)(x:Str)(av:AV):St:={ σ with loc:=setL x av σ.loc }
noncomputable def St.setMu(σ:St)(mu:List AO):St:={ σ with mu:=mu }
section
variable {c:Cx}{d u:Nat}{env:Env}{σ:St}
theorem EvOK.mono{e:Expr}{K K':AV→St→Prop}(h:EvOK c d u env e σ K)(hK:∀v σ,K v σ→K' v σ):EvOK c d u env e σ K':=fun A g as cs s Q E ro G r q =>
 h A g as cs s Q E ro G r fun v g' as' h' tk' av σ' x1 x2 x3 x4 x5=>q v g' as' h' tk' av σ' x1 x2 x3 x4 (hK _ _ x5)
theorem Op2OK.mono{op:Value→Value→Sem Value}{a b:AV}{mu:List AO}{K K':AV→List AO→Prop}(h:Op2OK c d u op a b mu K)(hK:∀v mu,K v mu→K' v mu):Op2OK c d u op a b mu K':=fun A g as s Q E w x ro G m r1 r2 q =>
 h A g as s Q E w x ro G m r1 r2 fun v g' as' h' tk' av mu' x1 x2 x3 x4 x5=>q v g' as' h' tk' av mu' x1 x2 x3 x4 (hK _ _ x5)
theorem Op1OK.mono{op:Value→Sem Value}{a:AV}{mu:List AO}{K K':AV→List AO→Prop}(h:Op1OK c d u op a mu K)(hK:∀v mu,K v mu→K' v mu):Op1OK c d u op a mu K':=fun A g as s Q E w ro G m r1 q =>
 h A g as s Q E w ro G m r1 fun v g' as' h' tk' av mu' x1 x2 x3 x4 x5=>q v g' as' h' tk' av mu' x1 x2 x3 x4 (hK _ _ x5)
theorem CallOK.mono{f:Value}{args:List AV}{kw:List (Str×AV)}{mu:List AO}{K K':AV→List AO→Prop}(h:CallOK c d u f args kw mu K)(hK:∀v mu,K v mu→K' v mu):CallOK c d u f args kw mu K':=fun A g as s Q E ws kws ro G m rs rk q =>
 h A g as s Q E ws kws ro G m rs rk fun v g' as' h' tk' av mu' x1 x2 x3 x4 x5=>q v g' as' h' tk' av mu' x1 x2 x3 x4 (hK _ _ x5)
theorem SsOK.mono{t:Sem Flow}{K K':Fl→St→Prop}(h:SsOK c d u env t σ K)(hK:∀v σ,K v σ→K' v σ):SsOK c d u env t σ K':=fun A g as cs s Q E ro G r q =>
 h A g as cs s Q E ro G r fun v g' as' h' tk' av σ' x1 x2 x3 x4 x5=>q v g' as' h' tk' av σ' x1 x2 x3 x4 (hK _ _ x5)
noncomputable abbrev K3(σ:St)(K:AV→St→Prop):AV→List AO→Prop:=fun v mu'=>mu'=σ.mu∧K v σ
noncomputable abbrev KR(c:Cx)(d u:Nat)(op:Value→Value→Sem Value)(K:AV→St→Prop)(a:AV):AV→St→Prop:=fun b σ2=>Op2OK c d u op a b σ2.mu (K3 σ2 K)
noncomputable abbrev KL(c:Cx)(d u:Nat)(env:Env)(r:Expr)(op:Value→Value→Sem Value)(K:AV→St→Prop):AV→St→Prop:=fun a σ1=>EvOK c d u env r σ1 (KR c d u op K a)
noncomputable abbrev KB(K:Bool→St→Prop):AV→St→Prop:=fun v σ=>∃t,v=.bool t∧K t σ
noncomputable abbrev KXs(x:Str)(K:Fl→St→Prop):AV→St→Prop:=fun av σ'=>K .next (σ'.setLoc x av)
theorem qK{l r:Expr}{op:Operator}{pos:Pos}{K:AV→St→Prop}
  (h:EvOK c d u env l σ (KL c d u env r (binaryOp op) K)):EvOK c d u env (.BinOp l op r pos) σ K :=
 ev_bin (h.mono fun a σ1 h1=>h1.mono fun b σ2 h2=>h2.mono fun v mu' hk=>by obtain ⟨rfl,hk⟩:=hk;exact hk)
theorem vM{l r:Expr}{op:CmpOp}{pos:Pos}{K:AV→St→Prop}(hm:behindInMarks op r=false)
  (h:EvOK c d u env l σ (KL c d u env r (compareOp op) K)):EvOK c d u env (.Compare l [op] [r] pos) σ K :=
 ev_cmp hm (h.mono fun a σ1 h1=>h1.mono fun b σ2 h2=>h2.mono fun v mu' hk=>by obtain ⟨rfl,hk⟩:=hk;exact hk)
theorem qD{l r:Expr}{op:CmpOp}{pos:Pos}{K:Bool→St→Prop}(hm:behindInMarks op r=false)
  (h:EvOK c d u env l σ (KL c d u env r (compareOp op) (KB K))):TsOK c d u env (.Compare l [op] [r] pos) σ K :=
 ts_cmp hm (h.mono fun a σ1 h1=>h1.mono fun b σ2 h2=>h2.mono fun v mu' hk=>by obtain ⟨rfl,hk⟩:=hk;exact hk)
theorem qU{value slice:Expr}{pos:Pos}{K:AV→St→Prop}
  (h:EvOK c d u env value σ (KL c d u env slice (subscriptTail value slice) K)):EvOK c d u env (.Subscript value slice pos) σ K :=
 ev_sub (h.mono fun a σ1 h1=>h1.mono fun b σ2 h2=>h2.mono fun v mu' hk=>by obtain ⟨rfl,hk⟩:=hk;exact hk)
theorem ev_attrP{value:Expr}{attr:Str}{pos:Pos}{K:AV→St→Prop}
  (he:eval (.Attribute value attr pos) env=(do let o ← eval value env;standAt pos.atName;let r ← holding [o] (getAttr o attr true);letTemporaryGo value o r;pure r))
  (h:EvOK c d u env value σ (fun a σ1=>Op1OK c d u (fun o=>getAttr o attr true) a σ1.mu (K3 σ1 K))):EvOK c d u env (.Attribute value attr pos) σ K :=
 ev_attr he (h.mono fun a σ1 h1=>h1.mono fun v mu' hk=>by obtain ⟨rfl,hk⟩:=hk;exact hk)
noncomputable def CallS(c:Cx)(d u:Nat)(f:Value)(args:List AV)(σ:St)(K:AV→St→Prop):Prop:=CallOK c d u f args [] σ.mu (fun v mu'=>K v (σ.setMu mu'))
noncomputable abbrev KS(c:Cx)(d u:Nat)(f:Value)(K:AV→St→Prop):List AV→St→Prop:=fun vs σ2=>CallS c d u f vs σ2 K
noncomputable abbrev KSf(c:Cx)(d u:Nat)(f:Value)(fs:List AV)(K:AV→St→Prop):List AV→St→Prop:=fun vs σ2=>CallS c d u f (fs++vs) σ2 K
theorem qG{f:Value}{args:List AV}{K:AV→St→Prop}(h:CallOK c d u f args [] σ.mu (K3 σ K)):CallS c d u f args σ K:=h.mono fun v mu' hk=>by obtain ⟨rfl,hk⟩:=hk;exact hk
theorem qP{f:Value}{args:List AV}{K:AV→St→Prop}(h:CallOK c d u f args [] σ.mu (fun v mu'=>K v (σ.setMu mu'))):CallS c d u f args σ K:=h
theorem ev_callG' {n:Str} {np:Pos} {args:List Expr} {pos:Pos} {K:AV→St→Prop} {f:Addr} (hk:env.scope.kind=.function) (hl:env.kindOf n=some .globalImplicit) (hg:env.globals=mainGlobals) (hd:(n==("__debug__":Str))=false)
  (hne:∀e∈args,∀v p,e≠.Starred v p) (e:nsIn c.K mainGlobals n=some (some (.ref f))) (hp:keepIn c.K (.ref f)=true)
  (h:AsOK c d u env args σ (KS c d u (.ref f) K)):EvOK c d u env (.Call (.Name n np) args [] pos) σ K:=ev_callG hk hl hg hd hne e hp h
theorem vS {n:Str} {np:Pos} {args:List Expr} {pos:Pos} {K:AV→St→Prop} {v:Value} (hk:env.scope.kind=.function) (hl:env.kindOf n=some .globalImplicit) (hg:env.globals=mainGlobals) (hb:env.builtins=builtinsNs) (hd:(n==("__debug__":Str))=false)
  (hne:∀e∈args,∀v p,e≠.Starred v p) (e:nsIn c.K mainGlobals n=some none) (hv:bootBuiltins n=some v) (hn:n≠"__name__") (hr:∀a,v≠.ref a)
  (h:AsOK c d u env args σ (KS c d u v K)):EvOK c d u env (.Call (.Name n np) args [] pos) σ K:=ev_callB hk hl hg hb hd hne e hv hn hr h
theorem qQ{o:Expr}{name:Str}{apos pos:Pos}{args:List Expr}{pl:Sem Bool}{K:AV→St→Prop}(hne:∀e∈args,∀v p,e≠.Starred v p)
  (he:eval (.Call (.Attribute o name apos) args [] pos) env=(do
   let ov ← eval o env
   standAt apos.atName
   let (f,first) ← holding [ov] (getMethod ov name pl)
   callWith pos f first (backTo pos (starEach args env)) (backToKw pos (keywordEach [] env))))
  (h:EvOK c d u env o σ (fun a σ1=>MethOK c name a σ1.mu (fun f firstA=>Keeps c.K f∧AsOK c d u env args σ1 (KSf c d u f firstA K)))) :
  EvOK c d u env (.Call (.Attribute o name apos) args [] pos) σ K:=ev_meth hne he h
theorem xC{x:Str}{pos' pos:Pos}{value:Expr}{K:Fl→St→Prop}(hv:SvOK c env x)(hs:swapsWith value (some (.Name x pos')) pos.line env=pure false)
  (h:EvOK c d u env value σ (KXs x K)):SsOK c d u env (exec (.Assign [.Name x pos'] value pos) env) σ K:=ss_assign hv hs h
theorem ss_augname'{x:Str}{pos' pos:Pos}{op:Operator}{value:Expr}{a:AV}{K:Fl→St→Prop}(hk:env.scope.kind=.function)(hl:env.kindOf x=some .local)(ha0:σ.loc.lookup x=some a)
  (h:EvOK c d u env value σ (KR c d u (inplaceOp op) (KXs x K) a)):SsOK c d u env (exec (.AugAssign (.Name x pos') op value pos) env) σ K :=
 ss_augname hk hl ha0 (h.mono fun b σ2 h2=>h2.mono fun v mu' hk=>by obtain ⟨rfl,hk⟩:=hk;exact hk)
theorem gI{y:Str}{py spos:Pos}{elt tgt iter:Expr}{ifs:List Expr}{scope:Scope}{pos:Pos}{K:Fl→St→Prop}{cl:List (Str×Addr)}(hsw:swapsWith (.ListComp elt [⟨tgt,iter,ifs,0⟩] scope pos) (some (.Name y py)) spos.line env=pure true)(hfk:env.scope.kind=.function)(hy:env.kindOf y=some .local)(hs:∀v,foldedSetIterable iter env v=pure v)(hclos:closureFor scope env=pure cl)
  (hkind:scope.kind=.function) (hcell:∀y∈scope.names,y.2≠.cell) (hnames:∀x∈scope.names,x.2=.local→scope.names.lookup x.1=some .local)
  (ht:∀C,SvtOK c (compEnvC scope cl C env) tgt) (hcl:∀x cc,cl.lookup x=some cc→env.cells.lookup x=some cc)
  (h:ItEOK c d u env tgt iter σ (fun items m σ1=>items.length≤100000∧∃loc₀,(∀p∈loc₀,CapOK scope env cl σ1 p)∧∀C,CompOK c d u (compEnvC scope cl C env) tgt elt ifs σ1.mu items loc₀ [] (fun ys=>K .next (σ1.setLoc y (.lst ys))))) :
  SsOK c d u env (exec (.Assign [.Name y py] (.ListComp elt [⟨tgt,iter,ifs,0⟩] scope pos) spos) env) σ K:=ss_comp hsw hfk hy hs hclos hkind hcell hnames ht hcl h
theorem wA{t:Sem Flow}{K:Fl→St→Prop}(σ':St)(e:σ=σ')(h:SsOK c d u env t σ' K):SsOK c d u env t σ K:=e▸h
theorem vD{t:Sem Flow}{K:Fl→St→Prop}(loc':List (Str×AV))(mu':List AO)(hs:Sub loc' σ.loc)(hm:σ.mu=mu')(h:SsOK c d u env t ⟨loc',mu'⟩ K):SsOK c d u env t σ K:=fun A g as cs s Q E ro G r q=>by
 subst hm
 exact h A g as cs s Q E ro G (R.forget (loc:=σ.loc) r hs) q
theorem for_fold{α β:Type}{tgt:Expr}{body orelse:List Stmt}{m:Nat}{K:Fl→St→Prop}(I:List β→α→Prop)(L:α→List (Str×AV))(emb:β→AV)(step:α→β→α)(A:List AO)(hA:∀ao∈A,ao.under A.length=true)(hL:∀a,∀p∈L a,p.2.under A.length=true)
  (ht:∀a b xs,I (b::xs) a→I xs (step a b)∧∃loc',bindT tgt (emb b) (L a)=some loc'∧∀raws,SsOK c d u env (execs body env) ⟨loc',A++raws⟩ (fun f σ'=>(f=.next∨f=.cont)∧Sub (L (step a b)) σ'.loc∧σ'.mu=A++raws)):∀(xs:List β) (a:α),I xs a →
  SsOK c d u env (execs orelse env) ⟨L (xs.foldl step a),A⟩ K→ForOK' c d u env tgt body orelse m (xs.map emb) (L a) A [] K:=by
 intro zz
 induction zz with
 | nil =>
  intro a Z he
  exact ⟨hL a,hA,he⟩
 | cons b xs ih =>
  intro a hI he
  obtain ⟨hI',loc',h1,h2⟩:=ht a b xs hI
  refine ⟨loc',h1,fun raws hr har=>?_⟩
  have h3:=h2 raws
  rw [← List.append_nil (A++raws)] at h3
  refine h3.mono fun f σ' hf=>?_
  obtain ⟨hf,hs,hm⟩:=hf
  have rest:=ih (step a b) hI' he
  rcases hf with rfl | rfl
  ·exact ⟨L (step a b),A,[],hs,hm,rfl,rest⟩
  ·exact ⟨L (step a b),A,[],hs,hm,rfl,rest⟩
end
section
variable {c:Cx}{d u:Nat}{env:Env}{σ:St}
theorem fD {q a b x:Str} {k1 k2 k3:Nat} {p1 p2 p3 ap cp bp np:Pos} {n:Str} {pl:Sem Bool} {K:AV→St→Prop} (hk:env.scope.kind=.function) (hl:env.kindOf n=some .local) (hd:(n==("__debug__":Str))=false) (hv:σ.loc.lookup n=some (.str x))
  (hab:(a==b)=false) (hz:x.length≤1000) (hb:b.length≤10) (hq:q.length≤10)
  (he:eval (.Call (.Attribute (.Name n np) "replace" ap) [.Constant (.str a) k2 p2,.Constant (.str b) k3 p3] [] cp) env=(do
   let ov ← eval (.Name n np) env
   standAt ap.atName
   let (f,first) ← holding [ov] (getMethod ov "replace" pl)
   callWith cp f first (backTo cp (starEach [.Constant (.str a) k2 p2,.Constant (.str b) k3 p3] env)) (backToKw cp (keywordEach [] env))))
  (hlen:(Txt.replace x a b).length≤100000)
  (h:K (.str (q++Txt.replace x a b)) σ) :
  EvOK c d u env (.BinOp (.Constant (.str q) k1 p1) .Add (.Call (.Attribute (.Name n np) "replace" ap) [.Constant (.str a) k2 p2,.Constant (.str b) k3 p3] [] cp) bp) σ K:=fun A g as cs s Q E ro G r qq=>by
 refine wpAny_BinOp ?_
 refine wpAny_mkText ?_
 obtain ⟨m,hn,hm⟩:=r.ns
 obtain ⟨v,e,rv⟩:=hm n _ hl hv
 obtain ⟨t,rfl⟩:=rv.inv
 refine methodCall_KW (pl:=pl) (wpAny_Name (wpAny_loadName_local (s:={ s with toks:=s.toks+1 }) hk hl hn e ?_) hd) he
 refine GM.replace ?_
 refine xI (c:=c) (first:=[.str x t]) (.inr (fun a z=>nomatch z)) ?_ (G.X.keeps r.mu.keep) ?_
 ·intro e' he' v' p'
  rcases List.mem_cons.mp he' with z | z
  ·rw [z];exact fun y=>nomatch y
  ·rw [List.mem_singleton.mp z];exact fun y=>nomatch y
 refine spliced_more (wpAny_mkText (spliced_more (wpAny_mkText (spliced_none ?_))))
 refine ⟨G.X.keeps r.mu.keep,?_⟩
 have tk1:(s.toks+1:Tok)≠0:=Nat.succ_ne_zero _
 have tk2:(s.toks+1+1:Tok)≠0:=Nat.succ_ne_zero _
 have tk3:(s.toks+1:Tok)≠s.toks+1+1:=Nat.ne_of_lt (Nat.lt_succ_self _)
 refine SC.replace tk1 tk2 tk3 hab ?_ fun t' k'=>?_
 ·have:(x.length+1)*b.length≤1001*10:=Nat.mul_le_mul (by exact o61 hz) hb
  exact o62 hz this
 refine PyProof.Rows.add_str (fun t2 tk=>qq _ g as s.heap _ _ σ (StaysIn.refl' g) (List.prefix_refl _) r (.str _ _) h) ?_
 unfold sizeLine
 exact o63 hq hlen
end
section
section
theorem xO{l:List (Str×Addr)}{n:Str}{a:Addr}(h:l.lookup n=some a):∀x cc,([(n,a)]:List (Str×Addr)).lookup x=some cc→l.lookup x=some cc:=fun x cc e=>by
 rw [List.lookup_cons] at e
 by_cases hb:(x==n)=true
 ·rw [hb] at e;cases e;rw [beq_iff_eq.mp hb];exact h
 ·have hb':(x==n)=false:=by simpa using hb
  rw [hb'] at e;cases e
theorem xA{α:Type}{f:α→AV}(h:∀a,(f a).flat=true):∀l:List α,flats (l.map f)=true
 | []=>rfl
 | a::l=>by rw [List.map_cons];unfold flats;rw [h a,xA h l];rfl
mutual
theorem AV.under_mono{n m:Nat}(h:n≤m):∀{v:AV},v.under n=true→v.under m=true
 | .none,_=>by simp [AV.under]
 | .bool b,_=>by simp [AV.under]
 | .int i,_=>by simp [AV.under]
 | .str x,_=>by simp [AV.under]
 | .tup vs,e=>by unfold AV.under at e ⊢;exact wU h e
 | .lst vs,e=>by unfold AV.under at e ⊢;exact wU h e
 | .mut k,e=>by unfold AV.under at e ⊢;simp at e ⊢;exact o42 h e
 | .inst C k,e=>by unfold AV.under at e ⊢;simp at e ⊢;exact o42 h e
 | .st v,_=>by simp [AV.under]
theorem wU{n m:Nat}(h:n≤m):∀{vs:List AV},unders n vs=true→unders m vs=true
 | [],_=>by simp [unders]
 | v::vs,e=>by
  unfold unders at e ⊢;rw [Bool.and_eq_true] at e
  rw [AV.under_mono h e.1,wU h e.2];rfl
end
theorem fF{n m:Nat}(h:n≤m):∀{r:List (Str×AV)},entsUnder n r=true→entsUnder m r=true:=by
 intro zz
 induction zz with
 | nil =>
  intro Z
  simp [entsUnder]
 | cons p r ih =>
  intro e
  unfold entsUnder at e ⊢;rw [Bool.and_eq_true] at e
  rw [AV.under_mono h e.1,ih e.2];rfl
theorem AO.under_mono{n m:Nat}(h:n≤m):∀{ao:AO},ao.under n=true→ao.under m=true
 | .list vs,e=>wU h e
 | .dict r,e=>fF h e
 | .deque vs,e=>wU h e
 | .raw o,_=>rfl
theorem wZ{α:Type}(A:List α)(x y:α)(B:List α):(A++[x]++B).set A.length y=A++[y]++B:=by
 rw [List.append_assoc,List.set_append_right _ _ (Nat.le_refl _)]
 simp
theorem get_mid{α:Type}(A:List α)(x:α)(B:List α):(A++[x]++B)[A.length]?=some x:=by
 rw [List.append_assoc,List.getElem?_append_right (Nat.le_refl _)]
 simp
section
variable {c:Cx}{d u:Nat}{env:Env}{σ:St}{mu:List AO}{K:AV→List AO→Prop}
theorem call_wf{f:Value}{args:List AV}{kw:List (Str×AV)}(h:(∀ao∈mu,ao.under mu.length=true)→CallOK c d u f args kw mu K):CallOK c d u f args kw mu K:=fun A g as s Q E ws kws ro G m rs rk q=>h m.isUnder A g as s Q E ws kws ro G m rs rk q
theorem zH{f:Value}{args:List AV}{kw:List (Str×AV)}(h:CallOK c d u f args kw mu (fun av mu'=>∃mu2,mu'=mu++mu2∧av.flat=true∧K av mu)):CallOK c d u f args kw mu K :=
 call_wf fun hu=>call_drop (h.mono fun av mu' hk=>by
  obtain ⟨mu2,rfl,hf,hk⟩:=hk
  exact ⟨mu,mu2,rfl,Nat.le_refl _,hu,AV.flat_under hf,hk⟩)
theorem for_foldM{α β:Type}{tgt:Expr}{body orelse:List Stmt}{m n:Nat}{K:Fl→St→Prop}(I:List β→α→Prop)(L:α→List (Str×AV))(emb:β→AV)(step:α→β→α)(A:α→List AO)(hlen:∀a,(A a).length=n)
  (hA:∀xs a,I xs a→∀ao∈A a,ao.under n=true) (hL:∀xs a,I xs a→∀p∈L a,p.2.under n=true)
  (ht:∀a b xs,I (b::xs) a→I xs (step a b)∧∃loc',bindT tgt (emb b) (L a)=some loc'∧∀raws,SsOK c d u env (execs body env) ⟨loc',A a++raws⟩ (fun f σ'=>(f=.next∨f=.cont)∧Sub (L (step a b)) σ'.loc∧σ'.mu=A (step a b)++raws)):∀(xs:List β) (a:α),I xs a →
  (I [] (xs.foldl step a)→SsOK c d u env (execs orelse env) ⟨L (xs.foldl step a),A (xs.foldl step a)⟩ K)→ForOK' c d u env tgt body orelse m (xs.map emb) (L a) (A a) [] K:=by
 intro zz
 induction zz with
 | nil =>
  intro a hI he
  exact ⟨fun p hp=>by rw [hlen];exact hL [] a hI p hp,fun ao ho=>by rw [hlen];exact hA [] a hI ao ho,he hI⟩
 | cons b xs ih =>
  intro a hI he
  obtain ⟨hI',loc',h1,h2⟩:=ht a b xs hI
  refine ⟨loc',h1,fun raws hr har=>?_⟩
  have h3:=h2 raws
  rw [← List.append_nil (A a++raws)] at h3
  refine h3.mono fun f σ' hf=>?_
  obtain ⟨hf,hs,hm⟩:=hf
  have rest:=ih (step a b) hI' he
  have hl:(A (step a b)).length=(A a).length:=by rw [hlen,hlen]
  rcases hf with rfl | rfl
  ·exact ⟨L (step a b),A (step a b),[],hs,by rw [List.append_nil];exact hm,hl,rest⟩
  ·exact ⟨L (step a b),A (step a b),[],hs,by rw [List.append_nil];exact hm,hl,rest⟩
theorem sub_mut{value slice:Expr}{kk:Nat}{vs:List AV}{k:Int}{v:AV}(hmu:mu[kk]?=some (.list vs))(h0:0≤k)(h1:k < 2 ^ 63)(hv:vs[k.toNat]?=some v)(hs:∀o i,subscripted slice false o i=operate [o,i] (getItem o i))(h:K v mu):Op2OK c d u (subscriptTail value slice) (.mut kk) (.int k) mu K:=fun A g as s Q E w1 w2 ro G m r1 r2 q=>by
 obtain ⟨_,rfl⟩:=r2.inv
 obtain ⟨_,rfl,h2⟩:=r1.inv
 obtain ⟨o,e,so⟩:=m.at' _ _ _ h2 hmu
 obtain ⟨ws,n,eo,rs⟩:=so.inv
 subst eo
 obtain ⟨w,e1,rw1⟩:=rs.get hv
 have hL:s.heap.IsList _ _:=⟨_,e,rfl,_,rfl⟩
 exact tail_any hL.typeIs slot_list_getitem.lookup (wpAny_getItem_list hL h0 h1 (by simpa using e1) (q _ g as s.heap s.toks _ mu (StaysIn.refl' g) (List.prefix_refl _) m rw1 h)) (hs _ _)
end
end
noncomputable def noStar(l:List Expr):Bool:=l.all fun e=>match e with | .Starred ..=>false | _=>true
theorem qS{l:List Expr}(h:noStar l=true):∀e∈l,∀v p,e≠.Starred v p:=fun e he v p z=>by
 subst z;exact Bool.noConfusion (List.all_eq_true.mp h _ he)
noncomputable def isFn:ScopeKind→Bool | .function=>true | _=>false
noncomputable def isLoc:Option NameKind→Bool | some .local=>true | _=>false
noncomputable def isCel:Option NameKind→Bool | some .cell=>true | _=>false
noncomputable def isGlo:Option NameKind→Bool | some .globalImplicit=>true | _=>false
noncomputable def locq (env:Env) (l:List (Str×AV)) (x:Str):Option AV:=cond (isFn env.scope.kind&&(!(x==("__debug__":Str))&&isLoc (env.kindOf x))) (l.lookup x) none
noncomputable def celq (env:Env) (l:List (Str×AV)) (x:Str):Option AV:=cond (isFn env.scope.kind&&(!(x==("__debug__":Str))&&isCel (env.kindOf x))) (l.lookup x) none
noncomputable def gloq (env:Env) (x:Str) (es:List Expr):Bool:=isFn env.scope.kind&&(!(x==("__debug__":Str))&&(isGlo (env.kindOf x)&&((env.globals==mainGlobals)&&noStar es)))
theorem zX{k:ScopeKind}(h:isFn k=true):k=.function:=by cases k <;> first | rfl | cases h
theorem fB{k:Option NameKind}(h:isLoc k=true):k=some .local:=by rcases k with _ | k;cases h;cases k <;> first | rfl | cases h
theorem isCel_eq{k:Option NameKind}(h:isCel k=true):k=some .cell:=by rcases k with _ | k;cases h;cases k <;> first | rfl | cases h
theorem isGlo_eq{k:Option NameKind}(h:isGlo k=true):k=some .globalImplicit:=by rcases k with _ | k;cases h;cases k <;> first | rfl | cases h
inductive Q3(a b c:Prop):Prop | mk (h1:a) (h2:b) (h3:c)
theorem and3{a b c:Bool}(h:(a&&(!b&&c))=true):Q3 (a=true) (b=false) (c=true):=by
 cases a <;> cases b <;> cases c <;> first | exact ⟨rfl,rfl,rfl⟩ | cases h
theorem jU{α:Type}{b:Bool}{x:Option α}{v:α}(h:cond b x none=some v):b=true∧x=some v:=by cases b <;> first | exact ⟨rfl,h⟩ | cases h
section
variable {c:Cx}{d u:Nat}{env:Env}{σ:St}{x:Str}
theorem qB{pos:Pos}{av:AV}{K:AV→St→Prop}(h:locq env σ.loc x=some av)(k:K av σ):EvOK c d u env (.Name x pos) σ K :=
 (jU h).elim fun e v=>(and3 e).casesOn fun e1 e2 e3=>vI (zX e1) (fB e3) e2 v k
theorem vK{pos:Pos}{av:AV}{K:AV→St→Prop}(h:celq env σ.loc x=some av)(k:K av σ):EvOK c d u env (.Name x pos) σ K :=
 (jU h).elim fun e v=>(and3 e).casesOn fun e1 e2 e3=>ev_cell (zX e1) (isCel_eq e3) e2 v k
theorem qW{np:Pos}{args:List Expr}{pos:Pos}{K:AV→St→Prop}{f:Addr}(h:gloq env x args=true)(e:nsIn c.K mainGlobals x=some (some (.ref f)))(hp:keepIn c.K (.ref f)=true)
  (k:AsOK c d u env args σ (KS c d u (.ref f) K)):EvOK c d u env (.Call (.Name x np) args [] pos) σ K :=
 (and3 h).casesOn fun e1 e2 e3=>ev_callG' (zX e1) (isGlo_eq (Bool.and_eq_true_iff.mp e3).1) (eq_of_beq (Bool.and_eq_true_iff.mp (Bool.and_eq_true_iff.mp e3).2).1) e2 (qS (Bool.and_eq_true_iff.mp (Bool.and_eq_true_iff.mp e3).2).2) e hp k
theorem qR{pos' pos:Pos}{value:Expr}{K:Fl→St→Prop}(h:(isFn env.scope.kind&&(!false&&isLoc (env.kindOf x)))=true)(hs:swapsWith value (some (.Name x pos')) pos.line env=pure false)
  (k:EvOK c d u env value σ (KXs x K)):SsOK c d u env (exec (.Assign [.Name x pos'] value pos) env) σ K :=
 (and3 h).casesOn fun e1 Z e3=>xC (qI (zX e1) (fB e3)) hs k
end
end
section
variable {c:Cx}{d u:Nat}{env:Env}{σ:St}{mu:List AO}{K:AV→List AO→Prop}
theorem vF{x:Str}{cp:Nat}(h:K (.bool (decide (cp∈x.cps.toList))) mu):Op2OK c d u (compareOp .In) (.str ⟨#[cp]⟩) (.str x) mu K:=in_ss (by rw [StrLaws.found_one];exact h)
theorem nin1_ss{x:Str}{cp:Nat}(h:K (.bool (!decide (cp∈x.cps.toList))) mu):Op2OK c d u (compareOp .NotIn) (.str ⟨#[cp]⟩) (.str x) mu K:=nin_ss (by rw [StrLaws.found_one];exact h)
theorem meth_find {x:Str} {K:Value→List AV→Prop} (h:K (.builtin "str.find") [.str x]):MethOK c "find" (.str x) mu K:=fun A g as s pl Q E w G m r q=>by
 obtain ⟨_,rfl⟩:=r.inv;exact GM.find (q _ _ _ (.cons (.str _ _) .nil) h)
theorem yZ {x:Str} {K:Value→List AV→Prop} (h:K (.builtin "str.join") [.str x]):MethOK c "join" (.str x) mu K:=fun A g as s pl Q E w G m r q=>by
 obtain ⟨_,rfl⟩:=r.inv;exact GM.join (q _ _ _ (.cons (.str _ _) .nil) h)
theorem call_find {x y:Str} (h:K (.int (Txt.find x y)) mu):CallOK c d u (.builtin "str.find") [.str x,.str y] [] mu K:=fun A g as s Q E ws kws ro G m rs rk q=>by
 obtain rfl:=rk.inv
 obtain ⟨_,_,rfl,r1,rs⟩:=rs.inv
 obtain ⟨_,_,rfl,r2,rs⟩:=rs.inv
 obtain rfl:=rs.inv;obtain ⟨_,rfl⟩:=r1.inv;obtain ⟨_,rfl⟩:=r2.inv
 exact SC.find (q _ g as s.heap _ _ mu (StaysIn.refl' g) (List.prefix_refl _) m (.int _ _) h)
theorem strs_of{g:Heap}{as:List Addr}:∀{xs:List Str} {ws:List Value},Rels g as ws (xs.map .str)→∃l:List (Str×Tok),strValues l=ws∧l.map (·.1)=xs:=by
 intro xs
 induction xs with
 | nil=>intro ws r;obtain rfl:=r.inv;exact ⟨[],rfl,rfl⟩
 | cons x xs ih =>
  intro ws r
  obtain ⟨_,_,rfl,r1,r'⟩:=r.inv
  obtain ⟨t,rfl⟩:=r1.inv
  obtain ⟨l,h1,h2⟩:=ih r'
  exact ⟨(x,t)::l,by rw [← h1];rfl,by rw [← h2];rfl⟩
theorem call_join {x:Str} {xs:List Str} (hok:JoinOk x xs=true) (h:K (.str (Txt.join x xs)) mu):CallOK c d u (.builtin "str.join") [.str x,.lst (xs.map .str)] [] mu K:=fun A g as s Q E ws kws ro G m rs rk q=>by
 obtain rfl:=rk.inv
 obtain ⟨_,_,rfl,r1,rs⟩:=rs.inv
 obtain ⟨_,_,rfl,r2,rs⟩:=rs.inv
 obtain rfl:=rs.inv;obtain ⟨_,rfl⟩:=r1.inv
 obtain ⟨_,_,_,_,_,rfl,e,rl⟩:=r2.inv
 obtain ⟨l,h1,h2⟩:=strs_of rl
 subst h1
 exact SC.join ⟨_,m.keep _ _ e,rfl,_,rfl⟩ h2 hok fun t' k'=>q _ g as s.heap _ _ mu (StaysIn.refl' g) (List.prefix_refl _) m (.str _ _) h
theorem call_joinM {x:Str} {k:Nat} {xs:List Str} (hmu:mu[k]?=some (.list (xs.map .str))) (hok:JoinOk x xs=true) (h:K (.str (Txt.join x xs)) mu):CallOK c d u (.builtin "str.join") [.str x,.mut k] [] mu K:=fun A g as s Q E ws kws ro G m rs rk q=>by
 obtain rfl:=rk.inv
 obtain ⟨_,_,rfl,r1,rs⟩:=rs.inv
 obtain ⟨_,_,rfl,r2,rs⟩:=rs.inv
 obtain rfl:=rs.inv;obtain ⟨_,rfl⟩:=r1.inv
 obtain ⟨_,rfl,h2'⟩:=r2.inv
 obtain ⟨o,e,so⟩:=m.at' _ _ _ h2' hmu
 obtain ⟨_,_,eo,rl⟩:=so.inv
 subst eo
 obtain ⟨l,h1,h2⟩:=strs_of rl
 subst h1
 exact SC.join ⟨_,e,rfl,_,rfl⟩ h2 hok fun t' k'=>q _ g as s.heap _ _ mu (StaysIn.refl' g) (List.prefix_refl _) m (.str _ _) h
end
end Mine.Internal
end
section
open PySem PySem.Spec PySem.Calls PyProof PyProof.Rows PySem.W PySem.SeqAt
set_option tactic.hygienic false
namespace Mine.Internal
section
variable {c:Cx}{d u:Nat}{env:Env}{σ:St}{mu:List AO}{K:AV→List AO→Prop}
theorem eq_mut_nil{k:Nat}{vs:List AV}(hu:u < 9900)(hmu:mu[k]?=some (.list vs))(h:K (.bool vs.isEmpty) mu):Op2OK c d u (compareOp .Eq) (.mut k) (.lst []) mu K:=fun A g as s Q E w1 w2 ro G m r1 r2 q=>by
 obtain ⟨_,rfl,h2⟩:=r1.inv
 obtain ⟨o,e,so⟩:=m.at' _ _ _ h2 hmu
 obtain ⟨_,_,eo,rl⟩:=so.inv
 subst eo
 obtain ⟨_,_,_,_,_,rfl,e2,rl2⟩:=r2.inv
 obtain rfl:=rl2.inv
 have hl:s.heap.IsList _ _:=⟨_,e,rfl,_,rfl⟩
 have hb:s.heap.IsList _ _:=⟨_,m.keep _ _ e2,rfl,_,rfl⟩
 have hU:A.units < cLine:=Nat.lt_of_le_of_lt ro.un hu
 cases rl with
 | nil=>exact eq_listAt (e:=fun Z=>true) hl hb rfl hU (fun j h1=>absurd h1 (Nat.not_lt_zero _)) (q _ g as s.heap s.toks _ mu (StaysIn.refl' g) (List.prefix_refl _) m (.bool _) h)
 | cons _ _=>exact eq_list_lengthsAt hl hb (by simp) hU (q _ g as s.heap s.toks _ mu (StaysIn.refl' g) (List.prefix_refl _) m (.bool _) h)
theorem ne_mut_nil{k:Nat}{vs:List AV}(hu:u < 9900)(hmu:mu[k]?=some (.list vs))(h:K (.bool (!vs.isEmpty)) mu):Op2OK c d u (compareOp .NotEq) (.mut k) (.lst []) mu K:=fun A g as s Q E w1 w2 ro G m r1 r2 q=>by
 obtain ⟨_,rfl,h2⟩:=r1.inv
 obtain ⟨o,e,so⟩:=m.at' _ _ _ h2 hmu
 obtain ⟨_,_,eo,rl⟩:=so.inv
 subst eo
 obtain ⟨_,_,_,_,_,rfl,e2,rl2⟩:=r2.inv
 obtain rfl:=rl2.inv
 have hl:s.heap.IsList _ _:=⟨_,e,rfl,_,rfl⟩
 have hb:s.heap.IsList _ _:=⟨_,m.keep _ _ e2,rfl,_,rfl⟩
 have hU:A.units < cLine:=Nat.lt_of_le_of_lt ro.un hu
 cases rl with
 | nil=>exact RcNeAt.lists (e:=fun Z=>true) hl hb rfl hU (fun j h1=>absurd h1 (Nat.not_lt_zero _)) c.prog c.w E Q (q _ g as s.heap s.toks _ mu (StaysIn.refl' g) (List.prefix_refl _) m (.bool _) h)
 | cons _ _=>exact RcNeAt.lists_lengths hl hb (by simp) hU c.prog c.w E Q (q _ g as s.heap s.toks _ mu (StaysIn.refl' g) (List.prefix_refl _) m (.bool _) h)
theorem Rels.bool_at{g:Heap}{as:List Addr}{ws:List Value}{l:List Bool}(r:Rels g as ws (l.map .bool))(j:Nat)(hj:j < ws.length):∃b,l[j]?=some b∧ws[j]=.bool b:=by
 obtain ⟨v,h1,h2⟩:=r.get' (List.getElem?_eq_getElem hj)
 rw [List.getElem?_map] at h1
 cases hb:l[j]? with
 | none=>rw [hb] at h1;cases h1
 | some b =>
  rw [hb] at h1
  have h1':v=.bool b:=by cases h1;rfl
  subst h1'
  refine ⟨b,rfl,?_⟩
  generalize ws[j]=w0 at h2
  cases h2
  rfl
theorem eq_bools{l1 l2:List Bool}(hu:u < 9900)(h:K (.bool (l1==l2)) mu):Op2OK c d u (compareOp .Eq) (.lst (l1.map .bool)) (.lst (l2.map .bool)) mu K:=fun A g as s Q E w1 w2 ro G m r1 r2 q=>by
 obtain ⟨a1,ws1,n1,d1,s1,rfl,e1,q1⟩:=r1.inv
 obtain ⟨a2,ws2,n2,d2,s2,rfl,e2,q2⟩:=r2.inv
 have hl:s.heap.IsList a1 ws1.toArray:=⟨_,m.keep _ _ e1,rfl,_,rfl⟩
 have hb:s.heap.IsList a2 ws2.toArray:=⟨_,m.keep _ _ e2,rfl,_,rfl⟩
 have hU:A.units < cLine:=Nat.lt_of_le_of_lt ro.un hu
 have len1:ws1.length=l1.length:=by rw [q1.length];simp
 have len2:ws2.length=l2.length:=by rw [q2.length];simp
 by_cases hs:l1.length=l2.length
 ·refine eq_listAt (e:=fun j=>l1.getD j false==l2.getD j false) hl hb (by simp;exact o64 len1 len2 hs) hU (fun j h1 h2=>?_) ?_
  ·have h1':j < ws1.length:=by simpa using h1
   have h2':j < ws2.length:=by simpa using h2
   obtain ⟨b1,f1,g1⟩:=q1.bool_at j h1'
   obtain ⟨b2,f2,g2⟩:=q2.bool_at j h2'
   show EqAt _ _ (ws1.toArray[j]) (ws2.toArray[j]) _
   rw [show ws1.toArray[j]=ws1[j] from by simp,show ws2.toArray[j]=ws2[j] from by simp,g1,g2]
   simp only [List.getD_eq_getElem?_getD,f1,f2,Option.getD_some]
   exact EqAt.bool_bool b1 b2
  ·have e:((List.range ws1.toArray.size).all fun j=>l1.getD j false==l2.getD j false)=(l1==l2):=by
    rw [Bool.eq_iff_iff,List.all_eq_true]
    simp only [List.mem_range,beq_iff_eq]
    constructor
    ·intro hh
     apply List.ext_getElem hs
     intro i hi1 hi2
     have:=hh i (by simp;exact o3 len1 hi1)
     simp only [List.getD_eq_getElem?_getD,List.getElem?_eq_getElem hi1,List.getElem?_eq_getElem hi2,Option.getD_some] at this
     exact this
    ·intro hh j _
     rw [hh]
   rw [e]
   exact q _ g as s.heap s.toks _ mu (StaysIn.refl' g) (List.prefix_refl _) m (.bool _) h
 ·have e:(l1==l2)=false:=beq_eq_false_iff_ne.mpr fun z=>hs (by rw [z])
  rw [e] at h
  exact eq_list_lengthsAt hl hb (by simp;exact o65 len1 len2 hs) hU (q _ g as s.heap s.toks _ mu (StaysIn.refl' g) (List.prefix_refl _) m (.bool _) h)
theorem sub_mut_last{value slice:Expr}{kk:Nat}{vs:List AV}{v:AV}(hmu:mu[kk]?=some (.list (vs++[v])))(hs:∀o i,subscripted slice false o i=operate [o,i] (getItem o i))(h:K v mu):Op2OK c d u (subscriptTail value slice) (.mut kk) (.int (-1)) mu K:=fun A g as s Q E w1 w2 ro G m r1 r2 q=>by
 obtain ⟨_,rfl⟩:=r2.inv
 obtain ⟨_,rfl,h2⟩:=r1.inv
 obtain ⟨o,e,so⟩:=m.at' _ _ _ h2 hmu
 obtain ⟨ws,n,eo,rs⟩:=so.inv
 subst eo
 obtain ⟨ws',w,rfl,rl',rw'⟩:=rs.snoc
 have hL:s.heap.IsList _ (ws'++[w]).toArray:=⟨_,e,rfl,_,rfl⟩
 refine tail_any hL.typeIs slot_list_getitem.lookup (wpAny_getItem_list_neg (x:=w) hL (by decide) (by simp;exact o66) (by decide) ?_ (q _ g as s.heap s.toks _ mu (StaysIn.refl' g) (List.prefix_refl _) m rw' h)) (hs _ _)
 have e1:((-1:Int)+((ws'++[w]).toArray.size:Int)).toNat=ws'.length:=by simp;exact o67
 rw [e1]
 simp
end
end Mine.Internal
end
section
open PySem PySem.Spec PySem.Calls PyProof PyProof.Rows PySem.W
open Sem (wp)
set_option tactic.hygienic false
namespace Mine.Internal
theorem wp_execs_app{M:Model}{Γ:PySem.Ctx}{env:Env}{rest:List Stmt}:∀(pre:List Stmt) (p:Pos) (s:Shared) (Q:Flow→Pos→Shared→Prop) (E:Value→Pos→Shared→Prop),
  wp M Γ (execs pre env) (fun f p' s'=>match f with | .next=>wp M Γ (execs rest env) Q E p' s' | f=>Q f p' s') E p s→wp M Γ (execs (pre++rest) env) Q E p s:=by
 intro zz
 induction zz with
 | nil =>
  intro p s Q E h
  exact h
 | cons a pre ih =>
  intro p s Q E h
  show wp M Γ (exec a env >>= fun f=>match f with | .next=>execs (pre++rest) env | f=>pure f) Q E p s
  have h':wp M Γ (exec a env >>= fun f=>match f with | .next=>execs pre env | f=>pure f) (fun f p' s'=>match f with | .next=>wp M Γ (execs rest env) Q E p' s' | f=>Q f p' s') E p s:=h
  rw [Sem.wp_bind'] at h' ⊢
  refine Sem.wp_mono M Γ _ (fun f p' s' hf=>?_) (fun Z Z Z x=>x) p s h'
  cases f with
  | next=>exact ih p' s' Q E hf
  | brk=>exact hf
  | cont=>exact hf
  | ret v=>exact hf
theorem kO{M:Model}{A:Around}{env:Env}{pre rest:List Stmt}{s:Shared}{Q:Flow→Shared→Prop}{E:Value→Shared→Prop}
  (h:wpAny M A (execs pre env) (fun f s'=>match f with | .next=>wpAny M A (execs rest env) Q E s' | f=>Q f s') E s):wpAny M A (execs (pre++rest) env) Q E s:=fun Γ p hΓ=>by
 refine wp_execs_app pre p s _ _ (Sem.wp_mono M Γ _ (fun f p' s' hf=>?_) (fun Z Z Z x=>x) p s (h Γ p hΓ))
 cases f with
 | next=>exact hf Γ p' hΓ
 | brk=>exact hf
 | cont=>exact hf
 | ret v=>exact hf
section
variable {c:Cx}{d u:Nat}{env:Env}{loc:List (Str×AV)}{mu:List AO}
theorem ss_freeze{pre rest:List Stmt}(x:Str)(hx:env.kindOf x=some .local){K:Fl→St→Prop}
  (h:SsOK c d u env (execs pre env) ⟨loc,mu⟩ (fun f σ1=>f=.next∧∃vs loc1,σ1.mu=mu++[.list vs]∧flats vs=true∧σ1.loc.lookup x=some (.mut mu.length)∧Sub loc1 σ1.loc∧(∀p∈loc1,p.2.flat=true)∧SsOK c d u env (execs rest env) ⟨(x,.lst vs)::loc1,mu⟩ K)) :
  SsOK c d u env (execs (pre++rest) env) ⟨loc,mu⟩ K:=fun A g as cs s Q E ro G r q=>by
 refine kO (h A g as cs s _ E ro G r fun f g1 as1 h1 tk1 af σ1 hg1 ha1 r1 rf k1=>?_)
 obtain ⟨rfl,vs,loc1,hmu,hfl,hlx,hsub,hflat,hk⟩:=k1
 cases rf with
 | next =>
  obtain ⟨l1,m1⟩:=σ1
  dsimp only at hmu hlx hsub
  subst hmu
  have hlen:=r1.mu.len
  have hlen0:=r.mu.len
  simp only [List.length_append,List.length_cons,List.length_nil] at hlen
  dsimp only at hlen0
  obtain ⟨tl,rfl⟩:=ha1
  have htl:tl.length=1:=by rw [List.length_append] at hlen;exact o68 hlen0 hlen
  obtain ⟨D,rfl⟩:∃D,tl=[D]:=by
   match tl,htl with
   | [D],_=>exact ⟨D,rfl⟩
  have hDix:(as++[D])[mu.length]?=some D:=by rw [← hlen0,List.getElem?_append_right (Nat.le_refl _)];simp
  obtain ⟨o,eD,sD⟩:=r1.mu.at' mu.length D (.list vs) hDix (by rw [List.getElem?_append_right (Nat.le_refl _)];simp)
  obtain ⟨ws,n,eo,rl⟩:=sD.inv
  subst eo
  have tk:(as++[D]).take mu.length=as:=by rw [List.take_append_of_le_length (by exact o14 hlen0),List.take_of_length_le (by exact o15 hlen0)]
  have m0:=MuR.take (as:=as++[D]) (mu1:=mu) (mu2:=[.list vs]) r1.mu r.mu.isUnder
  rw [tk] at m0
  have hDas:D∉as:=fun z=>(List.nodup_append.mp r1.mu.nd).2.2 D z D (by simp) rfl
  have hDown:D∉env.locals::cs:=fun z=>(r1.off D z).2 (by simp)
  -- first the frame at the smaller list of changeable objects, the flat names alone
  have r2:R c.w.params g1 as cs env ⟨loc1,mu⟩ h1 :=
   {mu:=m0
    ns:=by
     obtain ⟨m,hn,hm⟩:=r1.ns
     refine ⟨m,hn,fun y av hy hv=>?_⟩
     obtain ⟨v,e1,e2⟩:=hm y av hy (hsub y av hv)
     exact ⟨v,e1,e2.flat (hflat _ (vH hv))⟩
    cl:=fun y av hy hv=>by
     obtain ⟨c',o,v,e1,e2,e3,e4⟩:=r1.cl y av hy (hsub y av hv)
     exact ⟨c',o,v,e1,e2,e3,e4.flat (hflat _ (vH hv))⟩
    off:=fun a ha=>⟨(r1.off a ha).1,fun z=>(r1.off a ha).2 (by simp [z])⟩
    nd:=r1.nd
    cells:=r1.cells
    inj:=r1.inj
    cc:=r1.cc }
  obtain ⟨g₂,hg2,r3,hin⟩:=r2.rebase
  have rv:Rel g₂ as (.ref D) (.lst vs):=.lst (hin D _ eD hDown hDas) ((rl.flat hfl).mono hg2 (List.prefix_refl _))
  have r4:R c.w.params g₂ as cs env ⟨(x,.lst vs)::loc1,mu⟩ h1 :=
   {mu:=r3.mu
    ns:=by
     obtain ⟨m,hn,hm⟩:=r1.ns
     obtain ⟨vx,ex1,ex2⟩:=hm x _ hx hlx
     refine ⟨m,hn,fun y av hy hv=>?_⟩
     rw [List.lookup_cons] at hv
     by_cases hb:(y==x)=true
     ·rw [hb] at hv
      cases hv
      rw [beq_iff_eq.mp hb]
      cases ex2 with
      | «mut» h2 =>
       rw [hDix] at h2;cases h2
       exact ⟨_,ex1,rv⟩
     ·have hb':(y==x)=false:=by simpa using hb
      rw [hb'] at hv
      obtain ⟨v,e1,e2⟩:=hm y av hy (hsub y av hv)
      exact ⟨v,e1,(e2.flat (hflat _ (vH hv))).mono hg2 (List.prefix_refl _)⟩
    cl:=fun y av hy hv=>by
     rw [List.lookup_cons] at hv
     by_cases hb:(y==x)=true
     ·rw [beq_iff_eq.mp hb,hx] at hy
      rcases hy with hy | hy <;> cases hy
     ·have hb':(y==x)=false:=by simpa using hb
      rw [hb'] at hv
      exact r3.cl y av hy hv
    off:=r3.off
    nd:=r3.nd
    cells:=r3.cells
    inj:=r3.inj
    cc:=r3.cc }
  exact hk A g₂ as cs (sh s h1 tk1) Q E ro ((G.keeps hg1).keeps hg2) r4 fun f2 g3 as3 h3 tk3 af3 σ3 hg3 ha3 r5 rf3 k3=>q f2 g3 as3 h3 tk3 af3 σ3 (StaysIn.trans' (StaysIn.trans' hg1 hg2) hg3) ha3 r5 rf3 k3
end
end Mine.Internal
end
section
open PySem PySem.Spec PySem.Calls PyProof PyProof.Rows PySem.W
open AutoSeq1
set_option tactic.hygienic false
namespace Mine.Internal
theorem extend_gen(l:Addr)(items:Array Value)(n:Nat)(b:Addr)(items2:Array Value)(n2:Nat)(dd:Option Addr)(sl:Array (Option Value))(hc0:¬(!items.isEmpty&&Builtin.List.listTooLong (items.size+items2.size))=true)(hc1:items.size≤sizeLine)(hs2:items.size+items2.size≤sizeLine+1):
  Meets (Builtin.«list.extend» ⟨[.ref l,.ref b],[]⟩) (fun Z R s=>s.heap.get? l=some { cls:=.type "list",dict:=none,data:=.seq items n,slots:=#[] }∧s.heap.get? b=some { cls:=.type "list",dict:=dd,data:=.seq items2 n2,slots:=sl }∧R (.ok (.ret Value.none)) (sh s (s.heap.update l (Obj.mapSeq fun x=>x++items2)) s.toks)) :=
 .of_wp fun prog w A R s h=>by
  obtain ⟨hp,g,d,tk,os⟩:=s;obtain ⟨hl,hb,h⟩:=h;have f1:=idx_int;have f2:=AutoSeq1.sub_tuple_tuple;have f3:=AutoSeq1.sub_list_list;have f4:=AutoSeq1.sub_tuple_list;have f5:=AutoSeq1.sub_list_tuple;
  have hz':(items++items2).size≤sizeLine+1:=by rw [Array.size_append];exact hs2
  wp_walk using (wpAny_updateSeq hl rfl (hz:=hc1) (_hz':=hz')),wpAny_loadPart' hl,wpAny_loadPart' hb;exact ⟨_,rfl,h⟩
section
variable {c:Cx}{d u:Nat}{env:Env}{σ:St}{mu:List AO}{K:AV→List AO→Prop}
theorem kK {k:Nat} {vs vs2:List AV} (hmu:mu[k]?=some (.list vs)) (hz:vs.length+vs2.length≤100000) (h:K .none (mu.set k (.list (vs++vs2)))):CallOK c d u (.builtin "list.extend") [.mut k,.lst vs2] [] mu K:=fun A g as s Q E ws kws ro G m rs rk q=>by
 obtain rfl:=rk.inv
 obtain ⟨_,_,rfl,r1,rs⟩:=rs.inv
 obtain ⟨_,_,rfl,r2,rs⟩:=rs.inv
 obtain rfl:=rs.inv
 obtain ⟨a,rfl,h2⟩:=r1.inv
 obtain ⟨o,e,so⟩:=m.at' _ _ _ h2 hmu
 obtain ⟨ws,n,eo,rl⟩:=so.inv
 subst eo
 obtain ⟨b,ws2,n2,dd,sl,rfl,e2,rl2⟩:=r2.inv
 have hl1:=rl.length
 have hl2:=rl2.length
 have hsz:ws.toArray.size+ws2.toArray.size≤sizeLine:=by simp;unfold sizeLine;exact o69 hz hl1 hl2
 refine call_meets F.slot_list_extend ⟨_,e,rfl⟩ F.entry_list_extend (F.args_list_extend_2 _ _) (extend_gen a ws.toArray n b ws2.toArray n2 dd sl (extend_door hsz) (by exact o70 hsz) (by exact o71 hsz)) ⟨e,m.keep _ _ e2,?_⟩
 have ee:ws.toArray++ws2.toArray=(ws++ws2).toArray:=by simp
 have ho':(s.heap.update a (Obj.mapSeq fun x=>x++ws2.toArray)).get? a=some (lstObj (ws++ws2) (if (ws.toArray++ws2.toArray).size==ws.toArray.size then n else n+1)):=by
  rw [Heap.get?_update_self _ e (by rw [mapSeq_app];rfl),mapSeq_app,ee]
 exact q .none g as _ s.toks .none _ (StaysIn.refl' g) (List.prefix_refl _) (m.set h2 (fun b o nb hb Z=>(Heap.get?_update_ne _ _ _ _ nb).trans hb) ho' (.list rfl (rl.append rl2))) .none h
end
theorem pa_dq:PlainAttrs "collections.deque":=⟨⟨"collections.deque.__getattribute__",by rw [typeLookup_type,builtinLookup_eq_fast];kernel_rfl,by decide +kernel⟩,by rw [typeLookup_type,builtinLookup_eq_fast];kernel_rfl⟩
theorem yM:Slot "collections.deque" "append" "collections.deque.append":=Slot.of (owner:="collections.deque") (n:="append") (by rw [typeLookup_type,builtinLookup_eq_fast];kernel_rfl) (by decide +kernel) (by decide +kernel) (by decide +kernel) (by first | exact .inl (by decide +kernel) | exact .inr (by decide +kernel)) (by rw [isSubtype_type];kernel_rfl)
theorem sl_dqpop:Slot "collections.deque" "pop" "collections.deque.pop":=Slot.of (owner:="collections.deque") (n:="pop") (by rw [typeLookup_type,builtinLookup_eq_fast];kernel_rfl) (by decide +kernel) (by decide +kernel) (by decide +kernel) (by first | exact .inl (by decide +kernel) | exact .inr (by decide +kernel)) (by rw [isSubtype_type];kernel_rfl)
theorem sl_dqlen:Slot "collections.deque" "__len__" "collections.deque.__len__":=Slot.of (owner:="collections.deque") (n:="__len__") (by rw [typeLookup_type,builtinLookup_eq_fast];kernel_rfl) (by decide +kernel) (by decide +kernel) (by decide +kernel) (by first | exact .inl (by decide +kernel) | exact .inr (by decide +kernel)) (by rw [isSubtype_type];kernel_rfl)
theorem sl_dqinit:Slot "collections.deque" "__init__" "collections.deque.__init__":=Slot.of (owner:="collections.deque") (n:="__init__") (by rw [typeLookup_type,builtinLookup_eq_fast];kernel_rfl) (by decide +kernel) (by decide +kernel) (by decide +kernel) (by first | exact .inl (by decide +kernel) | exact .inr (by decide +kernel)) (by rw [isSubtype_type];kernel_rfl)
theorem kB:typeOf (.builtin "collections.deque.append")=pure (.type "method_descriptor"):=by show builtinType _=_;rw [builtinType_eq_fast];kernel_rfl
theorem ty_dqpop:typeOf (.builtin "collections.deque.pop")=pure (.type "method_descriptor"):=by show builtinType _=_;rw [builtinType_eq_fast];kernel_rfl
theorem en_dqappend:entryFor table "collections.deque.append"=some Builtin.«collections.deque.append»:=entryFor_of_tree (by kernel_rfl)
theorem en_dqpop:entryFor table "collections.deque.pop"=some Builtin.«collections.deque.pop»:=entryFor_of_tree (by kernel_rfl)
theorem en_dqlen:entryFor table "collections.deque.__len__"=some Builtin.«collections.deque.__len__»:=entryFor_of_tree (by kernel_rfl)
theorem en_dqnew:entryFor table "collections.deque.__new__"=some Builtin.«collections.deque.__new__»:=entryFor_of_tree (by kernel_rfl)
theorem en_dqinit:entryFor table "collections.deque.__init__"=some Builtin.«collections.deque.__init__»:=entryFor_of_tree (by kernel_rfl)
theorem ar_dqappend (a b:Value):argsOk "collections.deque.append" ⟨[a,b],[]⟩:=by unfold argsOk;kernel_rfl
theorem ar_dqpop (a:Value):argsOk "collections.deque.pop" ⟨[a],[]⟩:=by unfold argsOk;kernel_rfl
theorem ar_dqlen (a:Value):argsOk "collections.deque.__len__" ⟨[a],[]⟩:=by unfold argsOk;kernel_rfl
theorem ar_dqinit (a:Value):argsOk "collections.deque.__init__" ⟨[a],[]⟩:=by unfold argsOk;kernel_rfl
theorem mro_dq:mroOf (.type "collections.deque")=pure [.type "collections.deque",.type "object"]:=by rw [mroOf_type];kernel_rfl
theorem lk_dqnew:typeLookup (.type "collections.deque") "__new__"=pure (some (.builtin "collections.deque.__new__")):=by rw [typeLookup_type,builtinLookup_eq_fast];kernel_rfl
theorem tc_dq:TypeCalled "collections.deque" "collections.deque.__new__" "collections.deque.__init__" :=
 ⟨by decide +kernel,by decide +kernel,⟨_,_,mro_dq⟩,madeBy_type mro_dq lk_dqnew (by decide +kernel),by decide +kernel,by rw [isSubtype_type];kernel_rfl,sl_dqinit⟩
theorem nc_dq:checkBuiltinCall "collections.deque.__new__" ⟨[.type "collections.deque"],[]⟩=pure ():=by kernel_rfl
theorem cc_dq:checkTypeCall "collections.deque" ⟨[],[]⟩=pure ():=by kernel_rfl
theorem nobool_dq:typeLookup (.type "collections.deque") "__bool__"=pure none:=by rw [typeLookup_type,builtinLookup_eq_fast];kernel_rfl
section
variable {prog:Program}{w:World}{A:Around}{E:Value→Shared→Prop}{s:Shared}
theorem gives_dqlen{a:Addr}{ws:List Value}{k:Int}{Q:Fin→Shared→Prop}(e:s.heap.get? a=some (dqObj ws k))(h:Q (.done (.ret (.int ws.length s.toks))) { s with toks:=s.toks+1 }):
  wpAny (model prog w) A (Builtin.«collections.deque.__len__» ⟨[.ref a],[]⟩) Q E s:=by
 unfold Builtin.«collections.deque.__len__» Builtin.Deque.size
 repeat lk
 have e2:(#[Value.none,rawInt k]++ws.toArray).size - 2=ws.length:=by simp
 rw [e2]
 exact h
theorem body_dqlen{a:Addr}{ws:List Value}{k:Int}{Q:Value→Shared→Prop}(e:s.heap.get? a=some (dqObj ws k))(hfit:ws.length≤100000)
  (h:Q (.int ws.length (s.toks+1)) { s with toks:=s.toks+1+1 }):wpAny (model prog w) A (Builtin.«len» ⟨[.ref a],[]⟩) (fun fin s'=>∃r,fin=.done (.ret r)∧Q r s') E s:=by
 have hT:s.TypeIs (.ref a) "collections.deque":=⟨_,e,rfl⟩
 unfold Builtin.«len»
 refine wpAny_bind (m:=oneArg "len" _) (wpAny_pure ?_)
 refine wpAny_bind (m:=callSpecial? (.ref a) (Str.ofString "__len__")) (wpAny_callSpecial?_slot (name:=Str.ofString "__len__") hT sl_dqlen
  (wpAny_call_entry sl_dqlen hT en_dqlen (gives_dqlen e ⟨_,rfl,?_⟩) (ar_dqlen _)))
 refine wpAny_bind (wpAny_holding (wpAny_pure ?_))
 refine wpAny_bind (wpAny_letGo ?_)
 show wpAny _ _ (if ((ws.length:Nat):Int) < 0 then _ else _) _ _ _
 rw [if_neg (by exact o72)]
 show wpAny _ _ (if ((ws.length:Nat):Int)≥2 ^ 63 then _ else _) _ _ _
 rw [if_neg (by exact o6 hfit)]
 exact wpAny_bind (wpAny_mkInt (wpAny_pure ⟨_,rfl,h⟩))
theorem truthy_dq{a:Addr}{ws:List Value}{k:Int}{Q:Bool→Shared→Prop}(e:s.heap.get? a=some (dqObj ws k))(hfit:ws.length≤100000)
  (h:Q (!ws.isEmpty) { s with toks:=s.toks+1+1 }):wpAny (model prog w) A (truthy (.ref a)) Q E s:=by
 have hT:s.TypeIs (.ref a) "collections.deque":=⟨_,e,rfl⟩
 have hne:((ws.length:Int) != 0)=!ws.isEmpty:=by cases ws <;> simp <;> exact o51
 have key:wpAny (model prog w) A (runValue (.builtin "len" ⟨[.ref a],[]⟩)) (fun r s'=>r=.int ws.length (s.toks+1)∧Q (!ws.isEmpty) s') E s:=by
  refine wpAny_runValue (codeAny_builtin entry_len ?_)
  rw [Around.under_plainId plain_len _]
  exact wpAny_mono (body_dqlen (Q:=fun r s'=>r=.int ws.length (s.toks+1)∧Q (!ws.isEmpty) s') e hfit ⟨rfl,h⟩)
   (fun fin s' h'=>by obtain ⟨r,rfl,hq⟩:=h';exact hq) fun Z Z e=>e
 unfold truthy
 first
  | refine wpAny_bind (wpAny_callSpecial?_none (name:=Str.ofString "__bool__") hT nobool_dq ?_)
  | refine wpAny_bind (wpAny_pure (wpAny_bind (wpAny_callSpecial?_none (name:=Str.ofString "__bool__") hT nobool_dq ?_)))
 first
  | refine wpAny_bind (wpAny_specialOf (name:=Str.ofString "__len__") hT sl_dqlen.lookup ?_)
  | refine wpAny_bind (wpAny_pure (wpAny_bind (wpAny_specialOf (name:=Str.ofString "__len__") hT sl_dqlen.lookup ?_)))
 first
   | exact wpAny_bind (wpAny_mono key (fun r s' h'=>by obtain ⟨rfl,hq⟩:=h';refine wpAny_pure ?_;rw [← hne] at hq;exact hq) fun Z Z e=>e)
   | exact wpAny_bind (wpAny_pure (wpAny_bind (wpAny_mono key (fun r s' h'=>by obtain ⟨rfl,hq⟩:=h';refine wpAny_pure ?_;rw [← hne] at hq;exact hq) fun Z Z e=>e)))
theorem dq_one{k:Int}{ws:List Value}:(#[Value.none,rawInt k]++ws.toArray)[1]?=some (rawInt k):=by simp
theorem dq_zero{k:Int}{ws:List Value}:(#[Value.none,rawInt k]++ws.toArray)[0]?=some .none:=by simp
theorem fG{k:Int}{ws:List Value}:(#[Value.none,rawInt k]++ws.toArray).extract 2=ws.toArray:=by
 apply Array.ext';simp
theorem body_dqappend{a:Addr}{ws:List Value}{k:Int}{x:Value}{Q:Fin→Shared→Prop}(e:s.heap.get? a=some (dqObj ws k))(hz:ws.length≤100000)(h:∀h',Heap.SameBut a s.heap h'→h'.get? a=some (dqObj (ws++[x]) (k+1))→Q (.done (.ret .none)) { s with heap:=h' }):
  wpAny (model prog w) A (Builtin.«collections.deque.append» ⟨[.ref a,x],[]⟩) Q E s:=by
 have hup:(s.heap.update a (Obj.mapFields fun vs=>#[vs.getD 0 Value.none,rawInt (k+1)]++(vs.extract 2).push x)).get? a=some (dqObj (ws++[x]) (k+1)):=by
  rw [Heap.get?_update_self _ e rfl]
  show some (Obj.mapFields _ (dqObj ws k))=_
  unfold Obj.mapFields
  dsimp only
  rw [fG]
  congr 2
  simp
 unfold Builtin.«collections.deque.append» Builtin.Deque.pushRight Builtin.Deque.change Builtin.Deque.state Builtin.Deque.maxlen
 repeat lk
 rw [dq_one]
 repeat lk
 refine wpAny_update e (wpAny_lookBehind (o:=dqObj (ws++[x]) (k+1)) hup (pastItsLine_fields (by simp;unfold sizeLine;exact o0 hz)) ?_)
 repeat lk
 rw [dq_zero]
 repeat lk
 exact h _ (Heap.SameBut.update ..) hup
theorem body_dqpop{a:Addr}{ws:List Value}{k:Int}{x:Value}{Q:Fin→Shared→Prop}(e:s.heap.get? a=some (dqObj (ws++[x]) k))(hz:ws.length≤100000)(h:∀h',Heap.SameBut a s.heap h'→h'.get? a=some (dqObj ws (k+1))→Q (.done (.ret x)) { s with heap:=h' }):
  wpAny (model prog w) A (Builtin.«collections.deque.pop» ⟨[.ref a],[]⟩) Q E s:=by
 have hup:(s.heap.update a (Obj.mapFields fun vs=>#[vs.getD 0 Value.none,rawInt (k+1)]++(vs.extract 2).pop)).get? a=some (dqObj ws (k+1)):=by
  rw [Heap.get?_update_self _ e rfl]
  show some (Obj.mapFields _ (dqObj (ws++[x]) k))=_
  unfold Obj.mapFields
  dsimp only
  rw [fG]
  congr 2
  simp
 unfold Builtin.«collections.deque.pop» Builtin.Deque.change Builtin.Deque.state Builtin.Deque.items
 repeat lk
 rw [fG,show (ws++[x]).toArray.back?=some x by simp]
 repeat lk
 rw [dq_one]
 repeat lk
 refine wpAny_update e (wpAny_lookBehind (o:=dqObj ws (k+1)) hup (pastItsLine_fields (by simp;unfold sizeLine;exact o73 hz)) ?_)
 repeat lk
 exact h _ (Heap.SameBut.update ..) hup
theorem body_dqnew{Q:Fin→Shared→Prop}(h:Q (.done (.ret (.ref s.heap.objs.size))) { s with heap:=s.heap.push (dqObj [] 0) }):
  wpAny (model prog w) A (Builtin.«collections.deque.__new__» ⟨[.type "collections.deque"],[]⟩) Q E s:=by
 unfold Builtin.«collections.deque.__new__» Builtin.Deque.newArgs Builtin.Deque.new
 repeat lk
 exact h
end
namespace body_dqinit
noncomputable def Cq(prog:Program)(w:World)(A:Around)(E:Value→Shared→Prop)(s:Shared)(a:Addr)(Q:Fin→Shared→Prop):Prop:=∀(e:s.heap.get? a=some (dqObj [] 0)) (h:∀h',Heap.SameBut a s.heap h'→h'.get? a=some (dqObj [] 0)→Q (.done (.ret .none)) { s with heap:=h' }),wpAny (model prog w) A (Builtin.«collections.deque.__init__» ⟨[.ref a],[]⟩) Q E s
noncomputable def Dq(p:Program×World×Around×(Value→Shared→Prop)×Shared×Addr×(Fin→Shared→Prop)):Prop:=Cq p.1 p.2.1 p.2.2.1 p.2.2.2.1 p.2.2.2.2.1 p.2.2.2.2.2.1 p.2.2.2.2.2.2
def tq:=@ep _ (by have:=neAround;have:=neProgram;have:=neShared;have:=neWorld;infer_instance) Dq
def prog:=tq.1
def w:=tq.2.1
def A:=tq.2.2.1
def E:=tq.2.2.2.1
def s:=tq.2.2.2.2.1
def a:=tq.2.2.2.2.2.1
def Q:=tq.2.2.2.2.2.2
theorem T0:Cq prog w A E s a Q:=by
 intro e h
 have hup:(s.heap.update a (Obj.mapFields fun x=>x.setIfInBounds 0 Value.none)).get? a=some (dqObj [] 0):=by
  rw [Heap.get?_update_self _ e rfl]
  rfl
 unfold Builtin.«collections.deque.__init__» Builtin.Deque.clear Builtin.Deque.items
 repeat lk
 refine wpAny_update e ?_
 repeat lk
 exact h _ (Heap.SameBut.update ..) hup
end body_dqinit
section
variable {prog:Program}{w:World}{A:Around}{E:Value→Shared→Prop}{s:Shared}
theorem body_dqinit{a:Addr}{Q:Fin→Shared→Prop}(e:s.heap.get? a=some (dqObj [] 0))(h:∀h',Heap.SameBut a s.heap h'→h'.get? a=some (dqObj [] 0)→Q (.done (.ret .none)) { s with heap:=h' }):
  wpAny (model prog w) A (Builtin.«collections.deque.__init__» ⟨[.ref a],[]⟩) Q E s:=(@eps _ _ body_dqinit.Dq body_dqinit.tq rfl @body_dqinit.T0 (prog,w,A,E,s,a,Q)) e h
end
section
variable {c:Cx}{d u:Nat}{env:Env}{σ:St}{mu:List AO}{K:AV→List AO→Prop}
theorem meth_dq {k:Nat} {name:Str} {id:String} {vs:List AV} {K:Value→List AV→Prop} (slot:Slot "collections.deque" name id) (hty:typeOf (.builtin id)=pure (.type "method_descriptor")) (hmu:mu[k]?=some (.deque vs)) (h:K (.builtin id) [.mut k]):MethOK c name (.mut k) mu K:=fun A g as s pl Q E w G m r q=>by
 obtain ⟨_,rfl,h2⟩:=r.inv
 obtain ⟨o,e,so⟩:=m.at' _ _ _ h2 hmu
 cases so with
 | deque eo rs =>
  subst eo
  exact getMethod_builtin ⟨_,e,rfl⟩ pa_dq slot hty (fun a z=>by cases z;exact ⟨_,e,rfl⟩) (q _ _ _ (.cons (.mut h2) .nil) h)
theorem tr_dq{k:Nat}{vs:List AV}{K:Bool→Prop}(hmu:mu[k]?=some (.deque vs))(hz:vs.length≤100000)(h:K (!vs.isEmpty)):TrOK c d u (.mut k) mu K:=fun A g as s Q E w ro G m r q=>by
 obtain ⟨_,rfl,h2⟩:=r.inv
 obtain ⟨o,e,so⟩:=m.at' _ _ _ h2 hmu
 cases so with
 | @deque ws n _ eo rl =>
  subst eo
  refine truthy_dq e (by rw [rl.length];exact hz) ?_
  rw [show ws.isEmpty=vs.isEmpty by cases rl <;> rfl]
  exact q _ _ h
theorem zF {k:Nat} {vs:List AV} {v:AV} (hmu:mu[k]?=some (.deque vs)) (hz:vs.length≤100000) (h:K .none (mu.set k (.deque (vs++[v])))):CallOK c d u (.builtin "collections.deque.append") [.mut k,v] [] mu K:=fun A g as s Q E ws kws ro G m rs rk q=>by
 obtain rfl:=rk.inv
 obtain ⟨_,_,rfl,r1,rs⟩:=rs.inv
 obtain ⟨_,_,rfl,r2,rs⟩:=rs.inv
 obtain rfl:=rs.inv
 obtain ⟨_,rfl,h2⟩:=r1.inv
 obtain ⟨o,e,so⟩:=m.at' _ _ _ h2 hmu
 cases so with
 | @deque ws n _ eo rl =>
  subst eo
  refine wpAny_call_entry yM ⟨_,e,rfl⟩ en_dqappend (body_dqappend e (by rw [rl.length];exact hz) fun h' hs ho'=>⟨_,rfl,?_⟩) (ar_dqappend _ _)
  exact q .none g as h' s.toks .none _ (StaysIn.refl' g) (List.prefix_refl _) (m.set h2 (fun b o nb hb Z=>(hs.2 b nb).trans hb) ho' (.deque rfl (rl.append (.cons r2 .nil)))) .none h
theorem call_dqpop {k:Nat} {vs:List AV} {v:AV} (hmu:mu[k]?=some (.deque (vs++[v]))) (hz:vs.length≤100000) (h:K v (mu.set k (.deque vs))):CallOK c d u (.builtin "collections.deque.pop") [.mut k] [] mu K:=fun A g as s Q E ws kws ro G m rs rk q=>by
 obtain rfl:=rk.inv
 obtain ⟨_,_,rfl,r1,rs⟩:=rs.inv
 obtain rfl:=rs.inv
 obtain ⟨_,rfl,h2⟩:=r1.inv
 obtain ⟨o,e,so⟩:=m.at' _ _ _ h2 hmu
 cases so with
 | @deque ws n _ eo rl =>
  subst eo
  obtain ⟨ws',w',rfl,rl',rw'⟩:=rl.snoc
  refine wpAny_call_entry sl_dqpop ⟨_,e,rfl⟩ en_dqpop (body_dqpop e (by rw [rl'.length];exact hz) fun h' hs ho'=>⟨_,rfl,?_⟩) (ar_dqpop _)
  exact q w' g as h' s.toks v _ (StaysIn.refl' g) (List.prefix_refl _) (m.set h2 (fun b o nb hb Z=>(hs.2 b nb).trans hb) ho' (.deque rfl rl')) rw' h
end
end Mine.Internal
end
section
open PySem PySem.Spec PySem.Calls PyProof PyProof.Rows PySem.W Builtin Builtin.ObjectAttr Builtin.Getset_descriptor
set_option maxHeartbeats 4000000
set_option tactic.hygienic false
namespace Mine.Internal
theorem xJ{α:Type}{M:Model}{A:Around}{c:Prop}{i:Decidable c}{a b:Sem α}{Q:α→Shared→Prop}{E:Value→Shared→Prop}{s:Shared}(h:¬c)(k:wpAny M A b Q E s):wpAny M A (@ite _ c i a b) Q E s:=by rw [if_neg h];exact k
theorem bne_ne{α:Type}[BEq α][LawfulBEq α]{a:α}:¬(a != a)=true:=by rw [bne_self_eq_false];exact Bool.false_ne_true
theorem ne_of{b:Bool}(h:b=false):¬b=true:=by rw [h];exact Bool.false_ne_true
section
variable {prog:Program}{w:World}{A:Around}{K:Frag}{C:Addr}{R:Result→Shared→Prop}{h:Heap}{g:Array GenState}{d:Drawn}{t:Nat}{os:OsState}
end
namespace make_core'
noncomputable def Cq (prog:Program) (w:World) (A:Around) (C:Addr) (R:Result→Shared→Prop) (h:Heap) (g:Array GenState) (d:Drawn) (t:Nat) (os:OsState) (rest:List Value) (kw:List (Str×Value)) (init:Value):Prop:=∀(Y:Makes (model prog w) h C) (hi:Looks (model prog w) h (typeLookup (.ref C) "__init__") (some init)) (hb:∀self,Looks (model prog w) h (bindSpecial init self) (init,[self])) (hne:(some init != some (Value.builtin "object.__init__"))=true∨(rest=[]∧kw=[])) (hq:wpAny (model prog w) (A.under (.builtin "type.__call__" ⟨.ref C::rest,kw⟩)) (call init ([.ref (h.objs.size+1)]++rest) kw) (fun v s'=>v=.none∧R (.ok (.ret (.ref (h.objs.size+1)))) s') (fun e s'=>R (.error e) s') ⟨(h.push emptyDict).push (instObj C h.objs.size),g,d,t,os⟩),codeAny (model prog w) A (.call (.ref C) ⟨rest,kw⟩) R ⟨h,g,d,t,os⟩
noncomputable def Dq(p:Program×World×Around×Addr×(Result→Shared→Prop)×Heap×(Array GenState)×Drawn×Nat×OsState×(List Value)×(List (Str×Value))×Value):Prop:=Cq p.1 p.2.1 p.2.2.1 p.2.2.2.1 p.2.2.2.2.1 p.2.2.2.2.2.1 p.2.2.2.2.2.2.1 p.2.2.2.2.2.2.2.1 p.2.2.2.2.2.2.2.2.1 p.2.2.2.2.2.2.2.2.2.1 p.2.2.2.2.2.2.2.2.2.2.1 p.2.2.2.2.2.2.2.2.2.2.2.1 p.2.2.2.2.2.2.2.2.2.2.2.2
def tq:=@ep _ (by have:=neAround;have:=neDrawn;have:=neHeap;have:=neOs;have:=neProgram;have:=neWorld;infer_instance) Dq
def prog:=tq.1
def w:=tq.2.1
def A:=tq.2.2.1
def C:=tq.2.2.2.1
def R:=tq.2.2.2.2.1
def h:=tq.2.2.2.2.2.1
def g:=tq.2.2.2.2.2.2.1
def d:=tq.2.2.2.2.2.2.2.1
def t:=tq.2.2.2.2.2.2.2.2.1
def os:=tq.2.2.2.2.2.2.2.2.2.1
def rest:=tq.2.2.2.2.2.2.2.2.2.2.1
def kw:=tq.2.2.2.2.2.2.2.2.2.2.2.1
def init:=tq.2.2.2.2.2.2.2.2.2.2.2.2
theorem T0:Cq prog w A C R h g d t os rest kw init:=by
 intro Y hi hb hne hq
 have Y':=Y
 obtain ⟨⟨oc,od,cd,sl,hC,e1,e2,e4⟩,made,base,self,top,call,typ⟩:=Y
 refine codeAny_of_tree ?_
 show wpAny _ _ (callAny (.ref C) _) _ _ _
 refine nd_load hC ?_
 show wpAny _ _ (callAny.viaDunder (.ref C) _) _ _ _
 unfold callAny.viaDunder
 refine wpAny_bind (call.at ?_)
 dsimp only
 rw [tc_bind]
 refine wpAny_bind (wpAny_pure (wpAny_bind (wpAny_pure ?_)))
 refine wpAny_pure (a:=Fin.again (.call (.builtin "type.__call__") ⟨.ref C::rest,kw⟩)) (And.intro rfl ?_)
 refine' codeAny_call_builtin_at ?y7z0 ?y7z1 ?_
 case y7z0=>exact Code.quiet_builtin _ (by decide +kernel)
 case y7z1=>exact entry_typeCall
 refine' check_slot ?y8z0 ?y8z1 ?y8z2 ?y8z3 ?_
 case y8z0=>exact tc_kind
 case y8z1=>exact tc_split
 case y8z2=>exact typ
 case y8z3=>exact tc_args _ _ _
 unfold Builtin.«type.__call__»
 have hm:Looks (model prog w) h (mroOf (.ref C)) cd.mro:=((Looks.ld (part:=none) hC).andThen .now).andThen .now
 repeat (first | with_reducible refine xJ (ne_of e4) ?_ | with_reducible refine xJ Bool.false_ne_true ?_ | with_reducible refine wpAny_call ?_ | lk)
 refine new_K Y' hi hne ?_
 have k:∀b o,h.get? b=some o→((h.push emptyDict).push (instObj C h.objs.size)).get? b=some o:=fun b o e=>Heap.get?_push_of_some _ (Heap.get?_push_of_some _ e)
 have hx:((h.push emptyDict).push (instObj C h.objs.size)).get? (h.objs.size+1)=some (instObj C h.objs.size):=by heap_get
 have t1:Looks (model prog w) ((h.push emptyDict).push (instObj C h.objs.size)) (typeOf (.ref (h.objs.size+1))) (.ref C):=(Looks.ld hx).andThen .now
 have s1:=self.keeps k
 have i1:=hi.keeps k
 have b1:=(hb (.ref (h.objs.size+1))).keeps k
 unfold isInstance callSpecial? specialOf
 repeat (first | with_reducible refine wpAny_mono hq ?_ ?_ | lk)
 ·rintro v s' ⟨rfl,z⟩
  exact wpAny_pure (wpAny_pure z)
 ·exact fun Z Z z=>z
end make_core'
section
variable {prog:Program}{w:World}{A:Around}{K:Frag}{C:Addr}{R:Result→Shared→Prop}{h:Heap}{g:Array GenState}{d:Drawn}{t:Nat}{os:OsState}
theorem make_core' {rest:List Value} {kw:List (Str×Value)} {init:Value} (Y:Makes (model prog w) h C) (hi:Looks (model prog w) h (typeLookup (.ref C) "__init__") (some init))
  (hb:∀self,Looks (model prog w) h (bindSpecial init self) (init,[self])) (hne:(some init != some (Value.builtin "object.__init__"))=true∨(rest=[]∧kw=[]))
  (hq:wpAny (model prog w) (A.under (.builtin "type.__call__" ⟨.ref C::rest,kw⟩)) (call init ([.ref (h.objs.size+1)]++rest) kw) (fun v s'=>v=.none∧R (.ok (.ret (.ref (h.objs.size+1)))) s') (fun e s'=>R (.error e) s') ⟨(h.push emptyDict).push (instObj C h.objs.size),g,d,t,os⟩) :
  codeAny (model prog w) A (.call (.ref C) ⟨rest,kw⟩) R ⟨h,g,d,t,os⟩:=(@eps _ _ make_core'.Dq make_core'.tq rfl @make_core'.T0 (prog,w,A,C,R,h,g,d,t,os,rest,kw,init)) Y hi hb hne hq
structure OwnNew(K:Frag)(C P fN:Addr):Prop where
 obj:∃oc od cd sl,K.lookup C=some ⟨oc,od,.cls cd,sl⟩∧(sl.toList[4]?).join=some .none∧cd.mro.isEmpty=false∧cd.mro.contains (.ref C)=true
 call:specialIn K (.ref C) "__call__"=some (some (.builtin "type.__call__"))
 typ:instIn K (.ref C) (.type "type")=some true
 reads:readsIn K C (.type "type")=true
 find:findCls K (.ref C) (.type "type") "__new__"=some (.get (.builtin "staticmethod.__get__") (.ref P) .none (.ref C))
 smr:∃rest,recIn K P "staticmethod"=some (.ref fN::rest)
end
namespace make_own
noncomputable def Cq (prog:Program) (w:World) (A:Around) (K:Frag) (C:Addr) (R:Result→Shared→Prop) (h:Heap) (g:Array GenState) (d:Drawn) (t:Nat) (os:OsState) (rest:List Value) (kw:List (Str×Value)) (P fN fI:Addr):Prop:=∀(X:K.In h) (Y:OwnNew K C P fN) (hi:findIn K (.ref C) "__init__"=some (some (.ref fI))) (hf:typeIn K (.ref fI)=some (.type "function")) (hq:∀t',wpAny (model prog w) (A.under (.builtin "type.__call__" ⟨.ref C::rest,kw⟩)) (call (.ref fN) (.ref C::rest) kw) (fun v s1=>∃x dx,v=.ref x∧K.In s1.heap∧s1.heap.get? x=some (instObj C dx) ∧
   wpAny (model prog w) (A.under (.builtin "type.__call__" ⟨.ref C::rest,kw⟩)) (call (.ref fI) ([.ref x]++rest) kw) (fun v s'=>v=.none∧R (.ok (.ret (.ref x))) s') (fun e s'=>R (.error e) s') s1) (fun e s'=>R (.error e) s') ⟨h,g,d,t',os⟩),codeAny (model prog w) A (.call (.ref C) ⟨rest,kw⟩) R ⟨h,g,d,t,os⟩
noncomputable def Dq(p:Program×World×Around×Frag×Addr×(Result→Shared→Prop)×Heap×(Array GenState)×Drawn×Nat×OsState×(List Value)×(List (Str×Value))×Addr×Addr×Addr):Prop:=Cq p.1 p.2.1 p.2.2.1 p.2.2.2.1 p.2.2.2.2.1 p.2.2.2.2.2.1 p.2.2.2.2.2.2.1 p.2.2.2.2.2.2.2.1 p.2.2.2.2.2.2.2.2.1 p.2.2.2.2.2.2.2.2.2.1 p.2.2.2.2.2.2.2.2.2.2.1 p.2.2.2.2.2.2.2.2.2.2.2.1 p.2.2.2.2.2.2.2.2.2.2.2.2.1 p.2.2.2.2.2.2.2.2.2.2.2.2.2.1 p.2.2.2.2.2.2.2.2.2.2.2.2.2.2.1 p.2.2.2.2.2.2.2.2.2.2.2.2.2.2.2
def tq:=@ep _ (by have:=neAround;have:=neDrawn;have:=neHeap;have:=neOs;have:=neProgram;have:=neWorld;infer_instance) Dq
def prog:=tq.1
def w:=tq.2.1
def A:=tq.2.2.1
def K:=tq.2.2.2.1
def C:=tq.2.2.2.2.1
def R:=tq.2.2.2.2.2.1
def h:=tq.2.2.2.2.2.2.1
def g:=tq.2.2.2.2.2.2.2.1
def d:=tq.2.2.2.2.2.2.2.2.1
def t:=tq.2.2.2.2.2.2.2.2.2.1
def os:=tq.2.2.2.2.2.2.2.2.2.2.1
def rest:=tq.2.2.2.2.2.2.2.2.2.2.2.1
def kw:=tq.2.2.2.2.2.2.2.2.2.2.2.2.1
def P:=tq.2.2.2.2.2.2.2.2.2.2.2.2.2.1
def fN:=tq.2.2.2.2.2.2.2.2.2.2.2.2.2.2.1
def fI:=tq.2.2.2.2.2.2.2.2.2.2.2.2.2.2.2
theorem T0:Cq prog w A K C R h g d t os rest kw P fN fI:=by
 intro X Y hi hf hq
 obtain ⟨⟨oc,od,cd,sl,hC,e3,e4,e5⟩,call,typ,reads,find,rc⟩:=Y
 have hC':=X _ _ hC
 have call':=looks_specialIn (M:=model prog w) X call
 have typ':=looks_instIn (M:=model prog w) X typ
 obtain ⟨r',hr'⟩:=rc
 refine codeAny_of_tree ?_
 show wpAny _ _ (callAny (.ref C) _) _ _ _
 refine nd_load hC' ?_
 show wpAny _ _ (callAny.viaDunder (.ref C) _) _ _ _
 unfold callAny.viaDunder
 refine wpAny_bind (call'.at ?_)
 dsimp only
 rw [tc_bind]
 refine wpAny_bind (wpAny_pure (wpAny_bind (wpAny_pure ?_)))
 refine wpAny_pure (a:=Fin.again (.call (.builtin "type.__call__") ⟨.ref C::rest,kw⟩)) (And.intro rfl ?_)
 refine' codeAny_call_builtin_at ?y9z0 ?y9z1 ?_
 case y9z0=>exact Code.quiet_builtin _ (by decide +kernel)
 case y9z1=>exact entry_typeCall
 refine' check_slot ?y10z0 ?y10z1 ?y10z2 ?y10z3 ?_
 case y10z0=>exact tc_kind
 case y10z1=>exact tc_split
 case y10z2=>exact typ'
 case y10z3=>exact tc_args _ _ _
 unfold Builtin.«type.__call__»
 have hm:Looks (model prog w) h (mroOf (.ref C)) cd.mro:=((Looks.ld (part:=none) hC').andThen .now).andThen .now
 have made:Looks (model prog w) h (Bind.madeBy (.ref C)) none:=by
  obtain ⟨c0,l,hl⟩:∃c l,cd.mro=c::l:=by cases q:cd.mro with | nil=>rw [q] at e4;cases e4 | cons c l=>exact ⟨c,l,rfl⟩
  intro A Q E s k q
  unfold Bind.madeBy
  refine wpAny_bind (hm A _ E s k ?_)
  rw [hl,List.forIn_cons]
  refine wpAny_bind (wpAny_bind (wpAny_bind (wpAny_bind (wpAny_loadPart (k _ _ hC') (wpAny_pure ?_)))))
  dsimp only
  rw [← Array.getElem?_toList,e3]
  exact wpAny_pure (wpAny_pure (wpAny_pure q))
 repeat (first | with_reducible refine xJ (ne_of e4) ?_ | with_reducible refine xJ Bool.false_ne_true ?_ | with_reducible refine cls_bind X reads find ?_ | with_reducible refine wpAny_call ?_ | lk)
 refine (sm_get (s:=⟨h,g,d,t+1,os⟩) X hr' ?_)
 dsimp only
 rw [handedOut_of (by rfl)]
 repeat (first | with_reducible refine wpAny_mono (hq (t+1)) ?_ (fun Z Z z=>z) | lk)
 rintro v ⟨h1,g1,d1,t1,os1⟩ ⟨x,dx,rfl,X1,hx,hq2⟩
 dsimp only at X1 hx
 have s1:Looks (model prog w) h1 (isSubtype (.ref C) (.ref C)) true:=looks_mroIn X1 (by unfold mroIn clsIn;rw [hC,Option.bind_some,if_neg (by rw [e4];decide),e5])
 have t1':Looks (model prog w) h1 (typeOf (.ref x)) (.ref C):=(Looks.ld hx).andThen .now
 have i1:=looks_findIn (M:=model prog w) X1 hi
 have b1:=bind_fn (M:=model prog w) X1 (.ref x) hf
 unfold isInstance callSpecial? specialOf
 repeat (first | with_reducible refine wpAny_mono hq2 ?_ ?_ | lk)
 ·rintro v s' ⟨rfl,z⟩
  exact wpAny_pure (wpAny_pure z)
 ·exact fun Z Z z=>z
end make_own
section
variable {prog:Program}{w:World}{A:Around}{K:Frag}{C:Addr}{R:Result→Shared→Prop}{h:Heap}{g:Array GenState}{d:Drawn}{t:Nat}{os:OsState}
theorem make_own {rest:List Value} {kw:List (Str×Value)} {P fN fI:Addr} (X:K.In h) (Y:OwnNew K C P fN) (hi:findIn K (.ref C) "__init__"=some (some (.ref fI))) (hf:typeIn K (.ref fI)=some (.type "function"))
  (hq:∀t',wpAny (model prog w) (A.under (.builtin "type.__call__" ⟨.ref C::rest,kw⟩)) (call (.ref fN) (.ref C::rest) kw) (fun v s1=>∃x dx,v=.ref x∧K.In s1.heap∧s1.heap.get? x=some (instObj C dx) ∧
   wpAny (model prog w) (A.under (.builtin "type.__call__" ⟨.ref C::rest,kw⟩)) (call (.ref fI) ([.ref x]++rest) kw) (fun v s'=>v=.none∧R (.ok (.ret (.ref x))) s') (fun e s'=>R (.error e) s') s1) (fun e s'=>R (.error e) s') ⟨h,g,d,t',os⟩) :
  codeAny (model prog w) A (.call (.ref C) ⟨rest,kw⟩) R ⟨h,g,d,t,os⟩:=(@eps _ _ make_own.Dq make_own.tq rfl @make_own.T0 (prog,w,A,K,C,R,h,g,d,t,os,rest,kw,P,fN,fI)) X Y hi hf hq
end
end Mine.Internal
end
section
open PySem PySem.Spec PySem.Calls PyProof PyProof.Rows PySem.W
set_option maxHeartbeats 1000000
set_option tactic.hygienic false
namespace Mine.Internal
section
variable {c:Cx}{d u:Nat}{env:Env}{σ:St}{mu:List AO}{K:AV→List AO→Prop}
theorem KwR.mono{g g':Heap}{as as':List Addr}(hg:g.StaysIn g')(ha:as<+:as'){l:List (Str×Value)}{r:List (Str×AV)}(q:KwR g as l r):KwR g' as' l r:=by
 induction q with
 | nil=>exact .nil
 | cons h _ ih=>exact .cons (h.mono hg ha) ih
theorem xM {A:Around} {C:Addr} {rest:List Value} {kw:List (Str×Value)} (ro:Room A d u):Room (A.under (.builtin "type.__call__" ⟨.ref C::rest,kw⟩)) (d+1) (u+1) :=
 ⟨ro.hd,by
  have e:(Code.builtin "type.__call__" ⟨.ref C::rest,kw⟩).weight=1:=rfl
  show A.depth+(Code.builtin "type.__call__" ⟨.ref C::rest,kw⟩).weight≤_
  rw [e];exact Nat.succ_le_succ ro.dp,by
  have e:(Code.builtin "type.__call__" ⟨.ref C::rest,kw⟩).cUnits=1:=rfl
  show A.units+(Code.builtin "type.__call__" ⟨.ref C::rest,kw⟩).cUnits≤_
  rw [e];exact Nat.succ_le_succ ro.un⟩
theorem MuR.newInst{P:Params}{g:Heap}{as:List Addr}{h:Heap}(m:MuR P g as mu h)(C:Addr):E3 (fun g'=>g.StaysIn g') (fun g'=>MuR P g' (as++[h.objs.size]) (mu++[.dict []]) ((h.push emptyDict).push (instObj C h.objs.size))) (fun g'=>Rel g' (as++[h.objs.size]) (.ref (h.objs.size+1)) (.inst C mu.length)):=by
 have m1:=m.grow emptyDict rfl (ao:=.dict []) (.dict (es:=[]) (n:=0) rfl .nil)
 obtain ⟨g',st,e,m2⟩:=m1.frozen (instObj C h.objs.size) rfl
 refine ⟨g',st,m2,?_⟩
 rw [Heap.size_push] at e
 refine .inst e ?_
 rw [← m.len,List.getElem?_append_right (Nat.le_refl _)]
 simp
theorem call_make {C fI:Addr} {args:List AV} {kw:List (Str×AV)} (hm:makesIn c.K C=true) (hi:findIn c.K (.ref C) "__init__"=some (some (.ref fI))) (hf:typeIn c.K (.ref fI)=some (.type "function"))
  (h:CallOK c (d+1) (u+1) (.ref fI) (.inst C mu.length::args) kw (mu++[.dict []]) (fun v mu'=>v=.none∧K (.inst C mu.length) mu')):CallOK c d u (.ref C) args kw mu K:=fun A g as s Q E ws kws ro G m rs rk q=>by
 obtain ⟨hh,gg,dd,t,os⟩:=s
 have X:=G.X.keeps m.keep
 refine wpAny_call (make_core' (makes_of X hm) (looks_findIn X hi) (fun self=>bind_fn X self hf) (.inl rfl) ?_)
 obtain ⟨g',st,m2,ri⟩:=m.newInst C
 refine h _ g' _ _ _ _ _ _ (xM ro) (G.keeps st) m2 (.cons ri (rs.mono st (List.prefix_append _ _))) (KwR.mono st (List.prefix_append _ _) rk) fun v g2 as2 h2 tk2 av mu2 hg2 ha2 m3 rv k=>?_
 obtain ⟨rfl,k⟩:=k
 obtain ⟨_,rfl⟩:=rv.inv
 exact ⟨rfl,q _ g2 as2 h2 tk2 _ mu2 (StaysIn.trans' st hg2) ((List.prefix_append _ _).trans ha2) m3 (ri.mono hg2 ha2) k⟩
theorem call_own {C P fN fI:Addr} {args:List AV} {kw:List (Str×AV)} (Y:OwnNew c.K C P fN) (hi:findIn c.K (.ref C) "__init__"=some (some (.ref fI))) (hf:typeIn c.K (.ref fI)=some (.type "function"))
  (h:CallOK c (d+1) (u+1) (.ref fN) (.st (.ref C)::args) kw mu (fun v mu1=>∃k,v=.inst C k∧CallOK c (d+1) (u+1) (.ref fI) (.inst C k::args) kw mu1 (fun v mu'=>v=.none∧K (.inst C k) mu'))):CallOK c d u (.ref C) args kw mu K:=fun A g as s Q E ws kws ro G m rs rk q=>by
 obtain ⟨hh,gg,dd,t,os⟩:=s
 have X:=G.X.keeps m.keep
 refine wpAny_call (make_own X Y hi hf fun t'=>?_)
 refine h _ g _ _ _ _ _ _ (xM ro) G m (.cons (.st _) rs) rk fun v g2 as2 h2 tk2 av mu2 hg2 ha2 m3 rv k=>?_
 obtain ⟨k,rfl,hk⟩:=k
 obtain ⟨x,dx,rfl,e1,e2⟩:=rv.inv
 refine ⟨x,dx,rfl,(G.X.keeps hg2).keeps m3.keep,m3.keep _ _ e1,?_⟩
 refine hk _ g2 _ _ _ _ _ _ (xM ro) (G.keeps hg2) m3 (.cons (.inst e1 e2) (rs.mono hg2 ha2)) (KwR.mono hg2 ha2 rk) fun v g3 as3 h3 tk3 av mu3 hg3 ha3 m4 rv k=>?_
 obtain ⟨rfl,k⟩:=k
 obtain ⟨_,rfl⟩:=rv.inv
 exact ⟨rfl,q _ g3 as3 h3 tk3 _ mu3 (StaysIn.trans' hg2 hg3) (ha2.trans ha3) m4 (Rel.mono hg3 ha3 (.inst e1 e2)) k⟩
end
end Mine.Internal
end
section
open PySem PySem.Spec PySem.Calls PyProof PyProof.Rows PySem.W
set_option tactic.hygienic false
namespace Mine.Internal
inductive ConstPairs:List (Option Expr)→List Expr→List (Str×Str)→Prop
 | nil:ConstPairs [] [] []
 | cons {k v:Str} {n1 n2:Nat} {p1 p2:Pos} {ks:List (Option Expr)} {vs:List Expr} {r:List (Str×Str)}:ConstPairs ks vs r→ConstPairs (some (.Constant (.str k) n1 p1)::ks) (.Constant (.str v) n2 p2::vs) ((k,v)::r)
inductive TextPairs:List (Value×Value)→List (Str×Str)→Prop
 | nil:TextPairs [] []
 | cons {k v:Str} {t t':Tok} {l:List (Value×Value)} {r:List (Str×Str)}:TextPairs l r→TextPairs ((.str k t,.str v t')::l) ((k,v)::r)
theorem TextPairs.keys{l:List (Value×Value)}{r:List (Str×Str)}(q:TextPairs l r):allStrKeys l=true∧(strPairs l).map (·.1)=r.map (·.1):=by
 induction q with
 | nil=>exact ⟨rfl,rfl⟩
 | cons h ih=>exact ⟨ih.1,congrArg (List.cons _) ih.2⟩
theorem TextPairs.at{l:List (Value×Value)}{r:List (Str×Str)}{x y:Str}(q:TextPairs l r):r.lookup x=some y→∃t,valueAt (strPairs l) x=some (.str y t):=by
 induction q with
 | nil=>intro e;cases e
 | @cons k v t t' l r h ih =>
  intro e
  rw [List.lookup_cons] at e
  show ∃t,((List.find? (fun kv=>decide (kv.1=x)) ((k,Value.str v t')::strPairs l)).map (·.2))=some (.str y t)
  by_cases hb:x=k
  ·subst hb
   rw [beq_self_eq_true] at e
   cases e
   exact ⟨t',by simp⟩
  ·rw [beq_eq_false_iff_ne.mpr hb] at e
   obtain ⟨t,ht⟩:=ih e
   refine ⟨t,?_⟩
   rw [List.find?_cons_of_neg (by simp;exact fun z=>hb z.symm)]
   exact ht
section
variable {prog:Program}{w:World}{A:Around}{E:Value→Shared→Prop}{env:Env}
theorem pairs_walk{pos:Pos}{keys:List (Option Expr)}{values:List Expr}{ps:List (Str×Str)}(e:ConstPairs keys values ps):∀{s:Shared} {Q:List (Value×Value)→Shared→Prop},
  (∀l tk,TextPairs l ps→Q l { s with toks:=tk })→wpAny (model prog w) A (evalPairs (pairTrees keys values env pos)) Q E s:=by
 induction e with
 | nil=>intro s Q q;exact pairTrees_nil_walk (q [] s.toks .nil)
 | cons e ih =>
  intro s Q q
  refine pairTrees_cons_walk (wpAny_mkText (wpAny_mkText ?_))
  exact ih (s:={ s with toks:=s.toks+1+1 }) fun l tk h=>q _ tk (.cons h)
end
section
variable {c:Cx}{d u:Nat}{env:Env}{σ:St}
noncomputable def IsTexts(P:Program)(w:World)(o:Obj)(ps:List (Str×Str)):Prop:=∃l,TextPairs l ps∧o.IsDictOf (PySem.strKind P w) (strPairs l)
theorem one_raw{l:List AO}(h1:l.length=1)(h2:allRaw l):∃o,l=[.raw o]:=by
 cases l with
 | nil=>simp at h1
 | cons a r =>
  cases r with
  | cons b r=>simp at h1
  | nil =>
   cases a with
   | raw o=>exact ⟨o,rfl⟩
   | list _=>exact h2.elim
   | dict _=>exact h2.elim
   | deque _=>exact h2.elim
theorem ev_dictS{keys:List (Option Expr)}{values:List Expr}{pos:Pos}{K:AV→St→Prop}{ps:List (Str×Str)}(hp:ConstPairs keys values ps)(hnd:(ps.map (·.1)).Nodup)(hall:keys.all (·.isSome)=true)(hl:keys.length=values.length)(h0:keys≠[])(hlen:keys.length≤15)
  (h:∀o,IsTexts c.prog c.w o ps→K (.mut σ.mu.length) { σ with mu:=σ.mu++[.raw o] }):EvOK c d u env (.Dict keys values pos) σ K:=fun A g as cs s Q E ro G r q=>by
 refine wpAny_Dict_walk (knd:=PySem.strKind c.prog c.w) hall hl h0 hlen (pairs_walk hp fun l tk hT=>?_)
 obtain ⟨k1,k2⟩:=hT.keys
 refine display_done_str (prog:=c.prog) (w:=c.w) k1 (k2▸hnd) (Heap.DictOf.new s.heap) fun h' hd hs=>?_
 obtain ⟨o,ho,hio⟩:=Heap.dictOf_iff.mp hd
 have fr:=r.fresh
 have r1:R c.w.params g as cs env σ h':=r.keepBut (wr:=[]) (fun b hb=>(nomatch hb)) fun b o' Z e=>by
  have hb:b≠s.heap.objs.size:=fun z=>by subst z;exact absurd (Heap.lt_size e) (Nat.lt_irrefl _)
  exact (hs.2 b hb).trans (Heap.get?_push_of_some _ e)
 obtain ⟨raws,hl1,hr1,r2⟩:=R.adopt (loc:=σ.loc) (mu:=σ.mu) r1 (wr:=[s.heap.objs.size]) (by simp) (fun b hb=>by
  rw [List.mem_singleton.mp hb];exact ⟨fr.1,fr.2.1,fr.2.2.1,o,ho⟩)
 obtain ⟨o',rfl⟩:=one_raw hl1 hr1
 have hlen:=r.mu.len
 obtain ⟨o2,e2,s2⟩:=r2.mu.at' as.length s.heap.objs.size (.raw o') (by simp) (by show (σ.mu++[.raw o'])[as.length]?=_;rw [hlen];simp)
 cases s2
 rw [ho] at e2;cases e2
 exact q _ g _ h' _ (.mut σ.mu.length) _ (StaysIn.refl' g) (List.prefix_append _ _) r2 (.mut (by rw [← hlen];simp)) (h o ⟨l,hT,hio⟩)
theorem sub_dictS{value slice:Expr}{k:Nat}{o:Obj}{ps:List (Str×Str)}{x y:Str}{mu:List AO}{K:AV→List AO→Prop}(hmu:mu[k]?=some (.raw o))(ho:IsTexts c.prog c.w o ps)(hv:ps.lookup x=some y)(hs:∀o i,subscripted slice false o i=operate [o,i] (getItem o i))(h:K (.str y) mu):Op2OK c d u (subscriptTail value slice) (.mut k) (.str x) mu K:=fun A g as s Q E w1 w2 ro G m r1 r2 q=>by
 obtain ⟨t,rfl⟩:=r2.inv
 obtain ⟨_,rfl,h2⟩:=r1.inv
 obtain ⟨o1,e,so⟩:=m.at' _ _ _ h2 hmu
 obtain ⟨_,rfl⟩:=so.inv
 obtain ⟨l,hT,hio⟩:=ho
 have hd:s.heap.DictOf (PySem.strKind c.prog c.w) _ (strPairs l):=Heap.dictOf_iff.mpr ⟨_,e,hio⟩
 obtain ⟨t',hv'⟩:=hT.at hv
 exact tail_any hd.typeIs slot_dict_getitem.lookup (wpAny_getItem_of (knd:=PySem.strKind c.prog c.w) (k:=x) (by simp [PySem.strKind,Value.isStrOf]) hd.mapOf hv' (q _ g as s.heap _ _ mu (StaysIn.refl' g) (List.prefix_refl _) m (.str _ _) h)) (hs _ _)
end
section
variable {c:Cx}{d u:Nat}{env:Env}{σ:St}{mu:List AO}
theorem for_foldB{α β:Type}{tgt:Expr}{body orelse:List Stmt}{m n:Nat}{K:Fl→St→Prop}(I:List β→α→Prop)(L:α→List (Str×AV))(emb:β→AV)(step:α→β→α)(A:α→List AO)(hlen:∀a,(A a).length=n)
  (hA:∀xs a,I xs a→∀ao∈A a,ao.under n=true) (hL:∀xs a,I xs a→∀p∈L a,p.2.under n=true)
  (ht:∀a b xs,I (b::xs) a→I xs (step a b)∧∃loc',bindT tgt (emb b) (L a)=some loc'∧∀raws,SsOK c d u env (execs body env) ⟨loc',A a++raws⟩ (fun f σ'=>(f=.next∨f=.cont)∧Sub (L (step a b)) σ'.loc∧∃B,σ'.mu=A (step a b)++raws++B)):∀(xs:List β) (a:α) (B:List AO),I xs a →
  (I [] (xs.foldl step a)→SsOK c d u env (execs orelse env) ⟨L (xs.foldl step a),A (xs.foldl step a)⟩ K)→ForOK' c d u env tgt body orelse m (xs.map emb) (L a) (A a) B K:=by
 intro zz
 induction zz with
 | nil =>
  intro a B hI he
  exact ⟨fun p hp=>by rw [hlen];exact hL [] a hI p hp,fun ao ho=>by rw [hlen];exact hA [] a hI ao ho,he hI⟩
 | cons b xs ih =>
  intro a B hI he
  obtain ⟨hI',loc',h1,h2⟩:=ht a b xs hI
  refine ⟨loc',h1,fun raws hr har=>?_⟩
  have h3:=h2 (raws++B)
  rw [← List.append_assoc] at h3
  refine h3.mono fun f σ' hf=>?_
  obtain ⟨hf,hs,B',hm⟩:=hf
  have rest:=ih (step a b) (B++B') hI' he
  have hl:(A (step a b)).length=(A a).length:=by rw [hlen,hlen]
  have hm2:σ'.mu=A (step a b)++raws++(B++B'):=by rw [hm];simp
  rcases hf with rfl | rfl
  ·exact ⟨L (step a b),A (step a b),_,hs,hm2,hl,rest⟩
  ·exact ⟨L (step a b),A (step a b),_,hs,hm2,hl,rest⟩
theorem for_find{β:Type}{tgt:Expr}{body orelse:List Stmt}{m:Nat}{K:Fl→St→Prop}(emb:β→AV)(p:β→Bool)(L:β→List (Str×AV))(loc0:List (Str×AV))(A:List AO)(hA:∀ao∈A,ao.under A.length=true)(hL0:∀q∈loc0,q.2.under A.length=true):∀(xs:List β),
  (∀b∈xs,bindT tgt (emb b) loc0=some (L b)) →
  (∀b∈xs,p b=false→∀raws,SsOK c d u env (execs body env) ⟨L b,A++raws⟩ (fun f σ'=>(f=.next∨f=.cont)∧Sub loc0 σ'.loc∧σ'.mu=A++raws)) →
  (∀b,xs.find? p=some b→∀raws,SsOK c d u env (execs body env) ⟨L b,A++raws⟩ (fun f σ'=>f=.brk∧K .next σ')) →
  (xs.find? p=none→SsOK c d u env (execs orelse env) ⟨loc0,A⟩ K)→ForOK' c d u env tgt body orelse m (xs.map emb) loc0 A [] K:=by
 intro zz
 induction zz with
 | nil =>
  intro h1 h2 h3 h4
  exact ⟨hL0,hA,h4 rfl⟩
 | cons b xs ih =>
  intro h1 h2 h3 h4
  refine ⟨L b,h1 b (.head _),fun raws hr har=>?_⟩
  rw [List.append_nil]
  by_cases hp:p b=true
  ·refine (h3 b (List.find?_cons_of_pos hp) raws).mono fun f σ' hf=>?_
   obtain ⟨rfl,hk⟩:=hf
   exact hk
  ·have hpf:p b=false:=by simpa using hp
   have ef:(b::xs).find? p=xs.find? p:=List.find?_cons_of_neg hp
   refine (h2 b (.head _) hpf raws).mono fun f σ' hf=>?_
   obtain ⟨hf,hs,hm⟩:=hf
   have rest:=ih (fun b hb=>h1 b (.tail _ hb)) (fun b hb=>h2 b (.tail _ hb)) (fun b hb=>h3 b (ef.trans hb)) (fun hb=>h4 (ef.trans hb))
   rcases hf with rfl | rfl
   ·exact ⟨loc0,A,[],hs,by rw [List.append_nil];exact hm,rfl,rest⟩
   ·exact ⟨loc0,A,[],hs,by rw [List.append_nil];exact hm,rfl,rest⟩
end
end Mine.Internal
end
section
open PySem PySem.Spec PySem.Calls PyProof PyProof.Rows PySem.W
set_option maxHeartbeats 1000000
set_option tactic.hygienic false
namespace Mine.Internal
section
variable {c:Cx}{d u:Nat}{env:Env}{σ:St}{mu:List AO}{K:AV→List AO→Prop}
noncomputable def CodeOK(c:Cx)(d u:Nat)(f:Value)(args:List AV)(mu:List AO)(K:AV→List AO→Prop):Prop :=
 ∀(A:Around) (g:Heap) (as:List Addr) (s:Shared) (Q:Value→Shared→Prop) (E:Value→Shared→Prop) (ws:List Value),Room A d u→Gd c.K c.mg c.mb g→MuR c.w.params g as mu s.heap→Rels g as ws args →
  (∀v g' as' h' tk' av mu',g.StaysIn g'→as<+:as'→MuR c.w.params g' as' mu' h'→Rel g' as' v av→K av mu'→Q v (sh s h' tk')) →
  codeAny (model c.prog c.w) A (.call f ⟨ws,[]⟩) (fun r s'=>match r with | .ok (.ret v)=>Q v s' | .ok _=>False | .error e=>E e s') s
theorem code_fn{f:Addr}{args:List AV}{name qual:Str}{params:Arguments}{body:List Stmt}{scope:Scope}{dV kV doc pm cdv ct oc:Value}{an od:Option Addr}{osl:Array (Option Value)}
  {loc:List (Str×AV)} (ho:c.K.lookup f=some ⟨oc,od,.func (fnOf name qual params body scope dV kV doc pm an cdv ct),osl⟩) (hcd:codeIn c.K cdv qual=true) (hroom:d < recursionLimit)
  (hb:BindOK c (fnOf name qual params body scope dV kV doc pm an cdv ct) args [] loc)
  (h:∀L,SsOK c (d+1) (u+3) (envOf qual scope L f cdv) (execs body (envOf qual scope L f cdv)) ⟨loc,mu⟩ (backK K))
  (hco:scope.isCoroutine=false) (hgen:scope.isGenerator=false) (hk:scope.kind=.function) (hcell:∀x∈scope.names,x.2≠.cell) (hloc0:∀p∈loc,scope.names.lookup p.1=some .local) :
  CodeOK c d u (.ref f) args mu K:=fun A g as s Q E ws ro G m rs q=>by
 obtain ⟨binds,hbi,hloc,hrel⟩:=hb g as s ws [] G m.keep rs .nil
 refine codeAny_call_def (fd:=fnOf name qual params body scope dV kV doc pm an cdv ct) (body:=body) (binds:=binds) (Nat.lt_of_le_of_lt ro.dp hroom) (m.keep _ _ (G.X _ _ ho)) rfl (G.lim.keeps m.keep) (codeRec_of (G.X.keeps m.keep) hcd) rfl hbi hcell hloc (fun h₁ hns hk₁=>?_) hco hgen hk
 obtain ⟨hL,hLas⟩:=m.size_out
 have r₀:R c.w.params g as [] (envOf qual scope s.heap.objs.size f cdv) ⟨loc,mu⟩ h₁ :=
  {mu:=⟨fun b o e=>hk₁ _ _ (m.keep b o e),m.len,m.nd,fun k a ao h1 h2=>by
    obtain ⟨o,e1,e2⟩:=m.at' k a ao h1 h2
    exact ⟨o,hk₁ _ _ e1,e2⟩,m.out⟩
   ns:=⟨_,hns,fun x av Z hv=>hrel x av hv⟩
   cl:=fun x av hx hv=>by
    have hkf:(envOf qual scope s.heap.objs.size f cdv).kindOf x=scope.names.lookup x:=rfl
    have hmem:=vH hv
    rw [hkf,hloc0 _ hmem] at hx
    rcases hx with hx | hx <;> cases hx
   off:=fun a ha=>by
    rcases List.mem_cons.mp ha with e | e
    ·subst e;exact ⟨hL,hLas⟩
    ·cases e
   nd:=by simp
   cells:=fun x c' e=>by cases e
   inj:=fun x y c' e=>by cases e
   cc:=fun a ha=>by cases ha }
 exact h s.heap.objs.size (A.deeper (envOf qual scope s.heap.objs.size f cdv)) g as [] _ _ _ ⟨ro.hd,Nat.succ_le_succ ro.dp,Nat.add_le_add_right ro.un 3⟩ G r₀ fun fl g' as' h' tk' af σ' hg ha r' rf k=>by
  cases rf with
  | next=>exact q .none g' as' h' tk' .none σ'.mu hg ha r'.mu .none k
  | brk=>exact k.elim
  | cont=>exact k.elim
  | ret rv=>exact q _ g' as' h' tk' _ σ'.mu hg ha r'.mu rv k
structure PropAt(K:Frag)(C:Addr)(name:Str)(fget:Addr):Prop where
 hg:plainGet K C name=true
 hh:hasDictIn K C=true
 p:∃p rest,findIn K (.ref C) name=some (some (.ref p))∧specialIn K (.ref p) "__get__"=some (some (.builtin "property.__get__"))∧takesIn K (.ref p)=some true∧recIn K p "property"=some (.ref fget::rest)
theorem get_prop'{C fget:Addr}{k:Nat}{name:Str}{attrs:List (Str×AV)}(hp:PropAt c.K C name fget)(hmu:mu[k]?=some (.dict attrs))(h:CodeOK c d (u+1) (.ref fget) [.inst C k] mu (fun v mu'=>v.plain=true∧K v mu')):
  Op1OK c d u (fun o=>getAttr o name true) (.inst C k) mu K:=fun A g as s Q E w ro G m r q=>by
 obtain ⟨hg,hh,p,rest,h1,h2,h3,h4⟩:=hp
 obtain ⟨_,_,rfl,e1,e2⟩:=r.inv
 obtain ⟨o,e,so⟩:=m.at' _ _ _ e2 hmu
 cases so with
 | dict eo en =>
  subst eo
  have X:=G.X.keeps m.keep
  have I:InstAt s.heap _ _ C (some (dictOf _ _)):=⟨m.keep _ _ e1,rfl,rfl,e⟩
  refine get_bind X I (plainGet_of hg).1 (findObj_data (by obtain ⟨cd,hc,_⟩:=any_some hh;rw [hc];rfl) h1 h2 h3) (plainGet_of hg).2 (wpAny_call (prop_get (s:={ s with toks:=s.toks+1 }) X h4 ?_))
  refine h A.in1 g as { s with toks:=s.toks+1 } (fun v s'=>wpAny (model c.prog c.w) A (handedOut v) Q E s') _ [.ref _] ⟨ro.hd,ro.dp,Nat.succ_le_succ ro.un⟩ G m (.cons (.inst e1 e2) .nil) fun v g' as' h' tk' av mu' x1 x2 x3 x4 x5=>?_
  rw [handedOut_of (x4.handed x5.1)]
  exact wpAny_pure (q v g' as' h' tk' av mu' x1 x2 x3 x4 x5.2)
noncomputable def KsOK(c:Cx)(d u:Nat)(env:Env)(kws:List Keyword)(σ:St)(K:List AV→St→Prop):Prop :=
 ∀(A:Around) (g:Heap) (as cs:List Addr) (s:Shared) (Q:List Value→Shared→Prop) (E:Value→Shared→Prop) (pos:Pos),Room A d u→Gd c.K c.mg c.mb g→R c.w.params g as cs env σ s.heap →
  (∀vs g' as' h' tk' avs σ',g.StaysIn g'→as<+:as'→R c.w.params g' as' cs env σ' h'→Rels g' as' vs avs→K avs σ'→Q vs (sh s h' tk')) →
  wpAny (model c.prog c.w) A (evalAll ((backToKw pos (keywordEach kws env)).map (·.2))) Q E s
theorem ks_nil{K:List AV→St→Prop}(h:K [] σ):KsOK c d u env [] σ K:=fun A g as cs s Q E pos ro G r q =>
 kwAll_nil (q [] g as s.heap s.toks [] σ (StaysIn.refl' g) (List.prefix_refl _) r .nil h)
theorem ks_cons{name:Str}{value:Expr}{p:Pos}{rest:List Keyword}{K:List AV→St→Prop}(h:EvOK c d u env value σ (fun a σ1=>KsOK c d u env rest σ1 (fun l σ2=>K (a::l) σ2))):KsOK c d u env (⟨some name,value,p⟩::rest) σ K:=fun A g as cs s Q E pos ro G r q =>
 kwAll_cons (h A g as cs s _ E ro G r fun v1 g1 as1 h1 tk1 a σ1 hg1 ha1 r1 rv1 k1=>k1 A g1 as1 cs _ _ E pos ro (G.keeps hg1) r1 fun vs g2 as2 h2 tk2 l σ2 hg2 ha2 r2 rv2 k2 =>
  q (v1::vs) g2 as2 h2 tk2 (a::l) σ2 (StaysIn.trans' hg1 hg2) (ha1.trans ha2) r2 (.cons (rv1.mono hg2 ha2) rv2) k2)
theorem kw_zip{g:Heap}{as:List Addr}:∀{names:List Str} {vs:List Value} {avs:List AV},Rels g as vs avs→KwR g as (names.zip vs) (names.zip avs)
 | [],_,_,_=>by simpa using KwR.nil
 | _::_,_,_,.nil=>by simpa using KwR.nil
 | n::ns,_,_,.cons h r=>.cons h (kw_zip r)
theorem ev_callKw {n:Str} {np:Pos} {e:Expr} {rest:List Expr} {kws:List Keyword} {pos:Pos} {names:List Str} {K:AV→St→Prop} {f:Addr} (hk:env.scope.kind=.function) (hl:env.kindOf n=some .globalImplicit) (hg:env.globals=mainGlobals) (hd:(n==("__debug__":Str))=false)
  (eg:nsIn c.K mainGlobals n=some (some (.ref f))) (hp:keepIn c.K (.ref f)=true)
  (he:starEach (e::rest) env=(false,eval e env)::starEach rest env) (hall:(backToKw pos (keywordEach kws env)).all (·.1.isSome)=true) (hnames:(backToKw pos (keywordEach kws env)).filterMap (·.1)=names)
  (hplain:((backTo pos (starEach (e::rest) env)).any (·.1) || (backToKw pos (keywordEach kws env)).any (·.1.isNone))=false)
  (h:AsOK c d u env (e::rest) σ (fun vs σ2=>KsOK c d u env kws σ2 (fun ks σ3=>CallOK c d u (.ref f) vs (names.zip ks) σ3.mu (fun v mu'=>K v (σ3.setMu mu'))))) :
  EvOK c d u env (.Call (.Name n np) (e::rest) kws pos) σ K:=fun A g as cs s Q E ro G r q=>by
 show wpAny (model c.prog c.w) A (do callWith pos (← eval (.Name n np) env) [] (backTo pos (starEach (e::rest) env)) (backToKw pos (keywordEach kws env))) Q E s
 refine wpAny_bind ?_
 refine Name_function_global hk hl (loadGlobal_global (hg▸G.G.keeps r.mu.keep) (mg_of G.X G.G eg) ?_) hd
 refine callWith_KW (h₀:=g) G.X hp hall ?_ hplain he
 refine h A g as cs s _ E pos ro G r fun vs g2 as2 h2 tk2 l σ2 hg2 ha2 r2 rv2 k2=>?_
 refine k2 A g2 as2 cs (sh s h2 tk2) _ E pos ro (G.keeps hg2) r2 fun ks g3 as3 h3 tk3 kl σ3 hg3 ha3 r3 rv3 k3=>⟨((G.X.keeps hg2).keeps hg3).keeps r3.mu.keep,?_⟩
 rw [hnames]
 obtain ⟨g₃,st,m3,k4⟩:=r3.op (α:=Unit) (s:=(sh s h3 tk3)) (K:=K) (Q:=Q) (fun v g' as' h' tk' av σ' x1 x2 x3 x4 x5=>q v g' as' h' tk' av σ' (StaysIn.trans' (StaysIn.trans' hg2 hg3) x1) ((ha2.trans ha3).trans x2) x3 x4 x5)
 exact k3 A g₃ as3 _ Q E ([]++vs) _ ro (((G.keeps hg2).keeps hg3).keeps st) m3 ((rv2.mono hg3 ha3).mono st (List.prefix_refl _)) (KwR.mono st (List.prefix_refl _) (kw_zip rv3)) k4
theorem call_isstr {x:Str} (h:K (.bool true) mu):CallOK c d u (.builtin "isinstance") [.str x,.st (.type "str")] [] mu K:=fun A g as s Q E ws kws ro G m rs rk q=>by
 obtain rfl:=rk.inv
 obtain ⟨_,_,rfl,r1,rs⟩:=rs.inv
 obtain ⟨_,_,rfl,r2,rs⟩:=rs.inv
 obtain rfl:=rs.inv
 obtain ⟨_,rfl⟩:=r2.inv
 obtain ⟨_,rfl⟩:=r1.inv
 exact call_isinstance_yes (Tx:="str") (typeIs_str s x _) (by kernel_rfl) (by rw [isSubtype_type];kernel_rfl) (q _ g as s.heap s.toks _ mu (StaysIn.refl' g) (List.prefix_refl _) m (.bool true) h)
theorem call_deque (h:K (.mut mu.length) (mu++[.deque []])):CallOK c d u (.type "collections.deque") [] [] mu K:=fun A g as s Q E ws kws ro G m rs rk q=>by
 obtain rfl:=rk.inv
 obtain rfl:=rs.inv
 refine callType_meets (S:=fun A R s=>R (.ok (.ret (.ref s.heap.objs.size))) { s with heap:=s.heap.push (dqObj [] 0) }) (Q₁:=fun obj s₁=>obj=.ref s.heap.objs.size∧s₁={ s with heap:=s.heap.push (dqObj [] 0) }) tc_dq cc_dq nc_dq en_dqnew en_dqinit (fun prog w A R s h=>body_dqnew h) ⟨rfl,rfl⟩ ?_
 rintro obj s₁ ⟨rfl,rfl⟩
 have e0:(s.heap.push (dqObj [] 0)).get? s.heap.objs.size=some (dqObj [] 0):=Heap.get?_push_size _ rfl
 refine ⟨⟨_,e0,rfl⟩,ar_dqinit _,fun A R s'=>(∀h',Heap.SameBut s.heap.objs.size s'.heap h'→h'.get? s.heap.objs.size=some (dqObj [] 0)→R (.ok (.ret .none)) { s' with heap:=h' })∧s'.heap.get? s.heap.objs.size=some (dqObj [] 0),fun prog w A R s' hh=>body_dqinit hh.2 hh.1,fun h' hs ho'=>⟨rfl,?_⟩,e0⟩
 have m1:=m.grow (dqObj [] 0) rfl (ao:=.deque []) (.deque rfl .nil)
 have hix:(as++[s.heap.objs.size])[mu.length]?=some s.heap.objs.size:=by rw [← m.len];simp
 have m2:=m1.set hix (fun b o nb hb Z=>(hs.2 b nb).trans hb) ho' (ao':=.deque []) (.deque rfl .nil)
 have e2:(mu++[AO.deque []]).set mu.length (.deque [])=mu++[.deque []]:=by
  have:=wZ mu (AO.deque []) (AO.deque []) []
  simpa using this
 rw [e2] at m2
 exact q _ g _ h' _ (.mut mu.length) _ (StaysIn.refl' g) (List.prefix_append _ _) m2 (.mut hix) h
end
namespace ss_augattr
noncomputable def Cq(c:Cx)(d u:Nat)(env:Env)(σ:St)(o value:Expr)(attr:Str)(tpos pos:Pos)(C:Addr)(k:Nat)(attrs:List (Str×AV))(K:Fl→St→Prop):Prop:=∀{op:Operator} (h:EvOK c d u env o σ (fun ov σ1=>ov=.inst C k∧σ1=σ∧∃old,Op1OK c d u (fun o=>getAttr o attr true) (.inst C k) σ.mu (fun v mu'=>v=old∧mu'=σ.mu) ∧
   EvOK c d u env value σ (fun b σ2=>σ2=σ∧Op2OK c d u (inplaceOp op) old b σ.mu (fun v mu'=>mu'=σ.mu∧Stores c.K C attr∧σ.mu[k]?=some (.dict attrs)∧attrs.length≤900∧K .next (σ.setMu (σ.mu.set k (.dict (setL attr v attrs)))))))),SsOK c d u env (exec (.AugAssign (.Attribute o attr tpos) op value pos) env) σ K
noncomputable def Dq(p:Cx×Nat×Nat×Env×St×Expr×Expr×Str×Pos×Pos×Addr×Nat×(List (Str×AV))×(Fl→St→Prop)):Prop:=Cq p.1 p.2.1 p.2.2.1 p.2.2.2.1 p.2.2.2.2.1 p.2.2.2.2.2.1 p.2.2.2.2.2.2.1 p.2.2.2.2.2.2.2.1 p.2.2.2.2.2.2.2.2.1 p.2.2.2.2.2.2.2.2.2.1 p.2.2.2.2.2.2.2.2.2.2.1 p.2.2.2.2.2.2.2.2.2.2.2.1 p.2.2.2.2.2.2.2.2.2.2.2.2.1 p.2.2.2.2.2.2.2.2.2.2.2.2.2
def tq:=@ep _ (by have:=neCx;have:=neEnv;have:=neSt;infer_instance) Dq
def c:=tq.1
def d:=tq.2.1
def u:=tq.2.2.1
def env:=tq.2.2.2.1
def σ:=tq.2.2.2.2.1
def o:=tq.2.2.2.2.2.1
def value:=tq.2.2.2.2.2.2.1
def attr:=tq.2.2.2.2.2.2.2.1
def tpos:=tq.2.2.2.2.2.2.2.2.1
def pos:=tq.2.2.2.2.2.2.2.2.2.1
def C:=tq.2.2.2.2.2.2.2.2.2.2.1
def k:=tq.2.2.2.2.2.2.2.2.2.2.2.1
def attrs:=tq.2.2.2.2.2.2.2.2.2.2.2.2.1
def K:=tq.2.2.2.2.2.2.2.2.2.2.2.2.2
theorem T0 {op:Operator} (h:EvOK c d u env o σ (fun ov σ1=>ov=.inst C k∧σ1=σ∧∃old,Op1OK c d u (fun o=>getAttr o attr true) (.inst C k) σ.mu (fun v mu'=>v=old∧mu'=σ.mu) ∧
   EvOK c d u env value σ (fun b σ2=>σ2=σ∧Op2OK c d u (inplaceOp op) old b σ.mu (fun v mu'=>mu'=σ.mu∧Stores c.K C attr∧σ.mu[k]?=some (.dict attrs)∧attrs.length≤900∧K .next (σ.setMu (σ.mu.set k (.dict (setL attr v attrs)))))))):SsOK c d u env (exec (.AugAssign (.Attribute o attr tpos) op value pos) env) σ K:=fun A g as cs s Q E ro G rr q =>
 wpAny_AugAssign_AttributeAny (h A g as cs s _ E ro G rr fun v1 g1 as1 h1 tk1 a σ hg1 ha1 r1 rv1 k1=>by
  obtain ⟨rfl,rfl,old,hget,hval⟩:=k1
  obtain ⟨g₂,st2,m2,k2⟩:=r1.op (α:=Unit) (s:=(sh s h1 tk1)) (K:=fun v σ'=>v=old∧σ'=σ) (Q:=fun oldv s₂=>wpAny (model c.prog c.w) A (eval value env) (fun v s₃=>wpAny (model c.prog c.w) A (inplaceOp op oldv v) (fun new s₄=>wpAny (model c.prog c.w) A (setAttr v1 attr new) (fun Z=>Q .next) E s₄) E s₃) E s₂) (fun v g' as' h' tk' av σ' x1 x2 x3 x4 x5=>by
   obtain ⟨rfl,rfl⟩:=x5
   refine hval A g' as' cs (sh s h' tk') _ E ro ((G.keeps hg1).keeps x1) x3 fun v3 g3 as3 h3 tk3 b σ hg3 ha3 r3 rv3 k3=>?_
   obtain ⟨rfl,k3⟩:=k3
   obtain ⟨g₄,st4,m4,k4⟩:=r3.op (α:=Unit) (s:=(sh s h3 tk3)) (K:=fun v σ'=>σ'=σ∧Stores c.K C attr∧σ.mu[k]?=some (.dict attrs)∧attrs.length≤900∧K .next (σ.setMu (σ.mu.set k (.dict (setL attr v attrs))))) (Q:=fun new s₄=>wpAny (model c.prog c.w) A (setAttr v1 attr new) (fun Z=>Q .next) E s₄) (fun v5 g5 as5 h5 tk5 av5 σ5 y1 y2 y3 y4 y5=>by
    obtain ⟨rfl,st,hmu,hz,kk⟩:=y5
    have rv1':=((rv1.mono x1 x2).mono hg3 ha3).mono y1 y2
    exact gO (s:=(sh s h5 tk5)) y3 ((((G.keeps hg1).keeps x1).keeps hg3).keeps y1) rv1' y4 st hmu hz fun h6 tk6 r6=>q .next g5 as5 h6 tk6 .next _ (StaysIn.trans' (StaysIn.trans' (StaysIn.trans' hg1 x1) hg3) y1) (((ha1.trans x2).trans ha3).trans y2) r6 .next kk)
   refine k3 A g₄ as3 (sh s h3 tk3) _ E v v3 ro ((((G.keeps hg1).keeps x1).keeps hg3).keeps st4) m4 ((x4.mono hg3 ha3).mono st4 (List.prefix_refl _)) (rv3.mono st4 (List.prefix_refl _)) fun v5 g5 as5 h5 tk5 av5 mu5 y1 y2 y3 y4 y5=>k4 v5 g5 as5 h5 tk5 av5 mu5 y1 y2 y3 y4 ⟨by rw [y5.1],y5.2⟩)
  refine hget A g₂ as1 (sh s h1 tk1) _ E v1 ro ((G.keeps hg1).keeps st2) m2 (rv1.mono st2 (List.prefix_refl _)) fun v5 g5 as5 h5 tk5 av5 mu5 y1 y2 y3 y4 y5=>k2 v5 g5 as5 h5 tk5 av5 mu5 y1 y2 y3 y4 ⟨y5.1,by rw [y5.2]⟩)
end ss_augattr
section
variable {c:Cx}{d u:Nat}{env:Env}{σ:St}{mu:List AO}{K:AV→List AO→Prop}
theorem ss_augattr{o value:Expr}{attr:Str}{tpos pos:Pos}{op:Operator}{C:Addr}{k:Nat}{attrs:List (Str×AV)}{K:Fl→St→Prop}
  (h:EvOK c d u env o σ (fun ov σ1=>ov=.inst C k∧σ1=σ∧∃old,Op1OK c d u (fun o=>getAttr o attr true) (.inst C k) σ.mu (fun v mu'=>v=old∧mu'=σ.mu) ∧
   EvOK c d u env value σ (fun b σ2=>σ2=σ∧Op2OK c d u (inplaceOp op) old b σ.mu (fun v mu'=>mu'=σ.mu∧Stores c.K C attr∧σ.mu[k]?=some (.dict attrs)∧attrs.length≤900∧K .next (σ.setMu (σ.mu.set k (.dict (setL attr v attrs)))))))) :
  SsOK c d u env (exec (.AugAssign (.Attribute o attr tpos) op value pos) env) σ K:=(@eps _ _ ss_augattr.Dq ss_augattr.tq rfl @ss_augattr.T0 (c,d,u,env,σ,o,value,attr,tpos,pos,C,k,attrs,K)) h
end
end Mine.Internal
end
section
open PySem PySem.Spec PySem.Calls PyProof PyProof.Rows PySem.W PySem.Builtin.Str PySem.StrLaws
set_option maxHeartbeats 1000000
set_option tactic.hygienic false
namespace Mine.Internal
noncomputable def nlIdx:List Nat→Option Nat
 | []=>none
 | a::r=>if a=10 then some 0 else (nlIdx r).map (·+1)
theorem occ_full(s sub:Str)(hi:Nat):∀(l:List Nat) (st:Array Nat×Nat),st.fst.size=1→(forIn l st (occBody s sub hi 1)).run.fst=st.fst:=by
 intro zz
 induction zz with
 | nil =>
  intro st h
  exact rfl
 | cons a l ih =>
  intro st h
  rw [List.forIn_cons]
  unfold occBody
  rw [if_neg (by rw [h];rintro ⟨⟨⟨z,_⟩,_⟩,_⟩;exact absurd z (by decide))]
  exact ih _ h
theorem occ_nl(l:List Nat):∀(n a free:Nat),a+n=l.length→free≤a→(forIn (List.range' a (n+1)) ((#[]:Array Nat),free) (occBody ⟨l.toArray⟩ ⟨#[10]⟩ l.length 1)).run.fst.toList=match nlIdx (l.drop a) with | some j=>[a+j] | none=>[]:=by
 intro zz
 induction zz with
 | zero =>
  intro a free h hf
  have ea:l.drop a=[]:=List.drop_eq_nil_of_le (by exact o74 h)
  rw [ea]
  show (forIn [a] ((#[]:Array Nat),free) (occBody ⟨l.toArray⟩ ⟨#[10]⟩ l.length 1)).run.fst.toList=[]
  rw [List.forIn_cons]
  unfold occBody
  have hn:¬(a+(⟨#[10]⟩:Str).length≤l.length):=by show ¬(a+1≤l.length);exact o75 h
  rw [if_neg (fun z=>hn z.1.2)]
  rfl
 | succ n ih =>
  intro a free h hf
  obtain ⟨x,hx⟩:∃x,l[a]?=some x:=⟨l[a]'(by exact o76 h),List.getElem?_eq_getElem (by exact o76 h)⟩
  have ed:l.drop a=x::l.drop (a+1):=by
   have:=List.getElem?_eq_some_iff.mp hx
   obtain ⟨h1,h2⟩:=this
   rw [← h2]
   exact List.drop_eq_getElem_cons h1
  rw [ed,List.range'_succ,List.forIn_cons]
  unfold occBody
  have hs:=subAt_one ⟨l.toArray⟩ 10 a
  have hl1:(⟨l.toArray⟩:Str).length=l.length:=by simp [Str.length]
  rw [hl1] at hs
  have hx':(⟨l.toArray⟩:Str).cps.toList[a]?=some x:=by simpa using hx
  rw [hx'] at hs
  by_cases hc:x=10
  ·subst hc
   have hy:=hs.mpr rfl
   rw [if_pos ⟨⟨⟨by simp,hf⟩,hy.1⟩,hy.2⟩]
   have:=occ_full ⟨l.toArray⟩ ⟨#[10]⟩ l.length (List.range' (a+1) (n+1)) ((#[]:Array Nat).push a,a+(⟨#[10]⟩:Str).length) (by simp)
   show (forIn (List.range' (a+1) (n+1)) ((#[]:Array Nat).push a,a+(⟨#[10]⟩:Str).length) (occBody ⟨l.toArray⟩ ⟨#[10]⟩ l.length 1)).run.fst.toList=_
   rw [this]
   simp [nlIdx]
  ·rw [if_neg (fun z=>hc (by have:=hs.mp ⟨z.1.2,z.2⟩;simpa using this))]
   show (forIn (List.range' (a+1) (n+1)) ((#[]:Array Nat),free) (occBody ⟨l.toArray⟩ ⟨#[10]⟩ l.length 1)).run.fst.toList=_
   rw [ih (a+1) free (by exact o77 h) (by exact o28 hf)]
   have en:nlIdx (x::l.drop (a+1))=(nlIdx (l.drop (a+1))).map (·+1):=by rw [nlIdx,if_neg hc]
   rw [en]
   cases nlIdx (l.drop (a+1)) with
   | none=>rfl
   | some j=>show [a+1+j]=[a+(j+1)];rw [show a+1+j=a+(j+1) by exact o44]
theorem occ_nl'(l:List Nat)(a:Nat)(h:a≤l.length):occurrences ⟨l.toArray⟩ ⟨#[10]⟩ a l.length 1=match nlIdx (l.drop a) with | some j=>[a+j] | none=>[]:=by
 rw [occ_eq,show l.length+1 - a=(l.length - a)+1 by exact o78 h]
 exact occ_nl l _ a a (by exact o79 h) (Nat.le_refl _)
section
variable {c:Cx}{d u:Nat}{env:Env}{σ:St}{mu:List AO}{K:AV→List AO→Prop}
end
namespace call_find4
noncomputable def Cq (c:Cx) (d u:Nat) (mu:List AO) (K:AV→List AO→Prop) (l:List Nat) (a:Nat):Prop:=∀(h1:a≤l.length) (h:K (.int (match nlIdx (l.drop a) with | some j=>((a+j:Nat):Int) | none=>-1)) mu),CallOK c d u (.builtin "str.find") [.str ⟨l.toArray⟩,.str ⟨#[10]⟩,.int (a:Int),.int (l.length:Int)] [] mu K
noncomputable def Dq(p:Cx×Nat×Nat×(List AO)×(AV→List AO→Prop)×(List Nat)×Nat):Prop:=Cq p.1 p.2.1 p.2.2.1 p.2.2.2.1 p.2.2.2.2.1 p.2.2.2.2.2.1 p.2.2.2.2.2.2
def tq:=@ep _ (by have:=neCx;infer_instance) Dq
def c:=tq.1
def d:=tq.2.1
def u:=tq.2.2.1
def mu:=tq.2.2.2.1
def K:=tq.2.2.2.2.1
def l:=tq.2.2.2.2.2.1
def a:=tq.2.2.2.2.2.2
theorem T0 (h1:a≤l.length) (h:K (.int (match nlIdx (l.drop a) with | some j=>((a+j:Nat):Int) | none=>-1)) mu):CallOK c d u (.builtin "str.find") [.str ⟨l.toArray⟩,.str ⟨#[10]⟩,.int (a:Int),.int (l.length:Int)] [] mu K:=fun A g as s Q E ws kws ro G m rs rk q=>by
 obtain rfl:=rk.inv
 obtain ⟨_,_,rfl,r1,rs⟩:=rs.inv
 obtain ⟨_,_,rfl,r2,rs⟩:=rs.inv
 obtain ⟨_,_,rfl,r3,rs⟩:=rs.inv
 obtain ⟨_,_,rfl,r4,rs⟩:=rs.inv
 obtain rfl:=rs.inv;obtain ⟨t1,rfl⟩:=r1.inv;obtain ⟨t2,rfl⟩:=r2.inv;obtain ⟨t3,rfl⟩:=r3.inv;obtain ⟨t4,rfl⟩:=r4.inv
 have hlen:(⟨l.toArray⟩:Str).length=l.length:=by simp [Str.length]
 have key:Gives (Builtin.«str.find» ⟨[.str ⟨l.toArray⟩ t1,.str ⟨#[10]⟩ t2,.int (a:Int) t3,.int (l.length:Int) t4],[]⟩) (.int (match nlIdx (l.drop a) with | some j=>((a+j:Nat):Int) | none=>-1)):=by
  have e0:fromIndex (⟨l.toArray⟩:Str).length (a:Int)=a:=by unfold fromIndex;rw [if_neg (by exact o72)];exact o80
  have e1:min (fromIndex (⟨l.toArray⟩:Str).length (l.length:Int)) (⟨l.toArray⟩:Str).length=l.length:=by unfold fromIndex;rw [if_neg (by exact o72),hlen];exact o81
  show Gives (match occurrences ⟨l.toArray⟩ ⟨#[10]⟩ (fromIndex (⟨l.toArray⟩:Str).length (a:Int)) (min (fromIndex (⟨l.toArray⟩:Str).length (l.length:Int)) (⟨l.toArray⟩:Str).length) 1 with | k::_=>PySem.retInt k | []=>(do rule "str.find.not-found";PySem.retInt (-1))) _
  rw [e0,e1,occ_nl' l a h1]
  cases nlIdx (l.drop a) with
  | none=>exact .rule (.of_eq rfl)
  | some j=>exact .of_eq rfl
 refine call_meets F.slot_str_find (typeIs_str _ _ _) F.entry_str_find (F.args_str_find_4 _ _ _ _) key.meets ?_
 exact q _ g as s.heap _ _ mu (StaysIn.refl' g) (List.prefix_refl _) m (.int _ _) h
end call_find4
section
variable {c:Cx}{d u:Nat}{env:Env}{σ:St}{mu:List AO}{K:AV→List AO→Prop}
theorem call_find4{l:List Nat}{a:Nat}(h1:a≤l.length)(h:K (.int (match nlIdx (l.drop a) with | some j=>((a+j:Nat):Int) | none=>-1)) mu):
  CallOK c d u (.builtin "str.find") [.str ⟨l.toArray⟩,.str ⟨#[10]⟩,.int (a:Int),.int (l.length:Int)] [] mu K:=(@eps _ _ call_find4.Dq call_find4.tq rfl @call_find4.T0 (c,d,u,mu,K,l,a)) h1 h
theorem kJ{value lo hi:Expr}{p pos:Pos}{x:Str}{K:AV→St→Prop}(ht:∀(x:Str) t r,letTemporaryGo value (.str x t) r=pure ())
  (hs:∀(x:Str) (t:Tok) (a:Addr),subscripted (.Slice (some lo) (some hi) none p) false (.str x t) (.ref a)=operate [.ref a,.str x t] (getItem (.str x t) (.ref a))) (hz:x.length≤100000)
  (h:EvOK c d u env value σ (fun a σ1=>a=.str x∧EvOK c d u env lo σ1 (fun i σ2=>∃i',i=.int i'∧EvOK c d u env hi σ2 (fun j σ3=>∃j',j=.int j'∧K (.str (Txt.slice x (some i') (some j'))) σ3)))):EvOK c d u env (.Subscript value (.Slice (some lo) (some hi) none p) pos) σ K:=fun A g as cs s Q E ro G rr q =>
 Subscript_ (h A g as cs s _ E ro G rr fun v1 g1 as1 h1 tk1 a σ1 hg1 ha1 r1 rv1 k1=>by
  obtain ⟨rfl,k1⟩:=k1
  obtain ⟨t,rfl⟩:=rv1.inv
  refine wpAny_Slice ?_
  rw [evalPart_some]
  refine k1 A g1 as1 cs (sh s h1 tk1) _ E ro (G.keeps hg1) r1 fun v2 g2 as2 h2 tk2 i σ2 hg2 ha2 r2 rv2 k2=>?_
  obtain ⟨i',rfl,k2⟩:=k2
  obtain ⟨ti,rfl⟩:=rv2.inv
  rw [evalPart_some]
  refine k2 A g2 as2 cs (sh s h2 tk2) _ E ro ((G.keeps hg1).keeps hg2) r2 fun v3 g3 as3 h3 tk3 j σ3 hg3 ha3 r3 rv3 k3=>?_
  obtain ⟨j',rfl,k3⟩:=k3
  obtain ⟨tj,rfl⟩:=rv3.inv
  rw [evalPart_none]
  refine wpAny_pure ?_
  refine tail_of_ItemOn (ops:=[.ref h3.objs.size,.str x t]) ⟨"str",_,F.slot_str_getitem.lookup,typeIs_str _ x t,wpAny_getItem_str_slice (l:=some (i',ti)) (u:=some (j',tj)) (st:=none) ⟨_,Heap.get?_push_size _ rfl,rfl,rfl⟩ rfl ?_⟩ (hs _ _ _) (ht _ _)
  exact post_val_or_str ⟨Nat.le_trans (Txt.slice_le x _ _) (by unfold sizeLine;exact o0 hz),fun t' k=>q _ g3 as3 _ k _ σ3 (StaysIn.trans' (StaysIn.trans' hg1 hg2) hg3) ((ha1.trans ha2).trans ha3) (r3.push _) (.str _ t') k3⟩)
theorem slice_S{l:List Nat}{a b:Nat}(hab:a≤b)(hb:b≤l.length):Txt.slice ⟨l.toArray⟩ (some (a:Int)) (some (b:Int))=⟨((l.drop a).take (b - a)).toArray⟩:=by
 exact sliceText_nat ⟨l.toArray⟩ hab (by simpa [Str.length] using hb)
theorem cls_at{K:Frag}{a:Addr}(h:isClsIn K a=true):∃oc od cd sl,K.lookup a=some ⟨oc,od,.cls cd,sl⟩:=by
 unfold isClsIn clsIn at h
 split at h
 ·rename_i e;exact ⟨_,_,_,_,e⟩
 ·cases h
theorem isnot_ref{a b:Addr}(ha:isClsIn c.K a=true)(hb:isClsIn c.K b=true)(h:K (.bool (!(a==b))) mu):Op2OK c d u (compareOp .IsNot) (.st (.ref a)) (.st (.ref b)) mu K:=fun A g as s Q E w1 w2 ro G m r1 r2 q=>by
 obtain ⟨_,rfl⟩:=r1.inv;obtain ⟨_,rfl⟩:=r2.inv
 show wpAny (model c.prog c.w) A (do return Value.bool (!(← isSame (.ref a) (.ref b)))) Q E s
 have fin:=q _ g as s.heap s.toks _ mu (StaysIn.refl' g) (List.prefix_refl _) m (.bool (!(a==b))) h
 unfold isSame
 by_cases e:a=b
 ·subst e
  simp only [beq_self_eq_true,if_true] at fin ⊢
  exact wpAny_bind (wpAny_pure (wpAny_pure fin))
 ·have e1:(Value.ref a==Value.ref b)=false:=beq_eq_false_iff_ne.mpr fun z=>e (by cases z;rfl)
  have e2:(a==b)=false:=beq_eq_false_iff_ne.mpr e
  rw [e2] at fin
  obtain ⟨ca,oa,da,sa,ea⟩:=cls_at ha
  obtain ⟨cb,ob,db,sb,eb⟩:=cls_at hb
  have X:=G.X.keeps m.keep
  have e3:¬((a==b)=true):=by rw [e2];decide
  refine wpAny_bind ?_
  dsimp only
  rw [if_neg e3]
  refine wpAny_bind (wpAny_load (X _ _ ea) (wpAny_bind (wpAny_load (X _ _ eb) ?_)))
  dsimp only
  split
  ·rename_i h1 h2;cases h2
  ·exact wpAny_pure (wpAny_pure fin)
theorem call_type_int {i:Int} (h:K (.st (.type "int")) mu):CallOK c d u (.type "type") [.int i] [] mu K:=fun A g as s Q E ws kws ro G m rs rk q=>by
 obtain rfl:=rk.inv
 obtain ⟨_,_,rfl,r1,rs⟩:=rs.inv
 obtain rfl:=rs.inv;obtain ⟨_,rfl⟩:=r1.inv
 exact call_type_of (Tx:="int") (typeIs_int _ _ _) (by decide) (q _ g as s.heap s.toks _ mu (StaysIn.refl' g) (List.prefix_refl _) m (.st _) h)
theorem zE {x:Str} (h:K (.st (.type "str")) mu):CallOK c d u (.type "type") [.str x] [] mu K:=fun A g as s Q E ws kws ro G m rs rk q=>by
 obtain rfl:=rk.inv
 obtain ⟨_,_,rfl,r1,rs⟩:=rs.inv
 obtain rfl:=rs.inv;obtain ⟨_,rfl⟩:=r1.inv
 exact call_type_of (Tx:="str") (typeIs_str _ _ _) (by decide) (q _ g as s.heap s.toks _ mu (StaysIn.refl' g) (List.prefix_refl _) m (.st _) h)
theorem call_int_int' {i:Int} (h:K (.int i) mu):CallOK c d u (.type "int") [.int i] [] mu K:=fun A g as s Q E ws kws ro G m rs rk q=>by
 obtain rfl:=rk.inv
 obtain ⟨_,_,rfl,r1,rs⟩:=rs.inv
 obtain rfl:=rs.inv;obtain ⟨_,rfl⟩:=r1.inv
 exact call_int_int (q _ g as s.heap s.toks _ mu (StaysIn.refl' g) (List.prefix_refl _) m (.int _ _) h)
end
end Mine.Internal
end
section
open PySem PySem.Spec PySem.Calls PyProof PyProof.Rows PySem.W
set_option maxHeartbeats 1000000
set_option tactic.hygienic false
namespace Mine.Internal
theorem rdL{K:Frag}(hK:Keys K){n:String}(h:n∈lexAttrs):Reads' K 856 (Str.ofString n) none:=⟨hK.kit856.hg,hK.kit856.hh,(hK.lx n h).1,rfl⟩
theorem rdS{K:Frag}(hK:Keys K){n:String}(h:n∈sioAttrs):Reads' K 721 (Str.ofString n) none:=⟨hK.kit721.hg,hK.kit721.hh,(hK.sx n h).1,rfl⟩
theorem stL{K:Frag}(hK:Keys K){n:String}(h:n∈lexAttrs):Stores K 856 (Str.ofString n):=⟨hK.kit856.hs,hK.kit856.hp,(hK.lx n h).2,hK.kit856.hh⟩
theorem stS{K:Frag}(hK:Keys K){n:String}(h:n∈sioAttrs):Stores K 721 (Str.ofString n):=⟨hK.kit721.hs,hK.kit721.hp,(hK.sx n h).2,hK.kit721.hh⟩
section
variable {c:Cx}{d u:Nat}{env:Env}{σ:St}{mu:List AO}
theorem ev_inst {x:Str} {px pos:Pos} {name:Str} {C:Addr} {k:Nat} {attrs:List (Str×AV)} {av:AV} {K:AV→St→Prop} (hk:env.scope.kind=.function) (hl:env.kindOf x=some .local) (hd:(x==("__debug__":Str))=false) (hv:σ.loc.lookup x=some (.inst C k))
  (rd:Reads' c.K C name none) (hmu:σ.mu[k]?=some (.dict attrs)) (hat:attrs.lookup name=some av) (hp:av.plain=true) (h:K av σ):EvOK c d u env (.Attribute (.Name x px) name pos) σ K :=
 ev_attrP rfl (vI hk hl hd hv (zZ rd hmu hat hp ⟨rfl,h⟩))
theorem qJ{x:Str}{px pos:Pos}{name:Str}{C:Addr}{k:Nat}{attrs:List (Str×AV)}{av:AV}{K:AV→St→Prop}(h:locq env σ.loc x=some (.inst C k))
  (rd:Reads' c.K C name none) (hmu:σ.mu[k]?=some (.dict attrs)) (hat:attrs.lookup name=some av) (hp:av.plain=true) (k:K av σ):EvOK c d u env (.Attribute (.Name x px) name pos) σ K :=
 (jU h).elim fun e v=>(and3 e).casesOn fun e1 e2 e3=>ev_inst (zX e1) (fB e3) e2 v rd hmu hat hp k
theorem xK {x:Str} {px pos' pos:Pos} {name:Str} {value:Expr} {C:Addr} {K:Fl→St→Prop} (hk:env.scope.kind=.function) (hl:env.kindOf x=some .local) (hd:(x==("__debug__":Str))=false) (hs:swapsWith value (some (.Attribute (.Name x px) name pos')) pos.line env=pure false) (st:Stores c.K C name)
  (h:EvOK c d u env value σ (fun v σ1=>∃k,σ1.loc.lookup x=some (.inst C k)∧∃attrs,σ1.mu[k]?=some (.dict attrs)∧attrs.length≤900∧K .next (σ1.setMu (σ1.mu.set k (.dict (setL name v attrs)))))) :
  SsOK c d u env (exec (.Assign [.Attribute (.Name x px) name pos'] value pos) env) σ K :=
 ss_setattr hs (h.mono fun v σ1 hh=>by
  obtain ⟨k,h1,attrs,h2,h3,h4⟩:=hh
  exact vI hk hl hd h1 ⟨C,k,attrs,rfl,st,h2,h3,h4⟩)
theorem wB{K:Value→List AV→Prop}(hK:Keys c.K){C f:Addr}{n:String}{k:Nat}{attrs:List (Str×AV)}(hm:(C,n,f)∈lexMeths)(kit:ClsKit c.K C)(hmu:mu[k]?=some (.dict attrs))(hv:attrs.lookup (Str.ofString n)=none)(h:K (.ref f) [.inst C k]):MethOK c (Str.ofString n) (.inst C k) mu (fun f firstA=>Keeps c.K f∧K f firstA) :=
 meth_inst kit.hg (hK.mt _ hm).1 (hK.mt _ hm).2.1 hmu hv ⟨.inl (.inl (hK.mt _ hm).2.2),h⟩
theorem kC{st:Stmt}{rest:List Stmt}{K:Fl→St→Prop}(loc':List (Str×AV))(mu':List AO)(h1:SsOK c d u env (exec st env) σ (fun f σ'=>f=.next∧Sub loc' σ'.loc∧σ'.mu=mu'))(h2:SsOK c d u env (execs rest env) ⟨loc',mu'⟩ K):SsOK c d u env (execs (st::rest) env) σ K :=
 qA (h1.mono fun f σ' hh=>by
  obtain ⟨rfl,hs,hm⟩:=hh
  exact vD loc' mu' hs hm h2)
theorem jG{T:Addr}{oT:Obj}{its:Array Value}{n:Nat}{fd:FuncData}{args:List AV}{kw loc:List (Str×AV)}(hd:fd.defaults=.ref T)(ho:c.K.lookup T=some oT)(hs:oT.data=.seq its n)
  (h:∀(g:Heap) (as:List Addr) (ws:List Value) (kws:List (Str×Value)),Rels g as ws args→KwR g as kws kw→∃(k:Option (Array Value)→Sem (List (Str×Value))) (binds:List (Str×Value)),bindArgs fd ⟨ws,kws⟩=seqItems? fd.defaults >>= k∧k (some its)=pure binds ∧
   (∀x∈binds,fd.scope.names.lookup x.1=some .local)∧∀x av,loc.lookup x=some av→E2 (fun v=>binds.reverse.lookup x=some v) (fun v=>Rel g as v av)):BindOK c fd args kw loc:=fun g as s ws kws G hk rs rk=>by
 obtain ⟨k,binds,h1,h2,h3,h4⟩:=h g as ws kws rs rk
 exact ⟨binds,binds_K (G.X.keeps hk) hd ho hs h1 h2,h3,h4⟩
theorem xY{P:Str→AV→Prop}:∀{l:List (Str×AV)},(∀p∈l,P p.1 p.2)→∀z av,l.lookup z=some av→P z av
 | l,h,z,av,e=>h _ (vH e)
end
end Mine.Internal
end
section
open PySem PySem.Spec PySem.Calls PyProof PyProof.Rows PySem.W Builtin Builtin.ObjectAttr Builtin.Getset_descriptor
set_option maxHeartbeats 4000000
set_option tactic.hygienic false
namespace Mine.Internal
theorem mro_obj:mroOf (.type "object")=pure [.type "object"]:=by rw [mroOf_type];kernel_rfl
theorem lk_objnew:typeLookup (.type "object") "__new__"=pure (some (.builtin "object.__new__")):=by rw [typeLookup_type,builtinLookup_eq_fast];kernel_rfl
theorem mb_obj:Bind.madeBy (.type "object")=pure (some "object.__new__"):=madeBy_type mro_obj lk_objnew (by decide +kernel)
section
variable {prog:Program}{w:World}{A:Around}{K:Frag}{C:Addr}{R:Result→Shared→Prop}{h:Heap}{g:Array GenState}{d:Drawn}{t:Nat}{os:OsState}
end
namespace new_bare
noncomputable def Cq (prog:Program) (w:World) (A:Around) (C:Addr) (R:Result→Shared→Prop) (h:Heap) (g:Array GenState) (d:Drawn) (t:Nat) (os:OsState):Prop:=∀{oc od cd sl} (hC:h.get? C=some ⟨oc,od,.cls cd,sl⟩) (e1:cd.abstract=false) (e2:cd.hasDel=false) (here:Looks (model prog w) h (Bind.madeHere "object.__new__" (.ref C)) ()) (top:Looks (model prog w) h (isSubtype (.ref C) (.type "object")) true) (base:Looks (model prog w) h (Bind.staticBase (.ref C)) (.type "object")) (made:Looks (model prog w) h (Bind.madeBy (.type "object")) (some "object.__new__")) (hq:R (.ok (.ret (.ref (h.objs.size+1)))) ⟨(h.push emptyDict).push (instObj C h.objs.size),g,d,t,os⟩),codeAny (model prog w) A (.call (.builtin "object.__new__") ⟨[.ref C],[]⟩) R ⟨h,g,d,t,os⟩
noncomputable def Dq(p:Program×World×Around×Addr×(Result→Shared→Prop)×Heap×(Array GenState)×Drawn×Nat×OsState):Prop:=Cq p.1 p.2.1 p.2.2.1 p.2.2.2.1 p.2.2.2.2.1 p.2.2.2.2.2.1 p.2.2.2.2.2.2.1 p.2.2.2.2.2.2.2.1 p.2.2.2.2.2.2.2.2.1 p.2.2.2.2.2.2.2.2.2
def tq:=@ep _ (by have:=neAround;have:=neDrawn;have:=neHeap;have:=neOs;have:=neProgram;have:=neWorld;infer_instance) Dq
def prog:=tq.1
def w:=tq.2.1
def A:=tq.2.2.1
def C:=tq.2.2.2.1
def R:=tq.2.2.2.2.1
def h:=tq.2.2.2.2.2.1
def g:=tq.2.2.2.2.2.2.1
def d:=tq.2.2.2.2.2.2.2.1
def t:=tq.2.2.2.2.2.2.2.2.1
def os:=tq.2.2.2.2.2.2.2.2.2
theorem T0:Cq prog w A C R h g d t os:=by
 intro oc od cd sl hC e1 e2 here top base made hq
 have F:=PySem.F.objNew
 refine codeAny_call_builtin_code (Code.quiet_builtin _ F.quiet) ?_
 simp only [checkBuiltinCall,F.kind,F.split,F.row]
 have args:Bind.checkArgs "object.__new__" ⟨.hand,"object.__new__","__new__",.cls,[]⟩ ⟨[.ref C],[]⟩=pure ():=by kernel_rfl
 rw [args]
 repeat (first | with_reducible refine xJ Bool.false_ne_true ?_ | with_reducible refine xJ bne_ne ?_ | lk)
 trace_state
 refine codeAny_builtin F.entry ?_
 unfold Builtin.«object.__new__»
 have fin:∀A',wpAny (model prog w) A' (do
   let d ← if typeHasDict (.ref C) then some <$> alloc { cls:=.type "dict",data:=.dict #[] } else pure none
   ret (← newObj (.ref C) .plain d)) (fun fin s'=>match fin with | .done f=>R (.ok f) s' | .again c'=>c'.quiet=true∧codeAny (model prog w) A c' R s') (fun e s'=>R (.error e) s') ⟨h,g,d,t,os⟩:=by
  intro A'
  show wpAny _ _ ((alloc emptyDict >>= fun x=>pure (some x)) >>= _) _ _ _
  refine wpAny_bind (wpAny_bind (wpAny_alloc (wpAny_pure (wpAny_bind ?_))))
  show wpAny _ _ (newObjAsIs _ _ _) _ _ _
  unfold newObjAsIs classHasDel
  refine wpAny_bind (wpAny_alloc (wpAny_bind (wpAny_bind (wpAny_load (Heap.get?_push_of_some _ (Heap.get?_push_of_some _ hC)) (wpAny_pure ?_)))))
  rw [e2]
  refine wpAny_pure (wpAny_pure ?_)
  show R _ _
  rw [Heap.size_push]
  exact hq
 repeat (first | with_reducible refine xJ Bool.false_ne_true ?_ | with_reducible refine xJ (ne_of e1) ?_ | exact fin _ | lk)
end new_bare
section
variable {prog:Program}{w:World}{A:Around}{K:Frag}{C:Addr}{R:Result→Shared→Prop}{h:Heap}{g:Array GenState}{d:Drawn}{t:Nat}{os:OsState}
theorem new_bare {oc od cd sl} (hC:h.get? C=some ⟨oc,od,.cls cd,sl⟩) (e1:cd.abstract=false) (e2:cd.hasDel=false) (here:Looks (model prog w) h (Bind.madeHere "object.__new__" (.ref C)) ())
  (top:Looks (model prog w) h (isSubtype (.ref C) (.type "object")) true) (base:Looks (model prog w) h (Bind.staticBase (.ref C)) (.type "object")) (made:Looks (model prog w) h (Bind.madeBy (.type "object")) (some "object.__new__"))
  (hq:R (.ok (.ret (.ref (h.objs.size+1)))) ⟨(h.push emptyDict).push (instObj C h.objs.size),g,d,t,os⟩) :
  codeAny (model prog w) A (.call (.builtin "object.__new__") ⟨[.ref C],[]⟩) R ⟨h,g,d,t,os⟩:=(@eps _ _ new_bare.Dq new_bare.tq rfl @new_bare.T0 (prog,w,A,C,R,h,g,d,t,os)) hC e1 e2 here top base made hq
end
section
variable {c:Cx}{d u:Nat}{env:Env}{σ:St}{mu:List AO}{K:AV→List AO→Prop}
theorem call_objnew (hK:Keys c.K) (h:K (.inst 721 mu.length) (mu++[.dict []])):CallOK c d u (.builtin "object.__new__") [.st (.ref 721)] [] mu K:=fun A g as s Q E ws kws ro G m rs rk q=>by
 obtain rfl:=rk.inv
 obtain ⟨_,_,rfl,r1,rs⟩:=rs.inv
 obtain rfl:=rs.inv;obtain ⟨_,rfl⟩:=r1.inv
 obtain ⟨hh,gg,dd,t,os⟩:=s
 have X:=G.X.keeps m.keep
 obtain ⟨oc,od,cd,sl,e0,_,e4,_,e1,e2,e5⟩:=hK.oo721
 have base:Looks (model c.prog c.w) hh (Bind.staticBase (.ref 721)) (.type "object"):=Looks.of_peek X (hK.sb721 _)
 have here:Looks (model c.prog c.w) hh (Bind.madeHere "object.__new__" (.ref 721)) ():=base.andThen ((Looks.of_pure mb_obj).andThen (Looks.of_pure (by simp only [Option.map_some,bne_self_eq_false,Bool.false_eq_true,if_false])))
 have top:Looks (model c.prog c.w) hh (isSubtype (.ref 721) (.type "object")) true:=looks_mroIn X (by unfold mroIn clsIn;rw [e0,Option.bind_some,if_neg (by rw [e4];decide),e5])
 refine wpAny_call (new_bare (X _ _ e0) e1 e2 here top base (Looks.of_pure mb_obj) ?_)
 obtain ⟨g',st,m2,ri⟩:=m.newInst 721
 exact q _ g' _ _ _ _ _ st (List.prefix_append _ _) m2 ri h
noncomputable def KeepsG (K:Frag) (g:Heap) (f:Value):Prop:=Keeps K f∨∃a o vs,f=.ref a∧g.get? a=some o∧o.cls=.type "builtin_function_or_method"∧o.data=.fields vs
theorem KeepsG.looks{M:Model}{K:Frag}{g:Heap}{f:Value}(h:KeepsG K g f)(hp:Heap)(X:K.In hp∧g.StaysIn hp):∃k,(k=Keeper.frame∨k=Keeper.machine∨k=Keeper.boundFrame)∧Looks M hp (keeperOf f) k:=by
 rcases h with h | ⟨a,o,vs,rfl,h1,h2,h3⟩
 ·exact h.looks hp X.1
 ·refine ⟨.machine,.inr (.inl rfl),(Looks.ld (part:=none) (X.2 _ _ h1)).andThen ?_⟩
  rw [h3,h2]
  exact .now
theorem as_callG{g:Heap}{f:Value}{args:List Expr}{first:List Value}{pos:Pos}{A:Around}{s:Shared}{Q:Value→Shared→Prop}{E:Value→Shared→Prop}
  (hk:KeepsG c.K g f) (hne:∀e∈args,∀v p,e≠.Starred v p) (hX:c.K.In s.heap) (hG:g.StaysIn s.heap)
  (key:wpAny (model c.prog c.w) A (spliced (backTo pos (starEach args env))) (fun vs s₁=>(c.K.In s₁.heap∧g.StaysIn s₁.heap)∧wpAny (model c.prog c.w) A (call f (first++vs)) Q E s₁) E s) :
  wpAny (model c.prog c.w) A (callWith pos f first (backTo pos (starEach args env)) []) Q E s:=by
 exact jV (P:=fun hp=>c.K.In hp∧g.StaysIn hp) (fun hp X=>hk.looks hp X) hne ⟨hX,hG⟩ key
noncomputable def MethV(c:Cx)(name:Str)(a:AV)(mu:List AO)(K:Value→Prop):Prop :=
 ∀(A:Around) (g:Heap) (as:List Addr) (s:Shared) (pl:Sem Bool) (Q:Value×List Value→Shared→Prop) (E:Value→Shared→Prop) (w:Value),Gd c.K c.mg c.mb g→MuR c.w.params g as mu s.heap→Rel g as w a →
  (∀v tk',K v→Q (v,[]) { s with toks:=tk' })→wpAny (model c.prog c.w) A (getMethod w name pl) Q E s
theorem meth_type {T:String} {v:Value} {name:Str} {K:Value→Prop} (ht:typeOf (.type T)=pure (.type "type")) (hs:Manifest.isStub T=false) (e:findCls c.K (.type T) (.type "type") name=some (.val v)) (hh:handedIn v=true) (h:K v):MethV c name (.st (.type T)) mu K:=fun A g as s pl Q E w G m r q=>by
 obtain ⟨_,rfl⟩:=r.inv
 have X:=G.X.keeps m.keep
 have hstub:opaqueClassAbove (.type T)=pure none:=by unfold opaqueClassAbove;dsimp only;rw [hs];rfl
 have L0:Looks (model c.prog c.w) s.heap (typeOf (.type T)) (.type "type"):=Looks.of_pure ht
 have hg:findIn c.K (.type "type") "__getattribute__"=some (some (.builtin "type.__getattribute__")):=type_tga
 unfold getMethod specialOf
 refine wpAny_bind (wpAny_bind (L0.here ((looks_findIn X hg).here ?_)))
 dsimp only
 rw [if_pos canon_tga]
 refine wpAny_bind (wpAny_mono (Q:=fun v=>Q (v,[])) (E:=E) ?_ (fun Z Z z=>wpAny_pure z) fun Z Z z=>z)
 have LO:Looks (model c.prog c.w) s.heap (opaqueClassAbove (.type T)) none:=Looks.of_pure hstub
 refine cls_open X LO L0 hg (looks_hook X (r:=none) (by rfl)) (by show subIn c.K _ _=_;rfl) e
  (wpAny_pure (by show wpAny _ _ (handedOut v) _ _ _;rw [handedOut_of hh];exact wpAny_pure (q v _ h)))
theorem ev_methV{o:Expr}{name:Str}{apos pos:Pos}{args:List Expr}{pl:Sem Bool}{K:AV→St→Prop}(hne:∀e∈args,∀v p,e≠.Starred v p)
  (he:eval (.Call (.Attribute o name apos) args [] pos) env=(do
   let ov ← eval o env
   standAt apos.atName
   let (f,first) ← holding [ov] (getMethod ov name pl)
   callWith pos f first (backTo pos (starEach args env)) (backToKw pos (keywordEach [] env))))
  (h:EvOK c d u env o σ (fun a σ1=>MethV c name a σ1.mu (fun f=>Keeps c.K f∧AsOK c d u env args σ1 (fun vs σ2=>CallS c d u f vs σ2 K)))) :
  EvOK c d u env (.Call (.Attribute o name apos) args [] pos) σ K:=fun A g as cs s Q E ro G rr q =>
 methodCall_KW (pl:=pl) (h A g as cs s _ E ro G rr fun v1 g1 as1 h1 tk1 a σ1 hg1 ha1 r1 rv1 k1=>k1 A g1 as1 _ pl _ E v1 (G.keeps hg1) r1.mu rv1 fun f tk' kf =>
  as_call (firstA:=[]) (s:=(sh s h1 tk')) kf.1 hne kf.2 ro (G.keeps hg1) r1 .nil fun v g' as' h' tk' av σ' x1 x2 x3 x4 x5=>q v g' as' h' tk' av σ' (StaysIn.trans' hg1 x1) (ha1.trans x2) x3 x4 x5) he
theorem call_star{f:Addr}{a b:AV}{name qual:Str}{params:Arguments}{body:List Stmt}{scope:Scope}{dV kV doc pm cdv ct oc:Value}{an od:Option Addr}{osl:Array (Option Value)}{n0 n1 n2:Str}
  (ho:c.K.lookup f=some ⟨oc,od,.func (fnOf name qual params body scope dV kV doc pm an cdv ct),osl⟩) (hcd:codeIn c.K cdv qual=true) (hroom:d < recursionLimit)
  (hb:∀w0 w1,bindArgs (fnOf name qual params body scope dV kV doc pm an cdv ct) ⟨[w0,w1],[]⟩=(do let t ← newTuple [w1];let dd ← alloc { cls:=.type "dict",data:=.dict #[] };pure [(n0,w0),(n1,t),(n2,.ref dd)]))
  (hnm:∀x∈[n0,n1,n2],scope.names.lookup x=some .local) (h01:n0≠n1) (h02:n0≠n2)
  (h:∀L,SsOK c (d+1) (u+3) (envOf qual scope L f cdv) (execs body (envOf qual scope L f cdv)) ⟨[(n0,a)],mu⟩ (backK K))
  (hco:scope.isCoroutine=false) (hgen:scope.isGenerator=false) (hk:scope.kind=.function) (hcell:∀x∈scope.names,x.2≠.cell) :
  CallOK c d u (.ref f) [a,b] [] mu K:=fun A g as s Q E ws kws ro G m rs rk q=>by
 obtain rfl:=rk.inv
 obtain ⟨w0,_,rfl,r0,rs⟩:=rs.inv
 obtain ⟨w1,_,rfl,r1,rs⟩:=rs.inv
 obtain rfl:=rs.inv
 have X:=G.X.keeps m.keep
 refine wpAny_call (codeAny_call_function (fd:=fnOf name qual params body scope dV kV doc pm an cdv ct) (body:=body) (Nat.lt_of_le_of_lt ro.dp hroom) (X _ _ ho) rfl hco hgen rfl (codeRec_of X hcd) ?_)
 rw [hb]
 refine wpAny_bind (wpAny_newTuple (hsz:=(by show 1≤2 ^ 24;decide)) ?_)
 refine wpAny_bind (wpAny_alloc ?_)
 refine wpAny_pure ?_
 obtain ⟨g1,st1,_,m1⟩:=m.frozen ({ cls:=.type "tuple",data:=.seq [w1].toArray }) rfl
 obtain ⟨g2,st2,_,m2⟩:=m1.frozen ({ cls:=.type "dict",data:=.dict #[] }) rfl
 generalize hp2:(s.heap.push { cls:=.type "tuple",data:=.seq [w1].toArray }).push { cls:=.type "dict",data:=.dict #[] }=hp at m2
 have hd:(s.heap.push { cls:=.type "tuple",data:=.seq [w1].toArray }).objs.size=(s.heap.push { cls:=.type "tuple",data:=.seq [w1].toArray }).objs.size:=rfl
 have G2:=(G.keeps st1).keeps st2
 obtain ⟨hL,hLas⟩:=m2.size_out
 refine wpAny_newFunctionEnv hcell (fun x hx=>?_) (fun h₀ hns hsb=>⟨(G2.lim.keeps m2.keep).fresh _ hsb,codeAny_func ?_⟩) hk
 ·simp only [List.mem_cons,List.not_mem_nil,or_false] at hx
  rcases hx with rfl | rfl | rfl
  ·exact hnm _ (by simp)
  ·exact hnm _ (by simp)
  ·exact hnm _ (by simp)
 have keep0:∀b o,hp.get? b=some o→h₀.get? b=some o:=fun b o e=>hsb.extBut b o (Nat.ne_of_lt (Heap.lt_size e)) (Heap.get?_push_of_some _ e)
 have r₀:R c.w.params g2 as [] (envOf qual scope hp.objs.size f cdv) ⟨[(n0,a)],mu⟩ h₀ :=
  {mu:=⟨fun b o e=>keep0 _ _ (m2.keep b o e),m2.len,m2.nd,fun k a ao h1 h2=>by
    obtain ⟨o,e1,e2⟩:=m2.at' k a ao h1 h2
    exact ⟨o,keep0 _ _ e1,e2⟩,m2.out⟩
   ns:=⟨_,hns,fun x av Z hv=>by
    rw [List.lookup_cons] at hv
    split at hv
    ·rename_i hz
     cases hv
     rw [beq_iff_eq.mp hz]
     refine ⟨w0,?_,(r0.mono st1 (List.prefix_refl _)).mono st2 (List.prefix_refl _)⟩
     have e1:(n0==n1)=false:=beq_eq_false_iff_ne.mpr h01
     have e2:(n0==n2)=false:=beq_eq_false_iff_ne.mpr h02
     simp [List.lookup_cons,e1,e2]
    ·cases hv⟩
   cl:=fun x av hx hv=>by
    have hkf:(envOf qual scope hp.objs.size f cdv).kindOf x=scope.names.lookup x:=rfl
    have hmem:=vH hv
    simp only [List.mem_cons,List.not_mem_nil,or_false,Prod.mk.injEq] at hmem
    rw [hkf,hmem.1,hnm n0 (by simp)] at hx
    rcases hx with hx | hx <;> cases hx
   off:=fun a ha=>by
    rcases List.mem_cons.mp ha with e | e
    ·subst e;exact ⟨hL,hLas⟩
    ·cases e
   nd:=by simp
   cells:=fun x c' e=>by cases e
   inj:=fun x y c' e=>by cases e
   cc:=fun a ha=>by cases ha }
 subst hp2
 exact h _ (A.deeper _) g2 as [] (sh s h₀ _) _ _ ⟨ro.hd,Nat.succ_le_succ ro.dp,Nat.add_le_add_right ro.un 3⟩ G2 r₀ fun fl g' as' h' tk' af σ' hg ha r' rf k=>by
  have hgg:=StaysIn.trans' (StaysIn.trans' st1 st2) hg
  cases rf with
  | next=>exact q .none g' as' h' tk' .none σ'.mu hgg ha r'.mu .none k
  | brk=>exact k.elim
  | cont=>exact k.elim
  | ret rv=>exact q _ g' as' h' tk' _ σ'.mu hgg ha r'.mu rv k
end
end Mine.Internal
end
section
open PySem PySem.Spec PySem.Calls PyProof PyProof.Rows PySem.W PySem.SeqAt
set_option maxHeartbeats 1000000
set_option tactic.hygienic false
namespace Mine.Internal
section
variable {c:Cx}{d u:Nat}{env:Env}{σ:St}{mu:List AO}{K:AV→List AO→Prop}
theorem kZ{x y z:Str}(h:K (.bool ((y==x) || (z==x))) mu):Op2OK c d u (compareOp .In) (.str x) (.tup [.str y,.str z]) mu K:=fun A g as s Q E w1 w2 ro G m r1 r2 q=>by
 obtain ⟨t,rfl⟩:=r1.inv
 obtain ⟨a,ws,n,dd,sl,rfl,e,rs⟩:=r2.inv
 obtain ⟨_,_,rfl,h1,rs⟩:=rs.inv
 obtain ⟨_,_,rfl,h2,rs⟩:=rs.inv
 obtain rfl:=rs.inv
 cases h1 with
 | str _ t1 =>
 cases h2 with
 | str _ t2 =>
 refine in_tupleAt (fun v=>match v with | .str w _=>w==x | _=>false) ⟨_,m.keep _ _ e,rfl,_,rfl⟩ ?_ ?_
 ·intro v hv
  simp at hv
  rcases hv with rfl | rfl
  ·exact EqAt.str_str _ _ _ _
  ·exact EqAt.str_str _ _ _ _
 ·have e2:(#[Value.str y t1,Value.str z t2]:Array Value).any (fun v=>match v with | .str w _=>w==x | _=>false)=((y==x) || (z==x)):=by simp
  have fin:=q _ g as s.heap s.toks _ mu (StaysIn.refl' g) (List.prefix_refl _) m (.bool ((y==x) || (z==x))) h
  rw [← e2] at fin
  exact fin
end
end Mine.Internal
end
section
open PySem PySem.Spec PySem.Calls PyProof PyProof.Rows PySem.W
set_option maxHeartbeats 4000000
set_option tactic.hygienic false
namespace Mine.Internal
theorem mt_lookup:typeLookup (.type "str") (Str.ofString "maketrans")=pure (some (.builtin "str.maketrans")):=by rw [typeLookup_type,builtinLookup_eq_fast];kernel_rfl
theorem mt_type:typeOf (.builtin "str.maketrans")=pure (.type "builtin_function_or_method"):=by show builtinType _=_;rw [builtinType_eq_fast];kernel_rfl
theorem mt_noget:typeLookup (.type "builtin_function_or_method") "__get__"=pure none:=by rw [typeLookup_type,builtinLookup_eq_fast];kernel_rfl
theorem meets_mt_get (x:Str) (t u:Tok):Meets (Builtin.«object.__getattribute__» ⟨[.str x t,.str (Str.ofString "maketrans") u],[]⟩) (fun A R s=>R (.ok (.ret (.builtin "str.maketrans"))) s) :=
 Meets.of_wp fun prog w A R s hs=>by
  obtain ⟨hp,g,d,tk,os⟩:=s
  have hT:∀s':Shared,s'.TypeIs (.str x t) "str":=fun Z=>rfl
  have f1:=mt_lookup
  have f2:=mt_type
  have f3:=mt_noget
  unfold Builtin.«object.__getattribute__»
  repeat (any_goals (first | assumption | wp_step))
  exact ⟨_,rfl,hs⟩
theorem getAttr_mt {prog:Program} {w:World} {A:Around} {E:Value→Shared→Prop} {s:Shared} {x:Str} {t:Tok} {Q:Value→Shared→Prop} (h:∀tk,Q (.builtin "str.maketrans") { s with toks:=tk }) :
  wpAny (model prog w) A (getAttr (.str x t) (Str.ofString "maketrans")) Q E s:=by
 obtain ⟨hp,g,d,tk,os⟩:=s
 have hT:∀s':Shared,s'.TypeIs (.str x t) "str":=fun Z=>rfl
 have f3:=F.slot_str_getattribute.lookup
 have f4:=F.slot_str_getattribute.bind (.str x t)
 have f5:=am_str_getattr_none
 have f6:handedOut (.builtin "str.maketrans")=pure (.builtin "str.maketrans"):=handedOut_of rfl
 unfold getAttr getAttrBy
 repeat (any_goals (first | assumption | ((with_reducible show wpAny _ _ (call (Value.builtin "object.__getattribute__") _ _) _ _ _);refine call_meets F.slot_str_getattribute (hT _) F.entry_object_getattribute (F.args_object_getattribute_2 _ _) (meets_mt_get x t _) ?_) | wp_step))
 all_goals exact h _
theorem kP:checkTypeCall "dict" ⟨[],[]⟩=pure ():=by kernel_rfl
theorem gS:checkBuiltinCall "dict.__new__" ⟨[.type "dict"],[]⟩=pure ():=by kernel_rfl
theorem jY (a:Value):argsOk "dict.__init__" ⟨[a],[]⟩:=by unfold argsOk;kernel_rfl
section
variable {prog:Program}{w:World}{A:Around}{E:Value→Shared→Prop}{s:Shared}
theorem fH {Q₁:Value→Shared→Prop} (h:Q₁ (.ref s.heap.objs.size) { s with heap:=s.heap.push { cls:=.type "dict",data:=.dict #[] } }) :
  codeAny (model prog w) A (.call (.builtin "dict.__new__") ⟨[.type "dict"],[]⟩) (wants Q₁ E) s:=by
 refine codeAny_call_builtin F.kt_plain_dict_new F.kt_entry_dict_new (wpAny_of_eq gS ?_)
 have hsub:=F.kt_sub_dict
 have hmro:=F.kt_mro_dict
 obtain ⟨hp,g,d,tk,os⟩:=s
 unfold Builtin.«dict.__new__»
 wp_walk
 exact h
theorem call_dict0 {Q:Value→Shared→Prop} (h:Q (.ref s.heap.objs.size) { s with heap:=s.heap.push { cls:=.type "dict",data:=.dict #[] } }):wpAny (model prog w) A (call (.type "dict") []) Q E s:=by
 refine callType_codes (Q₁:=fun obj s₁=>obj=.ref s.heap.objs.size∧s₁={ s with heap:=s.heap.push { cls:=.type "dict",data:=.dict #[] } }) F.kt_called_dict kP F.entry_dict_init (fH ⟨rfl,rfl⟩) ?_
 rintro obj s₁ ⟨rfl,rfl⟩
 have hnew:(s.heap.push { cls:=.type "dict",data:=.dict #[] }).DictOf (PySem.strKind prog w) s.heap.objs.size []:=Heap.DictOf.new s.heap
 refine ⟨hnew.typeIs,jY _,?_⟩
 unfold Builtin.«dict.__init__»
 refine wpAny_bind ?_
 unfold Builtin.Dict.selfAndRest
 refine wpAny_bind (wpAny_notOrdered_dict hnew.typeIs ?_)
 show wpAny _ _ (pure (s.heap.objs.size,[])) _ _ _
 refine wpAny_pure ?_
 show wpAny _ _ (Builtin.Dict.addKeywords s.heap.objs.size [] >>= _) _ _ _
 exact wpAny_bind (wpAny_pure (wpAny_pure ⟨rfl,h⟩))
noncomputable def chKeys(l:List Nat):List (Str×Value):=l.map fun ch=>(⟨#[ch]⟩,Value.none)
theorem en_fk:entryFor table "dict.fromkeys"=some Builtin.«dict.fromkeys»:=entryFor_of_tree (by kernel_rfl)
theorem en_fkl:entryFor table "dict.fromkeys.loop"=some Builtin.«dict.fromkeys.loop»:=entryFor_of_tree (by kernel_rfl)
theorem q_fkl {as:Args}:(Code.builtin "dict.fromkeys.loop" as).quiet=true:=Code.quiet_builtin _ (by decide +kernel)
theorem q_fk {as:Args}:(Code.builtin "dict.fromkeys" as).quiet=true:=Code.quiet_builtin _ (by decide +kernel)
end
section
variable {c:Cx}{d u:Nat}{env:Env}{σ:St}{mu:List AO}
theorem meth_mt {x:Str} {K:Value→Prop} (h:K (.builtin "str.maketrans")):MethV c (Str.ofString "maketrans") (.str x) mu K:=fun A g as s pl Q E w G m r q=>by
 obtain ⟨t,rfl⟩:=r.inv
 have hT:∀s':Shared,s'.TypeIs (.str x t) "str":=fun Z=>rfl
 obtain ⟨gg,hg,hcan⟩:=F.plainAttrs_str.ga
 unfold getMethod
 refine wpAny_bind ?_
 refine' wpAny_specialOf (T:="str") ?y1z0 ?y1z1 ?_
 case y1z0=>exact hT _
 case y1z1=>exact hg
 show wpAny _ A (if (Manifest.canonical gg != "object.__getattribute__")=true then _ else _) Q E s
 rw [hcan,if_neg Bool.false_ne_true]
 refine wpAny_bind ?_
 refine' wpAny_specialOf (T:="str") ?y2z0 ?y2z1 ?_
 case y2z0=>exact hT _
 case y2z1=>exact F.plainAttrs_str.noGetattr
 refine wpAny_bind ?_
 refine' wpAny_specialOf (T:="str") ?y3z0 ?y3z1 ?_
 case y3z0=>exact hT _
 case y3z1=>exact mt_lookup
 refine wpAny_bind (wpAny_of_eq mt_type ?_)
 refine wpAny_bind (getAttr_mt fun tk=>?_)
 exact wpAny_pure (q _ _ h)
end
theorem chKeys_stored(a:List Nat)(ch:Nat)(h:ch∉a):stored (chKeys a) ⟨#[ch]⟩ .none=chKeys (a++[ch]):=by
 unfold stored
 rw [if_neg]
 ·simp [chKeys]
 ·intro z
  rw [List.any_eq_true] at z
  obtain ⟨p,hp,e⟩:=z
  unfold chKeys at hp
  obtain ⟨x,hx,rfl⟩:=List.mem_map.mp hp
  have:(⟨#[x]⟩:Str)=⟨#[ch]⟩:=by simpa using e
  cases this
  exact h hx
section
variable {prog:Program}{w:World}
end
namespace fk_loop
noncomputable def Cq(prog:Program)(w:World)(x:Str)(l:List Nat)(I d:Addr)(St:Nat→Heap→Prop):Prop:=∀(hx:x.cps.toList=l) (hn:l.Nodup) (hz:l.length≤100) (hne:I≠d) (hW:∀A':Around,A'.handled=none→Walks prog w A' I [I] [I] x.cps.size (SignAt x) St),∀(k i:Nat),i+k=l.length→∀(A:Around),A.handled=none→∀(s:Shared) (R:Result→Shared→Prop),s.heap.DictOf (PySem.strKind prog w) d (chKeys (l.take i))→St i s.heap →
   (∀h' tk,h'.DictOf (PySem.strKind prog w) d (chKeys l)→(∀b o,b≠d→b≠I→s.heap.get? b=some o→h'.get? b=some o)→R (.ok (.ret (.ref d))) (sh s h' tk)) →
   codeAny (model prog w) A (.builtin "dict.fromkeys.loop" ⟨[.ref d,.ref I,.none],[]⟩) R s
noncomputable def Dq(p:Program×World×Str×(List Nat)×Addr×Addr×(Nat→Heap→Prop)):Prop:=Cq p.1 p.2.1 p.2.2.1 p.2.2.2.1 p.2.2.2.2.1 p.2.2.2.2.2.1 p.2.2.2.2.2.2
def tq:=@ep _ (by have:=neProgram;have:=neWorld;infer_instance) Dq
def prog:=tq.1
def w:=tq.2.1
def x:=tq.2.2.1
def l:=tq.2.2.2.1
def I:=tq.2.2.2.2.1
def d:=tq.2.2.2.2.2.1
def St:=tq.2.2.2.2.2.2
theorem T0:Cq prog w x l I d St:=by
 intro hx hn hz hne hW
 have hsz:x.cps.size=l.length:=by rw [← hx];simp
 intro k
 induction k with
 | zero =>
  intro i hi A hh s R hd hst hq
  refine codeAny_builtin en_fkl ?_
  have hA:(A.under (.builtin "dict.fromkeys.loop" ⟨[.ref d,.ref I,.none],[]⟩)).handled=none:=hh
  unfold Builtin.«dict.fromkeys.loop»
  have hii:i=x.cps.size:=by exact o82 hsz hi
  subst hii
  refine wpAny_bind ((hW _ hA).done s _ _ hst fun h' tk hk=>?_)
  refine wpAny_pure ?_
  refine hq h' tk ?_ fun b o h1 h2 e=>hk b o (by simpa using h2) e
  have e:l.take x.cps.size=l:=by rw [hsz];exact List.take_length
  rw [e] at hd
  obtain ⟨o,ho,hio⟩:=Heap.dictOf_iff.mp hd
  exact Heap.dictOf_iff.mpr ⟨o,hk _ _ (by simpa using hne.symm) ho,hio⟩
 | succ k ih =>
  intro i hi A hh s R hd hst hq
  refine codeAny_builtin en_fkl ?_
  have hA:(A.under (.builtin "dict.fromkeys.loop" ⟨[.ref d,.ref I,.none],[]⟩)).handled=none:=hh
  unfold Builtin.«dict.fromkeys.loop»
  refine wpAny_bind ((hW _ hA).item i s _ _ (by exact o83 hsz hi) hst fun v h' tk hv hst' hk=>?_)
  obtain ⟨ch,u,e1,rfl⟩:=hv
  have hil:l[i]?=some ch:=by rw [← hx,Array.getElem?_toList];exact e1
  have hlt:i < l.length:=(List.getElem?_eq_some_iff.mp hil).1
  have hni:ch∉l.take i:=fun hm=>by
   obtain ⟨j,hj,ej⟩:=List.getElem_of_mem hm
   simp only [List.length_take] at hj
   rw [List.getElem_take] at ej
   have e2:=(List.getElem?_eq_some_iff.mp hil).2
   have:=(List.getElem_inj hn).mp (ej.trans e2.symm)
   exact Nat.ne_of_lt (Nat.lt_of_lt_of_le hj (Nat.min_le_left _ _)) this
  have hd1:h'.DictOf (PySem.strKind prog w) d (chKeys (l.take i)):=by
   obtain ⟨o,ho,hio⟩:=Heap.dictOf_iff.mp hd
   exact Heap.dictOf_iff.mpr ⟨o,hk _ _ (by simpa using hne.symm) ho,hio⟩
  refine wpAny_bind (wpAny_typeOf (s:=(sh s h' tk)) hd1.typeIs ?_)
  rw [if_pos (by decide)]
  refine wpAny_bind (wpAny_of_eq (a:=d) rfl ?_)
  refine wpAny_bind (wpAny_holding ?_)
  refine wpAny_dictSet_pairs (knd:=PySem.strKind prog w) (k:=⟨#[ch]⟩) (by simp [PySem.strKind,Value.isStrOf]) hd1 (fun h₁ hm₁ hs₁=>?_) (by unfold chKeys;simp;unfold sizeLine;exact o84 hz)
  refine wpAny_pure ⟨q_fkl,?_⟩
  rw [chKeys_stored _ _ hni] at hm₁
  have et:l.take i++[ch]=l.take (i+1):=by rw [List.take_add_one,hil];rfl
  rw [et] at hm₁
  refine ih (i+1) (by exact o77 hi) A hh _ R hm₁ ((hW A hh).frame _ _ _ hst' fun b hb o e=>?_) fun h2 tk2 hd2 hk2=>hq h2 tk2 hd2 fun b o h1 h2' e=>hk2 b o h1 h2' ?_
  ·rw [List.mem_singleton.mp hb] at e ⊢
   exact (hs₁.2 I hne).trans e
  ·exact (hs₁.2 b h1).trans (hk b o (by simpa using h2') e)
end fk_loop
section
variable {prog:Program}{w:World}
theorem fk_loop{x:Str}{l:List Nat}(hx:x.cps.toList=l)(hn:l.Nodup)(hz:l.length≤100){I d:Addr}(hne:I≠d){St:Nat→Heap→Prop}(hW:∀A':Around,A'.handled=none→Walks prog w A' I [I] [I] x.cps.size (SignAt x) St):
  ∀(k i:Nat),i+k=l.length→∀(A:Around),A.handled=none→∀(s:Shared) (R:Result→Shared→Prop),s.heap.DictOf (PySem.strKind prog w) d (chKeys (l.take i))→St i s.heap →
   (∀h' tk,h'.DictOf (PySem.strKind prog w) d (chKeys l)→(∀b o,b≠d→b≠I→s.heap.get? b=some o→h'.get? b=some o)→R (.ok (.ret (.ref d))) (sh s h' tk)) →
   codeAny (model prog w) A (.builtin "dict.fromkeys.loop" ⟨[.ref d,.ref I,.none],[]⟩) R s:=(@eps _ _ fk_loop.Dq fk_loop.tq rfl @fk_loop.T0 (prog,w,x,l,I,d,St)) hx hn hz hne hW
end
theorem check_fk (v:Value):checkBoundCall "dict.fromkeys" ⟨[.type "dict",v],[]⟩=pure ():=by kernel_rfl
theorem isT_dict:isType (.type "dict")=pure true:=by first | rfl | kernel_rfl | (unfold isType;rw [isSubtype_type];kernel_rfl)
noncomputable abbrev fkBound:Obj:={ cls:=.type "builtin_function_or_method",data:=.fields #[.builtin "dict.fromkeys",.type "dict"] }
section
variable {prog:Program}{w:World}{A:Around}{E:Value→Shared→Prop}{s:Shared}
end
namespace call_fk
noncomputable def Cq(prog:Program)(w:World)(A:Around)(E:Value→Shared→Prop)(s:Shared)(f:Addr)(x:Str)(t:Tok)(l:List Nat)(Q:Value→Shared→Prop):Prop:=∀(hf:s.heap.get? f=some fkBound) (hh:A.handled=none) (hx:x.cps.toList=l) (hn:l.Nodup) (hz:l.length≤100) (h:∀h' tk,h'.DictOf (PySem.strKind prog w) s.heap.objs.size (chKeys l)→(∀b o,s.heap.get? b=some o→h'.get? b=some o)→Q (.ref s.heap.objs.size) (sh s h' tk)),wpAny (model prog w) A (call (.ref f) [.str x t]) Q E s
noncomputable def Dq(p:Program×World×Around×(Value→Shared→Prop)×Shared×Addr×Str×Tok×(List Nat)×(Value→Shared→Prop)):Prop:=Cq p.1 p.2.1 p.2.2.1 p.2.2.2.1 p.2.2.2.2.1 p.2.2.2.2.2.1 p.2.2.2.2.2.2.1 p.2.2.2.2.2.2.2.1 p.2.2.2.2.2.2.2.2.1 p.2.2.2.2.2.2.2.2.2
def tq:=@ep _ (by have:=neAround;have:=neProgram;have:=neShared;have:=neWorld;infer_instance) Dq
def prog:=tq.1
def w:=tq.2.1
def A:=tq.2.2.1
def E:=tq.2.2.2.1
def s:=tq.2.2.2.2.1
def f:=tq.2.2.2.2.2.1
def x:=tq.2.2.2.2.2.2.1
def t:=tq.2.2.2.2.2.2.2.1
def l:=tq.2.2.2.2.2.2.2.2.1
def Q:=tq.2.2.2.2.2.2.2.2.2
theorem T0:Cq prog w A E s f x t l Q:=by
 intro hf hh hx hn hz h
 refine wpAny_call (codeAny_of_tree ?_)
 show wpAny _ A.in1 (callAny (.ref f) ⟨[.str x t],[]⟩) _ _ s
 unfold callAny
 refine wpAny_bind (wpAny_load hf ?_)
 dsimp only
 rw [if_pos (by decide)]
 show wpAny _ A.in1 (checkBoundCall "dict.fromkeys" ⟨[.type "dict",.str x t],[]⟩ >>= fun Z=>again (.builtin "dict.fromkeys" ⟨[.type "dict",.str x t],[]⟩)) _ _ s
 refine wpAny_bind (wpAny_of_eq (check_fk _) (wpAny_pure (And.intro q_fk (codeAny_builtin en_fk ?_))))
 have hA:(A.under (.builtin "dict.fromkeys" ⟨[.type "dict",.str x t],[]⟩)).handled=none:=hh
 generalize A.under (.builtin "dict.fromkeys" ⟨[.type "dict",.str x t],[]⟩)=B at hA
 unfold Builtin.«dict.fromkeys»
 dsimp only
 refine wpAny_bind (wpAny_of_eq isT_dict ?_)
 refine wpAny_bind (wpAny_of_eq F.kt_sub_dict ?_)
 show wpAny _ B (rule "dict.fromkeys.default-none" >>= _) _ _ _
 refine wpAny_bind (wpAny_rule ?_)
 refine wpAny_bind (wpAny_pure ?_)
 refine wpAny_bind (call_dict0 ?_)
 have hd:(s.heap.push { cls:=.type "dict",data:=.dict #[] }).DictOf (PySem.strKind prog w) s.heap.objs.size []:=Heap.DictOf.new s.heap
 refine wpAny_holding ?_
 refine wpAny_bind (wpAny_typeOf (s:={ s with heap:=s.heap.push { cls:=.type "dict",data:=.dict #[] } }) (T:="str") (typeIs_str _ x t) ?_)
 refine wpAny_bind (wpAny_typeOf (s:={ s with heap:=s.heap.push { cls:=.type "dict",data:=.dict #[] } }) hd.typeIs ?_)
 rw [if_neg (by decide)]
 refine wpAny_bind (wpAny_typeOf (s:={ s with heap:=s.heap.push { cls:=.type "dict",data:=.dict #[] } }) hd.typeIs ?_)
 rw [if_neg (by decide)]
 refine wpAny_bind (wpAny_pyIter_str fun o St hW hst=>?_)
 refine wpAny_pure ⟨q_fkl,?_⟩
 dsimp only
 have hsz:(s.heap.push { cls:=.type "dict",data:=.dict #[] }).objs.size=s.heap.objs.size+1:=Heap.size_push ..
 rw [hsz]
 rw [hsz] at hW
 refine fk_loop (St:=St) hx hn hz (Nat.succ_ne_self _) hW l.length 0 (by exact o85) A hh _ _ ?_ hst fun h' tk hd' hk=>h h' tk hd' fun b ob e=>?_
 ·exact hd.push _
 ·have hb:=Heap.lt_size e
  exact hk b ob (Nat.ne_of_lt hb) (Nat.ne_of_lt (Nat.lt_succ_of_lt hb)) (Heap.get?_push_of_some _ (Heap.get?_push_of_some _ e))
end call_fk
section
variable {prog:Program}{w:World}{A:Around}{E:Value→Shared→Prop}{s:Shared}
theorem call_fk{f:Addr}{x:Str}{t:Tok}{l:List Nat}{Q:Value→Shared→Prop}(hf:s.heap.get? f=some fkBound)(hh:A.handled=none)(hx:x.cps.toList=l)(hn:l.Nodup)(hz:l.length≤100)
  (h:∀h' tk,h'.DictOf (PySem.strKind prog w) s.heap.objs.size (chKeys l)→(∀b o,s.heap.get? b=some o→h'.get? b=some o)→Q (.ref s.heap.objs.size) (sh s h' tk)) :
  wpAny (model prog w) A (call (.ref f) [.str x t]) Q E s:=(@eps _ _ call_fk.Dq call_fk.tq rfl @call_fk.T0 (prog,w,A,E,s,f,x,t,l,Q)) hf hh hx hn hz h
theorem fk_owner_get{P:Fin→Shared→Prop}(h:P (.done (.ret (.ref s.heap.objs.size))) { s with heap:=s.heap.push fkBound }):
  wpAny (model prog w) A (Builtin.«classmethod_descriptor.__get__» ⟨[.builtin "dict.fromkeys",.none,.type "dict"],[]⟩) P E s:=by
 have e:Builtin.«classmethod_descriptor.__get__» ⟨[.builtin "dict.fromkeys",.none,.type "dict"],[]⟩=(do PySem.ret (← newFields "builtin_function_or_method" [.builtin "dict.fromkeys",.type "dict"])):=by kernel_rfl
 rw [e]
 exact wpAny_bind (wpAny_newObj_type (wpAny_pure h))
theorem fk_type:typeOf (.builtin "dict.fromkeys")=pure (.type "classmethod_descriptor"):=by show builtinType _=_;rw [builtinType_eq_fast];kernel_rfl
theorem fk_getm{K:Frag}{pl:Sem Bool}{Q:Value×List Value→Shared→Prop}(X:K.In s.heap)
  (e:findCls K (.type "dict") (.type "type") (PySem.Str.ofString "fromkeys")=some (.get (.builtin "classmethod_descriptor.__get__") (.builtin "dict.fromkeys") .none (.type "dict")))
  (h:Q (.ref s.heap.objs.size,[]) (sh s (s.heap.push fkBound) (s.toks+1))) :
  wpAny (model prog w) A (getMethod (.type "dict") (PySem.Str.ofString "fromkeys") pl) Q E s:=by
 have hstub:opaqueClassAbove (.type "dict")=pure none:=by unfold opaqueClassAbove;dsimp only;rw [show Manifest.isStub "dict"=false by decide +kernel];rfl
 have ht:typeOf (.type "dict")=pure (.type "type"):=by first | rfl | kernel_rfl
 have L0:Looks (model prog w) s.heap (typeOf (.type "dict")) (.type "type"):=Looks.of_pure ht
 have hg:findIn K (.type "type") "__getattribute__"=some (some (.builtin "type.__getattribute__")):=type_tga
 unfold getMethod specialOf
 refine wpAny_bind ?_
 refine wpAny_bind ?_
 refine L0.here ?_
 refine (looks_findIn X hg).here ?_
 dsimp only
 rw [if_pos canon_tga]
 refine wpAny_bind (wpAny_mono (Q:=fun v=>Q (v,[])) (E:=E) ?_ (fun Z Z z=>wpAny_pure z) fun Z Z z=>z)
 have LO:Looks (model prog w) s.heap (opaqueClassAbove (.type "dict")) none:=Looks.of_pure hstub
 refine cls_open X LO L0 hg (looks_hook X (r:=none) (by rfl)) (by show subIn K _ _=_;rfl) e ?_
 show wpAny _ _ (holding [.builtin "dict.fromkeys"] (call (.builtin "classmethod_descriptor.__get__") [.builtin "dict.fromkeys",.none,.type "dict"]) >>= fun v=>PySem.ret v) _ _ _
 refine wpAny_bind (wpAny_holding (wpAny_call_entry KFB.slot_get fk_type KFB.entry_get (fk_owner_get ⟨_,rfl,wpAny_pure (wpAny_pure h)⟩) (KFB.args_get _ _ _)))
end
section
variable {c:Cx}{d u:Nat}{env:Env}{σ:St}
end
end Mine.Internal
end
section
open PySem PySem.Spec PySem.Calls PyProof PyProof.Rows PySem.W
set_option maxHeartbeats 4000000
namespace Mine.Internal
noncomputable def icKeys(l:List Nat):List (Int×Value):=l.map fun ch=>(((ch:Nat):Int),Value.none)
theorem icKeys_stored(a:List Nat)(ch:Nat)(h:ch∉a):stored (icKeys a) ((ch:Nat):Int) .none=icKeys (a++[ch]):=by
 unfold stored
 rw [if_neg]
 ·simp [icKeys]
 ·intro z
  rw [List.any_eq_true] at z
  obtain ⟨p,hp,e⟩:=z
  unfold icKeys at hp
  obtain ⟨x,hx,rfl⟩:=List.mem_map.mp hp
  have:((x:Nat):Int)=(ch:Int):=by simpa using e
  have:x=ch:=by exact o86 this
  subst this
  exact h hx
theorem en_mt:entryFor table "str.maketrans"=some Builtin.«str.maketrans»:=entryFor_of_tree (by kernel_rfl)
theorem pl_mt:plainId "str.maketrans"=true:=by decide +kernel
theorem ck_mt (v:Value):checkBuiltinCall "str.maketrans" ⟨[v],[]⟩=pure ():=by kernel_rfl
section
variable {prog:Program}{w:World}{A:Around}{E:Value→Shared→Prop}{s:Shared}
theorem mt_loop{T:Addr}(f:DictEntry→PUnit→Sem (ForInStep PUnit))(hf:∀hh ch t v,f ⟨hh,.str ⟨#[ch]⟩ t,v⟩ PUnit.unit=(do let i ← mkInt ((ch:Nat):Int);dictSet T i v;pure (ForInStep.yield PUnit.unit))):
  ∀(es:List DictEntry) (r a:List Nat) (s:Shared) (Q:PUnit→Shared→Prop),Pairs (PySem.strKind prog w) es (chKeys r)→(a++r).Nodup→(a++r).length≤100→s.heap.DictOf (PySem.intKind prog w) T (icKeys a) →
   (∀h' tk,h'.DictOf (PySem.intKind prog w) T (icKeys (a++r))→(∀b o,b≠T→s.heap.get? b=some o→h'.get? b=some o)→Q PUnit.unit (sh s h' tk))→wpAny (model prog w) A (forIn es PUnit.unit f) Q E s:=by
 intro zz
 induction zz with
 | nil =>
  intro r a s Q hp hn hz hd q
  cases r with
  | cons x r=>cases hp
  | nil =>
   rw [List.forIn_nil]
   rw [List.append_nil] at q
   exact wpAny_pure (q s.heap s.toks hd fun b o Z e=>e)
 | cons e es ih =>
  intro r a s Q hp hn hz hd q
  cases r with
  | nil=>cases hp
  | cons ch r =>
   unfold chKeys at hp
   rw [List.map_cons] at hp
   cases hp with
   | cons h1 h2 h3 =>
    obtain ⟨hh,key,val⟩:=e
    dsimp only at h1 h2
    subst h2
    have hkey:∃t,key=.str ⟨#[ch]⟩ t:=by
     cases key <;> simp [PySem.strKind,Value.isStrOf] at h1
     rename_i x t
     exact ⟨t,by rw [h1]⟩
    obtain ⟨t,rfl⟩:=hkey
    rw [List.forIn_cons,hf]
    refine wpAny_bind (wpAny_bind (wpAny_mkInt ?_))
    have hni:ch∉a:=fun hm=>by
     rw [List.nodup_append] at hn
     exact hn.2.2 ch hm ch (.head _) rfl
    refine wpAny_bind (wpAny_dictSet_pairs (knd:=PySem.intKind prog w) (k:=((ch:Nat):Int)) (s:={ s with toks:=s.toks+1 }) (by simp [PySem.intKind,Value.isInt]) hd (fun h₁ hm₁ hs₁=>?_) (by unfold icKeys;simp at hz ⊢;unfold sizeLine;exact o87 hz))
    refine wpAny_pure ?_
    rw [icKeys_stored _ _ hni] at hm₁
    have ea:a++ch::r=a++[ch]++r:=by simp
    rw [ea] at hn hz q
    exact ih r (a++[ch]) _ Q h3 hn hz hm₁ fun h' tk hd' hk=>q h' tk hd' fun b o hb e=>hk b o hb ((hs₁.2 b hb).trans e)
theorem mt_body{dd:Addr}{l:List Nat}{Q:Value→Shared→Prop}(hd:s.heap.DictOf (PySem.strKind prog w) dd (chKeys l))(hS:(dd==sysModules)=false)(hn:l.Nodup)(hz:l.length≤100)
  (h:∀h' tk,h'.DictOf (PySem.intKind prog w) s.heap.objs.size (icKeys l)→(∀b o,s.heap.get? b=some o→h'.get? b=some o)→Q (.ref s.heap.objs.size) (sh s h' tk)) :
  wpAny (model prog w) A (call (.builtin "str.maketrans") [.ref dd]) Q E s:=by
 refine wpAny_call (codeAny_call_builtin pl_mt en_mt (wpAny_of_eq (ck_mt _) ?_))
 generalize A.in1=B
 unfold Builtin.«str.maketrans»
 dsimp only
 have hT:=hd.typeIs
 obtain ⟨hp,g,dr,tk,os⟩:=s
 repeat (any_goals (first | assumption | wp_step))
 obtain ⟨o,es,ep,ho,hex,hod,_,hpr,_⟩:=id hd
 have hpd:hp.objs.size≠dd:=fun z=>absurd (Heap.lt_size ho) (by rw [← z];exact Nat.lt_irrefl _)
 have ho1:(hp.push { cls:=.type "dict",data:=.dict #[] }).get? dd=some o:=Heap.get?_push_of_some _ ho
 have hd1:(hp.push { cls:=.type "dict",data:=.dict #[] }).DictOf (PySem.intKind prog w) hp.objs.size []:=Heap.DictOf.new hp
 refine wpAny_loadPart ho1 (wpAny_pure ?_)
 rw [hex.1]
 refine wpAny_bind (wpAny_of_eq (a:=()) rfl ?_)
 refine wpAny_bind (wpAny_typeOf (T:="dict") ⟨_,ho1,hex.1⟩ ?_)
 rw [if_neg (by decide)]
 refine wpAny_bind ?_
 unfold notTheModulesDict
 rw [if_neg (by rw [hS];decide)]
 refine wpAny_pure ?_
 refine wpAny_bind (wpAny_dictEntries ho1 hod ?_)
 rw [← Array.forIn_toList]
 refine wpAny_bind (mt_loop (T:=hp.objs.size) _ (fun Z Z Z Z=>rfl) es.toList l [] _ _ hpr (by simpa using hn) (by simpa using hz) hd1 fun h' tk' hd' hk=>?_)
 rw [List.nil_append] at hd'
 refine wpAny_pure (wpAny_pure ?_)
 refine h h' tk' hd' fun b ob e=>hk b ob (fun z=>?_) (Heap.get?_push_of_some _ e)
 subst z
 exact absurd (Heap.lt_size e) (Nat.lt_irrefl _)
end
end Mine.Internal
end
section
open PySem PySem.Spec PySem.Calls PyProof PyProof.Rows PySem.W
set_option maxHeartbeats 4000000
set_option tactic.hygienic false
namespace Mine.Internal
theorem en_tr:entryFor table "str.translate"=some Builtin.«str.translate»:=entryFor_of_tree (by kernel_rfl)
theorem gG:isSubtype (.type "KeyError") (.type "LookupError")=pure true:=by rw [isSubtype_type];kernel_rfl
theorem valueAt_ic{l:List Nat}{ch:Nat}(h:ch∉l):valueAt (icKeys l) ((ch:Nat):Int)=none:=by
 unfold valueAt icKeys
 rw [Option.map_eq_none_iff,List.find?_eq_none]
 intro p hp
 obtain ⟨x,hx,rfl⟩:=List.mem_map.mp hp
 simp only [decide_eq_true_eq]
 intro z
 have e:x=ch:=by exact o86 z
 subst e
 exact h hx
section
variable {prog:Program}{w:World}{A:Around}{E:Value→Shared→Prop}{s:Shared}
theorem tl_keep{T:Addr}{l:List Nat}{ch:Nat}{Q:Builtin.Str.Mapped→Shared→Prop}(hm:s.heap.DictOf (PySem.intKind prog w) T (icKeys l))(hT:(T==sysModules)=false)(hh:A.handled=none)(hc:ch∉l)
  (h:∀h' tk,(∀b o,s.heap.get? b=some o→h'.get? b=some o)→Q .keep (sh s h' tk)):wpAny (model prog w) A (Builtin.Str.tableLookup (.ref T) ch) Q E s:=by
 unfold Builtin.Str.tableLookup
 refine wpAny_bind (wpAny_attempt (wpAny_bind (wpAny_mkInt ?_)))
 refine wpAny_getItem_missing_of (knd:=PySem.intKind prog w) (k:=((ch:Nat):Int)) (s:={ s with toks:=s.toks+1 }) (by simp [PySem.intKind,Value.isInt]) hT hh hm.mapOf (valueAt_ic hc) fun h' e hx=>?_
 dsimp only
 have hT':Shared.TypeIs (sh s h' (s.toks+1+1)) (.ref e) "KeyError":=by obtain ⟨o,_,ho,hc,_⟩:=hx.there;exact ⟨o,ho,hc⟩
 refine wpAny_bind (wpAny_isInstance hT' gG ?_)
 rw [if_pos rfl]
 exact wpAny_bind (wpAny_rule (wpAny_pure (h h' _ fun b o e=>hx.keeps b o e)))
noncomputable abbrev TrSt:=List Str×Nat×Bool×List (Nat×Option Nat)×Bool
theorem tr_loop{T:Addr}{l:List Nat}{B:Around}(hT:(T==sysModules)=false)(hh:B.handled=none)(f:Nat→TrSt→Sem (ForInStep TrSt))
  (hf:∀(ch:Nat) (p:List Str) (n:Nat) (kn:List (Nat×Option Nat)) (s:Shared) (Q:ForInStep TrSt→Shared→Prop),n≤20000→wpAny (model prog w) B (Builtin.Str.tableLookup (.ref T) ch) (fun m s'=>m=.keep∧Q (.yield (⟨#[ch]⟩::p,n+1,false,kn,false)) s') E s→wpAny (model prog w) B (f ch (p,n,false,kn,false)) Q E s) :
  ∀(cs:List Nat) (p:List Str) (n:Nat) (kn:List (Nat×Option Nat)) (s:Shared) (Q:TrSt→Shared→Prop),n+cs.length≤20000→(∀ch∈cs,ch∉l)→s.heap.DictOf (PySem.intKind prog w) T (icKeys l) →
   (∀h' tk,(∀b o,s.heap.get? b=some o→h'.get? b=some o)→Q ((cs.map fun ch=>(⟨#[ch]⟩:Str)).reverse++p,n+cs.length,false,kn,false) (sh s h' tk))→wpAny (model prog w) B (forIn cs ((p,n,false,kn,false):TrSt) f) Q E s:=by
 intro zz
 induction zz with
 | nil =>
  intro p n kn s Q hz hc hm q
  rw [List.forIn_nil]
  exact wpAny_pure (q s.heap s.toks fun b o e=>e)
 | cons ch cs ih =>
  intro p n kn s Q hz hc hm q
  rw [List.forIn_cons]
  simp only [List.length_cons] at hz
  refine wpAny_bind (hf ch p n kn s _ (by exact o88 hz) ?_)
  refine tl_keep hm hT hh (hc ch (.head _)) fun h' tk hk=>⟨rfl,?_⟩
  obtain ⟨o,ho,hio⟩:=Heap.dictOf_iff.mp hm
  refine ih (⟨#[ch]⟩::p) (n+1) kn (sh s h' tk) Q (by exact o89 hz) (fun c' hc'=>hc c' (.tail _ hc')) (Heap.dictOf_iff.mpr ⟨o,hk _ _ ho,hio⟩) fun h2 tk2 hk2=>?_
  have:=q h2 tk2 fun b o e=>hk2 b o (hk b o e)
  rw [List.map_cons,List.reverse_cons,List.append_assoc] at this
  simp only [List.length_cons] at this
  rw [show n+(cs.length+1)=n+1+cs.length by exact o90] at this
  exact this
theorem glue_ones(cs:List Nat):((cs.map fun ch=>(⟨#[ch]⟩:Str)).reverse++([]:List Str)).reverse.foldl (fun acc p=>acc++p.cps) (#[]:Array Nat)=cs.toArray:=by
 have key:∀(cs:List Nat) (a:Array Nat),(cs.map fun ch=>(⟨#[ch]⟩:Str)).foldl (fun acc p=>acc++p.cps) a=a++cs.toArray:=by
  intro cs
  induction cs with
  | nil=>intro a;simp
  | cons c cs ih=>intro a;rw [List.map_cons,List.foldl_cons,ih];simp
 rw [List.append_nil,List.reverse_reverse,key]
 simp
theorem tr_body{T:Addr}{l:List Nat}{x:Str}{t:Tok}{Q:Value→Shared→Prop}(hm:s.heap.DictOf (PySem.intKind prog w) T (icKeys l))(hT:(T==sysModules)=false)(hh:A.handled=none)(hx0:0 < x.length)(hz:x.length≤10000)(hasc:x.cps.all (· < 128)=false)(hc:∀ch∈x.cps.toList,ch∉l)
  (h:∀h' t' tk,(∀b o,s.heap.get? b=some o→h'.get? b=some o)→Q (.str x t') (sh s h' tk)):wpAny (model prog w) A (call (.builtin "str.translate") [.str x t,.ref T]) Q E s:=by
 refine wpAny_call_entry F.slot_str_translate (typeIs_str _ x t) en_tr ?_ (F.args_str_translate_2 _ _)
 have hB:A.in1.handled=none:=hh
 generalize A.in1=B at hB
 unfold Builtin.«str.translate»
 refine wpAny_bind (wpAny_of_eq (a:=(.str x t,x,.ref T)) rfl ?_)
 dsimp only
 rw [if_neg (by simp;exact o91 hx0)]
 rw [hasc,← Array.forIn_toList]
 refine wpAny_bind (tr_loop (T:=T) (l:=l) hT (show B.handled=none from hB) _ (fun ch p n kn s Q hn hk=>?_) x.cps.toList [] 0 [] s _ (by simp [Str.length] at hz ⊢;exact o92 hz) hc hm fun h' tk hk=>?_)
 ·dsimp only
  rw [if_neg (by unfold Builtin.Str.tooLong sizeLine;simp;exact o93 hn),if_neg (by decide),if_neg (by decide)]
  refine wpAny_bind (wpAny_mono hk (fun m s' hm=>?_) fun Z Z z=>z)
  obtain ⟨rfl,hq⟩:=hm
  exact wpAny_pure hq
 ·dsimp only
  rw [if_neg (by unfold Builtin.Str.tooLong sizeLine;simp [Str.length] at hz ⊢;exact o94 hz)]
  rw [glue_ones]
  have ex:(⟨x.cps.toList.toArray⟩:Str)=x:=by simp
  rw [ex]
  unfold PySem.retStr
  refine wpAny_bind ?_
  unfold mkStr
  rw [if_neg (by unfold sizeLine;exact o95 hz)]
  refine wpAny_bind (wpAny_fresh ?_)
  exact wpAny_pure (wpAny_pure ⟨_,rfl,h h' _ _ hk⟩)
end
end Mine.Internal
end
section
open PySem PySem.Spec PySem.Calls PyProof PyProof.Rows PySem.W
set_option maxHeartbeats 2000000
set_option tactic.hygienic false
namespace Mine.Internal
section
variable {c:Cx}{d u:Nat}{env:Env}{σ:St}
theorem big_size{P:Params}{g:Heap}{as cs:List Addr}{env:Env}{σ:St}{h:Heap}(hK:Keys c.K)(X:c.K.In g)(r:R P g as cs env σ h):900 < h.objs.size:=by
 obtain ⟨oc,od,osl,doc,pm,an,cdv,ct,ho,hcd⟩:=hK.k_law
 have:=Heap.lt_size (r.mu.keep _ _ (X _ _ ho))
 exact Nat.lt_trans (by decide) this
theorem fromkeys_raw {np apos pos:Pos} {arg:Expr} {pl:Sem Bool} {x:Str} {l:List Nat} (hK:Keys c.K) (hx:x.cps.toList=l) (hn:l.Nodup) (hz:l.length≤100) (hk:env.scope.kind=.function) (hl:env.kindOf (Str.ofString "dict")=some .globalImplicit) (hg:env.globals=mainGlobals) (hb:env.builtins=builtinsNs)
  (hne:∀v p,arg≠.Starred v p)
  (he:eval (.Call (.Attribute (.Name (Str.ofString "dict") np) (Str.ofString "fromkeys") apos) [arg] [] pos) env=(do
   let ov ← eval (.Name (Str.ofString "dict") np) env
   standAt apos.atName
   let (f,first) ← holding [ov] (getMethod ov (Str.ofString "fromkeys") pl)
   callWith pos f first (backTo pos (starEach [arg] env)) (backToKw pos (keywordEach [] env))))
  (h:EvOK c d u env arg σ (fun v σ1=>v=.str x∧σ1=σ)) (A:Around) (g:Heap) (as cs:List Addr) (s:Shared) (Q:Value→Shared→Prop) (E:Value→Shared→Prop) (ro:Room A d u) (G:Gd c.K c.mg c.mb g) (r:R c.w.params g as cs env σ s.heap)
  (q:∀T g' as' h' tk',g.StaysIn g'→as<+:as'→R c.w.params g' as' cs env σ h'→h'.DictOf (PySem.strKind c.prog c.w) T (chKeys l)→900 < T→Q (.ref T) (sh s h' tk')) :
  wpAny (model c.prog c.w) A (eval (.Call (.Attribute (.Name (Str.ofString "dict") np) (Str.ofString "fromkeys") apos) [arg] [] pos) env) Q E s:=by
 refine methodCall_KW (pl:=pl) ?_ he
 refine (wD (c:=c) (d:=d) (u:=u) (σ:=σ) (K:=fun v σ1=>v=.st (.type "dict")∧σ1=σ) hk hl hg hb (by decide) hK.b_dict rfl (by decide) ⟨rfl,rfl⟩) A g as cs s _ E ro G r fun v1 g1 as1 h1 tk1 a σ1 hg1 ha1 r1 rv1 k1=>?_
 obtain ⟨rfl,rfl⟩:=k1
 obtain ⟨_,rfl⟩:=rv1.inv
 have X1:=(G.X.keeps hg1).keeps r1.mu.keep
 refine' fk_getm (s:=(sh s h1 tk1)) ?y5z0 ?y5z1 ?_
 case y5z0=>exact X1
 case y5z1=>exact hK.ffk
 have r2:=r1.push fkBound
 have fr:=r1.fresh
 have hbnd:(h1.push fkBound).get? h1.objs.size=some fkBound:=Heap.get?_push_size _ rfl
 obtain ⟨g3,hg3,r3,hin⟩:=R.rebase r2
 have hb3:g3.get? h1.objs.size=some fkBound:=hin _ _ hbnd fr.2.2.1 fr.2.1
 have G3:=(G.keeps hg1).keeps hg3
 have hgk:KeepsG c.K g3 (.ref h1.objs.size):=.inr ⟨_,_,_,rfl,hb3,rfl,rfl⟩
 refine as_callG hgk (fun e hee=>by rw [List.mem_singleton.mp hee];exact hne) (G3.X.keeps r3.mu.keep) r3.mu.keep ?_
 have hstar:starEach [arg] env=(false,eval arg env)::starEach [] env:=by
  cases arg <;> first | rfl | exact absurd rfl (hne _ _)
 refine (qC (c:=c) (d:=d) (u:=u) (σ:=σ1) (K:=fun vs σ2=>vs=[.str x]∧σ2=σ1) hstar (h.mono fun v σ2 hv=>qE ⟨by rw [hv.1],hv.2⟩)) A g3 as1 cs _ _ E pos ro G3 r3 fun vs g4 as4 h4 tk4 avs σ4 hg4 ha4 r4 rv4 k4=>?_
 obtain ⟨rfl,rfl⟩:=k4
 obtain ⟨_,_,rfl,rx,rs⟩:=rv4.inv
 obtain rfl:=rs.inv
 obtain ⟨t,rfl⟩:=rx.inv
 refine ⟨⟨(G3.X.keeps hg4).keeps r4.mu.keep,StaysIn.trans' hg4 r4.mu.keep⟩,?_⟩
 refine call_fk (s:=(sh s h4 tk4)) (r4.mu.keep _ _ (hg4 _ _ hb3)) ro.hd hx hn hz fun h' tk hd hkp=>?_
 have r5:R c.w.params g4 as4 cs env σ4 h':=r4.keepBut (wr:=[]) (fun b hb=>(nomatch hb)) fun b o' Z e=>hkp b o' e
 exact q h4.objs.size g4 as4 h' tk (StaysIn.trans' (StaysIn.trans' hg1 hg3) hg4) (ha1.trans ha4) r5 hd (big_size hK (G3.X.keeps hg4) r4)
end
namespace ss_table
noncomputable def Cq (c:Cx) (d u:Nat) (env:Env) (σ:St) (tN sN aN:Str) (tp sp wp mp dp fp cp cp2 pos1 sp2 wp2 sp3 wp3 trp tp2 cp3 pos2:Pos) (argE:Expr) (rest:List Stmt) (x y:Str) (l:List Nat) (b:Nat) (attrs:List (Str×AV)) (K:Fl→St→Prop):Prop:=∀{pl0 pl1 pl2:Sem Bool} (hK:Keys c.K) (hy:y.cps.toList=l) (hn:l.Nodup) (hz:l.length≤100) (hx0:0 < x.length) (hxz:x.length≤10000) (hasc:x.cps.all (· < 128)=false) (hxl:∀ch∈x.cps.toList,ch∉l) (hk:env.scope.kind=.function) (hl:env.kindOf (Str.ofString "dict")=some .globalImplicit) (hg:env.globals=mainGlobals) (hb:env.builtins=builtinsNs) (hne:∀v p,argE≠.Starred v p) (he0:eval (.Call (.Attribute (.Name (Str.ofString "dict") dp) (Str.ofString "fromkeys") fp) [argE] [] cp) env=(do
   let ov ← eval (.Name (Str.ofString "dict") dp) env
   standAt fp.atName
   let (f,first) ← holding [ov] (getMethod ov (Str.ofString "fromkeys") pl0)
   callWith cp f first (backTo cp (starEach [argE] env)) (backToKw cp (keywordEach [] env)))) (he1:eval (.Call (.Attribute (.Attribute (.Name sN sp) aN wp) (Str.ofString "maketrans") mp) [.Call (.Attribute (.Name (Str.ofString "dict") dp) (Str.ofString "fromkeys") fp) [argE] [] cp] [] cp2) env=(do
   let ov ← eval (.Attribute (.Name sN sp) aN wp) env
   standAt mp.atName
   let (f,first) ← holding [ov] (getMethod ov (Str.ofString "maketrans") pl1)
   callWith cp2 f first (backTo cp2 (starEach [.Call (.Attribute (.Name (Str.ofString "dict") dp) (Str.ofString "fromkeys") fp) [argE] [] cp] env)) (backToKw cp2 (keywordEach [] env)))) (he2:eval (.Call (.Attribute (.Attribute (.Name sN sp3) aN wp3) (Str.ofString "translate") trp) [.Name tN tp2] [] cp3) env=(do
   let ov ← eval (.Attribute (.Name sN sp3) aN wp3) env
   standAt trp.atName
   let (f,first) ← holding [ov] (getMethod ov (Str.ofString "translate") pl2)
   callWith cp3 f first (backTo cp3 (starEach [.Name tN tp2] env)) (backToKw cp3 (keywordEach [] env)))) (hsw1:swapsWith (.Call (.Attribute (.Attribute (.Name sN sp) aN wp) (Str.ofString "maketrans") mp) [.Call (.Attribute (.Name (Str.ofString "dict") dp) (Str.ofString "fromkeys") fp) [argE] [] cp] [] cp2) (some (.Name tN tp)) pos1.line env=pure false) (hsw2:swapsWith (.Call (.Attribute (.Attribute (.Name sN sp3) aN wp3) (Str.ofString "translate") trp) [.Name tN tp2] [] cp3) (some (.Attribute (.Name sN sp2) aN wp2)) pos2.line env=pure false) (htl:env.kindOf tN=some .local) (hst:Stores c.K 856 aN) (h1:EvOK c d u env (.Attribute (.Name sN sp) aN wp) σ (fun v σ1=>v=.str x∧σ1=σ)) (harg:EvOK c d u env argE σ (fun v σ1=>v=.str y∧σ1=σ)) (h2:∀o,EvOK c d u env (.Attribute (.Name sN sp3) aN wp3) ⟨setL tN (.mut σ.mu.length) σ.loc,σ.mu++[.raw o]⟩ (fun v σ1=>v=.str x∧σ1=⟨setL tN (.mut σ.mu.length) σ.loc,σ.mu++[.raw o]⟩)) (h3:∀o,EvOK c d u env (.Name tN tp2) ⟨setL tN (.mut σ.mu.length) σ.loc,σ.mu++[.raw o]⟩ (fun v σ1=>v=.mut σ.mu.length∧σ1=⟨setL tN (.mut σ.mu.length) σ.loc,σ.mu++[.raw o]⟩)) (h4:∀o,EvOK c d u env (.Name sN sp2) ⟨setL tN (.mut σ.mu.length) σ.loc,σ.mu++[.raw o]⟩ (fun v σ1=>v=.inst 856 b∧σ1=⟨setL tN (.mut σ.mu.length) σ.loc,σ.mu++[.raw o]⟩)) (hat:σ.mu[b]?=some (.dict attrs)) (hal:attrs.length≤900) (h:∀o,SsOK c d u env (execs rest env) ⟨setL tN (.mut σ.mu.length) σ.loc,(σ.mu++[AO.raw o]).set b (.dict (setL aN (.str x) attrs))⟩ K),SsOK c d u env (execs (.Assign [.Name tN tp] (.Call (.Attribute (.Attribute (.Name sN sp) aN wp) (Str.ofString "maketrans") mp) [.Call (.Attribute (.Name (Str.ofString "dict") dp) (Str.ofString "fromkeys") fp) [argE] [] cp] [] cp2) pos1 ::
   .Assign [.Attribute (.Name sN sp2) aN wp2] (.Call (.Attribute (.Attribute (.Name sN sp3) aN wp3) (Str.ofString "translate") trp) [.Name tN tp2] [] cp3) pos2::rest) env) σ K
noncomputable def Dq(p:Cx×Nat×Nat×Env×St×Str×Str×Str×Pos×Pos×Pos×Pos×Pos×Pos×Pos×Pos×Pos×Pos×Pos×Pos×Pos×Pos×Pos×Pos×Pos×Expr×(List Stmt)×Str×Str×(List Nat)×Nat×(List (Str×AV))×(Fl→St→Prop)):Prop:=Cq p.1 p.2.1 p.2.2.1 p.2.2.2.1 p.2.2.2.2.1 p.2.2.2.2.2.1 p.2.2.2.2.2.2.1 p.2.2.2.2.2.2.2.1 p.2.2.2.2.2.2.2.2.1 p.2.2.2.2.2.2.2.2.2.1 p.2.2.2.2.2.2.2.2.2.2.1 p.2.2.2.2.2.2.2.2.2.2.2.1 p.2.2.2.2.2.2.2.2.2.2.2.2.1 p.2.2.2.2.2.2.2.2.2.2.2.2.2.1 p.2.2.2.2.2.2.2.2.2.2.2.2.2.2.1 p.2.2.2.2.2.2.2.2.2.2.2.2.2.2.2.1 p.2.2.2.2.2.2.2.2.2.2.2.2.2.2.2.2.1 p.2.2.2.2.2.2.2.2.2.2.2.2.2.2.2.2.2.1 p.2.2.2.2.2.2.2.2.2.2.2.2.2.2.2.2.2.2.1 p.2.2.2.2.2.2.2.2.2.2.2.2.2.2.2.2.2.2.2.1 p.2.2.2.2.2.2.2.2.2.2.2.2.2.2.2.2.2.2.2.2.1 p.2.2.2.2.2.2.2.2.2.2.2.2.2.2.2.2.2.2.2.2.2.1 p.2.2.2.2.2.2.2.2.2.2.2.2.2.2.2.2.2.2.2.2.2.2.1 p.2.2.2.2.2.2.2.2.2.2.2.2.2.2.2.2.2.2.2.2.2.2.2.1 p.2.2.2.2.2.2.2.2.2.2.2.2.2.2.2.2.2.2.2.2.2.2.2.2.1 p.2.2.2.2.2.2.2.2.2.2.2.2.2.2.2.2.2.2.2.2.2.2.2.2.2.1 p.2.2.2.2.2.2.2.2.2.2.2.2.2.2.2.2.2.2.2.2.2.2.2.2.2.2.1 p.2.2.2.2.2.2.2.2.2.2.2.2.2.2.2.2.2.2.2.2.2.2.2.2.2.2.2.1 p.2.2.2.2.2.2.2.2.2.2.2.2.2.2.2.2.2.2.2.2.2.2.2.2.2.2.2.2.1 p.2.2.2.2.2.2.2.2.2.2.2.2.2.2.2.2.2.2.2.2.2.2.2.2.2.2.2.2.2.1 p.2.2.2.2.2.2.2.2.2.2.2.2.2.2.2.2.2.2.2.2.2.2.2.2.2.2.2.2.2.2.1 p.2.2.2.2.2.2.2.2.2.2.2.2.2.2.2.2.2.2.2.2.2.2.2.2.2.2.2.2.2.2.2.1 p.2.2.2.2.2.2.2.2.2.2.2.2.2.2.2.2.2.2.2.2.2.2.2.2.2.2.2.2.2.2.2.2
def tq:=@ep _ (by have:=neCx;have:=neEnv;have:=neSt;infer_instance) Dq
def c:=tq.1
def d:=tq.2.1
def u:=tq.2.2.1
def env:=tq.2.2.2.1
def σ:=tq.2.2.2.2.1
def tN:=tq.2.2.2.2.2.1
def sN:=tq.2.2.2.2.2.2.1
def aN:=tq.2.2.2.2.2.2.2.1
def tp:=tq.2.2.2.2.2.2.2.2.1
def sp:=tq.2.2.2.2.2.2.2.2.2.1
def wp:=tq.2.2.2.2.2.2.2.2.2.2.1
def mp:=tq.2.2.2.2.2.2.2.2.2.2.2.1
def dp:=tq.2.2.2.2.2.2.2.2.2.2.2.2.1
def fp:=tq.2.2.2.2.2.2.2.2.2.2.2.2.2.1
def cp:=tq.2.2.2.2.2.2.2.2.2.2.2.2.2.2.1
def cp2:=tq.2.2.2.2.2.2.2.2.2.2.2.2.2.2.2.1
def pos1:=tq.2.2.2.2.2.2.2.2.2.2.2.2.2.2.2.2.1
def sp2:=tq.2.2.2.2.2.2.2.2.2.2.2.2.2.2.2.2.2.1
def wp2:=tq.2.2.2.2.2.2.2.2.2.2.2.2.2.2.2.2.2.2.1
def sp3:=tq.2.2.2.2.2.2.2.2.2.2.2.2.2.2.2.2.2.2.2.1
def wp3:=tq.2.2.2.2.2.2.2.2.2.2.2.2.2.2.2.2.2.2.2.2.1
def trp:=tq.2.2.2.2.2.2.2.2.2.2.2.2.2.2.2.2.2.2.2.2.2.1
def tp2:=tq.2.2.2.2.2.2.2.2.2.2.2.2.2.2.2.2.2.2.2.2.2.2.1
def cp3:=tq.2.2.2.2.2.2.2.2.2.2.2.2.2.2.2.2.2.2.2.2.2.2.2.1
def pos2:=tq.2.2.2.2.2.2.2.2.2.2.2.2.2.2.2.2.2.2.2.2.2.2.2.2.1
def argE:=tq.2.2.2.2.2.2.2.2.2.2.2.2.2.2.2.2.2.2.2.2.2.2.2.2.2.1
def rest:=tq.2.2.2.2.2.2.2.2.2.2.2.2.2.2.2.2.2.2.2.2.2.2.2.2.2.2.1
def x:=tq.2.2.2.2.2.2.2.2.2.2.2.2.2.2.2.2.2.2.2.2.2.2.2.2.2.2.2.1
def y:=tq.2.2.2.2.2.2.2.2.2.2.2.2.2.2.2.2.2.2.2.2.2.2.2.2.2.2.2.2.1
def l:=tq.2.2.2.2.2.2.2.2.2.2.2.2.2.2.2.2.2.2.2.2.2.2.2.2.2.2.2.2.2.1
def b:=tq.2.2.2.2.2.2.2.2.2.2.2.2.2.2.2.2.2.2.2.2.2.2.2.2.2.2.2.2.2.2.1
def attrs:=tq.2.2.2.2.2.2.2.2.2.2.2.2.2.2.2.2.2.2.2.2.2.2.2.2.2.2.2.2.2.2.2.1
def K:=tq.2.2.2.2.2.2.2.2.2.2.2.2.2.2.2.2.2.2.2.2.2.2.2.2.2.2.2.2.2.2.2.2
theorem T0 {pl0 pl1 pl2:Sem Bool} (hK:Keys c.K) (hy:y.cps.toList=l) (hn:l.Nodup) (hz:l.length≤100) (hx0:0 < x.length) (hxz:x.length≤10000) (hasc:x.cps.all (· < 128)=false) (hxl:∀ch∈x.cps.toList,ch∉l) (hk:env.scope.kind=.function) (hl:env.kindOf (Str.ofString "dict")=some .globalImplicit) (hg:env.globals=mainGlobals) (hb:env.builtins=builtinsNs) (hne:∀v p,argE≠.Starred v p) (he0:eval (.Call (.Attribute (.Name (Str.ofString "dict") dp) (Str.ofString "fromkeys") fp) [argE] [] cp) env=(do
   let ov ← eval (.Name (Str.ofString "dict") dp) env
   standAt fp.atName
   let (f,first) ← holding [ov] (getMethod ov (Str.ofString "fromkeys") pl0)
   callWith cp f first (backTo cp (starEach [argE] env)) (backToKw cp (keywordEach [] env)))) (he1:eval (.Call (.Attribute (.Attribute (.Name sN sp) aN wp) (Str.ofString "maketrans") mp) [.Call (.Attribute (.Name (Str.ofString "dict") dp) (Str.ofString "fromkeys") fp) [argE] [] cp] [] cp2) env=(do
   let ov ← eval (.Attribute (.Name sN sp) aN wp) env
   standAt mp.atName
   let (f,first) ← holding [ov] (getMethod ov (Str.ofString "maketrans") pl1)
   callWith cp2 f first (backTo cp2 (starEach [.Call (.Attribute (.Name (Str.ofString "dict") dp) (Str.ofString "fromkeys") fp) [argE] [] cp] env)) (backToKw cp2 (keywordEach [] env)))) (he2:eval (.Call (.Attribute (.Attribute (.Name sN sp3) aN wp3) (Str.ofString "translate") trp) [.Name tN tp2] [] cp3) env=(do
   let ov ← eval (.Attribute (.Name sN sp3) aN wp3) env
   standAt trp.atName
   let (f,first) ← holding [ov] (getMethod ov (Str.ofString "translate") pl2)
   callWith cp3 f first (backTo cp3 (starEach [.Name tN tp2] env)) (backToKw cp3 (keywordEach [] env)))) (hsw1:swapsWith (.Call (.Attribute (.Attribute (.Name sN sp) aN wp) (Str.ofString "maketrans") mp) [.Call (.Attribute (.Name (Str.ofString "dict") dp) (Str.ofString "fromkeys") fp) [argE] [] cp] [] cp2) (some (.Name tN tp)) pos1.line env=pure false) (hsw2:swapsWith (.Call (.Attribute (.Attribute (.Name sN sp3) aN wp3) (Str.ofString "translate") trp) [.Name tN tp2] [] cp3) (some (.Attribute (.Name sN sp2) aN wp2)) pos2.line env=pure false) (htl:env.kindOf tN=some .local) (hst:Stores c.K 856 aN) (h1:EvOK c d u env (.Attribute (.Name sN sp) aN wp) σ (fun v σ1=>v=.str x∧σ1=σ)) (harg:EvOK c d u env argE σ (fun v σ1=>v=.str y∧σ1=σ)) (h2:∀o,EvOK c d u env (.Attribute (.Name sN sp3) aN wp3) ⟨setL tN (.mut σ.mu.length) σ.loc,σ.mu++[.raw o]⟩ (fun v σ1=>v=.str x∧σ1=⟨setL tN (.mut σ.mu.length) σ.loc,σ.mu++[.raw o]⟩)) (h3:∀o,EvOK c d u env (.Name tN tp2) ⟨setL tN (.mut σ.mu.length) σ.loc,σ.mu++[.raw o]⟩ (fun v σ1=>v=.mut σ.mu.length∧σ1=⟨setL tN (.mut σ.mu.length) σ.loc,σ.mu++[.raw o]⟩)) (h4:∀o,EvOK c d u env (.Name sN sp2) ⟨setL tN (.mut σ.mu.length) σ.loc,σ.mu++[.raw o]⟩ (fun v σ1=>v=.inst 856 b∧σ1=⟨setL tN (.mut σ.mu.length) σ.loc,σ.mu++[.raw o]⟩)) (hat:σ.mu[b]?=some (.dict attrs)) (hal:attrs.length≤900) (h:∀o,SsOK c d u env (execs rest env) ⟨setL tN (.mut σ.mu.length) σ.loc,(σ.mu++[AO.raw o]).set b (.dict (setL aN (.str x) attrs))⟩ K):SsOK c d u env (execs (.Assign [.Name tN tp] (.Call (.Attribute (.Attribute (.Name sN sp) aN wp) (Str.ofString "maketrans") mp) [.Call (.Attribute (.Name (Str.ofString "dict") dp) (Str.ofString "fromkeys") fp) [argE] [] cp] [] cp2) pos1 ::
   .Assign [.Attribute (.Name sN sp2) aN wp2] (.Call (.Attribute (.Attribute (.Name sN sp3) aN wp3) (Str.ofString "translate") trp) [.Name tN tp2] [] cp3) pos2::rest) env) σ K:=fun A g as cs s Q E ro G r q=>by
 refine wpAny_execs_cons (wpAny_Assign_Name ?_ hsw1)
 refine methodCall_KW (pl:=pl1) ?_ he1
 refine h1 A g as cs s _ E ro G r fun v1 g1 as1 hp1 tk1 a1 σ hg1 ha1 r1 rv1 k1=>?_
 obtain ⟨rfl,rfl⟩:=k1
 refine (meth_mt (c:=c) (K:=fun v=>v=.builtin "str.maketrans") rfl) A g1 as1 (sh s hp1 tk1) pl1 _ E v1 (G.keeps hg1) r1.mu rv1 fun f tk2 hf=>?_
 subst hf
 refine xI (c:=c) (first:=[]) (.inr (fun a z=>nomatch z)) (by intro e hee v p;rw [List.mem_singleton.mp hee];exact fun z=>nomatch z) ((G.X.keeps hg1).keeps r1.mu.keep) ?_
 refine spliced_more ?_ rfl
 refine fromkeys_raw hK hy hn hz hk hl hg hb hne he0 harg A g1 as1 cs (sh s hp1 tk2) _ E ro (G.keeps hg1) r1 fun T0 g2 as2 hp2 tk3 hg2 ha2 r2 hd2 hT0=>?_
 refine spliced_none ⟨((G.X.keeps hg1).keeps hg2).keeps r2.mu.keep,?_⟩
 refine mt_body (s:=(sh s hp2 tk3)) hd2 (beq_eq_false_iff_ne.mpr (Nat.ne_of_gt (Nat.lt_trans (by decide) hT0))) hn hz fun hp3 tk4 hd3 hk3=>?_
 have big:=big_size hK (((G.keeps hg1).keeps hg2).X) r2
 obtain ⟨o,ho,hio⟩:=Heap.dictOf_iff.mp hd3
 have fr:=r2.fresh
 have r3:R c.w.params g2 as2 cs env σ hp3:=r2.keepBut (wr:=[]) (fun b hb=>(nomatch hb)) fun b o' Z e=>hk3 b o' e
 obtain ⟨raws,hl1,hr1,r4⟩:=R.adopt (loc:=σ.loc) (mu:=σ.mu) r3 (wr:=[hp2.objs.size]) (by simp) (fun b hb=>by
  rw [List.mem_singleton.mp hb];exact ⟨fr.1,fr.2.1,fr.2.2.1,o,ho⟩)
 obtain ⟨o',rfl⟩:=one_raw hl1 hr1
 have hlen:=r2.mu.len
 obtain ⟨o2,e2,s2⟩:=r4.mu.at' as2.length hp2.objs.size (.raw o') (by simp) (by show (σ.mu++[.raw o'])[as2.length]?=_;rw [hlen];simp)
 cases s2
 rw [ho] at e2;cases e2
 have hix:(as2++[hp2.objs.size])[σ.mu.length]?=some hp2.objs.size:=by rw [← hlen];simp
 refine qI (c:=c) hk htl A g2 (as2++[hp2.objs.size]) cs (sh s hp3 tk4) ⟨σ.loc,σ.mu++[.raw o]⟩ _ (.mut σ.mu.length) _ E r4 (.mut hix) fun hp4 tk5 r5=>?_
 -- the second statement
 have G2:=(G.keeps hg1).keeps hg2
 refine wpAny_execs_cons (plainObj_wpAny_Assign_Attribute ?_ hsw2)
 refine methodCall_KW (pl:=pl2) ?_ he2
 refine h2 o A g2 _ cs (sh s hp4 tk5) _ E ro G2 r5 fun v6 g6 as6 hp6 tk6 a6 σ6 hg6 ha6 r6 rv6 k6=>?_
 obtain ⟨rfl,rfl⟩:=k6
 obtain ⟨t6,rfl⟩:=rv6.inv
 refine' getMethod_builtin (T:="str") ?y4z0 ?y4z1 ?y4z2 ?y4z3 ?y4z4 ?_
 case y4z0=>exact typeIs_str _ x t6
 case y4z1=>exact F.plainAttrs_str
 case y4z2=>exact F.slot_str_translate
 case y4z3=>exact F.type_str_translate
 case y4z4=>exact fun a z=>nomatch z
 refine xI (c:=c) (first:=[.str x t6]) (.inr (fun a z=>nomatch z)) (by intro e hee v p;rw [List.mem_singleton.mp hee];exact fun z=>nomatch z) ((G2.X.keeps hg6).keeps r6.mu.keep) ?_
 refine spliced_more ?_ rfl
 refine h3 o A g6 as6 cs (sh s hp6 tk6) _ E ro (G2.keeps hg6) r6 fun v7 g7 as7 hp7 tk7 a7 σ7 hg7 ha7 r7 rv7 k7=>?_
 obtain ⟨rfl,rfl⟩:=k7
 obtain ⟨a,rfl,h7⟩:=rv7.inv
 have ea:a=hp2.objs.size:=by
  obtain ⟨t1,e1⟩:=ha6
  obtain ⟨t2,e2⟩:=ha7
  have hlt:σ.mu.length < (as2++[hp2.objs.size]).length:=(List.getElem?_eq_some_iff.mp hix).1
  have h8:as7[σ.mu.length]?=some hp2.objs.size:=by
   rw [← e2,← e1,List.append_assoc,List.getElem?_append_left hlt];exact hix
  rw [h7] at h8
  exact Option.some.inj h8
 subst ea
 refine spliced_none ⟨((G2.X.keeps hg6).keeps hg7).keeps r7.mu.keep,?_⟩
 obtain ⟨o9,e9,s9⟩:=r7.mu.at' _ _ _ h7 (show (σ.mu++[AO.raw o])[σ.mu.length]?=some (.raw o) by simp)
 cases s9
 refine tr_body (s:=(sh s hp7 tk7)) (l:=l) (Heap.dictOf_iff.mpr ⟨_,e9,hio⟩) (beq_eq_false_iff_ne.mpr (Nat.ne_of_gt (Nat.lt_trans (by decide) big))) ro.hd hx0 hxz hasc hxl fun hp8 t8 tk8 hk8=>?_
 have r8:=r7.keepBut (h':=hp8) (wr:=[]) (fun b hb=>(nomatch hb)) fun b o' Z e=>hk8 b o' e
 have G7:=(G2.keeps hg6).keeps hg7
 refine h4 o A g7 as7 cs (sh s hp8 tk8) _ E ro G7 r8 fun v9 g9 as9 hp9 tk9 a9 σ9 hg9 ha9 r9 rv9 k9=>?_
 obtain ⟨rfl,rfl⟩:=k9
 have hb0:b < σ.mu.length:=(List.getElem?_eq_some_iff.mp hat).1
 refine gO (s:=(sh s hp9 tk9)) (av:=.str x) r9 (G7.keeps hg9) rv9 (.str _ _) hst (by show (σ.mu++[AO.raw o])[b]?=_;rw [List.getElem?_append_left hb0];exact hat) hal fun hp10 tk10 r10=>?_
 refine h o A g9 as9 cs (sh s hp10 tk10) Q E ro (G7.keeps hg9) r10 fun f g11 as11 hp11 tk11 af σ11 hg11 ha11 r11 rf k11=>?_
 exact q f g11 as11 hp11 tk11 af σ11 (StaysIn.trans' (StaysIn.trans' (StaysIn.trans' (StaysIn.trans' (StaysIn.trans' hg1 hg2) hg6) hg7) hg9) hg11) (((((ha1.trans ha2).trans (List.prefix_append _ _)).trans ha6).trans ha7).trans (ha9.trans ha11)) r11 rf k11
end ss_table
section
variable {c:Cx}{d u:Nat}{env:Env}{σ:St}
theorem ss_table{tN sN aN:Str}{tp sp wp mp dp fp cp cp2 pos1 sp2 wp2 sp3 wp3 trp tp2 cp3 pos2:Pos}{argE:Expr}{rest:List Stmt}{pl0 pl1 pl2:Sem Bool}{x y:Str}{l:List Nat}{b:Nat}{attrs:List (Str×AV)}{K:Fl→St→Prop}(hK:Keys c.K)
  (hy:y.cps.toList=l) (hn:l.Nodup) (hz:l.length≤100) (hx0:0 < x.length) (hxz:x.length≤10000) (hasc:x.cps.all (· < 128)=false) (hxl:∀ch∈x.cps.toList,ch∉l)
  (hk:env.scope.kind=.function) (hl:env.kindOf (Str.ofString "dict")=some .globalImplicit) (hg:env.globals=mainGlobals) (hb:env.builtins=builtinsNs) (hne:∀v p,argE≠.Starred v p)
  (he0:eval (.Call (.Attribute (.Name (Str.ofString "dict") dp) (Str.ofString "fromkeys") fp) [argE] [] cp) env=(do
   let ov ← eval (.Name (Str.ofString "dict") dp) env
   standAt fp.atName
   let (f,first) ← holding [ov] (getMethod ov (Str.ofString "fromkeys") pl0)
   callWith cp f first (backTo cp (starEach [argE] env)) (backToKw cp (keywordEach [] env))))
  (he1:eval (.Call (.Attribute (.Attribute (.Name sN sp) aN wp) (Str.ofString "maketrans") mp) [.Call (.Attribute (.Name (Str.ofString "dict") dp) (Str.ofString "fromkeys") fp) [argE] [] cp] [] cp2) env=(do
   let ov ← eval (.Attribute (.Name sN sp) aN wp) env
   standAt mp.atName
   let (f,first) ← holding [ov] (getMethod ov (Str.ofString "maketrans") pl1)
   callWith cp2 f first (backTo cp2 (starEach [.Call (.Attribute (.Name (Str.ofString "dict") dp) (Str.ofString "fromkeys") fp) [argE] [] cp] env)) (backToKw cp2 (keywordEach [] env))))
  (he2:eval (.Call (.Attribute (.Attribute (.Name sN sp3) aN wp3) (Str.ofString "translate") trp) [.Name tN tp2] [] cp3) env=(do
   let ov ← eval (.Attribute (.Name sN sp3) aN wp3) env
   standAt trp.atName
   let (f,first) ← holding [ov] (getMethod ov (Str.ofString "translate") pl2)
   callWith cp3 f first (backTo cp3 (starEach [.Name tN tp2] env)) (backToKw cp3 (keywordEach [] env))))
  (hsw1:swapsWith (.Call (.Attribute (.Attribute (.Name sN sp) aN wp) (Str.ofString "maketrans") mp) [.Call (.Attribute (.Name (Str.ofString "dict") dp) (Str.ofString "fromkeys") fp) [argE] [] cp] [] cp2) (some (.Name tN tp)) pos1.line env=pure false)
  (hsw2:swapsWith (.Call (.Attribute (.Attribute (.Name sN sp3) aN wp3) (Str.ofString "translate") trp) [.Name tN tp2] [] cp3) (some (.Attribute (.Name sN sp2) aN wp2)) pos2.line env=pure false)
  (htl:env.kindOf tN=some .local) (hst:Stores c.K 856 aN)
  (h1:EvOK c d u env (.Attribute (.Name sN sp) aN wp) σ (fun v σ1=>v=.str x∧σ1=σ)) (harg:EvOK c d u env argE σ (fun v σ1=>v=.str y∧σ1=σ))
  (h2:∀o,EvOK c d u env (.Attribute (.Name sN sp3) aN wp3) ⟨setL tN (.mut σ.mu.length) σ.loc,σ.mu++[.raw o]⟩ (fun v σ1=>v=.str x∧σ1=⟨setL tN (.mut σ.mu.length) σ.loc,σ.mu++[.raw o]⟩))
  (h3:∀o,EvOK c d u env (.Name tN tp2) ⟨setL tN (.mut σ.mu.length) σ.loc,σ.mu++[.raw o]⟩ (fun v σ1=>v=.mut σ.mu.length∧σ1=⟨setL tN (.mut σ.mu.length) σ.loc,σ.mu++[.raw o]⟩))
  (h4:∀o,EvOK c d u env (.Name sN sp2) ⟨setL tN (.mut σ.mu.length) σ.loc,σ.mu++[.raw o]⟩ (fun v σ1=>v=.inst 856 b∧σ1=⟨setL tN (.mut σ.mu.length) σ.loc,σ.mu++[.raw o]⟩))
  (hat:σ.mu[b]?=some (.dict attrs)) (hal:attrs.length≤900)
  (h:∀o,SsOK c d u env (execs rest env) ⟨setL tN (.mut σ.mu.length) σ.loc,(σ.mu++[AO.raw o]).set b (.dict (setL aN (.str x) attrs))⟩ K) :
  SsOK c d u env (execs (.Assign [.Name tN tp] (.Call (.Attribute (.Attribute (.Name sN sp) aN wp) (Str.ofString "maketrans") mp) [.Call (.Attribute (.Name (Str.ofString "dict") dp) (Str.ofString "fromkeys") fp) [argE] [] cp] [] cp2) pos1 ::
   .Assign [.Attribute (.Name sN sp2) aN wp2] (.Call (.Attribute (.Attribute (.Name sN sp3) aN wp3) (Str.ofString "translate") trp) [.Name tN tp2] [] cp3) pos2::rest) env) σ K:=(@eps _ _ ss_table.Dq ss_table.tq rfl @ss_table.T0 (c,d,u,env,σ,tN,sN,aN,tp,sp,wp,mp,dp,fp,cp,cp2,pos1,sp2,wp2,sp3,wp3,trp,tp2,cp3,pos2,argE,rest,x,y,l,b,attrs,K)) hK hy hn hz hx0 hxz hasc hxl hk hl hg hb hne he0 he1 he2 hsw1 hsw2 htl hst h1 harg h2 h3 h4 hat hal h
end
end Mine.Internal
end
section
open PySem PySem.Spec PySem.Calls PyProof PyProof.Rows PySem.W
set_option tactic.hygienic false
namespace Mine.Internal
theorem Rels.take{g:Heap}{as:List Addr}:∀(n:Nat) {ws:List Value} {vs:List AV},Rels g as ws vs→Rels g as (ws.take n) (vs.take n)
 | 0,_,_,_=>.nil
 | _+1,_,_,.nil=>.nil
 | n+1,_,_,.cons a r=>.cons a (r.take n)
theorem Rels.reverse{g:Heap}{as:List Addr}{ws:List Value}{vs:List AV}(r:Rels g as ws vs):Rels g as ws.reverse vs.reverse:=by
 induction vs generalizing ws with
 | nil=>obtain rfl:=r.inv;exact .nil
 | cons v vs ih =>
  obtain ⟨_,_,rfl,h,r⟩:=r.inv
  rw [List.reverse_cons,List.reverse_cons]
  exact (ih r).append (.cons h .nil)
section
variable {c:Cx}{d u:Nat}{env:Env}{σ:St}
theorem ev_lst_upto{value hi:Expr}{p pos:Pos}{k:Nat}{vs:List AV}{K:AV→St→Prop}(ht:∀(l:Addr) r,letTemporaryGo value (.ref l) r=pure ())
  (hs:∀(l a:Addr),subscripted (.Slice none (some hi) none p) false (.ref l) (.ref a)=operate [.ref a,.ref l] (getItem (.ref l) (.ref a))) (hz:vs.length≤100000)
  (h:EvOK c d u env value σ (fun a σ1=>a=.lst vs∧EvOK c d u env hi σ1 (fun j σ2=>j=.int (k:Nat)∧K (.lst (vs.take k)) σ2))):EvOK c d u env (.Subscript value (.Slice none (some hi) none p) pos) σ K:=fun A g as cs s Q E ro G rr q =>
 Subscript_ (h A g as cs s _ E ro G rr fun v1 g1 as1 h1 tk1 a σ1 hg1 ha1 r1 rv1 k1=>by
  obtain ⟨rfl,k1⟩:=k1
  obtain ⟨l,ws,n,dd,sl,rfl,e,rl⟩:=rv1.inv
  refine wpAny_Slice ?_
  rw [evalPart_none,evalPart_some]
  refine wpAny_pure ?_
  refine k1 A g1 as1 cs (sh s h1 tk1) _ E ro (G.keeps hg1) r1 fun v3 g3 as3 h3 tk3 j σ3 hg3 ha3 r3 rv3 k3=>?_
  obtain ⟨rfl,k3⟩:=k3
  obtain ⟨tj,rfl⟩:=rv3.inv
  refine wpAny_pure ?_
  have hl:h3.IsList l ws.toArray:=⟨_,r3.mu.keep _ _ (hg3 _ _ e),rfl,_,rfl⟩
  have hsz:ws.toArray.size≤sizeLine:=by rw [List.size_toArray,rl.length];unfold sizeLine;exact o0 hz
  refine subscriptTail_ops (Heap.IsList.typeIs (s:={ s with heap:=h3.push { cls:=.type "slice",data:=.fields #[.none,.int k tj,.none] },toks:=tk3 }) (hl.push _)) list_getitem_lookup
   (wpAny_getItem_list_slice (lo:=none) (hi:=some (k:Int)) (st:=none) (hl.push _) (Heap.IsSliceOf.new ..) .none (.int _ _) .none (by simp) ?_ hsz) (hs _ _) (ht _)
  have e2:slicePick ws.toArray none (some (k:Int)) none=(ws.take k).toArray:=by rw [slicePick_upto']
  rw [e2]
  obtain ⟨g₄,st,m4,k4⟩:=(r3.push { cls:=.type "slice",data:=.fields #[.none,.int k tj,.none] }).op (α:=Unit) (s:={ s with heap:=h3.push { cls:=.type "slice",data:=.fields #[.none,.int k tj,.none] },toks:=tk3 }) (K:=K) (Q:=Q) (fun v g' as' h' tk' av σ' x1 x2 x3 x4 x5=>q v g' as' h' tk' av σ' (StaysIn.trans' (StaysIn.trans' hg1 hg3) x1) ((ha1.trans ha3).trans x2) x3 x4 x5)
  obtain ⟨g₅,st5,e5,m5⟩:=m4.frozen (lstObj (ws.take k) 0) rfl
  exact k4 _ g₅ as3 _ tk3 _ σ3.mu st5 (List.prefix_refl _) m5 (.lst e5 ((rl.mono (StaysIn.trans' (StaysIn.trans' hg3 st) st5) ha3).take k)) k3)
theorem ev_mut_rev{value stp:Expr}{p pos:Pos}{i:Nat}{vs:List AV}{K:AV→St→Prop}(ht:∀(l:Addr) r,letTemporaryGo value (.ref l) r=pure ())
  (hs:∀(l a:Addr),∃ops,subscripted (.Slice none none (some stp) p) false (.ref l) (.ref a)=operate ops (getItem (.ref l) (.ref a))) (hz:vs.length≤100000)
  (h:EvOK c d u env value σ (fun a σ1=>a=.mut i∧EvOK c d u env stp σ1 (fun j σ2=>j=.int (-1)∧σ2.mu[i]?=some (.list vs)∧K (.mut σ2.mu.length) { σ2 with mu:=σ2.mu++[.list vs.reverse] }))):EvOK c d u env (.Subscript value (.Slice none none (some stp) p) pos) σ K:=fun A g as cs s Q E ro G rr q =>
 Subscript_ (h A g as cs s _ E ro G rr fun v1 g1 as1 h1 tk1 a σ1 hg1 ha1 r1 rv1 k1=>by
  obtain ⟨rfl,k1⟩:=k1
  obtain ⟨l,rfl,hla⟩:=rv1.inv
  refine wpAny_Slice ?_
  rw [evalPart_none,evalPart_some]
  refine wpAny_pure ?_
  refine wpAny_pure ?_
  refine k1 A g1 as1 cs (sh s h1 tk1) _ E ro (G.keeps hg1) r1 fun v3 g3 as3 h3 tk3 j σ3 hg3 ha3 r3 rv3 k3=>?_
  obtain ⟨rfl,hmu,k3⟩:=k3
  obtain ⟨tj,rfl⟩:=rv3.inv
  have hla3:as3[i]?=some l:=by
   obtain ⟨r,rfl⟩:=ha3
   rw [List.getElem?_append_left (List.getElem?_eq_some_iff.mp hla).1]
   exact hla
  obtain ⟨o,e,so⟩:=r3.mu.at' _ _ _ hla3 hmu
  obtain ⟨ws,n,eo,rl⟩:=so.inv
  subst eo
  have hl:h3.IsList l ws.toArray:=⟨_,e,rfl,_,rfl⟩
  have hsz:ws.toArray.size≤sizeLine:=by rw [List.size_toArray,rl.length];unfold sizeLine;exact o0 hz
  obtain ⟨ops,hs1⟩:=hs l h3.objs.size
  refine subscriptTail_ops (Heap.IsList.typeIs (s:={ s with heap:=h3.push { cls:=.type "slice",data:=.fields #[.none,.none,.int (-1) tj] },toks:=tk3 }) (hl.push _)) list_getitem_lookup
   (wpAny_getItem_list_slice (lo:=none) (hi:=none) (st:=some (-1)) (hl.push _) (Heap.IsSliceOf.new ..) .none .none (.int _ _) (by decide) ?_ hsz) hs1 (ht _)
  rw [krv_pick]
  obtain ⟨g₄,st,m4,k4⟩:=(r3.push { cls:=.type "slice",data:=.fields #[.none,.none,.int (-1) tj] }).op (α:=Unit) (s:={ s with heap:=h3.push { cls:=.type "slice",data:=.fields #[.none,.none,.int (-1) tj] },toks:=tk3 }) (K:=K) (Q:=Q) (fun v g' as' h' tk' av σ' x1 x2 x3 x4 x5=>q v g' as' h' tk' av σ' (StaysIn.trans' (StaysIn.trans' hg1 hg3) x1) ((ha1.trans ha3).trans x2) x3 x4 x5)
  have m5:=m4.grow (lstObj ws.reverse 0) rfl (.list rfl (rl.mono st (List.prefix_refl _)).reverse)
  exact k4 _ g₄ _ _ tk3 _ _ (StaysIn.refl' _) (List.prefix_append _ _) m5 (.mut (by rw [← m4.len];simp)) k3)
theorem add_ll{a b:List AV}{mu:List AO}{K:AV→List AO→Prop}(hz:a.length+b.length≤100000)(h:K (.lst (a++b)) mu):Op2OK c d u (binaryOp .Add) (.lst a) (.lst b) mu K:=fun A g as s Q E w1 w2 ro G m r1 r2 q=>by
 obtain ⟨l,ws,n,dd,sl,rfl,e,rl⟩:=r1.inv
 obtain ⟨l2,ws2,n2,dd2,sl2,rfl,e2,rl2⟩:=r2.inv
 have ea:ws.toArray++ws2.toArray=(ws++ws2).toArray:=by simp
 have ho:=m.keep _ _ e
 have ho2:=m.keep _ _ e2
 refine concat_meets ⟨_,ho,rfl⟩ ⟨_,ho2,rfl⟩ noFill_list_add seq_list_add PySem.F.slot_list_add PySem.F.entry_list_add (PySem.F.args_list_add_2 _ _) (list_addW l l2 ws.toArray ws2.toArray n n2 dd dd2 sl sl2 (by have:=rl.length;have:=rl2.length;simp only [List.size_toArray];unfold sizeLine;exact o69 hz (by assumption) this)) ⟨ho,ho2,?_⟩
 rw [ea]
 obtain ⟨g₄,st4,e4,m4⟩:=m.frozen (lstObj (ws++ws2) 0) rfl
 exact q _ g₄ as _ s.toks _ mu st4 (List.prefix_refl _) m4 (.lst e4 ((rl.append rl2).mono st4 (List.prefix_refl _))) h
end
noncomputable def BM (c:Cx) (g:Heap):Prop:=∃bm ob,c.mg "__builtins__"=some (.ref bm)∧bm≠builtinsNs∧g.get? bm=some ob∧ob.cls=.type "module"∧ob.dict=some builtinsNs∧ob.data=.plain
theorem BM.keeps{c:Cx}{g g':Heap}(h:BM c g)(hg:g.StaysIn g'):BM c g':=let ⟨bm,ob,h1,h2,h3,r⟩:=h;⟨bm,ob,h1,h2,hg _ _ h3,r⟩
noncomputable def EvG(c:Cx)(P0:Addr)(d u:Nat)(env:Env)(e:Expr)(σ:St)(K:AV→St→Prop):Prop :=
 ∀(A:Around) (g:Heap) (as cs:List Addr) (s:Shared) (Q:Value→Shared→Prop) (E:Value→Shared→Prop),Room A d u→Gd c.K c.mg c.mb g→BM c g→R c.w.params g as cs env σ s.heap→as[0]?=some P0→AllBare s.gens →
  (∀v g' as' h' tk' gs' av σ',g.StaysIn g'→as<+:as'→AllBare gs'→R c.w.params g' as' cs env σ' h'→Rel g' as' v av→K av σ'→Q v { s with heap:=h',toks:=tk',gens:=gs' }) →
  wpAny (model c.prog c.w) A (eval e env) Q E s
noncomputable def SsG(c:Cx)(P0:Addr)(d u:Nat)(env:Env)(t:Sem Flow)(σ:St)(K:Fl→St→Prop):Prop :=
 ∀(A:Around) (g:Heap) (as cs:List Addr) (s:Shared) (Q:Flow→Shared→Prop) (E:Value→Shared→Prop),Room A d u→Gd c.K c.mg c.mb g→BM c g→R c.w.params g as cs env σ s.heap→as[0]?=some P0→AllBare s.gens →
  (∀f g' as' h' tk' gs' af σ',g.StaysIn g'→as<+:as'→AllBare gs'→R c.w.params g' as' cs env σ' h'→FlR g' as' f af→K af σ'→Q f { s with heap:=h',toks:=tk',gens:=gs' }) →
  wpAny (model c.prog c.w) A t Q E s
noncomputable def CallG(c:Cx)(P0:Addr)(d u:Nat)(f:Value)(args:List AV)(mu:List AO)(K:AV→List AO→Prop):Prop :=
 ∀(A:Around) (g:Heap) (as:List Addr) (s:Shared) (Q:Value→Shared→Prop) (E:Value→Shared→Prop) (ws:List Value),Room A d u→Gd c.K c.mg c.mb g→BM c g→MuR c.w.params g as mu s.heap→Rels g as ws args→as[0]?=some P0→AllBare s.gens →
  (∀v g' as' h' tk' gs' av mu',g.StaysIn g'→as<+:as'→AllBare gs'→MuR c.w.params g' as' mu' h'→Rel g' as' v av→K av mu'→Q v { s with heap:=h',toks:=tk',gens:=gs' }) →
  wpAny (model c.prog c.w) A (call f ws) Q E s
theorem pre0{as as':List Addr}{P0:Addr}(h:as<+:as')(e:as[0]?=some P0):as'[0]?=some P0:=by
 obtain ⟨r,rfl⟩:=h
 rw [List.getElem?_append_left (List.getElem?_eq_some_iff.mp e).1]
 exact e
section
variable {c:Cx}{P0:Addr}{d u:Nat}{env:Env}{σ:St}
theorem evG_of{e:Expr}{K:AV→St→Prop}(h:EvOK c d u env e σ K):EvG c P0 d u env e σ K:=fun A g as cs s Q E ro G bm r e0 gb q =>
 h A g as cs s Q E ro G r fun v g' as' h' tk' av σ' hg ha r' rv k=>q v g' as' h' tk' s.gens av σ' hg ha gb r' rv k
theorem ssG_of{t:Sem Flow}{K:Fl→St→Prop}(h:SsOK c d u env t σ K):SsG c P0 d u env t σ K:=fun A g as cs s Q E ro G bm r e0 gb q =>
 h A g as cs s Q E ro G r fun f g' as' h' tk' af σ' hg ha r' rf k=>q f g' as' h' tk' s.gens af σ' hg ha gb r' rf k
noncomputable abbrev KcG(c:Cx)(P0:Addr)(d u:Nat)(env:Env)(rest:List Stmt)(K:Fl→St→Prop):Fl→St→Prop:=fun f σ'=>match f with
 | .next=>SsG c P0 d u env (execs rest env) σ' K
 | f=>K f σ'
theorem zM{st:Stmt}{rest:List Stmt}{K:Fl→St→Prop}(h:SsG c P0 d u env (exec st env) σ (KcG c P0 d u env rest K)):SsG c P0 d u env (execs (st::rest) env) σ K:=fun A g as cs s Q E ro G bm r e0 gb q =>
 wpAny_execs_cons (h A g as cs s _ E ro G bm r e0 gb fun f g' as' h' tk' gs' af σ' hg ha gb' r' rf k=>by
  cases rf with
  | next=>exact k A g' as' cs _ _ E ro (G.keeps hg) (bm.keeps hg) r' (pre0 ha e0) gb' fun f2 g2 as2 h2 tk2 gs2 af2 σ2 hg2 ha2 gb2 r2 rf2 k2=>q f2 g2 as2 h2 tk2 gs2 af2 σ2 (StaysIn.trans' hg hg2) (ha.trans ha2) gb2 r2 rf2 k2
  | brk=>exact q _ g' as' h' tk' gs' _ σ' hg ha gb' r' .brk k
  | cont=>exact q _ g' as' h' tk' gs' _ σ' hg ha gb' r' .cont k
  | ret rv=>exact q _ g' as' h' tk' gs' _ σ' hg ha gb' r' (.ret rv) k)
theorem xS{st:Stmt}{rest:List Stmt}{K:Fl→St→Prop}(h:SsOK c d u env (exec st env) σ (KcG c P0 d u env rest K)):SsG c P0 d u env (execs (st::rest) env) σ K:=zM (ssG_of h)
theorem ssG_assign{x:Str}{pos' pos:Pos}{value:Expr}{K:Fl→St→Prop}(hv:SvOK c env x)(hs:swapsWith value (some (.Name x pos')) pos.line env=pure false)
  (h:EvG c P0 d u env value σ (fun av σ'=>K .next (σ'.setLoc x av))):SsG c P0 d u env (exec (.Assign [.Name x pos'] value pos) env) σ K:=fun A g as cs s Q E ro G bm r e0 gb q =>
 wpAny_Assign_Name (h A g as cs s _ E ro G bm r e0 gb fun v g' as' h' tk' gs' av σ' hg ha gb' r' rv k=>hv A g' as' cs { s with heap:=h',toks:=tk',gens:=gs' } σ' v av _ E r' rv fun h2 tk2 r2=>q .next g' as' h2 tk2 gs' .next _ hg ha gb' r2 .next k) hs
theorem gJ{e:Expr}{pos:Pos}{K:Fl→St→Prop}(h:EvG c P0 d u env e σ (fun av σ'=>K (.ret av) σ')):SsG c P0 d u env (exec (.Return (some e) pos) env) σ K:=fun A g as cs s Q E ro G bm r e0 gb q =>
 wpAny_Return_some (h A g as cs s _ E ro G bm r e0 gb fun v g' as' h' tk' gs' av σ' hg ha gb' r' rv k=>q _ g' as' h' tk' gs' _ σ' hg ha gb' r' (.ret rv) k)
theorem evG_call {n:Str} {np:Pos} {args:List Expr} {pos:Pos} {K:AV→St→Prop} {f:Addr} (hk:env.scope.kind=.function) (hl:env.kindOf n=some .globalImplicit) (hg:env.globals=mainGlobals) (hd:(n==("__debug__":Str))=false)
  (hne:∀e∈args,∀v p,e≠.Starred v p) (e:nsIn c.K mainGlobals n=some (some (.ref f))) (hp:keepIn c.K (.ref f)=true)
  (h:AsOK c d u env args σ (fun vs σ2=>CallG c P0 d u (.ref f) vs σ2.mu (fun v mu'=>K v (σ2.setMu mu')))):EvG c P0 d u env (.Call (.Name n np) args [] pos) σ K:=fun A g as cs s Q E ro G bm r e0 gb q=>by
 show wpAny (model c.prog c.w) A (do callWith pos (← eval (.Name n np) env) [] (backTo pos (starEach args env)) (backToKw pos (keywordEach [] env))) Q E s
 have h0:EvOK c d u env (.Name n np) σ (fun fv σ1=>fv=.st (.ref f)∧σ1=σ):=wT hk hl hg hd e (fun g as=>.st _) ⟨rfl,rfl⟩
 refine wpAny_bind (h0 A g as cs s _ E ro G r fun v1 g1 as1 h1 tk1 a σ1 hg1 ha1 r1 rv1 k1=>?_)
 obtain ⟨rfl,rfl⟩:=k1
 obtain ⟨_,rfl⟩:=rv1.inv
 refine xI (c:=c) (first:=[]) (.inl (.inl hp)) hne ((G.X.keeps hg1).keeps r1.mu.keep) (h A g1 as1 cs (sh s h1 tk1) _ E pos ro (G.keeps hg1) r1 fun vs g2 as2 h2 tk2 avs σ2 hg2 ha2 r2 rvs k3=>⟨(G.X.keeps hg1).keeps hg2 |>.keeps r2.mu.keep,?_⟩)
 obtain ⟨g₃,st,m3,kk⟩:=r2.frame
 refine k3 A g₃ as2 (sh s h2 tk2) Q E vs ro (((G.keeps hg1).keeps hg2).keeps st) (((bm.keeps hg1).keeps hg2).keeps st) m3 (rvs.mono st (List.prefix_refl _)) (pre0 (ha1.trans ha2) e0) gb fun v g' as' h' tk' gs' av mu' x1 x2 xb x3 x4 x5=>?_
 obtain ⟨g'',y1,y2,y3⟩:=kk g' as' h' mu' x1 x2 x3
 exact q v g'' as' h' tk' gs' av _ (StaysIn.trans' (StaysIn.trans' hg1 hg2) y1) ((ha1.trans ha2).trans x2) xb y2 (y3 v av x4) x5
end
section
variable {c:Cx}{P0:Addr}{d u:Nat}{f:Addr}{args:List AV}{mu:List AO}{K:AV→List AO→Prop}
 {name qual:Str} {params:Arguments} {body:List Stmt} {scope:Scope} {dV kV doc pm cdv ct oc:Value} {an od:Option Addr} {osl:Array (Option Value)}
theorem callG_fn{loc:List (Str×AV)}(ho:c.K.lookup f=some ⟨oc,od,.func (fnOf name qual params body scope dV kV doc pm an cdv ct),osl⟩)(hcd:codeIn c.K cdv qual=true)(hroom:d < recursionLimit)
  (hb:BindOK c (fnOf name qual params body scope dV kV doc pm an cdv ct) args [] loc)
  (h:∀L,SsG c P0 (d+1) (u+3) (envOf qual scope L f cdv) (execs body (envOf qual scope L f cdv)) ⟨loc,mu⟩ (backK K))
  (hco:scope.isCoroutine=false) (hgen:scope.isGenerator=false) (hk:scope.kind=.function) (hcell:∀x∈scope.names,x.2≠.cell) :
  CallG c P0 d u (.ref f) args mu K:=fun A g as s Q E ws ro G bm m rs e0 gb q=>by
 obtain ⟨binds,hbi,hloc,hrel⟩:=hb g as s ws [] G m.keep rs .nil
 refine wpAny_call (codeAny_call_def (fd:=fnOf name qual params body scope dV kV doc pm an cdv ct) (body:=body) (binds:=binds) (Nat.lt_of_le_of_lt ro.dp hroom) (m.keep _ _ (G.X _ _ ho)) rfl (G.lim.keeps m.keep) (codeRec_of (G.X.keeps m.keep) hcd) rfl hbi hcell hloc (fun h₁ hns hk₁=>?_) hco hgen hk)
 have hL:g.get? s.heap.objs.size=none:=by
  cases e:g.get? s.heap.objs.size with
  | none=>rfl
  | some o=>exact absurd (Heap.lt_size (m.keep _ _ e)) (Nat.lt_irrefl _)
 have hLas:s.heap.objs.size∉as:=fun hm=>by
  obtain ⟨k,hk⟩:=List.getElem?_of_mem hm
  have hlt:k < mu.length:=by rw [← m.len];exact (List.getElem?_eq_some_iff.mp hk).1
  obtain ⟨o,e,_⟩:=m.at' k _ _ hk (List.getElem?_eq_getElem hlt)
  exact absurd (Heap.lt_size e) (Nat.lt_irrefl _)
 have r₀:R c.w.params g as [] (envOf qual scope s.heap.objs.size f cdv) ⟨loc,mu⟩ h₁ :=
  {mu:=⟨fun b o e=>hk₁ _ _ (m.keep b o e),m.len,m.nd,fun k a ao h1 h2=>by
    obtain ⟨o,e1,e2⟩:=m.at' k a ao h1 h2
    exact ⟨o,hk₁ _ _ e1,e2⟩,m.out⟩
   ns:=⟨_,hns,fun x av Z hv=>hrel x av hv⟩
   cl:=fun x av hx hv=>by
    have hkf:(envOf qual scope s.heap.objs.size f cdv).kindOf x=scope.names.lookup x:=rfl
    obtain ⟨v,e1,_⟩:=hrel x av hv
    have hmem:∃p∈binds,p.1=x:=by
     have:binds.reverse.lookup x≠none:=by rw [e1];exact fun q=>nomatch q
     obtain ⟨p,hp,hpx⟩:∃p∈binds.reverse,p.1=x:=by
      clear hrel hloc hbi
      revert this
      generalize binds.reverse=l
      intro this
      induction l with
      | nil=>exact absurd rfl this
      | cons p l ih =>
       obtain ⟨p1,p2⟩:=p
       by_cases hb:(x==p1)=true
       ·exact ⟨(p1,p2),.head _,(beq_iff_eq.mp hb).symm⟩
       ·have hb':(x==p1)=false:=by simpa using hb
        rw [List.lookup_cons,hb'] at this
        obtain ⟨q,hq,e⟩:=ih this
        exact ⟨q,.tail _ hq,e⟩
     exact ⟨p,List.mem_reverse.mp hp,hpx⟩
    obtain ⟨p,hp,rfl⟩:=hmem
    rw [hkf,hloc p hp] at hx
    rcases hx with hx | hx <;> cases hx
   off:=fun a ha=>by
    rcases List.mem_cons.mp ha with e | e
    ·subst e;exact ⟨hL,hLas⟩
    ·cases e
   nd:=by simp
   cells:=fun x c' e=>by cases e
   inj:=fun x y c' e=>by cases e
   cc:=fun a ha=>by cases ha }
 exact h s.heap.objs.size (A.deeper (envOf qual scope s.heap.objs.size f cdv)) g as [] _ _ _ ⟨ro.hd,Nat.succ_le_succ ro.dp,Nat.add_le_add_right ro.un 3⟩ G bm r₀ e0 gb fun fl g' as' h' tk' gs' af σ' hg ha gb' r' rf k=>by
  cases rf with
  | next=>exact q .none g' as' h' tk' gs' .none σ'.mu hg ha gb' r'.mu .none k
  | brk=>exact k.elim
  | cont=>exact k.elim
  | ret rv=>exact q _ g' as' h' tk' gs' _ σ'.mu hg ha gb' r'.mu rv k
end
theorem passing_all(n:Nat):passing (fun Z=>true) n 0=List.range n:=by simp [passing]
theorem shared_eq{s s':Shared}(h1:s'.drawn=s.drawn)(h2:s'.os=s.os):s'={ s with heap:=s'.heap,toks:=s'.toks,gens:=s'.gens }:=by
 cases s;cases s';cases h1;cases h2;rfl
theorem MuR.set0{P:Params}{g:Heap}{as:List Addr}{mu:List AO}{h h':Heap}{P0:Addr}{o':Obj}(m:MuR P g as mu h)(e0:as[0]?=some P0)(hk:∀b o,b≠P0→h.get? b=some o→h'.get? b=some o)(ho:h'.get? P0=some o'):MuR P g as (mu.set 0 (.raw o')) h':=by
 have hP:g.get? P0=none:=m.out _ (List.mem_of_getElem? e0)
 refine ⟨fun b o e=>hk b o (fun q=>by rw [q,hP] at e;cases e) (m.keep b o e),by rw [List.length_set];exact m.len,m.nd,fun k a ao h1 h2=>?_,m.out⟩
 cases k with
 | zero =>
  rw [e0] at h1;cases h1
  have:0 < mu.length:=by rw [← m.len];exact (List.getElem?_eq_some_iff.mp e0).1
  rw [List.getElem?_set_self this] at h2;cases h2
  exact ⟨o',ho,.raw⟩
 | succ k =>
  rw [List.getElem?_set_ne (by exact o96)] at h2
  obtain ⟨o,x1,x2⟩:=m.at' _ _ _ h1 h2
  refine ⟨o,hk _ _ (fun q=>?_) x1,x2⟩
  subst q
  obtain ⟨l0,r0⟩:=List.getElem?_eq_some_iff.mp e0
  obtain ⟨l1,r1⟩:=List.getElem?_eq_some_iff.mp h1
  have:=(List.getElem_inj m.nd).mp (r0.trans r1.symm)
  first | exact Nat.succ_ne_zero _ this | exact Nat.succ_ne_zero _ this.symm
section
variable {c:Cx}{P0:Addr}{d u:Nat}{env:Env}{σ:St}
end
namespace evG_joingen
noncomputable def Cq (c:Cx) (P0:Addr) (d u:Nat) (env:Env) (σ:St) (sep qn an ln:Str) (kp:Nat) (spos apos pos gpos pq pa pc pt pl:Pos) (scope:Scope) (c0 f:Addr) (xs:List Str) (qf:Str→Str) (K:AV→St→Prop):Prop:=∀{pl0:Sem Bool} (he:eval (.Call (.Attribute (.Constant (.str sep) kp spos) "join" apos) [.GeneratorExp (.Call (.Name qn pq) [.Name an pa] [] pc) [⟨.Name an pt,.Name ln pl,[],0⟩] scope gpos] [] pos) env=(do
   let ov ← eval (.Constant (.str sep) kp spos) env
   standAt apos.atName
   let (f,first) ← holding [ov] (getMethod ov "join" pl0)
   callWith pos f first (backTo pos (starEach [.GeneratorExp (.Call (.Name qn pq) [.Name an pa] [] pc) [⟨.Name an pt,.Name ln pl,[],0⟩] scope gpos] env)) (backToKw pos (keywordEach [] env)))) (hs:EvOK c d u env (.Constant (.str sep) kp spos) σ (fun a σ1=>a=.str sep∧σ1=σ)) (hcode:env.code=.ref c0) (hhd:codeHdIn c.K c0 P0=true) (hk:env.scope.kind=.function) (hl:env.kindOf ln=some .local) (hld:(ln==("__debug__":Str))=false) (hloc:σ.loc.lookup ln=some (.lst (xs.map .str))) (hmu0:σ.mu[0]?=some (.raw (tabObj #[]))) (hglob:env.globals=mainGlobals) (hco:scope.isCoroutine=false) (hclos:closureFor scope env=pure []) (hcell:∀y∈scope.names,y.2≠.cell) (h0:scope.names.lookup (".0":Str)=some NameKind.local) (hx:scope.names.lookup an=some .local) (hkind:scope.kind=.function) (hxd:(an==("__debug__":Str))=false) (hqn:scope.names.lookup qn=some .globalImplicit) (hqd:(qn==("__debug__":Str))=false) (hroom:d < recursionLimit) (e:nsIn c.K mainGlobals qn=some (some (.ref f))) (hp:keepIn c.K (.ref f)=true) (hq:∀x∈xs,∀K:AV→List AO→Prop,K (.str (qf x)) []→CallOK c (d+1) (u+8) (.ref f) [.str x] [] [] K) (hok:JoinOk sep (xs.map qf)=true) (hsz:xs.length≤sizeLine) (h:∀ps,K (.str (Txt.join sep (xs.map qf))) (σ.setMu (σ.mu.set 0 (.raw (tabObj ps))))),EvG c P0 d u env (.Call (.Attribute (.Constant (.str sep) kp spos) "join" apos) [.GeneratorExp (.Call (.Name qn pq) [.Name an pa] [] pc) [⟨.Name an pt,.Name ln pl,[],0⟩] scope gpos] [] pos) σ K
noncomputable def Dq(p:Cx×Addr×Nat×Nat×Env×St×Str×Str×Str×Str×Nat×Pos×Pos×Pos×Pos×Pos×Pos×Pos×Pos×Pos×Scope×Addr×Addr×(List Str)×(Str→Str)×(AV→St→Prop)):Prop:=Cq p.1 p.2.1 p.2.2.1 p.2.2.2.1 p.2.2.2.2.1 p.2.2.2.2.2.1 p.2.2.2.2.2.2.1 p.2.2.2.2.2.2.2.1 p.2.2.2.2.2.2.2.2.1 p.2.2.2.2.2.2.2.2.2.1 p.2.2.2.2.2.2.2.2.2.2.1 p.2.2.2.2.2.2.2.2.2.2.2.1 p.2.2.2.2.2.2.2.2.2.2.2.2.1 p.2.2.2.2.2.2.2.2.2.2.2.2.2.1 p.2.2.2.2.2.2.2.2.2.2.2.2.2.2.1 p.2.2.2.2.2.2.2.2.2.2.2.2.2.2.2.1 p.2.2.2.2.2.2.2.2.2.2.2.2.2.2.2.2.1 p.2.2.2.2.2.2.2.2.2.2.2.2.2.2.2.2.2.1 p.2.2.2.2.2.2.2.2.2.2.2.2.2.2.2.2.2.2.1 p.2.2.2.2.2.2.2.2.2.2.2.2.2.2.2.2.2.2.2.1 p.2.2.2.2.2.2.2.2.2.2.2.2.2.2.2.2.2.2.2.2.1 p.2.2.2.2.2.2.2.2.2.2.2.2.2.2.2.2.2.2.2.2.2.1 p.2.2.2.2.2.2.2.2.2.2.2.2.2.2.2.2.2.2.2.2.2.2.1 p.2.2.2.2.2.2.2.2.2.2.2.2.2.2.2.2.2.2.2.2.2.2.2.1 p.2.2.2.2.2.2.2.2.2.2.2.2.2.2.2.2.2.2.2.2.2.2.2.2.1 p.2.2.2.2.2.2.2.2.2.2.2.2.2.2.2.2.2.2.2.2.2.2.2.2.2
def tq:=@ep _ (by have:=neCx;have:=neEnv;have:=neScope;have:=neSt;infer_instance) Dq
def c:=tq.1
def P0:=tq.2.1
def d:=tq.2.2.1
def u:=tq.2.2.2.1
def env:=tq.2.2.2.2.1
def σ:=tq.2.2.2.2.2.1
def sep:=tq.2.2.2.2.2.2.1
def qn:=tq.2.2.2.2.2.2.2.1
def an:=tq.2.2.2.2.2.2.2.2.1
def ln:=tq.2.2.2.2.2.2.2.2.2.1
def kp:=tq.2.2.2.2.2.2.2.2.2.2.1
def spos:=tq.2.2.2.2.2.2.2.2.2.2.2.1
def apos:=tq.2.2.2.2.2.2.2.2.2.2.2.2.1
def pos:=tq.2.2.2.2.2.2.2.2.2.2.2.2.2.1
def gpos:=tq.2.2.2.2.2.2.2.2.2.2.2.2.2.2.1
def pq:=tq.2.2.2.2.2.2.2.2.2.2.2.2.2.2.2.1
def pa:=tq.2.2.2.2.2.2.2.2.2.2.2.2.2.2.2.2.1
def pc:=tq.2.2.2.2.2.2.2.2.2.2.2.2.2.2.2.2.2.1
def pt:=tq.2.2.2.2.2.2.2.2.2.2.2.2.2.2.2.2.2.2.1
def pl:=tq.2.2.2.2.2.2.2.2.2.2.2.2.2.2.2.2.2.2.2.1
def scope:=tq.2.2.2.2.2.2.2.2.2.2.2.2.2.2.2.2.2.2.2.2.1
def c0:=tq.2.2.2.2.2.2.2.2.2.2.2.2.2.2.2.2.2.2.2.2.2.1
def f:=tq.2.2.2.2.2.2.2.2.2.2.2.2.2.2.2.2.2.2.2.2.2.2.1
def xs:=tq.2.2.2.2.2.2.2.2.2.2.2.2.2.2.2.2.2.2.2.2.2.2.2.1
def qf:=tq.2.2.2.2.2.2.2.2.2.2.2.2.2.2.2.2.2.2.2.2.2.2.2.2.1
def K:=tq.2.2.2.2.2.2.2.2.2.2.2.2.2.2.2.2.2.2.2.2.2.2.2.2.2
theorem T0 {pl0:Sem Bool} (he:eval (.Call (.Attribute (.Constant (.str sep) kp spos) "join" apos) [.GeneratorExp (.Call (.Name qn pq) [.Name an pa] [] pc) [⟨.Name an pt,.Name ln pl,[],0⟩] scope gpos] [] pos) env=(do
   let ov ← eval (.Constant (.str sep) kp spos) env
   standAt apos.atName
   let (f,first) ← holding [ov] (getMethod ov "join" pl0)
   callWith pos f first (backTo pos (starEach [.GeneratorExp (.Call (.Name qn pq) [.Name an pa] [] pc) [⟨.Name an pt,.Name ln pl,[],0⟩] scope gpos] env)) (backToKw pos (keywordEach [] env)))) (hs:EvOK c d u env (.Constant (.str sep) kp spos) σ (fun a σ1=>a=.str sep∧σ1=σ)) (hcode:env.code=.ref c0) (hhd:codeHdIn c.K c0 P0=true) (hk:env.scope.kind=.function) (hl:env.kindOf ln=some .local) (hld:(ln==("__debug__":Str))=false) (hloc:σ.loc.lookup ln=some (.lst (xs.map .str))) (hmu0:σ.mu[0]?=some (.raw (tabObj #[]))) (hglob:env.globals=mainGlobals) (hco:scope.isCoroutine=false) (hclos:closureFor scope env=pure []) (hcell:∀y∈scope.names,y.2≠.cell) (h0:scope.names.lookup (".0":Str)=some NameKind.local) (hx:scope.names.lookup an=some .local) (hkind:scope.kind=.function) (hxd:(an==("__debug__":Str))=false) (hqn:scope.names.lookup qn=some .globalImplicit) (hqd:(qn==("__debug__":Str))=false) (hroom:d < recursionLimit) (e:nsIn c.K mainGlobals qn=some (some (.ref f))) (hp:keepIn c.K (.ref f)=true) (hq:∀x∈xs,∀K:AV→List AO→Prop,K (.str (qf x)) []→CallOK c (d+1) (u+8) (.ref f) [.str x] [] [] K) (hok:JoinOk sep (xs.map qf)=true) (hsz:xs.length≤sizeLine) (h:∀ps,K (.str (Txt.join sep (xs.map qf))) (σ.setMu (σ.mu.set 0 (.raw (tabObj ps))))):EvG c P0 d u env (.Call (.Attribute (.Constant (.str sep) kp spos) "join" apos) [.GeneratorExp (.Call (.Name qn pq) [.Name an pa] [] pc) [⟨.Name an pt,.Name ln pl,[],0⟩] scope gpos] [] pos) σ K:=fun A g as cs s Q E ro G bm r e0 gb q=>by
 refine methodCall_KW (pl:=pl0) ?_ ?_
 rotate_left
 ·exact he
 refine hs A g as cs s _ E ro G r fun v1 g1 as1 h1 tk1 a σ hg1 ha1 r1 rv1 k1=>?_
 obtain ⟨rfl,rfl⟩:=k1
 have G1:=G.keeps hg1
 have bm1:=bm.keeps hg1
 have e1:=pre0 ha1 e0
 refine yZ (c:=c) (mu:=σ.mu) (K:=fun f l=>f=.builtin "str.join"∧l=[.str sep]) ⟨rfl,rfl⟩ A g1 as1 (sh s h1 tk1) _ _ E v1 G1 r1.mu rv1 fun fv first firstA rf kf=>?_
 obtain ⟨rfl,rfl⟩:=kf
 obtain ⟨_,_,rfl,rf1,rf2⟩:=rf.inv
 obtain rfl:=rf2.inv
 obtain ⟨st,rfl⟩:=rf1.inv
 refine xI (c:=c) (.inr (fun a z=>nomatch z)) (by intro e he;cases he with | head=>intro v p q;cases q | tail _ he=>cases he) (G1.X.keeps r1.mu.keep) (spliced_more ?_)
 refine wpAny_GeneratorExp_walksQD ro.hd hco hclos hcell h0 hx hkind (Nat.lt_of_le_of_lt ro.dp hroom) ?_ (fun Z=>rfl)
 obtain ⟨m,hn,hm⟩:=r1.ns
 obtain ⟨lv,el,rv⟩:=hm ln (.lst (xs.map .str)) hl hloc
 refine wpAny_Name (wpAny_loadName_local hk hl hn el ?_) hld
 obtain ⟨la,ws,nn,_,_,rfl,egl,rl⟩:=rv.inv
 have elo:=r1.mu.keep _ _ egl
 have hlist:h1.IsList la ws.toArray:=⟨_,elo,rfl,_,rfl⟩
 obtain ⟨po,epo,spo⟩:=r1.mu.at' _ _ _ e1 hmu0
 cases spo
 have hgP:g1.get? P0=none:=r1.mu.out _ (List.mem_of_getElem? e1)
 have hlaP:la≠P0:=fun q=>by rw [q,hgP] at egl;cases egl
 have hlalt:la < h1.objs.size:=Heap.lt_size elo
 have hPlt:P0 < h1.objs.size:=Heap.lt_size epo
 refine wpAny_pyIter_list hlist ⟨(G1.lim.keeps r1.mu.keep).push _,?_⟩
 have hCH:CodeHd h1 c0 P0:=codeHd_of_K (G1.X.keeps r1.mu.keep) hhd
 have hCH2:=hCH.keeps (h':=h1.push { cls:=.type "list_iterator",data:=.fields #[.ref la,.int 0 0] }) fun b o e=>Heap.get?_push_of_some _ e
 have epo2:=Heap.get?_push_of_some { cls:=.type "list_iterator",data:=.fields #[.ref la,.int 0 0] } epo
 refine wpAny_genexprCodeX hcode (hCH2.code epo2 trivial) (hCH2.tab epo2) rfl fun c' h₃ tk₃ hx₃ hge hlt hcode₃ hrec₃ htab₃ Z=>?_
 have k3:∀b o,b≠P0→h1.get? b=some o→h₃.get? b=some o:=fun b o hb e=>hx₃ b o hb (Heap.get?_push_of_some _ e)
 have kg3:g1.StaysIn h₃:=fun b o e=>k3 b o (fun q=>by rw [q,hgP] at e;cases e) (r1.mu.keep b o e)
 have G3:=G1.keeps kg3
 obtain ⟨bmA,ob,b1,b2,b3,b4,b5,b6⟩:=bm1.keeps kg3
 refine wpAny_builtinsFor (hglob▸G3.G) b1 b2 b3 b4 b5 b6 ?_
 have hsz3:h1.objs.size < h₃.objs.size:=by
  have:(h1.push { cls:=.type "list_iterator",data:=.fields #[.ref la,.int 0 0] }).objs.size≤h₃.objs.size:=Nat.le_trans hge (Nat.le_of_lt hlt)
  rw [Heap.size_push] at this;exact this
 have hlen:ws.length=xs.length:=by rw [rl.length];simp
 have hcs:cStatics < h1.objs.size:=let ⟨_,hn,_⟩:=G1.lim.keeps r1.mu.keep;hn.lt
 refine ⟨h1.objs.size,[h1.objs.size,la],[h1.objs.size],ws.toArray.size,_,_,fun Z=>true,fun i y=>∃x t,xs[i]?=some x∧y=.str (qf x) t,rfl,(fun A' hA=>Walks.list hA _ _ (Nat.ne_of_lt hlalt) ws.toArray),?_,?_,G3.lim,?_,?_,?_⟩
 ·refine (Walks.list (prog:=c.prog) (w:=c.w) (A:=A) ro.hd _ _ (Nat.ne_of_lt hlalt) ws.toArray).frame _ (h1.push { cls:=.type "list_iterator",data:=.fields #[.ref la,.int 0 0] }) _ ⟨⟨_,Heap.get?_push_size _ rfl,rfl,rfl⟩,hlist.push _⟩ fun b hb o e=>hx₃ b o (fun q=>?_) e
  rcases List.mem_cons.mp hb with hb | hb
  ·exact absurd (q.symm.trans hb) (Nat.ne_of_lt hPlt)
  ·rcases List.mem_cons.mp hb with hb | hb
   ·exact hlaP (hb.symm.trans q)
   ·cases hb
 ·intro b hb
  show b < h₃.objs.size
  rcases List.mem_cons.mp hb with hb | hb
  ·rw [hb];exact hsz3
  ·rcases List.mem_cons.mp hb with hb | hb
   ·rw [hb];exact Nat.lt_trans hlalt hsz3
   ·cases hb
 ·intro hm
  rcases List.mem_cons.mp hm with hb | hb
  ·exact absurd hb (Nat.ne_of_lt hcs)
  ·cases hb
 ·intro href hhref
  refine ⟨fun A' E' i v s₂ m₂ Z Z Z Z Z Z Z=>wpAny_pure ⟨rfl,s₂.heap,s₂.toks,rfl,fun Z Z e=>e⟩,fun A' E' i v s₂ m₂ hA hD hU hv Z hns hmx hkp=>?_⟩
  have kg:g1.StaysIn s₂.heap:=fun b o e=>by
   have lt1:b < h1.objs.size:=Heap.lt_size (r1.mu.keep b o e)
   refine hkp b (List.mem_range.mpr (Nat.lt_trans lt1 hsz3)) (fun q=>?_) o (hhref b o (kg3 b o e))
   rcases List.mem_cons.mp q with q | q
   ·exact absurd q (Nat.ne_of_lt lt1)
   ·cases q
  have G2:=G1.keeps kg
  have hi:i < ws.length:=by
   have:=(Array.getElem?_eq_some_iff.mp hv).1
   simpa using this
  obtain ⟨x,t,hxi,hvx⟩:∃x t,xs[i]?=some x∧v=.str x t:=by
   have hi2:i < (xs.map AV.str).length:=by rw [← rl.length];exact hi
   have hv':ws[i]?=some v:=by simpa using hv
   obtain ⟨av,ea,rr⟩:=rl.get' hv'
   rw [List.getElem?_map] at ea
   cases exi:xs[i]? with
   | none=>rw [exi] at ea;cases ea
   | some x =>
    rw [exi] at ea
    cases ea
    obtain ⟨t,rfl⟩:=rr.inv
    exact ⟨_,t,rfl,rfl⟩
  subst hvx
  show wpAny (model c.prog c.w) A' (do callWith pc (← eval (.Name qn pq) (genEnv scope [] h₃.objs.size (.ref c') builtinsNs env)) [] (backTo pc (starEach [.Name an pa] (genEnv scope [] h₃.objs.size (.ref c') builtinsNs env))) (backToKw pc (keywordEach [] (genEnv scope [] h₃.objs.size (.ref c') builtinsNs env)))) _ E' s₂
  refine wpAny_bind (Name_function_global (env:=genEnv scope [] h₃.objs.size (.ref c') builtinsNs env) hkind (by simp [genEnv,Env.kindOf,hqn]) (loadGlobal_global (show s₂.heap.Ns env.globals c.mg from hglob▸G2.G) (mg_of G2.X G2.G e) ?_) hqd)
  refine xI (c:=c) (.inl (.inl hp)) (by intro e he;cases he with | head=>intro v p q;cases q | tail _ he=>cases he) G2.X (spliced_more ?_)
  refine wpAny_Name (wpAny_loadName_local (env:=genEnv scope [] h₃.objs.size (.ref c') builtinsNs env) hkind (by simp [genEnv,Env.kindOf,hx]) hns hmx (spliced_none ⟨G2.X,?_⟩)) hxd
  refine hq x (List.mem_of_getElem? hxi) (fun v mu'=>v=.str (qf x)∧mu'=[]) ⟨rfl,rfl⟩ A' s₂.heap [] s₂ _ E' _ _ ⟨hA,Nat.le_trans hD (Nat.add_le_add_right ro.dp 1),Nat.le_trans hU (Nat.add_le_add_right ro.un 8)⟩ G2 ⟨fun Z Z e=>e,rfl,List.nodup_nil,fun k a ao h1 h2=>(nomatch h1),fun a ha=>(nomatch ha)⟩ (.cons (.str _ _) .nil) .nil fun v g' as' h' tk' av mu' x1 x2 x3 x4 x5=>?_
  obtain ⟨rfl,rfl⟩:=x5
  cases x4
  exact ⟨⟨x,_,hxi,rfl⟩,h',tk',rfl,fun b o e=>x3.keep _ _ (x1 _ _ e)⟩
 ·intro a' h₅ tk₅ gs₅ hgb hag hsz₅ hk₅ W hat
  refine spliced_none ⟨(G3.X.keeps hk₅),?_⟩
  rw [passing_all] at W
  refine SC.joinGen W.in4_2 (fun i s' st=>st.1.typeIs) hat (fun b hb=>?_) List.mem_cons_self (fun j v hv=>?_) (fun s' lt hm hacc=>?_) (by rw [List.length_range];show ws.toArray.size≤_;rw [List.size_toArray,hlen];exact hsz)
  ·show b < h₅.objs.size
   rw [hsz₅]
   rcases List.mem_cons.mp hb with hb | hb
   ·rw [hb];exact Nat.lt_succ_self _
   ·rcases List.mem_cons.mp hb with hb | hb
    ·rw [hb];exact Nat.lt_succ_of_lt hag
    ·exact Nat.lt_succ_of_lt (Nat.lt_trans (List.mem_range.mp hb) hag)
  ·obtain ⟨i,_,x,t,_,rfl⟩:=hv
   exact ⟨_,_,rfl⟩
  ·have hl:lt.map (·.1)=xs.map qf:=by
    apply List.ext_getElem?
    intro j
    have hlt2:lt.length=ws.length:=by simpa [strValues] using hacc.1
    by_cases hj:j < lt.length
    ·obtain ⟨i,hi,x,t,hxi,hy⟩:=hacc.2 j (.str lt[j].1 lt[j].2) (by simp [strValues,List.getElem?_eq_getElem hj])
     have hij:i=j:=by
      rw [List.getElem?_range (by simpa using (show j < ws.length from hlt2▸hj))] at hi
      exact (Option.some.inj hi).symm
     subst hij
     injection hy with y1 _
     simp [List.getElem?_eq_getElem hj,hxi,y1]
    ·rw [List.getElem?_eq_none (by simpa using Nat.le_of_not_lt hj),List.getElem?_eq_none (by rw [List.length_map,← hlen,← hlt2];exact Nat.le_of_not_lt hj)]
   rw [hl]
   refine ⟨hok,fun t' kk=>?_⟩
   obtain ⟨g₃,sg,m3,fin⟩:=r1.frame
   have keepAll:∀b o,b < h1.objs.size→h₃.get? b=some o→s'.heap.get? b=some o:=fun b o hb e=>by
    refine hm.heap b o (fun q=>?_) (hk₅ b o e)
    rcases List.mem_cons.mp q with q | q
    ·exact absurd q (Nat.ne_of_lt (Nat.lt_trans hb hsz3))
    ·rcases List.mem_cons.mp q with q | q
     ·exact absurd q (Nat.ne_of_lt hb)
     ·cases q
   obtain ⟨g'',y1,y2,y3⟩:=fin g₃ as1 s'.heap _ (StaysIn.refl' _) (List.prefix_refl _) (MuR.set0 m3 e1 (fun b o hb e=>keepAll b o (Heap.lt_size e) (k3 b o hb e)) (keepAll P0 _ hPlt htab₃.2))
   have es:=shared_eq hm.drawn hm.os
   have q':=q (.str (Txt.join sep (xs.map qf)) t') g'' as1 s'.heap kk s'.gens _ _ (StaysIn.trans' hg1 y1) ha1 ((gb.push hgb).movedS hm) y2 (.str _ _) (h _)
   have e5:({ s' with toks:=kk }:Shared)={ s with heap:=s'.heap,toks:=kk,gens:=s'.gens }:=by rw [es]
   rw [e5]
   exact q'
end evG_joingen
section
variable {c:Cx}{P0:Addr}{d u:Nat}{env:Env}{σ:St}
theorem evG_joingen{sep qn an ln:Str}{kp:Nat}{spos apos pos gpos pq pa pc pt pl:Pos}{scope:Scope}{c0 f:Addr}{xs:List Str}{qf:Str→Str}{K:AV→St→Prop}
  {pl0:Sem Bool} (he:eval (.Call (.Attribute (.Constant (.str sep) kp spos) "join" apos) [.GeneratorExp (.Call (.Name qn pq) [.Name an pa] [] pc) [⟨.Name an pt,.Name ln pl,[],0⟩] scope gpos] [] pos) env=(do
   let ov ← eval (.Constant (.str sep) kp spos) env
   standAt apos.atName
   let (f,first) ← holding [ov] (getMethod ov "join" pl0)
   callWith pos f first (backTo pos (starEach [.GeneratorExp (.Call (.Name qn pq) [.Name an pa] [] pc) [⟨.Name an pt,.Name ln pl,[],0⟩] scope gpos] env)) (backToKw pos (keywordEach [] env))))
  (hs:EvOK c d u env (.Constant (.str sep) kp spos) σ (fun a σ1=>a=.str sep∧σ1=σ)) (hcode:env.code=.ref c0) (hhd:codeHdIn c.K c0 P0=true)
  (hk:env.scope.kind=.function) (hl:env.kindOf ln=some .local) (hld:(ln==("__debug__":Str))=false) (hloc:σ.loc.lookup ln=some (.lst (xs.map .str))) (hmu0:σ.mu[0]?=some (.raw (tabObj #[])))
  (hglob:env.globals=mainGlobals) (hco:scope.isCoroutine=false) (hclos:closureFor scope env=pure []) (hcell:∀y∈scope.names,y.2≠.cell) (h0:scope.names.lookup (".0":Str)=some NameKind.local)
  (hx:scope.names.lookup an=some .local) (hkind:scope.kind=.function) (hxd:(an==("__debug__":Str))=false) (hqn:scope.names.lookup qn=some .globalImplicit) (hqd:(qn==("__debug__":Str))=false)
  (hroom:d < recursionLimit) (e:nsIn c.K mainGlobals qn=some (some (.ref f))) (hp:keepIn c.K (.ref f)=true)
  (hq:∀x∈xs,∀K:AV→List AO→Prop,K (.str (qf x)) []→CallOK c (d+1) (u+8) (.ref f) [.str x] [] [] K)
  (hok:JoinOk sep (xs.map qf)=true) (hsz:xs.length≤sizeLine)
  (h:∀ps,K (.str (Txt.join sep (xs.map qf))) (σ.setMu (σ.mu.set 0 (.raw (tabObj ps))))) :
  EvG c P0 d u env (.Call (.Attribute (.Constant (.str sep) kp spos) "join" apos) [.GeneratorExp (.Call (.Name qn pq) [.Name an pa] [] pc) [⟨.Name an pt,.Name ln pl,[],0⟩] scope gpos] [] pos) σ K:=(@eps _ _ evG_joingen.Dq evG_joingen.tq rfl @evG_joingen.T0 (c,P0,d,u,env,σ,sep,qn,an,ln,kp,spos,apos,pos,gpos,pq,pa,pc,pt,pl,scope,c0,f,xs,qf,K)) he hs hcode hhd hk hl hld hloc hmu0 hglob hco hclos hcell h0 hx hkind hxd hqn hqd hroom e hp hq hok hsz h
end
noncomputable def lpTurn(p:Pos)(tgt:Expr)(em:Sem Unit)(it:Value)(env:Env)(cd:Code):Sem Fin:=do
 standAt p
 match ← pyNext it with
 | none=>pure (.done .next)
 | some v =>
  letOwnedTupleGo tgt it v
  assign tgt env v
  em
  again cd
section
variable {prog:Program}{w:World}{A:Around}{R:Result→Shared→Prop}{s:Shared}
theorem codeAny_lp{elt tgt:Expr}{gens:List Comprehension}{scope:Scope}{pos p0:Pos}{dp:Nat}{em:Sem Unit}{it acc:Value}{env:Env}
  (hT:compTurn (.ListComp elt gens scope pos) dp it acc env=lpTurn p0 tgt em it env (.compLoop (.ListComp elt gens scope pos) dp it acc env)) (I:Nat→Shared→Prop)
  (turn:∀n s,I n s→wpAny (model prog w) A (pyNext it) (fun r s₁=>match r with
   | none=>R (.ok .next) s₁
   | some v=>wpAny (model prog w) A (letOwnedTupleGo tgt it v) (fun Z s₁'=>wpAny (model prog w) A (assign tgt env v) (fun Z s₂ =>
     wpAny (model prog w) A em (fun Z s₅=>∃m,m < n∧I m s₅) (notedBy (model prog w) A env fun e s'=>R (.error e) s') s₂) (notedBy (model prog w) A env fun e s'=>R (.error e) s') s₁') (notedBy (model prog w) A env fun e s'=>R (.error e) s') s₁) (notedBy (model prog w) A env fun e s'=>R (.error e) s') s)
  (n:Nat) (h:I n s) :
  codeAny (model prog w) A (.compLoop (.ListComp elt gens scope pos) dp it acc env) R s:=by
 refine codeAny_loop rfl I (fun n s hI=>?_) n h
 show wpAny _ A ((compTurn (.ListComp elt gens scope pos) dp it acc env).onRaise (fun x=>do noteFrame x env;theTreesLotGoes x)) _ _ s
 refine wpAny_noted ?_
 rw [hT]
 refine wpAny_bind (wpAny_standAt (wpAny_bind (wpAny_mono (turn n s hI) (fun r s₁ h₁=>?_) fun Z Z h'=>h')))
 cases r with
 | none=>exact wpAny_pure h₁
 | some v =>
  refine wpAny_bind (wpAny_mono h₁ (fun Z s₁' h₁'=>?_) fun Z Z h'=>h')
  refine wpAny_bind (wpAny_mono h₁' (fun Z s₂ h₂=>wpAny_bind (wpAny_mono h₂ (fun Z s₅ h₅=>wpAny_pure ⟨rfl,h₅⟩) fun Z Z h'=>h')) fun Z Z h'=>h')
end
theorem pre0'{as as':List Addr}{n:Nat}{P0:Addr}(h:as<+:as')(e:as[n]?=some P0):as'[n]?=some P0:=by
 obtain ⟨r,rfl⟩:=h
 rw [List.getElem?_append_left (List.getElem?_eq_some_iff.mp e).1]
 exact e
noncomputable def EmD(c:Cx)(D n0 d u:Nat)(env:Env)(em:Sem Unit)(σ:St)(K:St→Prop):Prop :=
 ∀(A:Around) (g:Heap) (as cs:List Addr) (s:Shared) (Q:Unit→Shared→Prop) (E:Value→Shared→Prop),Room A d u→Gd c.K c.mg c.mb g→R c.w.params g as cs env σ s.heap→as[n0]?=some D →
  (∀g' as' h' tk' σ',g.StaysIn g'→as<+:as'→R c.w.params g' as' cs env σ' h'→K σ'→Q () (sh s h' tk'))→wpAny (model c.prog c.w) A em Q E s
noncomputable def LpOK(c:Cx)(D n0 d u:Nat)(env:Env)(em:Sem Unit)(tgt:Expr)(m:Nat):List AV→List (Str×AV)→List AO→List AO→(St→Prop)→Prop
 | [],loc,A,B,K=>(∀p∈loc,p.2.under A.length=true)∧(∀ao∈A,ao.under A.length=true)∧K ⟨loc,A⟩
 | a::r,loc,A,B,K=>∃loc',bindT tgt a loc=some loc'∧∀raws,raws.length=m→allRaw raws→EmD c D n0 d u env em ⟨loc',A++raws++B⟩ (fun σ' =>
   ∃l A' B',Sub l σ'.loc∧σ'.mu=A'++raws++B'∧A'.length=A.length∧LpOK c D n0 d u env em tgt m r l A' B' K)
section
variable {c:Cx}{d u:Nat}{env:Env}
inductive LpI(c:Cx)(D n0 d u:Nat)(env:Env)(em:Sem Unit)(tgt:Expr)(K:St→Prop)(g₀:Heap)(asA wr cs:List Addr)(s:Shared)(St':Nat→Heap→Prop)(items:List AV)(k:Nat)(s':Shared):Prop
 | mk (i:Nat) (g':Heap) (asB:List Addr) (h':Heap) (tk':Nat) (loc':List (Str×AV)) (mA' mB raws':List AO) (h1:k+i=items.length) (h2:s'=(sh s h' tk')) (h3:g₀.StaysIn g') (h4:asA.length=mA'.length) (h5:raws'.length=wr.length) (h6:R c.w.params g' (asA++wr++asB) cs env ⟨loc',mA'++raws'++mB⟩ h') (h7:St' i h') (h8:LpOK c D n0 d u env em tgt wr.length (items.drop i) loc' mA' mB K):LpI c D n0 d u env em tgt K g₀ asA wr cs s St' items k s'
theorem lp_itr{elt:Expr}{gens:List Comprehension}{scope:Scope}{pos p0:Pos}{dp D n0:Nat}{em:Sem Unit}{tgt:Expr}{K:St→Prop}{A:Around}{g₀:Heap}{as₀ cs asA wr fp:List Addr}{s:Shared}{Rr:Result→Shared→Prop}{I:Addr}{St':Nat→Heap→Prop}{items:List AV}{loc:List (Str×AV)}{mA raws₀:List AO}
  (hT:compTurn (.ListComp elt gens scope pos) dp (.ref I) (.ref D) env=lpTurn p0 tgt em (.ref I) env (.compLoop (.ListComp elt gens scope pos) dp (.ref I) (.ref D) env)) (hD:asA[n0]?=some D) (ht:SvtOK c env tgt) (ro:Room A d u) (G:Gd c.K c.mg c.mb g₀) (W:Itr c A I tgt fp wr items g₀ as₀ St') (hp:as₀<+:asA++wr)
  (hfp:∀b∈fp,b∈wr∨∃o,g₀.get? b=some o) (hA:asA.length=mA.length) (hr0:raws₀.length=wr.length) (r₀:R c.w.params g₀ (asA++wr++[]) cs env ⟨loc,mA++raws₀++[]⟩ s.heap) (h₀:St' 0 s.heap)
  (hk:LpOK c D n0 d u env em tgt wr.length items loc mA [] K)
  (q:∀g' h' tk' σ',g₀.StaysIn g'→R c.w.params g' asA cs env σ' h'→K σ'→Rr (.ok .next) (sh s h' tk')) :
  codeAny (model c.prog c.w) A (.compLoop (.ListComp elt gens scope pos) dp (.ref I) (.ref D) env) Rr s:=by
 refine codeAny_lp hT (LpI c D n0 d u env em tgt K g₀ asA wr cs s St' items) ?_ items.length
  ⟨0,g₀,[],s.heap,s.toks,loc,mA,[],raws₀,rfl,rfl,StaysIn.refl' _,hA,hr0,r₀,h₀,hk⟩
 rintro k s' ⟨i,g1,asB,h1,tk1,loc1,mA1,mB,raws1,hki,rfl,hg1,hA1,hr1,r1,st1,hk1⟩
 cases k with
 | zero =>
  have hi:i=items.length:=by exact o1 hki
  subst hi
  rw [List.drop_length] at hk1
  refine W.done _ _ _ st1 fun h2 tk2 kp=>?_
  have r2:=r1.ended hA1 kp hk1.1 hk1.2.1
  exact q g1 h2 tk2 _ hg1 r2 hk1.2.2
 | succ k =>
  have hi:i < items.length:=by exact o2 hki
  refine W.item i (sh s h1 tk1) _ _ _ hi st1 (fun v s₁ hv=>hv) fun v h2 tk2 av hav hrel st2 kp=>?_
  obtain ⟨raws2,hl2,har,r2⟩:=r1.moved hA1 hr1 (W.live _ _ st2) kp
  obtain ⟨g₂,hg2,r2',hin⟩:=r2.rebase
  have hdrop:items.drop i=av::items.drop (i+1):=by
   rw [List.drop_eq_getElem_cons (by exact o16 hi)]
   congr 1
   exact (List.getElem?_eq_some_iff.mp hav).2
  rw [hdrop] at hk1
  obtain ⟨loc2,hb2,hk2⟩:=hk1
  have pre:as₀<+:asA++wr++asB:=hp.trans (List.prefix_append _ _)
  have rv2:Rel g₂ (asA++wr++asB) v av:=by
   rcases hrel with hrel | ⟨T,ws,avs,rfl,rfl,hT,hTw,⟨o,ho,hc,n,hd⟩,hrs⟩
   ·exact hrel.mono (StaysIn.trans' hg1 hg2) pre
   ·obtain ⟨cl,dd,dt,sl⟩:=o
    dsimp only at hc hd
    subst hc hd
    have hTs:∀b o,h1.get? b=some o→T≠b:=fun b o e z=>absurd (Heap.lt_size e) (by rw [← z];exact Nat.not_lt.mpr hT)
    refine .tup (hin T _ ho (fun z=>?_) (fun z=>?_)) (hrs.mono (StaysIn.trans' hg1 hg2) pre)
    ·rcases List.mem_cons.mp z with z | z
     ·obtain ⟨m,hn,_⟩:=r1.ns
      obtain ⟨oL,_,_,hL,_⟩:=hn
      exact hTs _ _ hL z
     ·obtain ⟨o,_,e,_⟩:=r1.cc _ z
      exact hTs _ _ e rfl
    ·obtain ⟨j,hj⟩:=List.getElem?_of_mem z
     have hlt:j < (mA1++raws1++mB).length:=by rw [← r1.mu.len];exact (List.getElem?_eq_some_iff.mp hj).1
     obtain ⟨o,e,_⟩:=r1.mu.at' j _ _ hj (List.getElem?_eq_getElem hlt)
     exact hTs _ _ e rfl
  refine tg_ok (s:=(sh s h2 tk2)) ht ro.hd r2' rv2 hb2 fun h3 tk3 r3=>?_
  refine hk2 raws2 hl2 har A g₂ _ cs (sh s h3 tk3) _ _ ro ((G.keeps hg1).keeps hg2) r3 (by rw [List.append_assoc,List.getElem?_append_left (List.getElem?_eq_some_iff.mp hD).1];exact hD) fun g4 as4 h4 tk4 σ4 hg4 ha4 r4 k4=>?_
  obtain ⟨l5,A',B',hsub,hmu,hlen,hf⟩:=k4
  obtain ⟨asB',rfl⟩:=zQ ha4
  obtain ⟨l4,m4⟩:=σ4
  dsimp only at hmu hf hsub
  subst hmu
  replace r4:=r4.forget hsub
  refine ⟨k,Nat.lt_succ_self _,i+1,g4,asB',h4,tk4,l5,A',B',raws2,by exact o4 hki,rfl,StaysIn.trans' (StaysIn.trans' hg1 hg2) hg4,by exact o17 hA1 hlen,hl2,r4,?_,hf⟩
  refine W.frame _ _ _ st2 fun b hb o e=>?_
  rcases hfp b hb with z | ⟨o',z⟩
  ·obtain ⟨j,hj⟩:=List.getElem?_of_mem z
   have hjl:j < wr.length:=(List.getElem?_eq_some_iff.mp hj).1
   have hraw:∃o1,raws2[j]?=some (.raw o1):=by
    have:∀(l:List AO) (j:Nat),allRaw l→j < l.length→∃o,l[j]?=some (.raw o):=by
     intro l
     induction l with
     | nil=>intro j _ hj;simp at hj
     | cons a l ih =>
      intro j ha hj
      cases a with
      | raw o=>cases j with
       | zero=>exact ⟨o,rfl⟩
       | succ j=>simpa using ih j ha (by simpa using hj)
      | _=>exact ha.elim
    exact this _ _ har (by exact o3 hl2 hjl)
   obtain ⟨o1,ho1⟩:=hraw
   have ix:∀(B:List Addr),(asA++wr++B)[asA.length+j]?=some b:=fun B=>by
    rw [List.append_assoc,List.getElem?_append_right (by exact o18),List.getElem?_append_left (by exact o19 hjl),show asA.length+j - asA.length=j by exact o20];exact hj
   have iy:∀(X Y:List AO),X.length=asA.length→(X++raws2++Y)[asA.length+j]?=some (.raw o1):=fun X Y hX=>by
    rw [List.append_assoc,List.getElem?_append_right (by exact o21 hX),List.getElem?_append_left (by exact o22 hl2 hjl hX),hX,show asA.length+j - asA.length=j by exact o20];exact ho1
   obtain ⟨oa,ea,sa⟩:=r2.mu.at' _ _ _ (ix asB) (iy mA1 mB hA1.symm)
   obtain ⟨ob,eb,sb⟩:=r4.mu.at' _ _ _ (ix asB') (iy A' B' (by exact o23 hA1 hlen))
   cases sa;cases sb
   rw [e] at ea;cases ea
   exact eb
  ·have z1:=hg2 _ _ (hg1 _ _ z)
   have z2:=r2'.mu.keep _ _ z1
   rw [e] at z2;cases z2
   exact r4.mu.keep _ _ (hg4 _ _ z1)
theorem em_append{elt:Expr}{D n0:Nat}{σ:St}{K:St→Prop}(h:EvOK c d u env elt σ (fun v σ'=>∃ys,σ'.mu[n0]?=some (.list ys)∧ys.length≤100000∧K (σ'.setMu (σ'.mu.set n0 (.list (ys++[v])))))):
  EmD c D n0 d u env (eval elt env >>= fun x=>call (.builtin "list.append") [.ref D,x] >>= fun Z=>pure ()) σ K:=fun A g as cs s Q E ro G r hD q=>by
 refine wpAny_bind (h A g as cs s _ E ro G r fun x g1 as1 h1 tk1 y σ1 hg1 ha1 r1 ry ky=>?_)
 obtain ⟨ys,hy,hz,k⟩:=ky
 obtain ⟨g₆,st6,m6,k6⟩:=r1.frame
 refine wpAny_bind (vB (c:=c) (d:=d) (u:=u) (k:=n0) (vs:=ys) (v:=y) (mu:=σ1.mu) (K:=fun v mu'=>mu'=σ1.mu.set n0 (.list (ys++[y]))) hy hz rfl A g₆ _ (sh s h1 tk1) _ _ [.ref D,x] [] ro ((G.keeps hg1).keeps st6) m6 (.cons (.mut (pre0' ha1 hD)) (.cons (ry.mono st6 (List.prefix_refl _)) .nil)) .nil fun v7 g7 as7 h7 tk7 av7 mu7 hg7 ha7 m7 rv7 kk7=>?_)
 subst kk7
 obtain ⟨g8,hg8,r8,_⟩:=k6 g7 _ h7 _ hg7 ha7 m7
 exact wpAny_pure (q g8 as7 h7 tk7 _ (StaysIn.trans' hg1 hg8) (ha1.trans ha7) r8 k)
theorem yJ{A:Around}{R:Result→Shared→Prop}{s:Shared}{elt:Expr}{gens:List Comprehension}{scope:Scope}{pos:Pos}{dp:Nat}{it acc:Value}{env:Env}{prog:Program}{w:World}
  (hg:((clausesOf (.ListComp elt gens scope pos))[dp]?).elim false (·.is_async != 0)=false)
  (h0:codeAny (model prog w) A (.compLoop (.ListComp elt gens scope pos) dp it acc env) R s)
  (h:wpAny (model prog w) A (pyIter it) (fun it' s'=>codeAny (model prog w) A (.compLoop (.ListComp elt gens scope pos) dp it' acc env) R s')
   (notedBy (model prog w) A env fun x s'=>R (.error x) s') s) :
  codeAny (model prog w) A (.compStart (.ListComp elt gens scope pos) dp it acc env) R s:=by
 refine codeAny_of_tree ?_
 show wpAny _ _ ((compStart (.ListComp elt gens scope pos) dp it acc env).onRaise (fun x=>do noteFrame x env;standAt theWindowsPlace)) _ _ s
 refine wpAny_notedAt ?_
 unfold compStart
 rw [hg]
 show wpAny _ _ (ask >>= _) _ _ s
 refine wpAny_bind (wpAny_askSetting (wpAny_ite ?_))
 split
 ·first
   | exact wpAny_bind (wpAny_pure (wpAny_pure (And.intro rfl h0)))
   | exact wpAny_pure (And.intro rfl h0)
 ·refine wpAny_bind (wpAny_rule ?_)
  split
  ·exact wpAny_bind (wpAny_standAt (wpAny_bind (wpAny_mono h (fun it' s' h'=>wpAny_pure (And.intro rfl h')) fun Z Z e=>e)))
  ·exact wpAny_bind (wpAny_mono h (fun it' s' h'=>wpAny_pure (And.intro rfl h')) fun Z Z e=>e)
noncomputable def innerEm(e:Expr)(dp:Nat)(iter:Expr)(acc:Value)(env:Env):Sem Unit:=do
 let x ← eval iter env
 standAt iter.pos
 let x ← foldedSetIterable iter env x
 let _ ← runOwn (.compStart e dp (← holding [x] (pyIter x)) acc env) env
theorem em_inner{elt iter tgt:Expr}{gens:List Comprehension}{scope:Scope}{pos p0:Pos}{dp D n0:Nat}{em:Sem Unit}{σ:St}{K:St→Prop}
  (hg:((clausesOf (.ListComp elt gens scope pos))[dp]?).elim false (·.is_async != 0)=false)
  (hT:∀I,compTurn (.ListComp elt gens scope pos) dp (.ref I) (.ref D) env=lpTurn p0 tgt em (.ref I) env (.compLoop (.ListComp elt gens scope pos) dp (.ref I) (.ref D) env))
  (ht:SvtOK c env tgt) (hs:∀v,foldedSetIterable iter env v=pure v)
  (h:ItEOK c d u env tgt iter σ (fun items m σ1=>(∀ao∈σ1.mu,ao.under σ1.mu.length=true)→LpOK c D n0 d u env em tgt m items σ1.loc σ1.mu [] K)) :
  EmD c D n0 d u env (innerEm (.ListComp elt gens scope pos) dp iter (.ref D) env) σ K:=fun A g as cs s Q E ro G r hD q=>by
 unfold innerEm
 refine wpAny_bind (wpAny_mono (h A g as cs s _ E ro G r fun I fp wr St' g1 as1 h1 tk1 items σ1 hg1 ha1 r1 W nd hfp hw h0 k1=>?_) (fun x s₁ h₁=>wpAny_bind (wpAny_standAt (wpAny_bind (wpAny_of_eq (hs x) (wpAny_bind (wpAny_holding (wpAny_mono h₁ (fun it s₂ h₂=>h₂) fun Z Z e=>e))))))) fun Z Z e=>e)
 obtain ⟨raws,hl,har,r2⟩:=r1.adopt nd hw
 refine wpAny_bind (wpAny_runOwn ?_ (by intro x;cases x))
 have em:A.mark none=A:=rfl
 rw [em]
 have loop:codeAny (model c.prog c.w) A (.compLoop (.ListComp elt gens scope pos) dp (.ref I) (.ref D) env) (fun r s'=>match r with | .ok f=>wpAny (model c.prog c.w) A (pure ()) Q E s' | .error e=>cameBackBy (model c.prog c.w) A env E e s') (sh s h1 tk1):=by
  refine lp_itr (s:=(sh s h1 tk1)) (cs:=cs) (asA:=as1) (raws₀:=raws) (hT I) (pre0' ha1 hD) ht ro (G.keeps hg1) W (List.prefix_append _ _) hfp r1.mu.len hl ?_ h0 (k1 r1.mu.isUnder) fun g' h' tk' σ' x1 x2 x3=>?_
  ·rw [List.append_nil,List.append_nil]
   exact r2
  ·exact wpAny_pure (q g' as1 h' tk' σ' (StaysIn.trans' hg1 x1) ha1 x2 x3)
 exact yJ hg loop (W.self 0 _ _ _ h0 loop)
theorem ev_comp2{elt tgt iter:Expr}{gens:List Comprehension}{scope:Scope}{pos p0:Pos}{K:AV→St→Prop}{σ:St}{em:Value→Env→Sem Unit}
  (hT:∀D I env',compTurn (.ListComp elt (⟨tgt,iter,[],0⟩::gens) scope pos) 0 (.ref I) (.ref D) env'=lpTurn p0 tgt (em (.ref D) env') (.ref I) env' (.compLoop (.ListComp elt (⟨tgt,iter,[],0⟩::gens) scope pos) 0 (.ref I) (.ref D) env'))
  (hs:∀v,foldedSetIterable iter env v=pure v) (hclos:closureFor scope env=pure [])
  (hkind:scope.kind=.function) (hcell:∀y∈scope.names,y.2≠.cell) (hnames:∀x∈scope.names,x.2=.local→scope.names.lookup x.1=some .local)
  (ht:∀C,SvtOK c (compEnvC scope [] C env) tgt)
  (h:ItEOK c d u env tgt iter σ (fun items m σ1=>(∀ao∈σ1.mu,ao.under σ1.mu.length=true)→∀C D,LpOK c D σ1.mu.length d u (compEnvC scope [] C env) (em (.ref D) (compEnvC scope [] C env)) tgt m items [] (σ1.mu++[.list []]) [] (fun σ'=>∃ys,σ'.mu=σ1.mu++[.list ys]∧flats ys=true∧K (.lst ys) σ1))) :
  EvOK c d u env (.ListComp elt (⟨tgt,iter,[],0⟩::gens) scope pos) σ K:=fun A g as cs s Q E ro G r q=>by
 rw [eval_ListComp]
 refine wpAny_comprehension_free (use:=none) (cl:=[]) rfl hs hclos hkind hnames (h A g as cs s _ E ro G r fun I fp wr St' g1 as1 h1 tk1 items σ1 hg1 ha1 r1 W nd hfp hw h0 k1=>?_)
 obtain ⟨g₁,st1,m1,hwr,hin,kf⟩:=r1.frameBut wr fun b hb=>⟨(hw b hb).1,(hw b hb).2.1,(hw b hb).2.2.1⟩
 refine wpAny_newObj_type (wpAny_newFunctionEnv hcell (by intro y hy;simp at hy) (fun h₂ hns₂ hsb₂=>?_) hkind)
 dsimp only at hns₂ hsb₂ ⊢
 have m2:=m1.grow (lstObj [] 0) rfl (ao:=.list []) (.list rfl .nil)
 have hwlt:∀b∈wr,b≠h1.objs.size:=fun b hb z=>by
  obtain ⟨o,e⟩:=(hw b hb).2.2.2
  exact absurd (Heap.lt_size e) (by rw [z];exact Nat.lt_irrefl _)
 obtain ⟨raws,hrl,har,m3⟩:=m2.adopt (wr:=wr) nd fun b hb=>⟨hwr b hb,fun z=>(List.mem_append.mp z).elim (hw b hb).2.1 (fun z=>hwlt b hb (List.mem_singleton.mp z)),let ⟨o,e⟩:=(hw b hb).2.2.2;⟨o,Heap.get?_push_of_some _ e⟩⟩
 generalize hH:h1.push { cls:=.type "list",dict:=none,data:=.seq ([]:List Value).toArray }=H at hns₂ hsb₂ ⊢
 have m3':MuR c.w.params g₁ (as1++[h1.objs.size]++wr) (σ1.mu++[.list []]++raws) H:=by rw [← hH];exact m3
 have fr:=m3'.size_out
 have m4:MuR c.w.params g₁ (as1++[h1.objs.size]++wr) (σ1.mu++[.list []]++raws) h₂:=⟨fun b o e=>(hsb₂.2 b (fun z=>by rw [z,fr.1] at e;cases e)).trans (Heap.get?_push_of_some _ (m3'.keep b o e)),m3'.len,m3'.nd,fun k a ao e1 e2=>by
  obtain ⟨o,f1,f2⟩:=m3'.at' k a ao e1 e2
  exact ⟨o,(hsb₂.2 a (fun z=>fr.2 (z▸List.mem_of_getElem? e1))).trans (Heap.get?_push_of_some _ f1),f2⟩,m3'.out⟩
 have old:∀b o,h1.get? b=some o→h₂.get? b=some o:=fun b o e=>by
  have eb:H.get? b=some o:=by rw [← hH];exact Heap.get?_push_of_some _ e
  exact (hsb₂.2 b (fun z=>absurd (Heap.lt_size eb) (by rw [z];exact Nat.lt_irrefl _))).trans (Heap.get?_push_of_some _ eb)
 have pre1:as1<+:as1++[h1.objs.size]++wr:=(List.prefix_append _ _).trans (List.prefix_append _ _)
 have r3:R c.w.params g₁ (as1++[h1.objs.size]++wr++[]) [] (compEnvC scope [] H.objs.size env) ⟨[],σ1.mu++[.list []]++raws++[]⟩ h₂ :=
  {mu:=by rw [List.append_nil,List.append_nil];exact m4
   ns:=⟨_,hns₂,fun x av hx hv=>by cases hv⟩
   cl:=fun x av hx hv=>by cases hv
   off:=fun a ha=>by
    rcases List.mem_cons.mp ha with z | z
    ·subst z;rw [List.append_nil];exact fr
    ·cases z
   nd:=by simp
   cells:=fun x c' e=>by cases e
   inj:=fun x y c' e1 e2=>by cases e1
   cc:=fun a ha=>by cases ha }
 have G1:=(G.keeps hg1).keeps st1
 have st₂:St' 0 h₂:=W.frame _ _ _ h0 fun b hb o e=>old b o e
 have hDn:(as1++[h1.objs.size])[σ1.mu.length]?=some h1.objs.size:=by rw [← m1.len];simp
 have loop:codeAny (model c.prog c.w) A (.compLoop (.ListComp elt (⟨tgt,iter,[],0⟩::gens) scope pos) 0 (.ref I) (.ref h1.objs.size) (compEnvC scope [] H.objs.size env)) (compPost (model c.prog c.w) A E none Q (.ref h1.objs.size) H.objs.size) { s with heap:=h₂,toks:=tk1+([]:List (Str×Value)).length }:=by
  refine lp_itr (s:={ s with heap:=h₂,toks:=tk1+([]:List (Str×Value)).length }) (cs:=[]) (asA:=as1++[h1.objs.size]) (raws₀:=raws) (hT _ _ _) hDn (ht _) ro G1 (W.mono st1 (List.prefix_refl _)) ((List.prefix_append _ _).trans (List.prefix_append _ _)) (fun b hb=>(hfp b hb).imp id fun ⟨o,e⟩=>⟨o,st1 _ _ e⟩) (by simp [m1.len]) hrl r3 st₂ (k1 r1.mu.isUnder _ _) fun g' h' tk' σ' hg' r' kys=>?_
  obtain ⟨ys,hmu,hyf,kys⟩:=kys
  obtain ⟨loc5,mu5⟩:=σ'
  dsimp only at hmu
  subst hmu
  obtain ⟨m,hn',_⟩:=r'.ns
  have offL:=r'.off _ (.head _)
  have hn'':h'.Ns H.objs.size m:=hn'
  refine ⟨m,hn'',fun h'' hs''=>?_⟩
  obtain ⟨oD,eD,sD⟩:=r'.mu.at' _ _ _ hDn (show (σ1.mu++[AO.list ys])[σ1.mu.length]?=some (.list ys) by simp)
  obtain ⟨ws,n,eo,rl⟩:=sD.inv
  subst eo
  have tk:(as1++[h1.objs.size]).take σ1.mu.length=as1:=by rw [← m1.len,List.take_append_of_le_length (Nat.le_refl _),List.take_length]
  have m0:=MuR.take (as:=as1++[h1.objs.size]) (mu1:=σ1.mu) (mu2:=[.list ys]) r'.mu m1.isUnder
  rw [tk] at m0
  have hL1:H.objs.size∉as1:=fun z=>offL.2 (List.mem_append_left _ z)
  have hLD:h1.objs.size≠H.objs.size:=fun z=>offL.2 (List.mem_append_right _ (by rw [← z];exact .head _))
  have hD1:h1.objs.size∉as1:=fun z=>(List.nodup_append.mp r'.mu.nd).2.2 _ z _ (.head _) rfl
  have m'':MuR c.w.params g' as1 σ1.mu h'':=⟨fun b o e=>(hs''.2 b (fun z=>by rw [z,show g'.get? H.objs.size=none from offL.1] at e;cases e)).trans (m0.keep b o e),m0.len,m0.nd,fun k a ao e1 e2=>by
   obtain ⟨o,f1,f2⟩:=m0.at' k a ao e1 e2
   exact ⟨o,(hs''.2 a (fun z=>hL1 (show H.objs.size∈as1 from z▸List.mem_of_getElem? e1))).trans f1,f2⟩,m0.out⟩
  have eD'':h''.get? h1.objs.size=some (lstObj ws n):=(hs''.2 _ hLD).trans eD
  obtain ⟨sr,mr,hinr,_⟩:=m''.rebase [] (fun a ha=>(nomatch ha))
  obtain ⟨g'',hgg,rr,tr,back⟩:=kf _ as1 h'' σ1.mu (StaysIn.trans' hg' sr) (List.prefix_refl _) mr
  exact q _ g'' as1 h'' tk' (.lst ys) σ1 (StaysIn.trans' hg1 hgg) ha1 rr (tr _ _ (.lst (hinr _ _ eD'' (fun z=>nomatch z) hD1) ((rl.flat hyf).mono sr (List.prefix_refl _)))) kys
 exact codeAny_compStart_list loop (W.self 0 _ _ _ st₂ loop)
end
section
variable {c:Cx}{d u:Nat}{env:Env}{σ:St}
theorem ss_assignT{t value:Expr}{pos:Pos}{K:Fl→St→Prop}(ht:SvtOK c env t)(hs:swapsWithSole [t] value pos.line env=pure false)(hw:swappedStores [t] value env=pure none)
  (he:(assignEach [t] env).map (·.2)=[assign t env])
  (h:EvOK c d u env value σ (fun av σ'=>∃loc',bindT t av σ'.loc=some loc'∧K .next ⟨loc',σ'.mu⟩)):SsOK c d u env (exec (.Assign [t] value pos) env) σ K:=fun A g as cs s Q E ro G r q=>by
 refine wpAny_Assign_stores (h A g as cs s _ E ro G r fun v g' as' h' tk' av σ' hg ha r' rv k=>?_) hs hw
 obtain ⟨loc',hb,k⟩:=k
 rw [he]
 exact tg_ok (s:=(sh s h' tk')) ht ro.hd r' rv hb fun h2 tk2 r2=>q .next g' as' h2 tk2 .next _ hg ha r2 .next k
end
theorem flats_app:∀{xs ys:List AV},flats xs=true→flats ys=true→flats (xs++ys)=true:=by
 intro zz
 induction zz with
 | nil =>
  intro ys Z h
  exact h
 | cons x xs ih =>
  intro ys h1 h2
  unfold flats at h1
  rw [Bool.and_eq_true] at h1
  rw [List.cons_append]
  unfold flats
  rw [h1.1,ih h1.2 h2];rfl
section
variable {c:Cx}{d u:Nat}{env:Env}
noncomputable abbrev appEm (elt:Expr) (D:Addr) (env:Env):Sem Unit:=eval elt env >>= fun x=>call (.builtin "list.append") [.ref D,x] >>= fun Z=>pure ()
theorem turn2(w tgt iter iter1:Expr)(scope:Scope)(pos:Pos)(wt:Expr)(D I:Value)(env:Env):compTurn (.ListComp w [⟨tgt,iter,[],0⟩,⟨wt,iter1,[],0⟩] scope pos) 0 I D env =
  lpTurn iter.pos tgt (innerEm (.ListComp w [⟨tgt,iter,[],0⟩,⟨wt,iter1,[],0⟩] scope pos) 1 iter1 D env) I env (.compLoop (.ListComp w [⟨tgt,iter,[],0⟩,⟨wt,iter1,[],0⟩] scope pos) 0 I D env):=by
 unfold compTurn lpTurn innerEm
 dsimp only
 simp only [List.getElem?_cons_zero,List.getElem?_cons_succ]
 simp only [bne_self_eq_false,Bool.false_eq_true,if_false,if_true,List.forIn_nil,pure_bind,bind_assoc,Nat.zero_add]
 rfl
theorem inner_map {w:Str} {pw pt:Pos} {D n0 m:Nat} {B:List AO} {K':St→Prop} (hk:env.scope.kind=.function) (hw:env.kindOf w=some .local) (hwd:(w==("__debug__":Str))=false) :
  ∀(vs:List AV) (loc:List (Str×AV)) (A:List AO) (ys:List AV),flats vs=true→flats ys=true→ys.length+vs.length≤100000→A[n0]?=some (.list ys)→(∀p∈loc,p.2.under A.length=true)→(∀ao∈A,ao.under A.length=true) →
   (∀l,K' ⟨l,A.set n0 (.list (ys++vs))⟩)→LpOK c D n0 d u env (appEm (.Name w pw) D env) (.Name w pt) m vs loc A B K':=by
 intro zz
 induction zz with
 | nil =>
  intro loc A ys hf hy hz hA hl hu hK
  refine ⟨hl,hu,?_⟩
  have e:A.set n0 (.list (ys++[]))=A:=by
   rw [List.append_nil]
   obtain ⟨h1,h2⟩:=List.getElem?_eq_some_iff.mp hA
   rw [← h2];exact List.set_getElem_self h1
  rw [e] at hK
  exact hK loc
 | cons v vs ih =>
  intro loc A ys hf hy hz hA hl hu hK
  unfold flats at hf
  rw [Bool.and_eq_true] at hf
  refine ⟨_,rfl,fun raws hr1 hr2=>?_⟩
  have hn:n0 < A.length:=(List.getElem?_eq_some_iff.mp hA).1
  have get:(A++raws++B)[n0]?=some (.list ys):=by rw [List.append_assoc,List.getElem?_append_left hn];exact hA
  refine em_append (vI hk hw hwd (by rw [wV,if_pos rfl]) ⟨ys,get,by simp only [List.length_cons] at hz;exact o97 hz,[],A.set n0 (.list (ys++[v])),B,Sub.nil _,?_,by rw [List.length_set],?_⟩)
  ·show (A++raws++B).set n0 _=_
   rw [List.append_assoc,List.set_append_left _ _ hn,← List.append_assoc]
  ·refine ih [] _ (ys++[v]) hf.2 (zG hy hf.1) (by simp only [List.length_append,List.length_cons,List.length_nil] at hz ⊢;exact o98 hz) (List.getElem?_set_self hn) (fun p hp=>nomatch hp) (fun ao ha=>?_) ?_
   ·rw [List.length_set]
    rcases List.mem_or_eq_of_mem_set ha with z | z
    ·exact hu ao z
    ·rw [z];exact wC (zG hy hf.1)
   ·rw [List.set_set]
    simpa using hK
theorem outer_map{α:Type}{w:Str}{pw pt:Pos}{tgt iter iter1:Expr}{scope:Scope}{pos:Pos}{D m:Nat}{mu:List AO}{K:List AV→Prop}(emb:α→AV)(g:α→List AV)(L:α→List (Str×AV))
  (hk:env.scope.kind=.function) (hw:env.kindOf w=some .local) (hwd:(w==("__debug__":Str))=false) (hs1:∀v,foldedSetIterable iter1 env v=pure v) (hwf:∀ao∈mu,ao.under mu.length=true) :
  ∀(xs:List α) (ys:List AV),flats ys=true→(∀a∈xs,bindT tgt (emb a) []=some (L a))→(∀a∈xs,flats (g a)=true∧flats ((L a).map (·.2))=true∧(g a).length≤100)→ys.length+100*xs.length≤90000 →
   (∀a∈xs,∀mu',EvOK c d u env iter1 ⟨L a,mu'⟩ (fun v σ1=>v=.tup (g a)∧σ1=⟨L a,mu'⟩))→K (ys++xs.flatMap g) →
   LpOK c D mu.length d u env (innerEm (.ListComp (.Name w pw) [⟨tgt,iter,[],0⟩,⟨.Name w pt,iter1,[],0⟩] scope pos) 1 iter1 (.ref D) env) tgt m (xs.map emb) [] (mu++[.list ys]) [] (fun σ'=>∃ys',σ'.mu=mu++[.list ys']∧flats ys'=true∧K ys'):=by
 intro zz
 induction zz with
 | nil =>
  intro ys hy Z Z Z Z hK
  have hK2:∃ys',mu++[AO.list ys]=mu++[.list ys']∧flats ys'=true∧K ys':=⟨ys,rfl,hy,by simpa using hK⟩
  refine ⟨fun p hp=>(nomatch hp),fun ao ha=>?_,hK2⟩
  rcases List.mem_append.mp ha with z | z
  ·exact AO.under_mono (by simp) (hwf ao z)
  ·rw [List.mem_singleton.mp z];exact wC hy
 | cons a xs ih =>
  intro ys hy hb hg hz hi hK
  obtain ⟨g1,g2,g3⟩:=hg a (.head _)
  refine ⟨_,hb a (.head _),fun raws hr1 hr2=>?_⟩
  refine em_inner (tgt:=.Name w pt) (em:=appEm (.Name w pw) D env) (p0:=iter1.pos) rfl (fun I=>rfl) (qI hk hw) hs1 ?_
  refine it_tup ((hi a (.head _) _).mono fun v σ1 h=>?_)
  obtain ⟨rfl,rfl⟩:=h
  refine ⟨_,rfl,fun hu=>?_⟩
  refine inner_map hk hw hwd (g a) (L a) _ ys g1 hy (by simp only [List.length_cons] at hz;exact o99 hz g3) (by rw [List.append_nil,List.append_assoc,List.getElem?_append_right (Nat.le_refl _)];simp) (fun p hp=>?_) hu ?_
  ·have:∀(l:List AV) (x:AV),flats l=true→x∈l→x.flat=true:=by
    intro l
    induction l with
    | nil=>intro x _ h;cases h
    | cons y l ih =>
     intro x h hx
     unfold flats at h
     rw [Bool.and_eq_true] at h
     rcases List.mem_cons.mp hx with z | z
     ·rw [z];exact h.1
     ·exact ih x h.2 z
   exact AV.flat_under (this _ _ g2 (List.mem_map_of_mem hp))
  ·intro l
   refine ⟨[],mu++[.list (ys++g a)],[],Sub.nil _,by simp,by simp,?_⟩
   exact ih _ (flats_app hy g1) (fun b hb'=>hb b (.tail _ hb')) (fun b hb'=>hg b (.tail _ hb')) (by simp only [List.length_cons,List.length_append] at hz ⊢;exact o100 hz g3) (fun b hb'=>hi b (.tail _ hb')) (by simpa using hK)
theorem ev_comp22{α:Type}{w:Str}{pw pt:Pos}{tgt iter iter1:Expr}{scope:Scope}{pos:Pos}{K:AV→St→Prop}{σ:St}(emb:α→AV)(g:α→List AV)(L:α→List (Str×AV))
  (hs:∀v,foldedSetIterable iter env v=pure v) (hs1:∀C v,foldedSetIterable iter1 (compEnvC scope [] C env) v=pure v) (hclos:closureFor scope env=pure [])
  (hkind:scope.kind=.function) (hcell:∀y∈scope.names,y.2≠.cell) (hnames:∀x∈scope.names,x.2=.local→scope.names.lookup x.1=some .local)
  (ht:∀C,SvtOK c (compEnvC scope [] C env) tgt) (hw:∀C,(compEnvC scope [] C env).kindOf w=some .local) (hk:∀C,(compEnvC scope [] C env).scope.kind=.function) (hwd:(w==("__debug__":Str))=false)
  (h:ItEOK c d u env tgt iter σ (fun items m σ1=>∃xs:List α,items=xs.map emb∧(∀a∈xs,bindT tgt (emb a) []=some (L a))∧(∀a∈xs,flats (g a)=true∧flats ((L a).map (·.2))=true∧(g a).length≤100)∧100*xs.length≤90000 ∧
   (∀C,∀a∈xs,∀mu',EvOK c d u (compEnvC scope [] C env) iter1 ⟨L a,mu'⟩ (fun v σ1=>v=.tup (g a)∧σ1=⟨L a,mu'⟩))∧K (.lst (xs.flatMap g)) σ1)) :
  EvOK c d u env (.ListComp (.Name w pw) [⟨tgt,iter,[],0⟩,⟨.Name w pt,iter1,[],0⟩] scope pos) σ K:=by
 refine ev_comp2 (em:=fun acc env'=>innerEm (.ListComp (.Name w pw) [⟨tgt,iter,[],0⟩,⟨.Name w pt,iter1,[],0⟩] scope pos) 1 iter1 acc env') (p0:=iter.pos) (fun D I env'=>turn2 _ _ _ _ _ _ _ _ _ _) hs hclos hkind hcell hnames ht ?_
 refine fun A g' as cs s Q E ro G r q=>h A g' as cs s Q E ro G r fun I fp wr St' g1 as1 h1 tk1 items σ1 hg1 ha1 r1 W nd hfp hw' h0 k=>q I fp wr St' g1 as1 h1 tk1 items σ1 hg1 ha1 r1 W nd hfp hw' h0 fun hwf C D=>?_
 obtain ⟨xs,rfl,k1,k2,k3,k4,k5⟩:=k
 have:=outer_map (c:=c) (d:=d) (u:=u) (pw:=pw) (pt:=pt) (iter:=iter) (scope:=scope) (pos:=pos) (D:=D) (m:=wr.length) (K:=fun ys=>K (.lst ys) σ1) emb g L (hk C) (hw C) hwd (hs1 C) hwf xs [] rfl k1 k2 (by simpa using k3) (k4 C) (by simpa using k5)
 exact this
end
end Mine.Internal
end
section
open PySem PySem.Spec PySem.Calls PyProof PyProof.Rows PySem.W
set_option maxHeartbeats 1000000
set_option tactic.hygienic false
namespace Mine.Internal
theorem onT{P Q:Prop}(h:P):(true=true→P)∧(true=false→Q):=⟨fun Z=>h,fun z=>Bool.noConfusion z⟩
theorem onF{P Q:Prop}(h:Q):(false=true→P)∧(false=false→Q):=⟨fun z=>Bool.noConfusion z,fun Z=>h⟩
theorem onT'{P Q:Prop}(h:P):(false=false→P)∧(false=true→Q):=⟨fun Z=>h,fun z=>Bool.noConfusion z⟩
theorem onF'{P Q:Prop}(h:Q):(true=false→P)∧(true=true→Q):=⟨fun z=>Bool.noConfusion z,fun Z=>h⟩
theorem yT{R:Bool→Prop}{P Q:Prop}(r:R true)(h:P):∃b,R b∧(b=true→P)∧(b=false→Q):=⟨true,r,onT h⟩
theorem yF{R:Bool→Prop}{P Q:Prop}(r:R false)(h:Q):∃b,R b∧(b=true→P)∧(b=false→Q):=⟨false,r,onF h⟩
noncomputable def entB(s:Scope)(names:List Str):Bool:=names.all (fun x=>decide (s.names.lookup x=some .local))&&(decide names.Nodup&&(s.names.all (fun x=>decide (x.2≠.cell))&&(!s.isCoroutine&&(!s.isGenerator&&decide (s.kind=.function)))))
inductive EntP(s:Scope)(names:List Str):Prop
 | mk (h1:∀x∈names,s.names.lookup x=some .local) (h2:names.Nodup) (h3:∀x∈s.names,x.2≠.cell) (h4:s.isCoroutine=false) (h5:s.isGenerator=false) (h6:s.kind=.function):EntP s names
theorem entP{s:Scope}{names:List Str}(h:entB s names=true):EntP s names:=by
 unfold entB at h
 simp only [Bool.and_eq_true,List.all_eq_true,decide_eq_true_eq,Bool.not_eq_true'] at h
 exact ⟨h.1,h.2.1,h.2.2.1,h.2.2.2.1,h.2.2.2.2.1,h.2.2.2.2.2⟩
section
variable {c:Cx}{d u:Nat}{f:Addr}{r:FnRec}{mu:List AO}{K:AV→List AO→Prop}
theorem enter(names:List Str){args:List AV}(hF:FnAt c.K f r .none .none)(hroom:d < recursionLimit)(hl:names.length=args.length)
  (hb:∀doc pm an cdv ct,∀ws:List Value,ws.length=names.length→bindArgs (fnOf r.name r.qual r.params r.body r.scope .none .none doc pm an cdv ct) ⟨ws,[]⟩=pure (names.zip ws)) (he:entB r.scope names=true)
  (h:∀cdv L,SsOK c (d+1) (u+3) (envOf r.qual r.scope L f cdv) (execs r.body (envOf r.qual r.scope L f cdv)) ⟨names.zip args,mu⟩ (backK K)):CallOK c d u (.ref f) args [] mu K:=by
 obtain ⟨oc,od,osl,doc,pm,an,cdv,ct,ho,hcd⟩:=hF
 obtain ⟨h1,h2,h3,h4,h5,h6⟩:=entP he
 exact jE ho hcd hroom (jF _ hl (hb _ _ _ _ _) h1 h2) (h cdv) h4 h5 h6 h3
theorem enter1{n1:Str}{a1:AV}(hF:FnAt c.K f r .none .none)(hroom:d < recursionLimit)(hb:∀doc pm an cdv ct v,bindArgs (fnOf r.name r.qual r.params r.body r.scope .none .none doc pm an cdv ct) ⟨[v],[]⟩=pure [(n1,v)])(he:entB r.scope [n1]=true)
  (h:∀cdv L,SsOK c (d+1) (u+3) (envOf r.qual r.scope L f cdv) (execs r.body (envOf r.qual r.scope L f cdv)) ⟨[(n1,a1)],mu⟩ (backK K)):CallOK c d u (.ref f) [a1] [] mu K :=
 enter [n1] hF hroom rfl (fun Z Z Z Z Z ws hw=>by obtain ⟨v,rfl⟩:=len1 hw;exact hb _ _ _ _ _ v) he h
theorem enter2{n1 n2:Str}{a1 a2:AV}(hF:FnAt c.K f r .none .none)(hroom:d < recursionLimit)(hb:∀doc pm an cdv ct v w,bindArgs (fnOf r.name r.qual r.params r.body r.scope .none .none doc pm an cdv ct) ⟨[v,w],[]⟩=pure [(n1,v),(n2,w)])(he:entB r.scope [n1,n2]=true)
  (h:∀cdv L,SsOK c (d+1) (u+3) (envOf r.qual r.scope L f cdv) (execs r.body (envOf r.qual r.scope L f cdv)) ⟨[(n1,a1),(n2,a2)],mu⟩ (backK K)):CallOK c d u (.ref f) [a1,a2] [] mu K :=
 enter [n1,n2] hF hroom rfl (fun Z Z Z Z Z ws hw=>by obtain ⟨v,w,rfl⟩:=len2 hw;exact hb _ _ _ _ _ v w) he h
theorem enter4{n1 n2 n3 n4:Str}{a1 a2 a3 a4:AV}(hF:FnAt c.K f r .none .none)(hroom:d < recursionLimit)(hb:∀doc pm an cdv ct v w x y,bindArgs (fnOf r.name r.qual r.params r.body r.scope .none .none doc pm an cdv ct) ⟨[v,w,x,y],[]⟩=pure [(n1,v),(n2,w),(n3,x),(n4,y)])(he:entB r.scope [n1,n2,n3,n4]=true)
  (h:∀cdv L,SsOK c (d+1) (u+3) (envOf r.qual r.scope L f cdv) (execs r.body (envOf r.qual r.scope L f cdv)) ⟨[(n1,a1),(n2,a2),(n3,a3),(n4,a4)],mu⟩ (backK K)):CallOK c d u (.ref f) [a1,a2,a3,a4] [] mu K :=
 enter [n1,n2,n3,n4] hF hroom rfl (fun Z Z Z Z Z ws hw=>by obtain ⟨v,w,x,y,rfl⟩:=len4 hw;exact hb _ _ _ _ _ v w x y) he h
end
theorem pu{σ:St}{K:AV→St→Prop}{v:AV}(h:K v σ):K3 σ K v σ.mu:=⟨rfl,h⟩
theorem zC{c:Cx}{d u:Nat}{env:Env}{t:Sem Flow}{loc:List (Str×AV)}{m m':List AO}{K:Fl→St→Prop}(e:m=m')(h:SsOK c d u env t ⟨loc,m'⟩ K):SsOK c d u env t ⟨loc,m⟩ K:=by subst e;exact h
section
variable {c:Cx}{d u:Nat}{m:Int}{mu:List AO}{K:AV→List AO→Prop}
theorem c_imode(hK:Keys c.K)(hdp:d < recursionLimit)(h:K (.int (Builtin.bitAnd m 4095)) mu):CallOK c d u (.ref 51) [.int m] [] mu K:=by
 refine' enter1 (n1:="mode") hK.k_S_IMODE (hdp) (fun Z Z Z Z Z Z=>rfl) rfl ?h
 case h =>
  intro cdv L
  refine qA ?_
  refine qO (qK (qB rfl (qH (fM (pu ?_)))))
  exact h
theorem yR(hK:Keys c.K)(hdp:d < recursionLimit)(h:K (.int (Builtin.bitAnd m 61440)) mu):CallOK c d u (.ref 58) [.int m] [] mu K:=by
 refine' enter1 (n1:="mode") hK.k_S_IFMT (hdp) (fun Z Z Z Z Z Z=>rfl) rfl ?h
 case h =>
  intro cdv L
  refine qA ?_
  refine qO (qK (qB rfl (qH (fM (pu ?_)))))
  exact h
theorem c_isdir(hK:Keys c.K)(hdp:d+1 < recursionLimit)(h:K (.bool (Builtin.bitAnd m 61440==16384)) mu):CallOK c d u (.ref 65) [.int m] [] mu K:=by
 refine' enter1 (n1:="mode") hK.k_S_ISDIR (Nat.lt_of_succ_lt hdp) (fun Z Z Z Z Z Z=>rfl) rfl ?h
 case h =>
  intro cdv L
  refine qA ?_
  refine qO (vM rfl ?_)
  refine qW rfl hK.g_S_IFMT hK.p_S_IFMT ?_
  refine qC rfl (qB rfl (qE ?_))
  refine qG (yR hK hdp (pu ?_))
  refine xF rfl rfl rfl rfl hK.g_S_IFDIR ?_
  refine wM (pu ?_)
  exact h
theorem c_ischr(hK:Keys c.K)(hdp:d+1 < recursionLimit)(h:K (.bool (Builtin.bitAnd m 61440==8192)) mu):CallOK c d u (.ref 72) [.int m] [] mu K:=by
 refine' enter1 (n1:="mode") hK.k_S_ISCHR (Nat.lt_of_succ_lt hdp) (fun Z Z Z Z Z Z=>rfl) rfl ?h
 case h =>
  intro cdv L
  refine qA ?_
  refine qO (vM rfl ?_)
  refine qW rfl hK.g_S_IFMT hK.p_S_IFMT ?_
  refine qC rfl (qB rfl (qE ?_))
  refine qG (yR hK hdp (pu ?_))
  refine xF rfl rfl rfl rfl hK.g_S_IFCHR ?_
  refine wM (pu ?_)
  exact h
theorem c_isblk(hK:Keys c.K)(hdp:d+1 < recursionLimit)(h:K (.bool (Builtin.bitAnd m 61440==24576)) mu):CallOK c d u (.ref 79) [.int m] [] mu K:=by
 refine' enter1 (n1:="mode") hK.k_S_ISBLK (Nat.lt_of_succ_lt hdp) (fun Z Z Z Z Z Z=>rfl) rfl ?h
 case h =>
  intro cdv L
  refine qA ?_
  refine qO (vM rfl ?_)
  refine qW rfl hK.g_S_IFMT hK.p_S_IFMT ?_
  refine qC rfl (qB rfl (qE ?_))
  refine qG (yR hK hdp (pu ?_))
  refine xF rfl rfl rfl rfl hK.g_S_IFBLK ?_
  refine wM (pu ?_)
  exact h
theorem c_isreg(hK:Keys c.K)(hdp:d+1 < recursionLimit)(h:K (.bool (Builtin.bitAnd m 61440==32768)) mu):CallOK c d u (.ref 86) [.int m] [] mu K:=by
 refine' enter1 (n1:="mode") hK.k_S_ISREG (Nat.lt_of_succ_lt hdp) (fun Z Z Z Z Z Z=>rfl) rfl ?h
 case h =>
  intro cdv L
  refine qA ?_
  refine qO (vM rfl ?_)
  refine qW rfl hK.g_S_IFMT hK.p_S_IFMT ?_
  refine qC rfl (qB rfl (qE ?_))
  refine qG (yR hK hdp (pu ?_))
  refine xF rfl rfl rfl rfl hK.g_S_IFREG ?_
  refine wM (pu ?_)
  exact h
theorem c_isfifo(hK:Keys c.K)(hdp:d+1 < recursionLimit)(h:K (.bool (Builtin.bitAnd m 61440==4096)) mu):CallOK c d u (.ref 93) [.int m] [] mu K:=by
 refine' enter1 (n1:="mode") hK.k_S_ISFIFO (Nat.lt_of_succ_lt hdp) (fun Z Z Z Z Z Z=>rfl) rfl ?h
 case h =>
  intro cdv L
  refine qA ?_
  refine qO (vM rfl ?_)
  refine qW rfl hK.g_S_IFMT hK.p_S_IFMT ?_
  refine qC rfl (qB rfl (qE ?_))
  refine qG (yR hK hdp (pu ?_))
  refine xF rfl rfl rfl rfl hK.g_S_IFIFO ?_
  refine wM (pu ?_)
  exact h
theorem c_islnk(hK:Keys c.K)(hdp:d+1 < recursionLimit)(h:K (.bool (Builtin.bitAnd m 61440==40960)) mu):CallOK c d u (.ref 100) [.int m] [] mu K:=by
 refine' enter1 (n1:="mode") hK.k_S_ISLNK (Nat.lt_of_succ_lt hdp) (fun Z Z Z Z Z Z=>rfl) rfl ?h
 case h =>
  intro cdv L
  refine qA ?_
  refine qO (vM rfl ?_)
  refine qW rfl hK.g_S_IFMT hK.p_S_IFMT ?_
  refine qC rfl (qB rfl (qE ?_))
  refine qG (yR hK hdp (pu ?_))
  refine xF rfl rfl rfl rfl hK.g_S_IFLNK ?_
  refine wM (pu ?_)
  exact h
theorem c_issock(hK:Keys c.K)(hdp:d+1 < recursionLimit)(h:K (.bool (Builtin.bitAnd m 61440==49152)) mu):CallOK c d u (.ref 107) [.int m] [] mu K:=by
 refine' enter1 (n1:="mode") hK.k_S_ISSOCK (Nat.lt_of_succ_lt hdp) (fun Z Z Z Z Z Z=>rfl) rfl ?h
 case h =>
  intro cdv L
  refine qA ?_
  refine qO (vM rfl ?_)
  refine qW rfl hK.g_S_IFMT hK.p_S_IFMT ?_
  refine qC rfl (qB rfl (qE ?_))
  refine qG (yR hK hdp (pu ?_))
  refine xF rfl rfl rfl rfl hK.g_S_IFSOCK ?_
  refine wM (pu ?_)
  exact h
theorem c_isdoor(hK:Keys c.K)(hdp:d < recursionLimit)(h:K (.bool false) mu):CallOK c d u (.ref 114) [.int m] [] mu K:=by
 refine' enter1 (n1:="mode") hK.k_S_ISDOOR (hdp) (fun Z Z Z Z Z Z=>rfl) rfl ?h
 case h =>
  intro cdv L
  refine qA ?_
  refine qO (wG ?_)
  exact h
theorem c_isport(hK:Keys c.K)(hdp:d < recursionLimit)(h:K (.bool false) mu):CallOK c d u (.ref 121) [.int m] [] mu K:=by
 refine' enter1 (n1:="mode") hK.k_S_ISPORT (hdp) (fun Z Z Z Z Z Z=>rfl) rfl ?h
 case h =>
  intro cdv L
  refine qA ?_
  refine qO (wG ?_)
  exact h
theorem c_iswht(hK:Keys c.K)(hdp:d < recursionLimit)(h:K (.bool false) mu):CallOK c d u (.ref 128) [.int m] [] mu K:=by
 refine' enter1 (n1:="mode") hK.k_S_ISWHT (hdp) (fun Z Z Z Z Z Z=>rfl) rfl ?h
 case h =>
  intro cdv L
  refine qA ?_
  refine qO (wG ?_)
  exact h
end
section
variable {c:Cx}{d u:Nat}{mu:List AO}{K:AV→List AO→Prop}
noncomputable abbrev S(l:List Nat):Str:=⟨l.toArray⟩
theorem yH(a b:List Nat):S a++S b=S (a++b):=by
 show Str.append _ _=_
 unfold Str.append
 simp
theorem vV(a:List Nat):(S a).length=a.length:=by
 unfold Str.length;simp
theorem wJ{c:Cx}{d u:Nat}{mu:List AO}{a b:List Nat}{K:AV→List AO→Prop}(hsz:a.length+b.length≤sizeLine)(h:K (.str (S (a++b))) mu):Op2OK c d u (binaryOp .Add) (.str (S a)) (.str (S b)) mu K :=
 xP (by rw [vV,vV];exact hsz) (by rw [yH];exact h)
theorem S_inj{a b:List Nat}:S a=S b↔a=b:=by
 constructor
 ·intro h
  have:=congrArg (fun s=>s.cps.toList) h
  simpa using this
 ·intro h;rw [h]
theorem wY(a b:List Nat):(S a==S b)=(a==b):=by
 by_cases h:a=b
 ·subst h;simp
 ·have h2:S a≠S b:=fun z=>h (S_inj.mp z)
  rw [beq_eq_false_iff_ne.mpr h,beq_eq_false_iff_ne.mpr h2]
noncomputable def octL:Nat→Nat→List Nat
 | 0,n=>[48+n%8]
 | k+1,n=>(if n > 7 then octL k (n / 8) else [])++[48+n%8]
theorem xT:∀(k n:Nat),(octL k n).length≤k+1:=by
 intro zz
 induction zz with
 | zero =>
  intro n
  simp [octL]
 | succ k ih =>
  intro n
  unfold octL
  split
  ·have:=ih (n / 8);simp;exact o242 this
  ·simp
theorem fig8:∀i:Nat,i < 8→(Str.ofString "01234567").cps[i]?=some (48+i):=by
 intro i hi
 have:∀j:Fin 8,(Str.ofString "01234567").cps[(j:Nat)]?=some (48+(j:Nat)):=by decide +kernel
 exact this ⟨i,hi⟩
noncomputable def FigS(c:Cx)(mu:List AO)(k:Nat):Prop:=∀(n:Nat) {d u:Nat} {K:AV→List AO→Prop},n < 8 ^ (k+1)→k≤100→d+k < recursionLimit→K (.str (S (octL k n))) mu→CallOK c d u (.ref 889) [.int n] [] mu K
theorem c_fig1(hK:Keys c.K)(k:Nat)(ih:∀k',k=k'+1→FigS c mu k'):FigS c mu k:=by
 intro n d u K hn hk hdp h
 refine' enter1 (n1:="bits") hK.k_law_figures (by exact o243 hdp) (fun Z Z Z Z Z Z=>rfl) rfl ?h
 case h =>
  intro cdv L
  refine qA ?_
  refine qO (qK (wH (qD rfl (qB rfl (qH (gt_ii (pu ?_)))))))
  refine ⟨_,rfl,fun hb=>?_,fun hb=>?_⟩
  ·cases k with
   | zero=>exact absurd hb (by simp;exact o244 hn)
   | succ k =>
    refine qW rfl hK.g_law_figures hK.p_law_figures ?_
    refine qC rfl (qK (qB rfl (qH (wX (by decide) (by decide) (pu (qE ?_))))))
    rw [show (n:Int) / 8=((n / 8:Nat):Int) by exact o245]
    refine qG (ih k rfl (n / 8) (by rw [Nat.pow_succ] at hn;exact o131 hn) (by exact o246 hk) (by exact o247 hdp) (pu ?_))
    refine qU (qM (qK (qB rfl (qH (vW (by decide) (pu ?_))))))
    refine wL (cp:=48+n%8) (by exact o248) (by exact o249) ?_ (fun Z Z=>rfl) (pu ?_)
    ·rw [show ((n:Int)%8).toNat=n%8 by exact o250];exact fig8 _ (by exact o251)
    refine xP ?_ (pu ?_)
    ·have:=xT k (n / 8);rw [vV];unfold Str.length sizeLine;simp;exact o252 hk this
    rw [show (⟨#[48+n%8]⟩:Str)=S [48+n%8] from rfl,yH]
    have hn7:n > 7:=o253 (of_decide_eq_true hb)
    unfold octL at h
    rw [if_pos hn7] at h
    exact h
  ·refine qM (qU (qM (qK (qB rfl (qH (vW (by decide) (pu ?_)))))))
   refine wL (cp:=48+n%8) (by exact o248) (by exact o249) ?_ (fun Z Z=>rfl) (pu ?_)
   ·rw [show ((n:Int)%8).toNat=n%8 by exact o250];exact fig8 _ (by exact o251)
   refine xP ?_ (pu ?_)
   ·show (Str.ofString "").length+1≤sizeLine;decide
   have hn7:¬n > 7:=o254 (Int.not_lt.mp (of_decide_eq_false hb))
   have e:octL k n=[48+n%8]:=by
    cases k with
    | zero=>rfl
    | succ k=>unfold octL;rw [if_neg hn7];rfl
   rw [e] at h
   exact h
theorem jX(hK:Keys c.K)(k:Nat):FigS c mu k:=by
 induction k with
 | zero=>exact c_fig1 hK _ fun k' e=>by cases e
 | succ k ih=>exact c_fig1 hK _ fun k' e=>by cases e;exact ih
end
section
variable {c:Cx}{d u:Nat}{env:Env}{σ:St}{mu:List AO}{K:AV→List AO→Prop}
theorem ss_wf{t:Sem Flow}{K:Fl→St→Prop}(h:(∀ao∈σ.mu,ao.under σ.mu.length=true)→SsOK c d u env t σ K):SsOK c d u env t σ K:=fun A g as cs s Q E ro G r q=>h r.mu.isUnder A g as cs s Q E ro G r q
noncomputable def kindCh(m:Nat):Nat:=[63,112,99,63,100,63,98,63,45,63,108,63,115,63,63,63].getD (m / 4096%16) 63
noncomputable def tri(m p:Nat):List Nat :=
 let f:=m / 8 ^ (2 - p)%8
 let a:=m / 2 ^ (11 - p)%2
 [[45,114].getD (f / 4) 0,[45,119].getD (f / 2%2) 0,[45,120,83,115,45,120,84,116].getD (p / 2*4+a*2+f%2) 0]
noncomputable def signsL(m:Nat):List Nat:=[kindCh m]++tri m 0++tri m 1++tri m 2
theorem kind16:∀i:Nat,i < 16→(Str.ofString "?pc?d?b?-?l?s???").cps[i]?=some ([63,112,99,63,100,63,98,63,45,63,108,63,115,63,63,63].getD i 63):=by
 intro i hi
 have:∀j:Fin 16,(Str.ofString "?pc?d?b?-?l?s???").cps[(j:Nat)]?=some ([63,112,99,63,100,63,98,63,45,63,108,63,115,63,63,63].getD (j:Nat) 63):=by decide +kernel
 exact this ⟨i,hi⟩
theorem dr2:∀i:Nat,i < 2→(Str.ofString "-r").cps[i]?=some ([45,114].getD i 0):=by
 intro i hi
 have:∀j:Fin 2,(Str.ofString "-r").cps[(j:Nat)]?=some ([45,114].getD (j:Nat) 0):=by decide +kernel
 exact this ⟨i,hi⟩
theorem dw2:∀i:Nat,i < 2→(Str.ofString "-w").cps[i]?=some ([45,119].getD i 0):=by
 intro i hi
 have:∀j:Fin 2,(Str.ofString "-w").cps[(j:Nat)]?=some ([45,119].getD (j:Nat) 0):=by decide +kernel
 exact this ⟨i,hi⟩
theorem dx8:∀i:Nat,i < 8→(Str.ofString "-xSs-xTt").cps[i]?=some ([45,120,83,115,45,120,84,116].getD i 0):=by
 intro i hi
 have:∀j:Fin 8,(Str.ofString "-xSs-xTt").cps[(j:Nat)]?=some ([45,120,83,115,45,120,84,116].getD (j:Nat) 0):=by decide +kernel
 exact this ⟨i,hi⟩
theorem pw8(p:Nat)(hp:p < 3):(8:Int) ^ ((2:Int) - (p:Int)).toNat=((8 ^ (2 - p):Nat):Int):=by
 rw [show ((2:Int) - (p:Int)).toNat=2 - p by exact o278];push_cast;rfl
theorem pw2(p:Nat)(hp:p < 3):(2:Int) ^ ((11:Int) - (p:Int)).toNat=((2 ^ (11 - p):Nat):Int):=by
 rw [show ((11:Int) - (p:Int)).toNat=11 - p by exact o279];push_cast;rfl
theorem q8(p:Nat)(hp:p < 3):0 < 8 ^ (2 - p)∧8 ^ (2 - p) < 1000:=by
 match p,hp with
 | 0,_=>decide
 | 1,_=>decide
 | 2,_=>decide
theorem q2(p:Nat)(hp:p < 3):0 < 2 ^ (11 - p)∧2 ^ (11 - p) < 10000:=by
 match p,hp with
 | 0,_=>decide
 | 1,_=>decide
 | 2,_=>decide
theorem zL{value slice:Expr}{x:Str}{idx:Int}{i b cp:Nat}(e:idx=(i:Int))(hb:i < b)(hb2:b≤1000)(hv:x.cps[i]?=some cp)(hs:∀o i,subscripted slice false o i=operate [o,i] (getItem o i))(h:K (.str ⟨#[cp]⟩) mu):Op2OK c d u (subscriptTail value slice) (.str x) (.int idx) mu K:=by
 subst e
 exact wL (Int.natCast_nonneg i) (Int.lt_of_le_of_lt (Int.ofNat_le.mpr (Nat.le_trans (Nat.le_of_lt hb) hb2)) (by decide)) hv hs h
theorem hY(hK:Keys c.K)(m:Nat)(hdp:d < recursionLimit)(h:K (.str (S (signsL m))) mu):CallOK c d u (.ref 882) [.int m] [] mu K:=by
 refine' enter1 (n1:="mode") hK.k_law_signs hdp (fun Z Z Z Z Z Z=>rfl) rfl ?h
 case h =>
  intro cdv L
  refine ss_wf fun hwf=>?_
  refine qA ?_
  refine qR rfl rfl (qU (qM (qK (qK (qB rfl (qH (wX (by decide) (by decide) (pu (qH (vW (by decide) (pu ?_)))))))))))
  refine zL (i:=m / 4096%16) (b:=16) (cp:=kindCh m) rfl (Nat.mod_lt _ (by decide)) (by decide) (kind16 _ (Nat.mod_lt _ (by decide))) (fun Z Z=>rfl) (pu ?_)
  refine qA ?_
  refine gH (qI rfl rfl) (fun Z=>rfl) ?_
  refine' xE rfl rfl rfl rfl rfl (qS rfl) ?k7 rfl (by decide) (fun a z=>nomatch z) ?_
  case k7=>exact hK.b_range
  refine qC rfl (qH (qE ?_))
  refine ic_range (n:=3) (by exact o280) ?_
  show ForOK' _ _ _ _ _ _ _ _ (([0,1,2]:List Nat).map fun (p:Nat)=>AV.int (p:Int)) [("mode",AV.int m),("text",AV.str (S [kindCh m]))] mu [] _
  refine for_fold (fun (r:List Nat) (t:List Nat)=>t.length+3*r.length≤10∧∀p∈r,p < 3) (fun t:List Nat=>[("mode",AV.int m),("text",AV.str (S t))]) _ (fun t p=>t++tri m p) mu hwf ?_ ?_ [0,1,2] [kindCh m] ⟨by exact Nat.le_of_ble_eq_true rfl,by decide⟩ ?_
  ·intro t
   exact all2 rfl rfl
  ·intro t p r hI
   have hp3:p < 3:=hI.2 p (.head _)
   have hlen:=hI.1
   simp only [List.length_cons] at hlen
   refine ⟨⟨by simp [tri];exact o281 hlen,fun q hq=>hI.2 q (.tail _ hq)⟩,_,rfl,fun raws=>?_⟩
   refine qA (qR rfl rfl (qK (qK (qB rfl (qK (qH (qK (qH (qB rfl (sub_ii (pu ?_)))))))))))
   refine pow_ii (by exact o282 hp3) (by exact o283) (by decide) (pu ?_)
   rw [pw8 p hp3]
   refine wX (Int.ofNat_lt.mpr (q8 p hp3).1) (Int.lt_trans (Int.ofNat_lt.mpr (q8 p hp3).2) (by decide)) (pu ?_)
   rw [← Int.natCast_ediv]
   refine qH (vW (by decide) (pu (qA (qR rfl rfl (qK (qK (qB rfl (qK (qH (qK (qH (qB rfl (sub_ii (pu ?_))))))))))))))
   refine pow_ii (by exact o284 hp3) (by exact o285) (by decide) (pu ?_)
   rw [pw2 p hp3]
   refine wX (Int.ofNat_lt.mpr (q2 p hp3).1) (Int.lt_trans (Int.ofNat_lt.mpr (q2 p hp3).2) (by decide)) (pu ?_)
   rw [← Int.natCast_ediv]
   refine qH (vW (by decide) (pu (qA (ss_augname' rfl rfl rfl (qK (qK (qU (qM (qK (qB rfl (qH (wX (by decide) (by decide) (pu ?_)))))))))))))
   generalize hf:m / 8 ^ (2 - p)=f
   generalize ha:m / 2 ^ (11 - p)=a
   have l1:f%8 / 4 < 2:=Nat.div_lt_of_lt_mul (Nat.mod_lt f (by decide:8 > 0))
   have l2:f%8 / 2%2 < 2:=Nat.mod_lt _ (by decide)
   have l3:p / 2*4+a%2*2+f%8%2 < 8:=o286 hp3
   refine zL (i:=f%8 / 4) (b:=2) (cp:=[45,114].getD (f%8 / 4) 0) rfl l1 (by decide) (dr2 _ l1) (fun Z Z=>rfl) (pu ?_)
   refine qU (qM (qK (qK (qB rfl (qH (wX (by decide) (by decide) (pu (qH (vW (by decide) (pu ?_))))))))))
   refine zL (i:=f%8 / 2%2) (b:=2) (cp:=[45,119].getD (f%8 / 2%2) 0) rfl l2 (by decide) (dw2 _ l2) (fun Z Z=>rfl) (pu ?_)
   refine xP (by show 1+1≤sizeLine;decide) (pu ?_)
   refine qU (qM (qK (qK (qK (qK (qB rfl (qH (wX (by decide) (by decide) (pu (qH ?_))))))))))
   refine gT (IntMulOk.of_right (by decide)) (pu ?_)
   refine qK (qB rfl (qH ?_))
   refine gT (IntMulOk.of_right (by decide)) (pu ?_)
   refine xQ (pu (qK (qB rfl (qH (vW (by decide) (pu (xQ (pu ?_))))))))
   refine zL (i:=p / 2*4+a%2*2+f%8%2) (b:=8) (cp:=[45,120,83,115,45,120,84,116].getD (p / 2*4+a%2*2+f%8%2) 0) rfl l3 (by decide) (dx8 _ l3) (fun Z Z=>rfl) (pu ?_)
   refine xP (by show 2+1≤sizeLine;decide) (pu ?_)
   refine iadd_ss (by rw [vV];exact Nat.le_trans (Nat.le_trans (Nat.add_le_add_left (Nat.le_mul_of_pos_right 3 (Nat.succ_pos _)) _) hlen) (by decide)) (pu ?_)
   refine qF ?_
   refine ⟨.inl rfl,.cons rfl (.cons ?_ (.nil _)),rfl⟩
   show some (AV.str (S t++(S [_]++S [_]++S [_])))=some (AV.str (S (t++tri m p)))
   rw [yH,yH,yH]
   unfold tri
   rw [hf,ha]
   rfl
  ·refine qF (qA (qO (qB rfl ?_)))
   exact h
end
section
set_option tactic.hygienic true
variable {c:Cx}{d u:Nat}{env:Env}{σ:St}{mu:List AO}{K:AV→List AO→Prop}
noncomputable def modeOf(x:Nat):Nat:=x / 8%16*4096+x / 3072%4096+x%8*65536
noncomputable def nameTab:List (List Nat):=[[110],[110,124],[110,40],[110,32,105,116,39,115],[110,10],[110,35,41]]
noncomputable def nameOf(x:Nat):List Nat:=nameTab.getD (x / 128%6) []
noncomputable abbrev fileAV(p:Nat×List Nat):AV:=.tup [.int (p.1:Int),.str (S p.2)]
noncomputable def fileOf(x:Nat):Nat×List Nat:=(modeOf x,nameOf x)
noncomputable abbrev numAV(x:Nat):AV:=.int (x:Int)
noncomputable def namesAV:List AV:=[.str (Str.ofString "n"),.str (Str.ofString "n|"),.str (Str.ofString "n("),.str (Str.ofString "n it's"),.str (Str.ofString "n\n"),.str (Str.ofString "n#)")]
theorem names_get:∀i:Nat,i < 6→namesAV[i]?=some (.str (S (nameTab.getD i []))):=by
 have key:∀j:Fin 6,(match namesAV[(j:Nat)]? with | some (.str x)=>some x | _=>none)=some (S (nameTab.getD (j:Nat) [])):=by decide +kernel
 intro i hi
 have:=key ⟨i,hi⟩
 dsimp only at this
 split at this
 ·rename_i x hx;cases this;exact hx
 ·cases this
theorem c_files(hK:Keys c.K)(ns:List Nat)(hl:ns.length≤100)(hdp:d < recursionLimit)(h:K (.lst ((ns.map fileOf).map fileAV)) mu):CallOK c d u (.ref 894) [.lst (ns.map numAV)] [] mu K:=by
 obtain ⟨oc,od,osl,doc,pm,an,cdv,ct,ho,hcd⟩:=hK.k_law_files
 refine' jD (names:=["numbers"]) (cells:=[("names",0)]) ho hcd hdp rfl ?hb ?hn ?hcl ?hcn ?hkd ?h ?c1 ?c2 ?c3
 case hb=>intro ws hw;obtain ⟨v,rfl⟩:=len1 hw;rfl
 case hn=>decide
 case hcl=>intro L;rfl
 case hcn=>decide
 case hkd=>show ∀x∈_,f_law_files.scope.names.lookup x=_∨(f_law_files.scope.names.lookup x=_∧_);decide
 case c1=>rfl
 case c2=>rfl
 case c3=>rfl
 case h =>
  intro L
  refine qA ?_
  refine xC (zJ (cc:=L+1) rfl (fun z=>nomatch z) rfl rfl) rfl ?_
  refine yB ?_
  refine qC rfl (qM (qC rfl (qM (qC rfl (qM (qC rfl (qM (qC rfl (qM (qC rfl (qM (qE ?_))))))))))))
  refine ⟨by decide,?_⟩
  refine qA (qO ?_)
  refine' wI (fun Z=>rfl) rfl rfl (by decide) (by decide) (fun C=>by exact qI rfl rfl) (by exact (fun x cc h=>h)) ?_
  refine xD ?_
  refine qB rfl ?_
  refine ⟨_,rfl,by simp;exact o167 hl,[("names",.lst namesAV)],?_,fun C=>?_⟩
  ·intro p hp
   rw [List.mem_singleton.mp hp]
   exact ⟨rfl,.inl rfl,.inl rfl,L+1,rfl,rfl⟩
  refine vJ numAV (fun x=>fileAV (fileOf x)) (fun x=>[("names",.lst namesAV),("x",numAV x)]) ns _ (fun Z Z=>rfl) (fun Z Z=>rfl) (fun Z Z=>rfl) (fun x hx raws=>?_) ?_
  ·refine vR (qC rfl (qK (qK (qK (qK (qK (qB rfl (qH (wX (by decide) (by decide) (pu (qH (vW (by decide) (pu (qH ?_))))))))))))))
   refine gT (IntMulOk.of_right (by decide)) (pu ?_)
   refine qK (qK (qB rfl (qH (wX (by decide) (by decide) (pu (qH (vW (by decide) (pu (xQ (pu (qK (qK (qB rfl (qH (vW (by decide) (pu (qH ?_)))))))))))))))))
   refine gT (IntMulOk.of_right (by decide)) (pu ?_)
   refine xQ (pu (qC rfl (qU (vK rfl (qK (qK (qB rfl (qH (wX (by decide) (by decide) (pu (qH (vW (by decide) (pu ?_)))))))))))))
   refine sub_lst (v:=.str (S (nameOf x))) (by exact o319) (by exact o320) ?_ (fun Z Z=>rfl) (pu ?_)
   ·rw [show ((x:Int) / 128%6).toNat=x / 128%6 by exact o321];exact names_get _ (by exact o287)
   refine qE ?_
   exact ⟨by show 2≤1000;decide,rfl,rfl⟩
  ·show K (AV.lst (ns.map fun x=>fileAV (fileOf x))) mu
   rw [List.map_map] at h
   exact h
end
section
variable {c:Cx}{d u:Nat}{env:Env}{σ:St}{mu:List AO}{K:AV→List AO→Prop}
structure Ent where
 text:List Nat
 rank:Nat
 holds:List Bool
noncomputable abbrev boolsAV(l:List Bool):AV:=.lst (l.map .bool)
noncomputable abbrev entAV(e:Ent):AV:=.tup [.str (S e.text),.int (e.rank:Int),boolsAV e.holds]
noncomputable def within(e:Ent)(rank:Nat):List Nat:=if e.rank≥rank then e.text else [40]++e.text++[41]
theorem ofS40:Str.ofString "("=S [40]:=by decide +kernel
theorem ofS41:Str.ofString ")"=S [41]:=by decide +kernel
theorem yK{value slice:Expr}{v:AV}{vs:List AV}(hs:∀o i,subscripted slice false o i=operate [o,i] (getItem o i))(h:K v mu):Op2OK c d u (subscriptTail value slice) (.tup (v::vs)) (.int 0) mu K:=sub_tup (v:=v) (by decide) (by decide) rfl hs h
theorem gF{value slice:Expr}{v v1:AV}{vs:List AV}(hs:∀o i,subscripted slice false o i=operate [o,i] (getItem o i))(h:K v mu):Op2OK c d u (subscriptTail value slice) (.tup (v1::v::vs)) (.int 1) mu K:=sub_tup (v:=v) (by decide) (by decide) rfl hs h
theorem zK{value slice:Expr}{v v1 v2:AV}{vs:List AV}(hs:∀o i,subscripted slice false o i=operate [o,i] (getItem o i))(h:K v mu):Op2OK c d u (subscriptTail value slice) (.tup (v1::v2::v::vs)) (.int 2) mu K:=sub_tup (v:=v) (by decide) (by decide) rfl hs h
theorem fJ(hK:Keys c.K)(e:Ent)(rank:Nat)(hz:e.text.length≤100000)(hdp:d < recursionLimit)(h:K (.str (S (within e rank))) mu):CallOK c d u (.ref 908) [entAV e,.int (rank:Int)] [] mu K:=by
 refine' enter2 (n1:="one") (n2:="rank") hK.k_law_within hdp (fun Z Z Z Z Z Z Z=>rfl) rfl ?h
 case h =>
  intro cdv L
  refine qA ?_
  refine qO (wH (qD rfl (qU (qB rfl (qH ?_)))))
  refine gF (fun Z Z=>rfl) (pu ?_)
  refine qB rfl (xU (pu ?_))
  refine ⟨_,rfl,fun hb=>?_,fun hb=>?_⟩
  ·refine qU (qB rfl (qH ?_))
   refine yK (fun Z Z=>rfl) (pu ?_)
   have hr:e.rank≥rank:=by simp at hb;exact o322 hb
   rw [within,if_pos hr] at h
   exact h
  ·refine qK (qK (qM (qU (qB rfl (qH ?_)))))
   refine yK (fun Z Z=>rfl) (pu ?_)
   refine xP (by rw [ofS40,vV,vV];unfold sizeLine;simp;exact o323 hz) (pu ?_)
   refine qM ?_
   have hr:¬e.rank≥rank:=by simp at hb;exact o59 hb
   rw [ofS40,yH]
   refine xP (by rw [ofS41,vV,vV];unfold sizeLine;simp;exact o324 hz) (pu ?_)
   rw [ofS41,yH]
   rw [within,if_neg hr] at h
   exact h
end
section
section
variable {c:Cx}{d u:Nat}{env:Env}{σ:St}{mu:List AO}{K:AV→List AO→Prop}
noncomputable def comb(rank:Nat)(p:Bool×Bool):Bool:=if rank=1 then p.1&&p.2 else p.1 || p.2
noncomputable abbrev pairAV(p:Bool×Bool):AV:=.tup [.bool p.1,.bool p.2]
theorem xB:∀(l r:List Bool),zipItems (l.map .bool) (r.map .bool)=(l.zip r).map pairAV
 | [],_=>by simp [zipItems]
 | _::_,[]=>by simp [zipItems]
 | a::l,b::r=>by simp [zipItems,xB l r]
theorem kI(l:List Bool):flats (l.map .bool)=true:=by
 induction l with
 | nil=>rfl
 | cons a l ih=>simp [flats,AV.flat,ih]
noncomputable def opCh(rank:Nat):Nat:=[124,38].getD rank 0
theorem op2:∀i:Nat,i < 2→(Str.ofString "|&").cps[i]?=some (opCh i):=by
 intro i hi
 have:∀j:Fin 2,(Str.ofString "|&").cps[(j:Nat)]?=some (opCh (j:Nat)):=by decide +kernel
 exact this ⟨i,hi⟩
noncomputable def joined(rank:Nat)(gap:List Nat)(l r:Ent):Ent:=⟨within l rank++[opCh rank]++gap++within r rank,rank,(l.holds.zip r.holds).map (comb rank)⟩
theorem vZ(e:Ent)(rank:Nat):(within e rank).length≤e.text.length+2:=by unfold within;split <;> simp
end
namespace c_pair
noncomputable def Cq(c:Cx)(d u:Nat)(mu:List AO)(K:AV→List AO→Prop)(k:Nat)(vs:List AV)(l r:Ent)(rank:Nat)(gap:List Nat):Prop:=∀(hK:Keys c.K) (hk:mu[k]?=some (.list (vs++[entAV l,entAV r]))) (hv:vs.length≤1000) (hr:rank < 2) (hzl:l.text.length≤10000) (hzr:r.text.length≤10000) (hzg:gap.length≤100) (hhl:l.holds.length≤1000) (hdp:d+1 < recursionLimit) (h:K .none (mu.set k (.list (vs++[entAV (joined rank gap l r)])))),CallOK c d u (.ref 913) [.mut k,.int (rank:Int),.str (S gap)] [] mu K
noncomputable def Dq(p:Cx×Nat×Nat×(List AO)×(AV→List AO→Prop)×Nat×(List AV)×Ent×Ent×Nat×(List Nat)):Prop:=Cq p.1 p.2.1 p.2.2.1 p.2.2.2.1 p.2.2.2.2.1 p.2.2.2.2.2.1 p.2.2.2.2.2.2.1 p.2.2.2.2.2.2.2.1 p.2.2.2.2.2.2.2.2.1 p.2.2.2.2.2.2.2.2.2.1 p.2.2.2.2.2.2.2.2.2.2
def tq:=@ep _ (by have:=(⟨⟨[],0,[]⟩⟩:Nonempty Ent);have:=neCx;infer_instance) Dq
def c:=tq.1
def d:=tq.2.1
def u:=tq.2.2.1
def mu:=tq.2.2.2.1
def K:=tq.2.2.2.2.1
def k:=tq.2.2.2.2.2.1
def vs:=tq.2.2.2.2.2.2.1
def l:=tq.2.2.2.2.2.2.2.1
def r:=tq.2.2.2.2.2.2.2.2.1
def rank:=tq.2.2.2.2.2.2.2.2.2.1
def gap:=tq.2.2.2.2.2.2.2.2.2.2
theorem T0:Cq c d u mu K k vs l r rank gap:=by
 intro hK hk hv hr hzl hzr hzg hhl hdp h
 obtain ⟨oc,od,osl,doc,pm,an,cdv,ct,ho,hcd⟩:=hK.k_law_pair
 refine' jD (names:=["pile","rank","gap"]) (cells:=[("rank",0)]) ho hcd (by exact o178 hdp) rfl ?hb ?hn ?hcl ?hcn ?hkd ?h ?c1 ?c2 ?c3
 case hb=>intro ws hw;obtain ⟨v1,v2,v3,rfl⟩:=len3 hw;rfl
 case hn=>decide
 case hcl=>intro L;rfl
 case hcn=>decide
 case hkd=>show ∀x∈_,f_law_pair.scope.names.lookup x=_∨(f_law_pair.scope.names.lookup x=_∧_);decide
 case c1=>rfl
 case c2=>rfl
 case c3=>rfl
 case h =>
  intro L
  have hkl:k < mu.length:=(List.getElem?_eq_some_iff.mp hk).1
  refine qA ?_
  refine qR rfl rfl ?_
  refine' qQ (pl:=_) (qS rfl) rfl ?_
  refine qB rfl ?_
  refine qZ F.slot_list_pop F.type_list_pop hk ⟨.inr (fun a z=>nomatch z),?_⟩
  refine qE ?_
  refine qP (xG (vs:=vs++[entAV l]) (v:=entAV r) (by rw [List.append_assoc];exact hk) (by simp;exact o325 hv) ?_)
  refine qA (qR rfl rfl ?_)
  refine' qQ (pl:=_) (qS rfl) rfl ?_
  refine qB rfl ?_
  refine qZ F.slot_list_pop F.type_list_pop (vs:=vs++[entAV l]) (List.getElem?_set_self hkl) ⟨.inr (fun a z=>nomatch z),?_⟩
  refine qE ?_
  refine qP (xG (vs:=vs) (v:=entAV l) (List.getElem?_set_self hkl) (by exact o326 hv) ?_)
  refine qA ?_
  refine vD [("pile",.mut k),("rank",.int (rank:Int)),("gap",.str (S gap)),("right",entAV r),("left",entAV l)] (mu.set k (.list vs)) (.cons rfl (.cons rfl (.cons rfl (.cons rfl (.cons rfl (.nil _)))))) (List.set_set ..) ?_
  refine' gI rfl rfl rfl (fun Z=>rfl) rfl rfl (by decide) (by decide) (fun C=>by exact ⟨qI rfl rfl,qI rfl rfl,trivial⟩) (by exact (fun x cc h=>h)) ?_
  refine' xE rfl rfl rfl rfl rfl (qS rfl) ?k7 rfl (by decide) (fun a z=>nomatch z) ?_
  case k7=>exact hK.b_zip
  refine qC rfl (qU (qB rfl (qH ?_)))
  refine zK (fun Z Z=>rfl) (pu ?_)
  refine qC rfl (qU (qB rfl (qH ?_)))
  refine zK (fun Z Z=>rfl) (pu ?_)
  refine qE ?_
  refine ic_zip ?_
  rw [xB]
  refine ⟨by simp;exact o327 hhl,[("rank",.int (rank:Int))],?_,fun C=>?_⟩
  ·intro p hp
   rw [List.mem_singleton.mp hp]
   exact ⟨rfl,.inl rfl,.inl rfl,L+1,rfl,rfl⟩
  refine vJ pairAV (fun p=>.bool (comb rank p)) (fun p=>[("rank",.int (rank:Int)),("a",.bool p.1),("b",.bool p.2)]) _ _ (fun Z Z=>rfl) (fun Z Z=>rfl) (fun Z Z=>rfl) (fun p hp raws=>?_) ?_
  ·refine wH (qD rfl (vK rfl (qH (wM (pu ?_)))))
   refine ⟨_,rfl,fun hb=>?_,fun hb=>?_⟩
   ·have h1:rank=1:=o199 (of_decide_eq_true hb)
    refine ev_and ?_
    refine qB rfl (qT ?_)
    refine ⟨fun ha=>yQ ?_,fun ha=>?_⟩
    ·refine qB rfl ?_
     exact ⟨rfl,by rw [comb,if_pos h1,ha];rfl⟩
    ·exact ⟨rfl,by rw [comb,if_pos h1,ha];rfl⟩
   ·have h1:¬rank=1:=o200 (of_decide_eq_false hb)
    refine ev_or ?_
    refine qB rfl (qT ?_)
    refine ⟨fun ha=>yQ ?_,fun ha=>?_⟩
    ·refine qB rfl ?_
     exact ⟨rfl,by rw [comb,if_neg h1,ha];rfl⟩
    ·exact ⟨rfl,by rw [comb,if_neg h1,ha];rfl⟩
  ·refine qA ?_
   refine vA rfl rfl ?_
   refine' qQ (pl:=_) (qS rfl) rfl ?_
   refine qB rfl ?_
   refine qZ F.slot_list_append F.type_list_append (vs:=vs) (List.getElem?_set_self hkl) ⟨.inr (fun a z=>nomatch z),?_⟩
   refine qC rfl (vR (qC rfl (qK (qK (qK ?_)))))
   refine qW rfl hK.g_law_within hK.p_law_within ?_
   refine qC rfl (qB rfl (qC rfl (vK rfl (qE ?_))))
   refine qG (fJ hK l rank (by exact o235 hzl) (by exact o179 hdp) (pu ?_))
   refine qU (qM (vK rfl ?_))
   refine wL (cp:=opCh rank) (by exact o192) (by exact o193 hr) (op2 _ hr) (fun Z Z=>rfl) (pu ?_)
   have hwl:=vZ l rank
   have hwr:=vZ r rank
   refine xP (by rw [vV];show _+1≤2 ^ 24;exact o328 hzl hwl) (pu ?_)
   rw [show (⟨#[opCh rank]⟩:Str)=S [opCh rank] from rfl,yH]
   refine qB rfl ?_
   refine wJ (by unfold sizeLine;simp;exact o329 hzl hzg hwl) (pu ?_)
   refine qW rfl hK.g_law_within hK.p_law_within ?_
   refine qC rfl (qB rfl (qC rfl (vK rfl (qE ?_))))
   refine qG (fJ hK r rank (by exact o235 hzr) (by exact o179 hdp) (pu ?_))
   refine wJ (by unfold sizeLine;simp;exact o330 hzl hzr hzg hwl hwr) (pu ?_)
   refine qC rfl (vK rfl (qC rfl (qB rfl (qE ?_))))
   refine ⟨by show 3≤1000;decide,?_⟩
   refine qE ?_
   refine qP (vB (vs:=vs) (List.getElem?_set_self hkl) (by exact o326 hv) ?_)
   refine ⟨trivial,?_⟩
   refine qF ?_
   show K .none ((mu.set k (.list vs)).set k _)
   rw [List.set_set]
   have e:(joined rank gap l r).holds.map AV.bool=(l.holds.zip r.holds).map fun p=>AV.bool (comb rank p):=by unfold joined;simp
   have e2:entAV (joined rank gap l r)=.tup [.str (S (within l rank++[opCh rank]++gap++within r rank)),.int (rank:Int),.lst ((l.holds.zip r.holds).map fun p=>AV.bool (comb rank p))]:=by
    unfold entAV boolsAV;rw [e];rfl
   rw [e2] at h
   exact h
end c_pair
section
variable {c:Cx}{d u:Nat}{env:Env}{σ:St}{mu:List AO}{K:AV→List AO→Prop}
theorem c_pair(hK:Keys c.K)(k:Nat)(vs:List AV)(l r:Ent)(rank:Nat)(gap:List Nat)(hk:mu[k]?=some (.list (vs++[entAV l,entAV r])))(hv:vs.length≤1000)(hr:rank < 2)(hzl:l.text.length≤10000)(hzr:r.text.length≤10000)(hzg:gap.length≤100)(hhl:l.holds.length≤1000)
  (hdp:d+1 < recursionLimit) (h:K .none (mu.set k (.list (vs++[entAV (joined rank gap l r)])))):CallOK c d u (.ref 913) [.mut k,.int (rank:Int),.str (S gap)] [] mu K:=(@eps _ (by have:=(⟨⟨[],0,[]⟩⟩:Nonempty Ent);have:=neCx;infer_instance) c_pair.Dq c_pair.tq rfl @c_pair.T0 (c,d,u,mu,K,k,vs,l,r,rank,gap)) hK hk hv hr hzl hzr hzg hhl hdp h
end
end
section
variable {c:Cx}{d u:Nat}{env:Env}{σ:St}{mu:List AO}{K:AV→List AO→Prop}
noncomputable def quoteS (x:Str):Str:=if x.cps.toList.any unsafeC then Str.ofString "'"++Txt.replace x (Str.ofString "'") (Str.ofString "'\"'\"'")++Str.ofString "'" else x
theorem vL{x:Str}{pos:Pos}{K:Bool→St→Prop}(h:EvOK c d u env (.Name x pos) σ (KT c d u K)):TsOK c d u env (.Name x pos) σ K:=zI rfl h
theorem c_quote (hK:Keys c.K) (x:Str) (h0:0 < x.length) (hz:x.length≤1000) (hr:(Txt.replace x (Str.ofString "'") (Str.ofString "'\"'\"'")).length≤10000) (hdp:d < recursionLimit) (h:K (.str (quoteS x)) mu):CallOK c d u (.ref 875) [.str x] [] mu K:=by
 refine' enter1 (n1:="s") hK.k_quote hdp (fun Z Z Z Z Z Z=>rfl) rfl ?h
 case h =>
  intro cdv L
  refine qA ?_
  refine qL (wO ?_)
  refine vL ?_
  refine qB rfl ?_
  refine gE (by exact o326 hz) ?_
  refine ⟨fun hb=>?_,fun Z=>?_⟩
  ·exact absurd hb (by simp;exact o91 h0)
  refine qF (qA (qL (qD rfl ?_)))
  refine hV (by exact qS rfl) (wT rfl rfl rfl rfl hK.g_find_unsafe (fun g as=>.st _) ⟨_,rfl,?_,?_⟩)
  ·obtain ⟨o,e1,e2,e3⟩:=hK.re.f
   exact .inl (.inr ⟨_,o,_,rfl,e1,e2,e3⟩)
  refine qC rfl (qB rfl (qE ?_))
  refine c_search hK.re h0 (by have:x.cps.size=x.length:=rfl;exact o331 hz this) (fun ha=>?_) (fun ha a=>?_)
  ·refine qX ?_
   refine is_noneB (pu ?_)
   refine ⟨_,rfl,fun Z=>?_,(fun hb=>nomatch hb)⟩
   refine qA (qO (qB rfl ?_))
   rw [quoteS,ha] at h
   exact h
  ·refine qX ?_
   refine is_noneB (pu ?_)
   refine ⟨_,rfl,(fun hb=>nomatch hb),fun Z=>?_⟩
   refine qF ?_
   refine qA (qO (qK ?_))
   refine fD (x:=x) rfl rfl rfl rfl (by decide +kernel) hz (by decide +kernel) (by decide +kernel) rfl (by exact o235 hr) ?_
   refine qM ?_
   refine xP ?_ (pu ?_)
   ·have e1:(Str.ofString "'"++Txt.replace x (Str.ofString "'") (Str.ofString "'\"'\"'")).length=(Str.ofString "'").length+(Txt.replace x (Str.ofString "'") (Str.ofString "'\"'\"'")).length:=Array.size_append
    have e2:(Str.ofString "'").length=1:=by decide +kernel
    unfold sizeLine
    exact o332 hr e1 e2
   ·rw [quoteS,if_pos ha] at h
    exact h
end
section
set_option tactic.hygienic true
section
variable {c:Cx}{d u:Nat}{env:Env}{σ:St}{mu:List AO}{K:AV→List AO→Prop}
noncomputable abbrev File:=Nat×List Nat
noncomputable def gapTab:List (List Nat):=[[],[32],[10],[35,32,105,116,39,115,32,40,10]]
noncomputable def gapOf(x:Nat):List Nat:=gapTab.getD (x / 768%4) []
noncomputable def gapsAV:List AV:=[.str (Str.ofString ""),.str (Str.ofString " "),.str (Str.ofString "\n"),.str (Str.ofString "# it's (\n")]
theorem gaps_get:∀i:Nat,i < 4→gapsAV[i]?=some (.str (S (gapTab.getD i []))):=by
 have key:∀j:Fin 4,(match gapsAV[(j:Nat)]? with | some (.str x)=>some x | _=>none)=some (S (gapTab.getD (j:Nat) [])):=by decide +kernel
 intro i hi
 have:=key ⟨i,hi⟩
 dsimp only at this
 split at this
 ·rename_i x hx;cases this;exact hx
 ·cases this
noncomputable def quoteL(n:List Nat):List Nat:=(quoteS (S n)).cps.toList
theorem quoteL_S(n:List Nat):quoteS (S n)=S (quoteL n):=by unfold quoteL S;simp
noncomputable def askedOf(x:Nat)(f:File):Nat:=(f.1%4096) &&& (x / 12582912)
noncomputable def step(files:List File)(rp:List Ent)(p:Nat×File):List Ent :=
 let x:=p.1
 let f:=p.2
 let gap:=gapOf x
 if x%8 < 2 then ⟨[kindCh f.1]++gap,2,files.map fun g=>[kindCh g.1]==[kindCh f.1]⟩::rp
 else if x%8=2 then ⟨octL 3 (askedOf x f)++gap,2,files.map fun g=>(g.1%4096 ||| askedOf x f)==g.1%4096⟩::rp
 else if x%8=3 then ⟨quoteL f.2++gap,2,files.map fun g=>g.2==f.2⟩::rp
 else if x%8=4 then (match rp with | t::r=>⟨[33]++gap++within t 2,2,t.holds.map not⟩::r | []=>[])
 else if x%8=5 then (match rp with | t::r=>⟨[40]++gap++t.text++[41],2,t.holds⟩::r | []=>[])
 else (match rp with | r::l::rest=>joined (x%8 - 6) gap l r::rest | _=>rp)
noncomputable abbrev pileAO(rp:List Ent):AO:=.list (rp.reverse.map entAV)
theorem ent_flat(e:Ent):(entAV e).flat=true:=by
 show flats [_,_,_]=true
 simp [flats,AV.flat,kI]
theorem file_flat(f:File):(fileAV f).flat=true:=by
 show flats [_,_]=true
 simp [flats,AV.flat]
noncomputable def lens(rp:List Ent):Nat:=(rp.map fun e=>e.text.length).sum
noncomputable def zipAV(p:Nat×File):AV:=.tup [numAV p.1,fileAV p.2]
theorem jZ:∀(ns:List Nat) (fs:List File),zipItems (ns.map numAV) (fs.map fileAV)=(ns.zip fs).map zipAV
 | [],_=>by simp [zipItems]
 | _::_,[]=>by simp [zipItems]
 | a::l,b::r=>by simp [zipItems,jZ l r,zipAV]
theorem gap_len(x:Nat):(gapOf x).length≤9:=by
 have:∀i:Fin 4,(gapTab.getD (i:Nat) []).length≤9:=by decide
 exact this ⟨x / 768%4,by exact o137⟩
theorem wE(a b:Nat):Builtin.bitAnd (a:Int) (b:Int)=((a &&& b:Nat):Int):=by
 rw [bitAnd_pp (by exact o192) (by exact o192)];simp
theorem bitOr_nat(a b:Nat):Builtin.bitOr (a:Int) (b:Int)=((a ||| b:Nat):Int):=by
 unfold Builtin.bitOr
 rw [bitAnd_nn (by unfold Builtin.bitNot;exact o333) (by unfold Builtin.bitNot;exact o333)]
 unfold Builtin.bitNot
 have e:∀n:Nat,(-(-(n:Int) - 1) - 1).toNat=n:=fun n=>by exact o334
 rw [e,e];exact o335
structure Inv(files:List File)(r:List (Nat×File))(rp:List Ent):Prop where
 len:lens rp+40*r.length≤2000
 cnt:rp.length+r.length≤100
 hol:∀e∈rp,e.holds.length=files.length
 ne:rp=[]→∀p q,r=p::q→p.1%8 < 4
 nm:∀p∈r,p.2.2∈nameTab
 rk:∀e∈rp,e.rank≤2
theorem gQ:∀n∈nameTab,0 < (S n).length∧(S n).length≤1000∧(Txt.replace (S n) (Str.ofString "'") (Str.ofString "'\"'\"'")).length≤10000∧(quoteL n).length≤15:=by decide +kernel
theorem oct3_len(n:Nat):(octL 3 n).length≤4:=xT 3 n
end
namespace inv_step
noncomputable def Cq(files:List File)(r:List (Nat×File)):Prop:=∀{p:Nat×File} {rp:List Ent} (h:Inv files (p::r) rp),Inv files r (step files rp p)∧step files rp p≠[]
noncomputable def Dq(p:(List File)×(List (Nat×File))):Prop:=Cq p.1 p.2
def tq:=@ep _ _ Dq
def files:=tq.1
def r:=tq.2
theorem T0:Cq files r:=by
 intro p rp h
 obtain ⟨x,f⟩:=p
 have hl:=h.len
 have hc:=h.cnt
 simp only [List.length_cons] at hl hc
 have hg:=gap_len x
 have hnm:=h.nm (x,f) (.head _)
 have hq:=(gQ f.2 hnm).2.2.2
 have nm':∀q∈r,q.2.2∈nameTab:=fun q hq=>h.nm q (.tail _ hq)
 have push:∀e:Ent,e.text.length≤35→e.holds.length=files.length→e.rank≤2→Inv files r (e::rp)∧e::rp≠[]:=fun e h1 h2 h3=>by
  refine ⟨⟨?_,?_,?_,fun z=>(nomatch z),nm',?_⟩,fun z=>nomatch z⟩
  ·unfold lens at hl ⊢;simp only [List.map_cons,List.sum_cons];exact o336 hl h1
  ·simp only [List.length_cons];exact o337 hc
  ·intro e' he
   rcases List.mem_cons.mp he with z | z
   ·rw [z];exact h2
   ·exact h.hol e' z
  ·intro e' he
   rcases List.mem_cons.mp he with z | z
   ·rw [z];exact h3
   ·exact h.rk e' z
 have swap:∀(t:Ent) (rest:List Ent) (e:Ent),rp=t::rest→e.text.length≤t.text.length+35→e.holds.length=files.length→e.rank≤2→Inv files r (e::rest)∧e::rest≠[]:=fun t rest e h0 h1 h2 h3=>by
  subst h0
  refine ⟨⟨?_,?_,?_,fun z=>(nomatch z),nm',?_⟩,fun z=>nomatch z⟩
  ·unfold lens at hl ⊢;simp only [List.map_cons,List.sum_cons] at hl ⊢;exact o338 h1 hl
  ·simp only [List.length_cons] at hc ⊢;exact o339 hc
  ·intro e' he
   rcases List.mem_cons.mp he with z | z
   ·rw [z];exact h2
   ·exact h.hol e' (.tail _ z)
  ·intro e' he
   rcases List.mem_cons.mp he with z | z
   ·rw [z];exact h3
   ·exact h.rk e' (.tail _ z)
 unfold step
 dsimp only
 split
 ·exact push _ (by simp;exact o340 hg) (by exact List.length_map _) (by exact Nat.le_of_ble_eq_true rfl)
 split
 ·exact push _ (by have:=oct3_len (askedOf x f);simp;exact o341 hg this) (by exact List.length_map _) (by exact Nat.le_of_ble_eq_true rfl)
 split
 ·exact push _ (by simp;exact o342 hg hq) (by exact List.length_map _) (by exact Nat.le_of_ble_eq_true rfl)
 have hne:rp≠[]:=fun z=>by have:=h.ne z (x,f) r rfl;simp only at this;exact h16 this (by assumption) (by assumption) (by assumption)
 split
 ·cases rp with
  | nil=>exact absurd rfl hne
  | cons t rest=>exact swap t rest _ rfl (by have:=vZ t 2;simp;exact o343 hg this) (by simp [h.hol t (.head _)]) (by exact Nat.le_of_ble_eq_true rfl)
 split
 ·cases rp with
  | nil=>exact absurd rfl hne
  | cons t rest=>exact swap t rest _ rfl (by simp;exact o344 hg) (h.hol t (.head _)) (by exact Nat.le_of_ble_eq_true rfl)
 ·cases rp with
  | nil=>exact absurd rfl hne
  | cons rr rest=>cases rest with
   | nil =>
    show Inv files r [rr]∧[rr]≠[]
    exact ⟨⟨by exact o345 hl,by simp only [List.length_cons,List.length_nil] at hc ⊢;exact o346 hc,h.hol,fun z=>(nomatch z),nm',h.rk⟩,fun z=>nomatch z⟩
   | cons l rest =>
    have h1:=h.hol rr (.head _)
    have h2:=h.hol l (.tail _ (.head _))
    refine ⟨⟨?_,?_,?_,fun z=>(nomatch z),nm',?_⟩,fun z=>nomatch z⟩
    ·have w1:=vZ l (x%8 - 6)
     have w2:=vZ rr (x%8 - 6)
     unfold lens joined at *
     simp only [List.map_cons,List.sum_cons,List.length_append,List.length_cons,List.length_nil] at hl ⊢
     exact o347 hg w1 w2 hl
    ·simp only [List.length_cons] at hc ⊢;exact o348 hc
    ·intro e' he
     rcases List.mem_cons.mp he with z | z
     ·rw [z];simp [joined,h1,h2]
     ·exact h.hol e' (.tail _ (.tail _ z))
    ·intro e' he
     rcases List.mem_cons.mp he with z | z
     ·rw [z];simp only [joined];exact o349
     ·exact h.rk e' (.tail _ (.tail _ z))
end inv_step
section
variable {c:Cx}{d u:Nat}{env:Env}{σ:St}{mu:List AO}{K:AV→List AO→Prop}
theorem inv_step{files:List File}{p:Nat×File}{r:List (Nat×File)}{rp:List Ent}(h:Inv files (p::r) rp):Inv files r (step files rp p)∧step files rp p≠[]:=(@eps _ _ inv_step.Dq inv_step.tq rfl @inv_step.T0 (files,r)) h
end
end
section
section
variable {c:Cx}{d u:Nat}{env:Env}{σ:St}{mu:List AO}{K:AV→List AO→Prop}
noncomputable abbrev nsAV(ns:List Nat):AV:=.lst (ns.map numAV)
noncomputable abbrev flAV(fs:List File):AV:=.lst (fs.map fileAV)
theorem vO(e:Ent)(rp:List Ent):((e::rp).reverse.map entAV)=rp.reverse.map entAV++[entAV e]:=by simp
theorem xL{e:Ent}:∀{rp:List Ent},e∈rp→e.text.length≤lens rp
 | a::rp,h=>by
  unfold lens
  simp only [List.map_cons,List.sum_cons]
  rcases List.mem_cons.mp h with z | z
  ·rw [z];exact o18
  ·have:=xL z;unfold lens at this;exact o350 this
noncomputable abbrev dL0 (ns:List Nat) (files:List File) (m:Nat):List (Str×AV):=[("numbers",nsAV ns),("files",flAV files),("pile",.mut m)]
noncomputable abbrev dL5 (ns:List Nat) (files:List File) (m x:Nat) (f:File):List (Str×AV):=[("numbers",nsAV ns),("files",flAV files),("pile",.mut m),("x",numAV x),("one",fileAV f)]
noncomputable abbrev dL7 (ns:List Nat) (files:List File) (m x:Nat) (f:File):List (Str×AV):=[("numbers",nsAV ns),("files",flAV files),("pile",.mut m),("x",numAV x),("one",fileAV f),("deed",.int ((x:Int)%8)),("gap",.str (S (gapOf x)))]
noncomputable abbrev DPost(ns:List Nat)(files:List File)(mu raws:List AO)(rp:List Ent)(x:Nat)(f:File):Fl→St→Prop:=fun fl σ'=>(fl=.next∨fl=.cont)∧Sub (dL0 ns files mu.length) σ'.loc∧σ'.mu=mu++[pileAO (step files rp (x,f))]++raws
noncomputable def drawnBody:List Stmt:=match f_law_drawn.body with | _::.For _ _ b _ _::_=>b | _=>[]
end
namespace drawn_turn
noncomputable def Cq(c:Cx)(d u:Nat)(ns:List Nat)(files:List File)(L:Addr)(cdv:Value)(x:Nat)(f:File)(r:List (Nat×File))(mu raws:List AO):Prop:=∀(hK:Keys c.K) (hf100:files.length≤100) (rp:List Ent) (hI:Inv files ((x,f)::r) rp) (hdp:d+6 < recursionLimit) (body:List Stmt) (hbody:body=drawnBody),SsOK c d u (envOfC f_law_drawn.qual f_law_drawn.scope L 918 cdv) (execs body (envOfC f_law_drawn.qual f_law_drawn.scope L 918 cdv)) ⟨dL5 ns files mu.length x f,mu++[pileAO rp]++raws⟩
   (DPost ns files mu raws rp x f)
noncomputable def Dq(p:Cx×Nat×Nat×(List Nat)×(List File)×Addr×Value×Nat×File×(List (Nat×File))×(List AO)×(List AO)):Prop:=Cq p.1 p.2.1 p.2.2.1 p.2.2.2.1 p.2.2.2.2.1 p.2.2.2.2.2.1 p.2.2.2.2.2.2.1 p.2.2.2.2.2.2.2.1 p.2.2.2.2.2.2.2.2.1 p.2.2.2.2.2.2.2.2.2.1 p.2.2.2.2.2.2.2.2.2.2.1 p.2.2.2.2.2.2.2.2.2.2.2
def tq:=@ep _ (by have:=neCx;infer_instance) Dq
def c:=tq.1
def d:=tq.2.1
def u:=tq.2.2.1
def ns:=tq.2.2.2.1
def files:=tq.2.2.2.2.1
def L:=tq.2.2.2.2.2.1
def cdv:=tq.2.2.2.2.2.2.1
def x:=tq.2.2.2.2.2.2.2.1
def f:=tq.2.2.2.2.2.2.2.2.1
def r:=tq.2.2.2.2.2.2.2.2.2.1
def mu:=tq.2.2.2.2.2.2.2.2.2.2.1
def raws:=tq.2.2.2.2.2.2.2.2.2.2.2
theorem T0:Cq c d u ns files L cdv x f r mu raws:=by
 intro hK hf100 rp hI hdp body hbody
 subst hbody
 refine qA ?_
 refine qR rfl rfl (qK (qB rfl (qH (vW (by decide) (pu (qA (qR rfl rfl (qU ?_))))))))
 refine yB ?_
 refine qC rfl (qM (qC rfl (qM (qC rfl (qM (qC rfl (qM (qE ?_))))))))
 refine ⟨by decide,?_⟩
 refine qK (qK (qB rfl (qH (wX (by decide) (by decide) (pu (qH (vW (by decide) (pu ?_))))))))
 refine sub_lst (v:=.str (S (gapOf x))) (by exact o351) (by exact o352) ?_ (fun Z Z=>rfl) (pu ?_)
 ·rw [show ((x:Int) / 768%4).toNat=x / 768%4 by exact o353];exact gaps_get _ (by exact o137)
 refine vD (dL7 ns files mu.length x f) (mu++[pileAO rp]++raws) (.cons rfl (.cons rfl (.cons rfl (.cons rfl (.cons rfl (.cons rfl (.cons rfl (.nil _)))))))) rfl ?_
 have hg:=gap_len x
 have hcnt:=hI.cnt
 have hll:=hI.len
 simp only [List.length_cons] at hcnt hll
 have hpl:(rp.reverse.map entAV).length≤1000:=by simp;exact o354 hcnt
 have hmu:(mu++[pileAO rp]++raws)[mu.length]?=some (pileAO rp):=get_mid ..
 have htx:∀e∈rp,e.text.length≤2000:=fun e he=>by
  have:e.text.length≤lens rp:=xL he
  exact o355 hll this
 -- the new top of the pile
 have fin:∀(vs:List AV) (e:AV) (loc:List (Str×AV)),Sub (dL0 ns files mu.length) loc→AO.list (vs++[e])=pileAO (step files rp (x,f)) →
   DPost ns files mu raws rp x f .next ⟨loc,(mu++[AO.list vs]++raws).set mu.length (AO.list (vs++[e]))⟩:=fun vs e loc h1 h2=>⟨.inl rfl,h1,by rw [wZ,h2]⟩
 refine qA ?_
 refine qL (qD rfl (qB rfl (qH (lt_ii (pu ?_)))))
 refine ⟨_,rfl,fun hb=>?_,fun hb=>?_⟩
 ·-- a kind's sign
  have h2:x%8 < 2:=o356 (of_decide_eq_true hb)
  refine qA ?_
  refine xC (zJ (cc:=L+2) rfl (fun z=>nomatch z) rfl rfl) rfl ?_
  refine qU ?_
  refine qW rfl hK.g_law_signs hK.p_law_signs ?_
  refine qC rfl (qU (vK rfl (qH ?_)))
  refine yK (fun Z Z=>rfl) (pu ?_)
  refine qE ?_
  refine qG (hY hK f.1 (by exact o266 hdp) (pu ?_))
  refine qH ?_
  refine wL (cp:=kindCh f.1) (by decide) (by decide) rfl (fun Z Z=>rfl) (pu ?_)
  refine qA ?_
  refine vA rfl rfl ?_
  refine' qQ (pl:=_) (qS rfl) rfl ?_
  refine qB rfl ?_
  refine qZ F.slot_list_append F.type_list_append hmu ⟨.inr (fun a z=>nomatch z),?_⟩
  refine qC rfl (vR (qC rfl (qK (vK rfl (qB rfl ?_)))))
  refine xP (by rw [show (⟨#[kindCh f.1]⟩:Str).length=1 from rfl,vV];unfold sizeLine;exact o357 hg) (pu ?_)
  rw [show (⟨#[kindCh f.1]⟩:Str)=S [kindCh f.1] from rfl,yH]
  refine qC rfl (qH (qC rfl ?_))
  refine' wI (fun Z=>rfl) rfl rfl (by decide) (by decide) (fun C=>by exact ⟨qI rfl rfl,qI rfl rfl,trivial⟩) (by exact xO rfl) ?_
  refine xD ?_
  refine qB rfl ?_
  refine ⟨_,rfl,by simp;exact o167 hf100,[("sign",.str (S [kindCh f.1]))],?_,fun C=>?_⟩
  ·intro p hp
   rw [List.mem_singleton.mp hp]
   exact ⟨rfl,.inl rfl,.inl rfl,L+2,rfl,rfl⟩
  refine vJ fileAV (fun g=>.bool ([kindCh g.1]==[kindCh f.1])) (fun g=>[("sign",.str (S [kindCh f.1])),("mode",.int (g.1:Int)),("name",.str (S g.2))]) files _ (fun Z Z=>rfl) (fun Z Z=>rfl) (fun Z Z=>rfl) (fun g hg raws=>?_) ?_
  ·refine vM rfl (qU ?_)
   refine qW rfl hK.g_law_signs hK.p_law_signs ?_
   refine qC rfl (qB rfl (qE ?_))
   refine qG (hY hK g.1 (by exact o266 hdp) (pu ?_))
   refine qH ?_
   refine wL (cp:=kindCh g.1) (by decide) (by decide) rfl (fun Z Z=>rfl) (pu ?_)
   refine vK rfl (vU (pu ?_))
   exact ⟨rfl,by rw [show (⟨#[kindCh g.1]⟩:Str)=S [kindCh g.1] from rfl,wY]⟩
  refine qE ?_
  refine ⟨by show 3≤1000;decide,?_⟩
  refine qE ?_
  refine qP (vB hmu (by exact o326 hpl) ?_)
  refine ⟨trivial,?_⟩
  refine qF (qF ?_)
  refine fin _ _ _ (.cons rfl (.cons rfl (.cons rfl (.nil _)))) ?_
  have es:step files rp (x,f)=⟨[kindCh f.1]++gapOf x,2,files.map fun g=>[kindCh g.1]==[kindCh f.1]⟩::rp:=by unfold step;dsimp only;rw [if_pos h2]
  rw [es,pileAO,vO]
  simp
 have n2:¬x%8 < 2:=o358 (Int.not_lt.mp (of_decide_eq_false hb))
 refine qA ?_
 refine qL (qD rfl (qB rfl (qH (wM (pu ?_)))))
 refine ⟨_,rfl,fun hb=>?_,fun hb=>?_⟩
 ·-- rights
  have h2:x%8=2:=o359 (of_decide_eq_true hb)
  have hask:askedOf x f < 4096:=by
   have:askedOf x f≤f.1%4096:=Nat.and_le_left
   exact o360 this
  refine qA ?_
  refine xC (zJ (cc:=L+3) rfl (fun z=>nomatch z) rfl rfl) rfl ?_
  refine qK (qK (qU (vK rfl (qH ?_))))
  refine yK (fun Z Z=>rfl) (pu ?_)
  refine qH (vW (by decide) (pu (qK (qB rfl (qH (wX (by decide) (by decide) (pu (fM (pu (qA ?_))))))))))
  rw [show Builtin.bitAnd ((f.1:Int)%4096) ((x:Int) / 12582912)=((askedOf x f:Nat):Int) from wE (f.1%4096) (x / 12582912)]
  refine vA rfl rfl ?_
  refine' qQ (pl:=_) (qS rfl) rfl ?_
  refine qB rfl ?_
  refine qZ F.slot_list_append F.type_list_append hmu ⟨.inr (fun a z=>nomatch z),?_⟩
  refine qC rfl (vR (qC rfl (qK ?_)))
  refine qW rfl hK.g_law_figures hK.p_law_figures ?_
  refine qC rfl (vK rfl (qE ?_))
  refine qG (jX hK 3 (askedOf x f) (by exact o361 hask) (by exact o217) (by exact o362 hdp) (pu ?_))
  refine qB rfl ?_
  have ho3:=oct3_len (askedOf x f)
  refine wJ (by unfold sizeLine;exact o363 hg ho3) (pu ?_)
  refine qC rfl (qH (qC rfl ?_))
  refine' wI (fun Z=>rfl) rfl rfl (by decide) (by decide) (fun C=>by exact ⟨qI rfl rfl,qI rfl rfl,trivial⟩) (by exact xO rfl) ?_
  refine xD ?_
  refine qB rfl ?_
  refine ⟨_,rfl,by simp;exact o167 hf100,[("asked",.int (askedOf x f:Int))],?_,fun C=>?_⟩
  ·intro p hp
   rw [List.mem_singleton.mp hp]
   exact ⟨rfl,.inl rfl,.inl rfl,L+3,rfl,rfl⟩
  refine vJ fileAV (fun g=>.bool ((g.1%4096 ||| askedOf x f)==g.1%4096)) (fun g=>[("asked",.int (askedOf x f:Int)),("mode",.int (g.1:Int)),("name",.str (S g.2))]) files _ (fun Z Z=>rfl) (fun Z Z=>rfl) (fun Z Z=>rfl) (fun g hg raws=>?_) ?_
  ·refine vM rfl (qK (qK (qB rfl (qH (vW (by decide) (pu (vK rfl (or_ii (pu (qK (qB rfl (qH (vW (by decide) (pu (wM (pu ?_))))))))))))))))
   refine ⟨rfl,?_⟩
   rw [show Builtin.bitOr ((g.1:Int)%4096) ((askedOf x f:Nat):Int)=((g.1%4096 ||| askedOf x f:Nat):Int) from bitOr_nat (g.1%4096) (askedOf x f)]
   congr 1
   rw [Bool.eq_iff_iff]
   simp only [beq_iff_eq]
   exact o364
  refine qE ?_
  refine ⟨by show 3≤1000;decide,?_⟩
  refine qE ?_
  refine qP (vB hmu (by exact o326 hpl) ?_)
  refine ⟨trivial,?_⟩
  refine qF (qF (qF ?_))
  refine fin _ _ _ (.cons rfl (.cons rfl (.cons rfl (.nil _)))) ?_
  have es:step files rp (x,f)=⟨octL 3 (askedOf x f)++gapOf x,2,files.map fun g=>(g.1%4096 ||| askedOf x f)==g.1%4096⟩::rp:=by unfold step;dsimp only;rw [if_neg n2,if_pos h2]
  rw [es,pileAO,vO]
  simp
 have n3:¬x%8=2:=o365 (of_decide_eq_false hb)
 refine qA ?_
 refine qL (qD rfl (qB rfl (qH (wM (pu ?_)))))
 refine ⟨_,rfl,fun hb=>?_,fun hb=>?_⟩
 ·-- a name
  have h2:x%8=3:=o366 (of_decide_eq_true hb)
  have hnm:=hI.nm (x,f) (.head _)
  obtain ⟨q0,q1,q2,q3⟩:=gQ f.2 hnm
  refine qA ?_
  refine vA rfl rfl ?_
  refine' qQ (pl:=_) (qS rfl) rfl ?_
  refine qB rfl ?_
  refine qZ F.slot_list_append F.type_list_append hmu ⟨.inr (fun a z=>nomatch z),?_⟩
  refine qC rfl (vR (qC rfl (qK ?_)))
  refine qW rfl hK.g_quote hK.p_quote ?_
  refine qC rfl (qU (vK rfl (qH ?_)))
  refine gF (fun Z Z=>rfl) (pu ?_)
  refine qE ?_
  refine qG (c_quote hK (S f.2) q0 q1 q2 (by exact o266 hdp) (pu ?_))
  rw [quoteL_S]
  refine qB rfl ?_
  refine wJ (by unfold sizeLine;exact o367 hg q3) (pu ?_)
  refine qC rfl (qH (qC rfl ?_))
  refine' wI (fun Z=>rfl) rfl rfl (by decide) (by decide) (fun C=>by exact ⟨qI rfl rfl,qI rfl rfl,trivial⟩) (by exact xO rfl) ?_
  refine xD ?_
  refine qB rfl ?_
  refine ⟨_,rfl,by simp;exact o167 hf100,[("one",fileAV f)],?_,fun C=>?_⟩
  ·intro p hp
   rw [List.mem_singleton.mp hp]
   exact ⟨rfl,.inl rfl,.inl rfl,L+1,rfl,rfl⟩
  refine vJ fileAV (fun g=>.bool (g.2==f.2)) (fun g=>[("one",fileAV f),("mode",.int (g.1:Int)),("name",.str (S g.2))]) files _ (fun Z Z=>rfl) (fun Z Z=>rfl) (fun Z Z=>rfl) (fun g hg raws=>?_) ?_
  ·refine vM rfl (qB rfl (qU (vK rfl (qH ?_))))
   refine gF (fun Z Z=>rfl) (pu ?_)
   refine vU (pu ?_)
   exact ⟨rfl,by rw [wY]⟩
  refine qE ?_
  refine ⟨by show 3≤1000;decide,?_⟩
  refine qE ?_
  refine qP (vB hmu (by exact o326 hpl) ?_)
  refine ⟨trivial,?_⟩
  refine qF (qF (qF (qF ?_)))
  refine fin _ _ _ (.cons rfl (.cons rfl (.cons rfl (.nil _)))) ?_
  have es:step files rp (x,f)=⟨quoteL f.2++gapOf x,2,files.map fun g=>g.2==f.2⟩::rp:=by unfold step;dsimp only;rw [if_neg n2,if_neg n3,if_pos h2]
  rw [es,pileAO,vO]
  simp
 have n4:¬x%8=3:=o368 (of_decide_eq_false hb)
 have hne:rp≠[]:=fun z=>by have:=hI.ne z (x,f) r rfl;simp only at this;exact h16 this n2 n3 n4
 refine qA ?_
 refine qL (qD rfl (qB rfl (qH (wM (pu ?_)))))
 refine ⟨_,rfl,fun hb=>?_,fun hb=>?_⟩
 ·-- not
  have h2:x%8=4:=o369 (of_decide_eq_true hb)
  obtain ⟨t,rest,rfl⟩:∃t rest,rp=t::rest:=by cases rp with | nil=>exact absurd rfl hne | cons t rest=>exact ⟨t,rest,rfl⟩
  have hmu':(mu++[pileAO (t::rest)]++raws)[mu.length]?=some (.list (rest.reverse.map entAV++[entAV t])):=by rw [hmu,pileAO,vO]
  have ht:=htx t (.head _)
  refine qA ?_
  refine qR rfl rfl ?_
  refine' qQ (pl:=_) (qS rfl) rfl ?_
  refine qB rfl ?_
  refine qZ F.slot_list_pop F.type_list_pop hmu' ⟨.inr (fun a z=>nomatch z),?_⟩
  refine qE ?_
  refine qP (xG hmu' (by simp at hpl ⊢;exact o370 hpl) ?_)
  refine qA ?_
  refine zC (wZ _ _ _ _) ?_
  have hmu2:(mu++[AO.list (rest.reverse.map entAV)]++raws)[mu.length]?=some (.list (rest.reverse.map entAV)):=get_mid ..
  refine vA rfl rfl ?_
  refine' qQ (pl:=_) (qS rfl) rfl ?_
  refine qB rfl ?_
  refine qZ F.slot_list_append F.type_list_append hmu2 ⟨.inr (fun a z=>nomatch z),?_⟩
  refine qC rfl (vR (qC rfl (qK (qK (qM (qB rfl ?_))))))
  have e33:Str.ofString "!"=S [33]:=by decide +kernel
  rw [e33]
  refine wJ (by unfold sizeLine;simp;exact o371 hg) (pu ?_)
  refine qW rfl hK.g_law_within hK.p_law_within ?_
  refine qC rfl (qB rfl (qC rfl (qH (qE ?_))))
  refine qG (fJ hK t 2 (by exact o372 ht) (by exact o266 hdp) (pu ?_))
  have hw:=vZ t 2
  refine wJ (by unfold sizeLine;simp;exact o373 hg ht hw) (pu ?_)
  refine qC rfl (qH (qC rfl ?_))
  refine' wI (fun Z=>rfl) rfl rfl (by decide) (by decide) (fun C=>by exact qI rfl rfl) (by exact (fun x cc h=>by cases h)) ?_
  refine xD ?_
  refine qU (qB rfl (qH ?_))
  refine zK (fun Z Z=>rfl) (pu ?_)
  refine ⟨_,rfl,by have:=hI.hol t (.head _);simp;exact o374 hf100 this,[],fun p hp=>(nomatch hp),fun C=>?_⟩
  refine vJ AV.bool (fun b=>.bool (!b)) (fun b=>[("hold",.bool b)]) t.holds _ (fun Z Z=>rfl) (fun Z Z=>rfl) (fun Z Z=>rfl) (fun g hg raws=>?_) ?_
  ·refine ev_not (qB rfl (qT ?_))
   exact ⟨rfl,rfl⟩
  refine qE ?_
  refine ⟨by show 3≤1000;decide,?_⟩
  refine qE ?_
  refine qP (vB hmu2 (by simp at hpl ⊢;exact o370 hpl) ?_)
  refine ⟨trivial,?_⟩
  refine qF (qF (qF (qF (qF ?_))))
  refine fin _ _ _ (.cons rfl (.cons rfl (.cons rfl (.nil _)))) ?_
  have es:step files (t::rest) (x,f)=⟨[33]++gapOf x++within t 2,2,t.holds.map not⟩::rest:=by unfold step;dsimp only;rw [if_neg n2,if_neg n3,if_neg n4,if_pos h2]
  rw [es,pileAO,vO]
  simp
 have n5:¬x%8=4:=o375 (of_decide_eq_false hb)
 refine qA ?_
 refine qL (qD rfl (qB rfl (qH (wM (pu ?_)))))
 refine ⟨_,rfl,fun hb=>?_,fun hb=>?_⟩
 ·-- brackets
  have h2:x%8=5:=o376 (of_decide_eq_true hb)
  obtain ⟨t,rest,rfl⟩:∃t rest,rp=t::rest:=by cases rp with | nil=>exact absurd rfl hne | cons t rest=>exact ⟨t,rest,rfl⟩
  have hmu':(mu++[pileAO (t::rest)]++raws)[mu.length]?=some (.list (rest.reverse.map entAV++[entAV t])):=by rw [hmu,pileAO,vO]
  have ht:=htx t (.head _)
  refine qA ?_
  refine qR rfl rfl ?_
  refine' qQ (pl:=_) (qS rfl) rfl ?_
  refine qB rfl ?_
  refine qZ F.slot_list_pop F.type_list_pop hmu' ⟨.inr (fun a z=>nomatch z),?_⟩
  refine qE ?_
  refine qP (xG hmu' (by simp at hpl ⊢;exact o370 hpl) ?_)
  refine qA ?_
  refine zC (wZ _ _ _ _) ?_
  have hmu2:(mu++[AO.list (rest.reverse.map entAV)]++raws)[mu.length]?=some (.list (rest.reverse.map entAV)):=get_mid ..
  refine vA rfl rfl ?_
  refine' qQ (pl:=_) (qS rfl) rfl ?_
  refine qB rfl ?_
  refine qZ F.slot_list_append F.type_list_append hmu2 ⟨.inr (fun a z=>nomatch z),?_⟩
  refine qC rfl (vR (qC rfl (qK (qK (qK (qM (qB rfl ?_)))))))
  rw [ofS40]
  refine wJ (by unfold sizeLine;simp;exact o371 hg) (pu ?_)
  refine qU (qB rfl (qH ?_))
  refine yK (fun Z Z=>rfl) (pu ?_)
  refine wJ (by unfold sizeLine;simp;exact o377 hg ht) (pu ?_)
  refine qM ?_
  rw [ofS41]
  refine wJ (by unfold sizeLine;simp;exact o378 hg ht) (pu ?_)
  refine qC rfl (qH (qC rfl (qU (qB rfl (qH ?_)))))
  refine zK (fun Z Z=>rfl) (pu ?_)
  refine qE ?_
  refine ⟨by show 3≤1000;decide,?_⟩
  refine qE ?_
  refine qP (vB hmu2 (by simp at hpl ⊢;exact o370 hpl) ?_)
  refine ⟨trivial,?_⟩
  refine qF (qF (qF (qF (qF (qF ?_)))))
  refine fin _ _ _ (.cons rfl (.cons rfl (.cons rfl (.nil _)))) ?_
  have es:step files (t::rest) (x,f)=⟨[40]++gapOf x++t.text++[41],2,t.holds⟩::rest:=by unfold step;dsimp only;rw [if_neg n2,if_neg n3,if_neg n4,if_neg n5,if_pos h2]
  rw [es,pileAO,vO]
  rfl
 have n6:¬x%8=5:=o379 (of_decide_eq_false hb)
 have e6:step files rp (x,f)=(match rp with | r::l::rest=>joined (x%8 - 6) (gapOf x) l r::rest | _=>rp):=by unfold step;dsimp only;rw [if_neg n2,if_neg n3,if_neg n4,if_neg n5,if_neg n6];rcases rp with _ | ⟨a,_ | ⟨b,q⟩⟩ <;> rfl
 refine qA ?_
 refine qL (qD rfl ?_)
 refine vS rfl rfl rfl rfl rfl (qS rfl) hK.b_len rfl (by decide) (fun a z=>nomatch z) ?_
 refine qC rfl (qB rfl (qE ?_))
 refine qG (yD hmu (by exact o326 hpl) (pu ?_))
 refine qH (gt_ii (pu ?_))
 refine ⟨_,rfl,fun hb=>?_,fun hb=>?_⟩
 ·-- two joined
  have hlen:1 < rp.length:=by simp at hb;exact o168 hb
  obtain ⟨rr,ll,rest,rfl⟩:∃rr ll rest,rp=rr::ll::rest:=by
   cases rp with
   | nil=>exact absurd rfl hne
   | cons a q=>cases q with
    | nil=>simp at hlen
    | cons b q=>exact ⟨a,b,q,rfl⟩
  have hmu':(mu++[pileAO (rr::ll::rest)]++raws)[mu.length]?=some (.list (rest.reverse.map entAV++[entAV ll,entAV rr])):=by rw [hmu,pileAO,vO,vO];simp
  have h1:=htx rr (.head _)
  have h2:=htx ll (.tail _ (.head _))
  have h3:=hI.hol ll (.tail _ (.head _))
  refine qA ?_
  refine vA rfl rfl ?_
  refine qW rfl hK.g_law_pair hK.p_law_pair ?_
  refine qC rfl (qB rfl (qC rfl (qK (qB rfl (qH (sub_ii (pu (qC rfl (qB rfl (qE ?_))))))))))
  rw [show (x:Int)%8 - 6=((x%8 - 6:Nat):Int) by exact o380 n2 n3 n4 n5 n6]
  refine qP (c_pair hK mu.length (rest.reverse.map entAV) ll rr (x%8 - 6) (gapOf x) hmu' (by simp at hpl ⊢;exact o381 hpl) (by exact o142) (by exact o382 h2) (by exact o382 h1) (by exact o383 hg) (by exact o173 hf100 h3) (by exact o384 hdp) ?_)
  refine ⟨trivial,?_⟩
  refine qF (qF (qF (qF (qF (qF (qF ?_))))))
  refine ⟨.inl rfl,.cons rfl (.cons rfl (.cons rfl (.nil _))),?_⟩
  show (mu++[pileAO (rr::ll::rest)]++raws).set mu.length _=_
  rw [wZ,e6]
  simp only [pileAO,vO]
 ·-- nothing
  refine qF (qF (qF (qF (qF (qF (qF ?_))))))
  refine ⟨.inl rfl,.cons rfl (.cons rfl (.cons rfl (.nil _))),?_⟩
  have hlen:¬1 < rp.length:=by simp at hb;exact o175 hb
  have e7:step files rp (x,f)=rp:=by
   rw [e6]
   cases rp with
   | nil=>rfl
   | cons a q=>cases q with
    | nil=>rfl
    | cons b q=>simp at hlen
  rw [e7]
end drawn_turn
section
variable {c:Cx}{d u:Nat}{env:Env}{σ:St}{mu:List AO}{K:AV→List AO→Prop}
theorem drawn_turn(hK:Keys c.K)(ns:List Nat)(files:List File)(hf100:files.length≤100)(L:Addr)(cdv:Value)(x:Nat)(f:File)(rp:List Ent)(r:List (Nat×File))(hI:Inv files ((x,f)::r) rp)(mu raws:List AO)(hdp:d+6 < recursionLimit)(body:List Stmt)
  (hbody:body=drawnBody) :
  SsOK c d u (envOfC f_law_drawn.qual f_law_drawn.scope L 918 cdv) (execs body (envOfC f_law_drawn.qual f_law_drawn.scope L 918 cdv)) ⟨dL5 ns files mu.length x f,mu++[pileAO rp]++raws⟩
   (DPost ns files mu raws rp x f):=(@eps _ _ drawn_turn.Dq drawn_turn.tq rfl @drawn_turn.T0 (c,d,u,ns,files,L,cdv,x,f,r,mu,raws)) hK hf100 rp hI hdp body hbody
end
end
section
section
variable {c:Cx}{d u:Nat}{env:Env}{σ:St}{mu:List AO}{K:AV→List AO→Prop}
noncomputable def collapse:Nat→List Ent→Ent
 | n+1,r::l::rest=>collapse n (joined ((rest.length+2)%2) [] l r::rest)
 | _,e::_=>e
 | _,[]=>⟨[],2,[]⟩
noncomputable def pileOf(ns:List Nat)(files:List File):List Ent:=(ns.zip files).foldl (step files) []
noncomputable def drawn(ns:List Nat)(files:List File):Ent:=collapse (pileOf ns files).length (pileOf ns files)
structure WInv(files:List File)(rp:List Ent):Prop where
 len:lens rp+10*rp.length≤4000
 cnt:rp.length≤100
 hol:∀e∈rp,e.holds.length=files.length
theorem winv_join{files:List File}{r l:Ent}{rest:List Ent}{k:Nat}(h:WInv files (r::l::rest)):WInv files (joined k [] l r::rest):=by
 have hl:=h.len
 have hc:=h.cnt
 have h1:=h.hol r (.head _)
 have h2:=h.hol l (.tail _ (.head _))
 have w1:=vZ l k
 have w2:=vZ r k
 refine ⟨?_,?_,?_⟩
 ·unfold lens joined at *
  simp only [List.map_cons,List.sum_cons,List.length_append,List.length_cons,List.length_nil] at hl ⊢
  exact o163 w1 w2 hl
 ·simp only [List.length_cons] at hc ⊢;exact o164 hc
 ·intro e' he
  rcases List.mem_cons.mp he with z | z
  ·rw [z];simp [joined,h1,h2]
  ·exact h.hol e' (.tail _ (.tail _ z))
end
namespace c_drawn
noncomputable def Cq(c:Cx)(d u:Nat)(mu:List AO)(K:AV→List AO→Prop)(ns:List Nat)(files:List File):Prop:=∀(hK:Keys c.K) (hf100:files.length≤100) (hI0:Inv files (ns.zip files) []) (hz:ns.zip files≠[]) (hdp:d+8 < recursionLimit) (h:K (entAV (drawn ns files)) mu),CallOK c d u (.ref 918) [nsAV ns,flAV files] [] mu K
noncomputable def Dq(p:Cx×Nat×Nat×(List AO)×(AV→List AO→Prop)×(List Nat)×(List File)):Prop:=Cq p.1 p.2.1 p.2.2.1 p.2.2.2.1 p.2.2.2.2.1 p.2.2.2.2.2.1 p.2.2.2.2.2.2
def tq:=@ep _ (by have:=neCx;infer_instance) Dq
def c:=tq.1
def d:=tq.2.1
def u:=tq.2.2.1
def mu:=tq.2.2.2.1
def K:=tq.2.2.2.2.1
def ns:=tq.2.2.2.2.2.1
def files:=tq.2.2.2.2.2.2
theorem T0:Cq c d u mu K ns files:=by
 intro hK hf100 hI0 hz hdp h
 refine zH (call_wf fun hwf=>?_)
 obtain ⟨oc,od,osl,doc,pm,an,cdv,ct,ho,hcd⟩:=hK.k_law_drawn
 refine' jD (names:=["numbers","files"]) (cells:=[("asked",2),("sign",1),("one",0)]) ho hcd (by exact o165 hdp) rfl ?hb ?hn ?hcl ?hcn ?hkd ?h ?c1 ?c2 ?c3
 case hb=>intro ws hw;obtain ⟨v1,v2,rfl⟩:=len2 hw;rfl
 case hn=>decide
 case hcl=>intro L;rfl
 case hcn=>decide
 case hkd=>show ∀x∈_,f_law_drawn.scope.names.lookup x=_∨(f_law_drawn.scope.names.lookup x=_∧_);decide
 case c1=>rfl
 case c2=>rfl
 case c3=>rfl
 case h =>
  intro L
  refine qA ?_
  refine qR rfl rfl ?_
  refine jC ?_
  refine qE ?_
  refine ⟨by decide,?_⟩
  refine qA ?_
  refine gH ⟨qI rfl rfl,zJ (cc:=L+1) rfl (fun z=>nomatch z) rfl rfl,trivial⟩ (fun Z=>rfl) ?_
  refine' xE rfl rfl rfl rfl rfl (qS rfl) ?k7 rfl (by decide) (fun a z=>nomatch z) ?_
  case k7=>exact hK.b_zip
  refine qC rfl (qB rfl (qC rfl (qB rfl (qE ?_))))
  refine ic_zip ?_
  rw [jZ]
  show ForOK' _ _ _ _ _ _ _ _ _ [("numbers",nsAV ns),("files",flAV files),("pile",.mut mu.length)] (mu++[pileAO []]) [] _
  refine for_foldM (n:=mu.length+1) (fun r rp=>Inv files r rp∧(rp=[]→r≠[])) (fun Z=>[("numbers",nsAV ns),("files",flAV files),("pile",.mut mu.length)]) zipAV (step files) (fun rp=>mu++[pileAO rp]) (fun Z=>by exact List.length_append) ?_ ?_ ?_ (ns.zip files) [] ⟨hI0,fun Z=>hz⟩ ?_
  ·intro xs a _ ao hao
   rcases List.mem_append.mp hao with z | z
   ·exact AO.under_mono (Nat.le_succ _) (hwf ao z)
   ·rw [List.mem_singleton.mp z]
    exact wC (xA ent_flat _)
  ·intro xs a _
   refine all3 ?_ ?_ ?_
   ·exact AV.flat_under (show flats _=true from xA (fun Z=>rfl) _)
   ·exact AV.flat_under (show flats _=true from xA file_flat _)
   ·show decide (mu.length < mu.length+1)=true;simp
  ·intro rp p r hI
   obtain ⟨x,f⟩:=p
   have hs:=inv_step hI.1
   refine ⟨⟨hs.1,fun z=>absurd z hs.2⟩,_,rfl,fun raws=>?_⟩
   exact drawn_turn hK ns files hf100 L cdv x f rp r hI.1 mu raws (by exact o166 hdp) _ rfl
  ·rintro ⟨hI,hne⟩
   have hne':pileOf ns files≠[]:=fun z=>hne z rfl
   have hIl:=hI.len
   have hIc:=hI.cnt
   simp only [List.length_nil] at hIl hIc
   refine qF ?_
   refine qA ?_
   refine yL (fun n σ=>∃rp,n=rp.length∧rp≠[]∧WInv files rp∧collapse rp.length rp=drawn ns files∧σ=⟨[("numbers",nsAV ns),("files",flAV files),("pile",.mut mu.length)],mu++[pileAO rp]⟩) ?_ (pileOf ns files).length ⟨pileOf ns files,rfl,hne',⟨by unfold pileOf;exact o146 hIl hIc,by unfold pileOf;exact o147 hIc,hI.hol⟩,rfl,rfl⟩
   rintro n σ ⟨rp,rfl,hrn,hW,hcol,rfl⟩
   have hmu:(mu++[pileAO rp])[mu.length]?=some (pileAO rp):=by simp
   have hWc:=hW.cnt
   have hWl:=hW.len
   refine qD rfl ?_
   refine vS rfl rfl rfl rfl rfl (qS rfl) hK.b_len rfl (by decide) (fun a z=>nomatch z) ?_
   refine qC rfl (qB rfl (qE ?_))
   refine qG (yD hmu (by simp;exact o167 hWc) (pu ?_))
   refine qH (gt_ii (pu ?_))
   refine ⟨_,rfl,fun hb=>?_,fun hb=>?_⟩
   ·have hlen:1 < rp.length:=by simp at hb;exact o168 hb
    obtain ⟨rr,ll,rest,rfl⟩:∃rr ll rest,rp=rr::ll::rest:=by
     cases rp with
     | nil=>exact absurd rfl hrn
     | cons a q=>cases q with
      | nil=>simp at hlen
      | cons b q=>exact ⟨a,b,q,rfl⟩
    have hmu':(mu++[pileAO (rr::ll::rest)])[mu.length]?=some (.list (rest.reverse.map entAV++[entAV ll,entAV rr])):=by rw [hmu,pileAO,vO,vO];simp
    have h1:rr.text.length≤lens (rr::ll::rest):=xL (.head _)
    have h2:ll.text.length≤lens (rr::ll::rest):=xL (.tail _ (.head _))
    have h3:=hW.hol ll (.tail _ (.head _))
    refine qA ?_
    refine vA rfl rfl ?_
    refine qW rfl hK.g_law_pair hK.p_law_pair ?_
    refine qC rfl (qB rfl (qC rfl (qK ?_)))
    refine vS rfl rfl rfl rfl rfl (qS rfl) hK.b_len rfl (by decide) (fun a z=>nomatch z) ?_
    refine qC rfl (qB rfl (qE ?_))
    refine qG (yD hmu (by simp;simp at hWc;exact o169 hWc) (pu ?_))
    refine qH (vW (by decide) (pu (qC rfl (qM (qE ?_)))))
    have e0:Str.ofString ""=S []:=by decide +kernel
    rw [e0,show (((rr::ll::rest).reverse.map entAV).length:Int)%2=(((rest.length+2)%2:Nat):Int) by simp]
    refine qP (c_pair hK mu.length (rest.reverse.map entAV) ll rr ((rest.length+2)%2) [] hmu' (by simp at hWc ⊢;exact o170 hWc) (by exact o171) (by exact o172 hWl h2) (by exact o172 hWl h1) (by exact Nat.le_of_ble_eq_true rfl) (by exact o173 hf100 h3) (by exact o174 hdp) ?_)
    refine ⟨trivial,?_⟩
    refine qF ?_
    refine ⟨rest.length+1,by simp,joined ((rest.length+2)%2) [] ll rr::rest,rfl,fun z=>(nomatch z),winv_join hW,hcol,?_⟩
    show (⟨_,(mu++[pileAO (rr::ll::rest)]).set mu.length _⟩:St)=_
    have:=wZ mu (pileAO (rr::ll::rest)) (AO.list (rest.reverse.map entAV++[entAV (joined ((rest.length+2)%2) [] ll rr)])) []
    simp only [List.append_nil] at this
    rw [this]
    simp only [pileAO,vO]
   ·have hlen:¬1 < rp.length:=by simp at hb;exact o175 hb
    obtain ⟨e,rfl⟩:∃e,rp=[e]:=by
     cases rp with
     | nil=>exact absurd rfl hrn
     | cons a q=>cases q with
      | nil=>exact ⟨a,rfl⟩
      | cons b q=>simp at hlen
    refine qF (qA (qO (qU (qB rfl (qH ?_)))))
    refine sub_mut (v:=entAV e) hmu (by decide) (by decide) rfl (fun Z Z=>rfl) (pu ?_)
    refine ⟨[pileAO [e]],rfl,ent_flat e,?_⟩
    have:e=drawn ns files:=hcol
    rw [this];exact h
end c_drawn
section
variable {c:Cx}{d u:Nat}{env:Env}{σ:St}{mu:List AO}{K:AV→List AO→Prop}
theorem c_drawn(hK:Keys c.K)(ns:List Nat)(files:List File)(hf100:files.length≤100)(hI0:Inv files (ns.zip files) [])(hz:ns.zip files≠[])(hdp:d+8 < recursionLimit)(h:K (entAV (drawn ns files)) mu):CallOK c d u (.ref 918) [nsAV ns,flAV files] [] mu K:=(@eps _ _ c_drawn.Dq c_drawn.tq rfl @c_drawn.T0 (c,d,u,mu,K,ns,files)) hK hf100 hI0 hz hdp h
end
end
section
section
variable {c:Cx}{d u:Nat}{env:Env}{σ:St}{mu:List AO}{K:AV→List AO→Prop}
noncomputable def octVal(w:List Nat):Nat:=w.foldl (fun b ch=>b*8+(ch - 48)) 0
noncomputable def isOct(ch:Nat):Bool:=48≤ch&&ch≤55
noncomputable def wordHolds(w:List Nat)(mode:Nat)(name kind:List Nat):Bool :=
 if w.headD 0=110 then w==name else if isOct (w.headD 0)=false then w==kind else (mode &&& 4095 &&& octVal w)==octVal w
theorem find8:∀ch:Nat,isOct ch=true→Txt.find (Str.ofString "01234567") ⟨#[ch]⟩=((ch - 48:Nat):Int):=by
 intro ch h
 have key:∀j:Fin 8,Txt.find (Str.ofString "01234567") ⟨#[48+(j:Nat)]⟩=((j:Nat):Int):=by decide +kernel
 unfold isOct at h
 have h1:48≤ch∧ch≤55:=by simpa using h
 have:=key ⟨ch - 48,by exact o134 h1⟩
 rw [show 48+(ch - 48)=ch by exact o135 h1] at this
 exact this
theorem in8 (ch:Nat):decide (ch∈(Str.ofString "01234567").cps.toList)=isOct ch:=by
 have e:(Str.ofString "01234567").cps.toList=[48,49,50,51,52,53,54,55]:=by decide +kernel
 rw [e]
 by_cases h:ch < 56
 ·have key:∀j:Fin 56,decide ((j:Nat)∈[48,49,50,51,52,53,54,55])=isOct (j:Nat):=by decide
  exact key ⟨ch,h⟩
 ·have h1:∀x∈[48,49,50,51,52,53,54,55],x < 56:=by decide
  have h2:isOct ch=false:=by unfold isOct;simp;exact o176 h
  rw [h2]
  exact decide_eq_false fun hm=>h (h1 _ hm)
theorem jK(w:List Nat):signsOf (S w)=w.map fun ch=>AV.str (S [ch]):=by unfold signsOf;simp
theorem ofSn:Str.ofString "n"=S [110]:=by decide +kernel
end
namespace c_holds
noncomputable def Cq(c:Cx)(d u:Nat)(mu:List AO)(K:AV→List AO→Prop)(ch:Nat)(w:List Nat)(mode:Nat)(name kind:List Nat):Prop:=∀(hK:Keys c.K) (hw:w.length≤20) (hoct:isOct ch=true→∀x∈ch::w,isOct x=true) (hdp:d+1 < recursionLimit) (h:K (.bool (wordHolds (ch::w) mode name kind)) mu),CallOK c d u (.ref 935) [.str (S (ch::w)),.int (mode:Int),.str (S name),.str (S kind)] [] mu K
noncomputable def Dq(p:Cx×Nat×Nat×(List AO)×(AV→List AO→Prop)×Nat×(List Nat)×Nat×(List Nat)×(List Nat)):Prop:=Cq p.1 p.2.1 p.2.2.1 p.2.2.2.1 p.2.2.2.2.1 p.2.2.2.2.2.1 p.2.2.2.2.2.2.1 p.2.2.2.2.2.2.2.1 p.2.2.2.2.2.2.2.2.1 p.2.2.2.2.2.2.2.2.2
def tq:=@ep _ (by have:=neCx;infer_instance) Dq
def c:=tq.1
def d:=tq.2.1
def u:=tq.2.2.1
def mu:=tq.2.2.2.1
def K:=tq.2.2.2.2.1
def ch:=tq.2.2.2.2.2.1
def w:=tq.2.2.2.2.2.2.1
def mode:=tq.2.2.2.2.2.2.2.1
def name:=tq.2.2.2.2.2.2.2.2.1
def kind:=tq.2.2.2.2.2.2.2.2.2
theorem T0:Cq c d u mu K ch w mode name kind:=by
 intro hK hw hoct hdp h
 refine' enter4 (n1:="word") (n2:="mode") (n3:="name") (n4:="kind") hK.k_law_holds (by exact o178 hdp) (fun Z Z Z Z Z Z Z Z Z=>rfl) rfl ?h
 case h =>
  intro cdv L
  refine ss_wf fun hwf=>?_
  refine qA ?_
  refine qL (qD rfl (qU (qB rfl (qH ?_))))
  refine wL (cp:=ch) (by decide) (by decide) rfl (fun Z Z=>rfl) (pu ?_)
  refine qM (vU (pu ?_))
  rw [ofSn,show (⟨#[ch]⟩:Str)=S [ch] from rfl,wY]
  refine ⟨_,rfl,fun hb=>?_,fun hb=>?_⟩
  ·have h1:ch=110:=by simpa using hb
   refine qA (qO (vM rfl (qB rfl (qB rfl (vU (pu ?_))))))
   rw [wY]
   rw [wordHolds,if_pos (by exact h1)] at h
   exact h
  have n1:¬ch=110:=by simpa using hb
  refine qF (qA (qL (qD rfl (qU (qB rfl (qH ?_))))))
  refine wL (cp:=ch) (by decide) (by decide) rfl (fun Z Z=>rfl) (pu ?_)
  refine qM ?_
  refine nin1_ss (pu ?_)
  rw [in8]
  refine ⟨_,rfl,fun hb=>?_,fun hb=>?_⟩
  ·have h1:isOct ch=false:=by simpa using hb
   refine qA (qO (vM rfl (qB rfl (qB rfl (vU (pu ?_))))))
   rw [wY]
   rw [wordHolds,if_neg (by exact n1),if_pos (by exact h1)] at h
   exact h
  have h1:isOct ch=true:=by simpa using hb
  have ho8:=hoct h1
  refine qF (qA (qR rfl rfl (qH (qA ?_))))
  refine gH (qI rfl rfl) (fun Z=>rfl) ?_
  refine it_str ?_
  refine qB rfl ?_
  refine ⟨_,rfl,?_⟩
  rw [jK]
  show ForOK' _ _ _ _ _ _ _ _ _ [("word",.str (S (ch::w))),("mode",.int (mode:Int)),("name",.str (S name)),("kind",.str (S kind)),("bits",.int ((0:Nat):Int))] mu [] _
  refine for_fold (fun (r:List Nat) (b:Nat)=>∀x∈r,isOct x=true) (fun b:Nat=>[("word",.str (S (ch::w))),("mode",.int (mode:Int)),("name",.str (S name)),("kind",.str (S kind)),("bits",.int (b:Int))]) (fun ch=>AV.str (S [ch])) (fun b ch=>b*8+(ch - 48)) mu hwf ?_ ?_ (ch::w) 0 ho8 ?_
  ·intro b
   exact all5 rfl rfl rfl rfl rfl
  ·intro b x r hI
   have hx:=hI x (.head _)
   refine ⟨fun y hy=>hI y (.tail _ hy),_,rfl,fun raws=>?_⟩
   refine qA ?_
   refine qR rfl rfl (qK (qK (qB rfl (qH ?_))))
   refine gT (IntMulOk.of_right (by decide)) (pu ?_)
   refine' qQ ?y18z0 ?y18z1 ?_
   case y18z0=>exact qS (by rfl)
   case y18z1=>rfl
   refine qM ?_
   refine meth_find ⟨.inr (fun a z=>nomatch z),?_⟩
   refine qC rfl (qB rfl (qE ?_))
   refine qG (call_find (pu ?_))
   rw [show (S [x])=(⟨#[x]⟩:Str) from rfl,find8 x hx]
   refine xQ (pu (qF ?_))
   refine ⟨.inl rfl,.cons rfl (.cons rfl (.cons rfl (.cons rfl (.cons ?_ (.nil _))))),rfl⟩
   show some (AV.int ((b:Int)*8+((x - 48:Nat):Int)))=some (AV.int ((b*8+(x - 48):Nat):Int))
   congr 2
  ·refine qF (qA (qO (vM rfl (qK ?_))))
   refine qW rfl hK.g_S_IMODE hK.p_S_IMODE ?_
   refine qC rfl (qB rfl (qE ?_))
   refine qG (c_imode hK (by exact o179 hdp) (pu ?_))
   refine qB rfl (fM (pu (qB rfl (wM (pu ?_)))))
   have e1:Builtin.bitAnd (mode:Int) 4095=((mode &&& 4095:Nat):Int):=wE mode 4095
   have e2:List.foldl (fun b ch=>b*8+(ch - 48)) 0 (ch::w)=octVal (ch::w):=rfl
   rw [e1,e2,wE]
   rw [wordHolds,if_neg (by exact n1),if_neg (by show ¬isOct ch=false;rw [h1];decide)] at h
   have e3:∀a b:Nat,(((a:Nat):Int)==(b:Int))=(a==b):=fun a b=>by rw [Bool.eq_iff_iff];simp;exact o180
   rw [e3]
   exact h
end c_holds
section
variable {c:Cx}{d u:Nat}{env:Env}{σ:St}{mu:List AO}{K:AV→List AO→Prop}
theorem c_holds(hK:Keys c.K)(ch:Nat)(w:List Nat)(mode:Nat)(name kind:List Nat)(hw:w.length≤20)(hoct:isOct ch=true→∀x∈ch::w,isOct x=true)(hdp:d+1 < recursionLimit)(h:K (.bool (wordHolds (ch::w) mode name kind)) mu):
  CallOK c d u (.ref 935) [.str (S (ch::w)),.int (mode:Int),.str (S name),.str (S kind)] [] mu K:=(@eps _ _ c_holds.Dq c_holds.tq rfl @c_holds.T0 (c,d,u,mu,K,ch,w,mode,name,kind)) hK hw hoct hdp h
end
end
section
set_option tactic.hygienic true
section
variable {c:Cx}{d u:Nat}{env:Env}{σ:St}{mu:List AO}{K:AV→List AO→Prop}
noncomputable abbrev File3:=Nat×List Nat×List Nat
noncomputable abbrev file3AV(f:File3):AV:=.tup [.int (f.1:Int),.str (S f.2.1),.str (S f.2.2)]
noncomputable abbrev tokAV(t:List Nat):AV:=.str (S t)
noncomputable abbrev toksAO(ts:List (List Nat)):AO:=.list (ts.reverse.map tokAV)
noncomputable def goodWord(w:List Nat):Bool:=!w.isEmpty&&decide (w.length≤20)&&(!isOct (w.headD 0) || w.all isOct)
mutual
noncomputable def rd(files:List File3):Nat→Nat→List (List Nat)→Option (List Bool×List (List Nat))
 | 0,_,_=>none
 | n+1,rank,ts =>
  if rank < 2 then (match rd files n (rank+1) ts with
   | some (b,t)=>rdLoop files n rank b t
   | none=>none)
  else match ts with
   | []=>none
   | s::t =>
    if s=[33] then (match rd files n 2 t with | some (b,t')=>some (b.map not,t') | none=>none)
    else if s=[40] then (match rd files n 0 t with | some (b,_::t')=>some (b,t') | _=>none)
    else if goodWord s=true then some (files.map fun f=>wordHolds s f.1 f.2.1 f.2.2,t) else none
noncomputable def rdLoop(files:List File3):Nat→Nat→List Bool→List (List Nat)→Option (List Bool×List (List Nat))
 | 0,_,_,_=>none
 | n+1,rank,b,ts=>match ts with
  | []=>some (b,[])
  | s::t=>if s=[opCh rank] then (match rd files n (rank+1) t with
    | some (b2,t2)=>rdLoop files n rank ((b.zip b2).map (comb rank)) t2
    | none=>none) else some (b,s::t)
end
inductive RdN(files:List File3)(n:Nat)(sg:List Nat)(b:List Bool)(t u:List (List Nat)):Prop
 | no (e:sg=[33]) (b1:List Bool) (h:rd files n 2 u=some (b1,t)) (q:b1.map not=b)
 | pa (e:sg=[40]) (x:List Nat) (h:rd files n 0 u=some (b,x::t))
 | wo (n1:¬sg=[33]) (n2:¬sg=[40]) (g:goodWord sg=true) (h:(files.map fun f=>wordHolds sg f.1 f.2.1 f.2.2)=b) (q:u=t)
inductive RdI(files:List File3)(n rank:Nat)(ts:List (List Nat))(b:List Bool)(t:List (List Nat)):Prop
 | lo (hr:rank < 2) (b1:List Bool) (t1:List (List Nat)) (e:rd files n (rank+1) ts=some (b1,t1)) (h:rdLoop files n rank b1 t1=some (b,t))
 | hi (hr:¬rank < 2) (sg:List Nat) (u:List (List Nat)) (q:ts=sg::u) (h:RdN files n sg b t u)
inductive RlI(files:List File3)(rank:Nat)(b0 b:List Bool)(t:List (List Nat))(n:Nat)(ts:List (List Nat)):Prop
 | op (b2:List Bool) (t2 u:List (List Nat)) (q:ts=[opCh rank]::u) (e:rd files n (rank+1) u=some (b2,t2)) (h:rdLoop files n rank ((b0.zip b2).map (comb rank)) t2=some (b,t))
 | en (n1:∀u,¬ts=[opCh rank]::u) (h:b0=b) (q:ts=t)
variable {files:List File3}{n rank f:Nat}{ts t rest:List (List Nat)}{b b0:List Bool}{sg:List Nat}
theorem jM(h:rd files (n+1) rank ts=some (b,t)):RdI files n rank ts b t:=by
 unfold rd at h
 split at h
 ·split at h
  ·rename_i hr _ b1 t1 e1;exact .lo hr _ _ e1 h
  ·cases h
 ·rename_i hr
  split at h
  ·cases h
  ·refine .hi hr _ _ rfl ?_
   split at h
   ·split at h
    ·rename_i hs _ b1 t1 e1;cases h;exact .no hs _ e1 rfl
    ·cases h
   ·split at h
    ·split at h
     ·rename_i hs _ _ _ _ e1;cases h;exact .pa hs _ e1
     ·cases h
    ·split at h
     ·rename_i n1 n2 g;cases h;exact .wo n1 n2 g rfl rfl
     ·cases h
theorem gP(h:rdLoop files (n+1) rank b0 ts=some (b,t)):RlI files rank b0 b t n ts:=by
 unfold rdLoop at h
 split at h
 ·cases h;exact .en (fun u=>nofun) rfl rfl
 ·split at h
  ·split at h
   ·rename_i hs _ b2 t2 e1;exact .op _ _ _ (by rw [hs]) e1 h
   ·cases h
  ·rename_i n1;cases h;exact .en (fun u q=>n1 (List.cons.inj q).1) rfl rfl
theorem rd_len(files:List File3):∀n,(∀rank ts b t,rd files n rank ts=some (b,t)→b.length≤files.length)∧(∀rank b0 ts b t,b0.length≤files.length→rdLoop files n rank b0 ts=some (b,t)→b.length≤files.length):=by
 intro zz
 induction zz with
 | zero=>exact ⟨fun Z Z Z Z h=>by simp [rd] at h,fun Z Z Z Z Z Z h=>by simp [rdLoop] at h⟩
 | succ n ih =>
  obtain ⟨ih1,ih2⟩:=ih
  constructor
  ·intro rank ts b t h
   rcases jM h with ⟨_,b1,t1,e,h⟩ | ⟨_,s,u,rfl,⟨_,b1,e,rfl⟩ | ⟨_,x,e⟩ | ⟨_,_,_,rfl,rfl⟩⟩
   ·exact ih2 _ _ _ _ _ (ih1 _ _ _ _ e) h
   ·rw [List.length_map];exact ih1 _ _ _ _ e
   ·exact ih1 _ _ _ _ e
   ·exact Nat.le_of_eq (List.length_map _)
  ·intro rank b0 ts b t hb h
   rcases gP h with ⟨b2,t2,u,rfl,e,h2⟩ | ⟨_,rfl,rfl⟩
   ·exact ih2 _ _ _ _ _ (by simp;exact o181 hb) h2
   ·exact hb
theorem zP(files:List File3):∀n,(∀rank ts b t,rd files n rank ts=some (b,t)→t.length≤ts.length)∧(∀rank b0 ts b t,rdLoop files n rank b0 ts=some (b,t)→t.length≤ts.length):=by
 intro zz
 induction zz with
 | zero=>exact ⟨fun Z Z Z Z h=>by simp [rd] at h,fun Z Z Z Z Z h=>by simp [rdLoop] at h⟩
 | succ n ih =>
  obtain ⟨ih1,ih2⟩:=ih
  constructor
  ·intro rank ts b t h
   rcases jM h with ⟨_,b1,t1,e,h⟩ | ⟨_,s,u,rfl,⟨_,b1,e,rfl⟩ | ⟨_,x,e⟩ | ⟨_,_,_,rfl,rfl⟩⟩
   ·exact Nat.le_trans (ih2 _ _ _ _ _ h) (ih1 _ _ _ _ e)
   ·exact Nat.le_succ_of_le (ih1 _ _ _ _ e)
   ·exact Nat.le_succ_of_le (Nat.le_of_succ_le (ih1 _ _ _ _ e))
   ·exact Nat.le_succ _
  ·intro rank b0 ts b t h
   rcases gP h with ⟨b2,t2,u,rfl,e,h2⟩ | ⟨_,rfl,rfl⟩
   ·exact Nat.le_succ_of_le (Nat.le_trans (ih2 _ _ _ _ _ h2) (ih1 _ _ _ _ e))
   ·exact Nat.le_refl _
theorem jJ(s:List Nat)(t:List (List Nat)):((s::t).reverse.map tokAV)=t.reverse.map tokAV++[tokAV s]:=by simp
theorem ofS33:Str.ofString "!"=S [33]:=by decide +kernel
noncomputable def ReadS(c:Cx)(files:List File3)(m:Nat):Prop:=∀{d u:Nat} {K:AV→List AO→Prop} {mu:List AO} (rank:Nat) (ts:List (List Nat)) (b:List Bool) (t:List (List Nat)) (k:Nat),rd files m rank ts=some (b,t)→rank≤2→d+m+3 < recursionLimit→u+3*m+100 < 9900→ts.length≤1000→mu[k]?=some (toksAO ts) →
  K (boolsAV b) (mu.set k (toksAO t))→CallOK c d u (.ref 940) [.mut k,.lst (files.map file3AV),.int (rank:Int)] [] mu K
theorem rdLo(h:rd files (n+1) rank ts=some (b,t))(hr:rank < 2):∃b1 t1,rd files n (rank+1) ts=some (b1,t1)∧rdLoop files n rank b1 t1=some (b,t):=by
 rcases jM h with ⟨_,b1,t1,e,h⟩ | ⟨z,_⟩
 ·exact ⟨_,_,e,h⟩
 exact absurd hr z
theorem rdHi(h:rd files (n+1) 2 ts=some (b,t)):∃sg u,ts=sg::u∧RdN files n sg b t u:=by
 rcases jM h with ⟨z,_⟩ | ⟨_,sg,u,e,q⟩
 ·exact absurd z o119
 ·exact ⟨_,_,e,q⟩
theorem rdNo{t u:List (List Nat)}(h:RdN files n sg b t u)(e:sg=[33]):∃b1,rd files n 2 u=some (b1,t)∧b1.map not=b:=by
 rcases h with ⟨_,b1,h,q⟩ | ⟨z,_⟩ | ⟨z,_⟩
 ·exact ⟨_,h,q⟩
 ·rw [e] at z;cases z
 ·exact absurd e z
theorem rdPa{t u:List (List Nat)}(h:RdN files n sg b t u)(e:sg=[40]):∃x,rd files n 0 u=some (b,x::t):=by
 rcases h with ⟨z,_⟩ | ⟨_,x,h⟩ | ⟨_,z,_⟩
 ·rw [e] at z;cases z
 ·exact ⟨_,h⟩
 ·exact absurd e z
theorem rdWo{t u:List (List Nat)}(h:RdN files n sg b t u)(n1:¬sg=[33])(n2:¬sg=[40]):∃ch w,sg=ch::w∧w.length≤20∧(isOct ch=true→∀x∈ch::w,isOct x=true)∧(files.map fun f=>wordHolds sg f.1 f.2.1 f.2.2)=b∧u=t:=by
 rcases h with ⟨z,_⟩ | ⟨z,_⟩ | ⟨_,_,g,q,r⟩
 ·exact absurd z n1
 ·exact absurd z n2
 ·cases sg with
  | nil=>cases g
  | cons ch w =>
   have g2:=Bool.and_eq_true_iff.mp g
   refine ⟨_,_,rfl,Nat.le_of_succ_le (of_decide_eq_true (show decide _=true from g2.1)),fun ho x hx=>?_,q,r⟩
   have z:(!isOct ch || (ch::w).all isOct)=true:=g2.2
   rw [ho] at z;exact List.all_eq_true.mp z x hx
theorem rlOp(h:rdLoop files f rank b0 (sg::rest)=some (b,t))(e:sg=[opCh rank]):∃n b2 t2,f=n+1∧rd files n (rank+1) rest=some (b2,t2)∧rdLoop files n rank ((b0.zip b2).map (comb rank)) t2=some (b,t):=by
 cases f with
 | zero=>cases h
 | succ n =>
  rcases gP h with ⟨b2,t2,u,q,e,h2⟩ | ⟨z,_⟩
  ·rw [(List.cons.inj q).2];exact ⟨_,_,_,rfl,e,h2⟩
  ·exact absurd (by rw [e]) (z rest)
theorem rlNo(h:rdLoop files f rank b0 ts=some (b,t))(e9:∀u,¬ts=[opCh rank]::u):b0=b∧ts=t:=by
 cases f with
 | zero=>cases h
 | succ n =>
  rcases gP h with ⟨b2,t2,u,e,h2⟩ | ⟨_,h9,q⟩
  ·exact absurd e (e9 u)
  ·exact ⟨h9,q⟩
theorem rlNil{t0 t:List (List Nat)}(h:rdLoop files f rank b0 t0=some (b,t))(hb:(!(t0.reverse.map tokAV).isEmpty)=false):b0=b∧t0=t:=by
 have z:=List.reverse_eq_nil_iff.mp (List.map_eq_nil_iff.mp (List.isEmpty_iff.mp (Bool.not_inj (y:=true) hb)))
 refine rlNo h fun u q=>?_
 rw [z] at q;cases q
theorem toks_ne{t0:List (List Nat)}(hb:(!(t0.reverse.map tokAV).isEmpty)=true):∃sg rest,t0=sg::rest:=by
 cases t0 with
 | nil=>cases hb
 | cons a q=>exact ⟨a,q,rfl⟩
theorem toks_le{ts:List (List Nat)}(h:ts.length≤1000):(ts.reverse.map tokAV).length≤100000:=by
 rw [List.length_map,List.length_reverse];exact Nat.le_trans h (by decide)
theorem S_eq33 {a:List Nat} (h:(S a==Str.ofString "!")=true):a=[33]:=by
 rw [ofS33,wY] at h;exact eq_of_beq h
theorem S_ne33 {a:List Nat} (h:(S a==Str.ofString "!")=false):¬a=[33]:=by
 rintro rfl;rw [ofS33,wY] at h;cases h
theorem S_eq40 {a:List Nat} (h:(S a==Str.ofString "(")=true):a=[40]:=by
 rw [ofS40,wY] at h;exact eq_of_beq h
theorem S_ne40 {a:List Nat} (h:(S a==Str.ofString "(")=false):¬a=[40]:=by
 rintro rfl;rw [ofS40,wY] at h;cases h
theorem S_eq1{a:List Nat}{x:Nat}(h:(S a==(⟨#[x]⟩:Str))=true):a=[x]:=by
 rw [show (⟨#[x]⟩:Str)=S [x] from rfl,wY] at h;exact eq_of_beq h
theorem S_ne1{a:List Nat}{x:Nat}(h:(S a==(⟨#[x]⟩:Str))=false):¬a=[x]:=by
 rintro rfl;rw [show (⟨#[x]⟩:Str)=S [x] from rfl,wY] at h;simp at h
theorem zip_le{l r:List Bool}(hf:n≤100)(h:l.length≤n):((l.zip r).map pairAV).length≤100000:=by
 rw [List.length_map,List.length_zip];exact o198 hf h
theorem ic_zipB {tgts:List Expr} {kk:Nat} {tp:Pos} {l r:List Bool} {mu:List AO} {K:List AV→Nat→Prop} (h:K ((l.zip r).map pairAV) 4):ItCOK c (.type "zip") (.Tuple tgts kk tp) [boolsAV l,boolsAV r] mu K :=
 ic_zip (by rw [xB];exact h)
theorem zip_lem{l r:List Bool}{n q:Nat}(h:l.length≤n):((l.zip r).map (comb q)).length≤n:=by
 rw [List.length_map,List.length_zip];exact o181 h
theorem len_file{fs:List File3}(h:fs.length≤100):(fs.map file3AV).length≤100000:=by
 rw [List.length_map];exact o167 h
theorem set_not{K:AV→List AO→Prop}{mu:List AO}{k:Nat}{x y:AO}(h:K (boolsAV (b.map not)) (mu.set k y)):K (.lst (b.map fun b=>AV.bool (!b))) ((mu.set k x).set k y):=by
 rw [List.set_set,show (b.map fun b=>AV.bool (!b))=(b.map not).map AV.bool by rw [List.map_map];rfl];exact h
theorem set3{P:List AO→Prop}{mu:List AO}{k:Nat}{x y z:AO}(h:P (mu.set k z)):P (((mu.set k x).set k y).set k z):=by
 rw [List.set_set,List.set_set];exact h
theorem bools_map{α:Type}{K:AV→List AO→Prop}{fs:List α}{g:α→Bool}{mu:List AO}(h:K (boolsAV (fs.map g)) mu):K (.lst (fs.map fun f=>AV.bool (g f))) mu:=by
 rw [show (fs.map fun f=>AV.bool (g f))=(fs.map g).map AV.bool by rw [List.map_map];rfl];exact h
end
namespace c_read_step
noncomputable def Cq(c:Cx)(files:List File3)(m d u:Nat)(K:AV→List AO→Prop)(mu:List AO)(k:Nat):Prop:=∀(hK:Keys c.K) (hf:files.length≤100) (ih:∀m':Nat,m'≤m→ReadS c files m') (rank:Nat) (ts:List (List Nat)) (b:List Bool) (t:List (List Nat)) (e:rd files (m+1) rank ts=some (b,t)) (hr:rank≤2) (hd:d+(m+1)+3 < recursionLimit) (hu:u+3*(m+1)+100 < 9900) (hts:ts.length≤1000) (hmu:mu[k]?=some (toksAO ts)) (h:K (boolsAV b) (mu.set k (toksAO t))),CallOK c d u (.ref 940) [.mut k,.lst (files.map file3AV),.int (rank:Int)] [] mu K
noncomputable def Dq(p:Cx×(List File3)×Nat×Nat×Nat×(AV→List AO→Prop)×(List AO)×Nat):Prop:=Cq p.1 p.2.1 p.2.2.1 p.2.2.2.1 p.2.2.2.2.1 p.2.2.2.2.2.1 p.2.2.2.2.2.2.1 p.2.2.2.2.2.2.2
def tq:=@ep _ (by have:=neCx;infer_instance) Dq
def c:=tq.1
def files:=tq.2.1
def m:=tq.2.2.1
def d:=tq.2.2.2.1
def u:=tq.2.2.2.2.1
def K:=tq.2.2.2.2.2.1
def mu:=tq.2.2.2.2.2.2.1
def k:=tq.2.2.2.2.2.2.2
theorem T0(hK:Keys c.K)(hf:files.length≤100)(ih:∀m':Nat,m'≤m→ReadS c files m')(rank:Nat)(ts:List (List Nat))(b:List Bool)(t:List (List Nat))(e:rd files (m+1) rank ts=some (b,t))(hr:rank≤2)(hd:d+(m+1)+3 < recursionLimit)(hu:u+3*(m+1)+100 < 9900)(hts:ts.length≤1000)(hmu:mu[k]?=some (toksAO ts))(h:K (boolsAV b) (mu.set k (toksAO t))):CallOK c d u (.ref 940) [.mut k,.lst (files.map file3AV),.int (rank:Int)] [] mu K:=by
 obtain ⟨oc,od,osl,doc,pm,an,cdv,ct,ho,hcd⟩:=hK.k_law_read
 refine' jD (names:=["signs","files","rank"]) (cells:=[("sign",1),("rank",0)]) ho hcd (by exact o185 hd) rfl ?hb ?hn ?hcl ?hcn ?hkd ?h ?c1 ?c2 ?c3
 case hb=>intro ws hw;obtain ⟨v1,v2,v3,rfl⟩:=len3 hw;rfl
 case hn=>decide
 case hcl=>intro L;rfl
 case hcn=>decide
 case hkd=>show ∀x∈_,f_law_read.scope.names.lookup x=_∨(f_law_read.scope.names.lookup x=_∧_);decide
 case c1=>rfl
 case c2=>rfl
 case c3=>rfl
 case h =>
  intro L
  have hkl:k < mu.length:=(List.getElem?_eq_some_iff.mp hmu).1
  refine qA ?_
  refine qL (qD rfl (vK rfl (qH (lt_ii (pu ?_)))))
  refine ⟨_,rfl,fun hb=>?_,fun hb=>?_⟩
  ·have hr2:rank < 2:=o186 (of_decide_eq_true hb)
   obtain ⟨b1,t1,e1,e⟩:=rdLo e hr2
   have hs1:=(zP files m).1 _ _ _ _ e1
   have hl1:=(rd_len files m).1 _ _ _ _ e1
   refine qA ?_
   refine qR rfl rfl ?_
   refine qW rfl hK.g_law_read hK.p_law_read ?_
   refine qC rfl (qB rfl (qC rfl (qB rfl (qC rfl (qK (vK rfl (qH (xQ (pu (qE ?_))))))))))
   refine qP (ih m (Nat.le_refl _) (rank+1) ts b1 t1 k e1 (by exact o111 hr2) (by exact o188 hd) (by exact o189 hu) hts hmu ?_)
   refine qA ?_
   refine yL (fun f σ=>f≤m∧∃b0 t0 loc,rdLoop files f rank b0 t0=some (b,t)∧b0.length≤files.length∧t0.length≤1000∧Sub [("signs",.mut k),("files",.lst (files.map file3AV)),("rank",.int (rank:Int)),("found",boolsAV b0)] loc∧σ=⟨loc,mu.set k (toksAO t0)⟩) ?_ m ⟨Nat.le_refl _,b1,t1,_,e,hl1,by exact o190 hts hs1,.cons rfl (.cons rfl (.cons rfl (.cons rfl (.nil _)))),rfl⟩
   rintro f σ ⟨hfm,b0,t0,loc,e0,hb0,ht0,hsub,rfl⟩
   have hmu0:(mu.set k (toksAO t0))[k]?=some (toksAO t0):=List.getElem?_set_self hkl
   have l1:=hsub (Str.ofString "signs") _ rfl
   have l2:=hsub (Str.ofString "files") _ rfl
   have l3:=hsub (Str.ofString "rank") _ rfl
   have l4:=hsub (Str.ofString "found") _ rfl
   refine qY (qD rfl (vI rfl rfl rfl l1 (yB (qE ⟨by decide,ne_mut_nil (by exact o191 hu) hmu0 ⟨rfl,_,rfl,fun hb=>?_,fun hb=>?_⟩⟩))))
   ·-- some token
    obtain ⟨sg,rest,rfl⟩:=toks_ne hb
    have hmu1:(mu.set k (toksAO (sg::rest)))[k]?=some (.list (rest.reverse.map tokAV++[tokAV sg])):=by rw [hmu0,toksAO,jJ]
    refine qY (qD rfl (qU (vI rfl rfl rfl l1 (ev_neg (qH ⟨_,rfl,sub_mut_last hmu1 (fun Z Z=>rfl) (pu ?_)⟩)))))
    refine qU (qM (ev_cell rfl rfl rfl l3 (wL (cp:=opCh rank) (by exact o192) (by exact o193 hr2) (op2 _ hr2) (fun Z Z=>rfl) ⟨rfl,vU ⟨rfl,_,rfl,fun hb2=>wP ?_,fun hb2=>?_⟩⟩)))
    ·-- the operator
     obtain ⟨f,b2,t2,rfl,e2,e0⟩:=rlOp e0 (S_eq1 hb2)
     refine ⟨fun Z=>?_,fun z=>nomatch z⟩
     ·have hs2:=(zP files f).1 _ _ _ _ e2
      refine vD [("signs",.mut k),("files",.lst (files.map file3AV)),("rank",.int (rank:Int)),("found",boolsAV b0)] _ hsub rfl ?_
      refine qA ?_
      refine vA rfl rfl ?_
      refine' qQ (pl:=_) (qS rfl) rfl ?_
      refine qB rfl ?_
      refine qZ F.slot_list_pop F.type_list_pop hmu1 ⟨.inr (fun a z=>nomatch z),?_⟩
      refine qE ?_
      refine qP (xG hmu1 (toks_le (o197 ht0)) ?_)
      refine ⟨trivial,?_⟩
      refine qA (qR rfl rfl ?_)
      refine qW rfl hK.g_law_read hK.p_law_read ?_
      refine qC rfl (qB rfl (qC rfl (qB rfl (qC rfl (qK (vK rfl (qH (xQ (pu (qE ?_))))))))))
      refine qP (ih f (by exact o54 hfm) (rank+1) rest b2 t2 k e2 (by exact o111 hr2) (by exact o195 hd hfm) (by exact o196 hu hfm) (by exact o197 ht0) (List.getElem?_set_self (by rw [List.length_set];exact hkl)) ?_)
      refine qA ?_
      refine vD [("signs",.mut k),("files",.lst (files.map file3AV)),("rank",.int (rank:Int)),("found",boolsAV b0),("other",boolsAV b2)] (mu.set k (toksAO t2)) (.cons rfl (.cons rfl (.cons rfl (.cons rfl (.cons rfl (.nil _)))))) (by show ((mu.set k _).set k _).set k _=_;rw [List.set_set,List.set_set]) ?_
      refine' gI rfl rfl rfl (fun Z=>rfl) rfl rfl (by decide) (by decide) (fun C=>by exact ⟨qI rfl rfl,qI rfl rfl,trivial⟩) (by exact xO rfl) ?_
      refine' xE rfl rfl rfl rfl rfl (qS rfl) ?k7 rfl (by decide) (fun a z=>nomatch z) ?_
      case k7=>exact hK.b_zip
      refine qC rfl (qB rfl (qC rfl (qB rfl (qE ?_))))
      refine ic_zipB ?_
      refine ⟨zip_le hf hb0,[("rank",.int (rank:Int))],?_,fun C=>?_⟩
      ·intro p hp
       rw [List.mem_singleton.mp hp]
       exact ⟨rfl,.inl rfl,.inl rfl,L+1,rfl,rfl⟩
      refine vJ pairAV (fun p=>.bool (comb rank p)) (fun p=>[("rank",.int (rank:Int)),("a",.bool p.1),("b",.bool p.2)]) _ _ (fun Z Z=>rfl) (fun Z Z=>rfl) (fun Z Z=>rfl) (fun p hp raws=>?_) ?_
      ·refine wH (qD rfl (vK rfl (qH (wM (pu ?_)))))
       refine ⟨_,rfl,fun hb=>?_,fun hb=>?_⟩
       ·have h1:rank=1:=o199 (of_decide_eq_true hb)
        refine ev_and ?_
        refine qB rfl (qT ?_)
        refine ⟨fun ha=>yQ ?_,fun ha=>?_⟩
        ·refine qB rfl ?_
         exact ⟨rfl,by rw [comb,if_pos h1,ha];rfl⟩
        ·exact ⟨rfl,by rw [comb,if_pos h1,ha];rfl⟩
       ·have h1:¬rank=1:=o200 (of_decide_eq_false hb)
        refine ev_or ?_
        refine qB rfl (qT ?_)
        refine ⟨fun ha=>yQ ?_,fun ha=>?_⟩
        ·refine qB rfl ?_
         exact ⟨rfl,by rw [comb,if_neg h1,ha];rfl⟩
        ·exact ⟨rfl,by rw [comb,if_neg h1,ha];rfl⟩
      ·refine qF ?_
       refine ⟨f,Nat.lt_succ_self _,by exact o54 hfm,(b0.zip b2).map (comb rank),t2,_,e0,zip_lem hb0,by exact o201 ht0 hs2,.cons rfl (.cons rfl (.cons rfl (.cons ?_ (.nil _)))),rfl⟩
       show some _=some _
       simp
    ·-- another sign
     refine ⟨fun z=>(nomatch z),fun Z=>?_⟩
     obtain ⟨rfl,rfl⟩:=rlNo e0 (fun u q=>S_ne1 hb2 (List.cons.inj q).1)
     refine qF (qA (qO (vI rfl rfl rfl l4 ?_)))
     exact h
   ·-- no token left
    obtain ⟨rfl,rfl⟩:=rlNil e0 hb
    refine ⟨fun z=>(nomatch z),fun Z=>?_⟩
    refine qF (qA (qO (vI rfl rfl rfl l4 ?_)))
    exact h
  ·have hr2:rank=2:=o202 hr (Int.not_lt.mp (of_decide_eq_false hb))
   subst hr2
   obtain ⟨sg,rest,rfl,e9⟩:=rdHi e
   ·have hmu1:mu[k]?=some (.list (rest.reverse.map tokAV++[tokAV sg])):=by rw [hmu,toksAO,jJ]
    refine qF ?_
    refine qA ?_
    refine xC (zJ (cc:=L+2) rfl (fun z=>nomatch z) rfl rfl) rfl ?_
    refine' qQ (pl:=_) (qS rfl) rfl ?_
    refine qB rfl ?_
    refine qZ F.slot_list_pop F.type_list_pop hmu1 ⟨.inr (fun a z=>nomatch z),?_⟩
    refine qE ?_
    refine qP (xG hmu1 (toks_le (o197 hts)) ?_)
    refine vD [("signs",.mut k),("files",.lst (files.map file3AV)),("rank",.int ((2:Nat):Int)),("sign",tokAV sg)] (mu.set k (toksAO rest)) (.cons rfl (.cons rfl (.cons rfl (.cons rfl (.nil _))))) rfl ?_
    have hmu2:(mu.set k (toksAO rest))[k]?=some (toksAO rest):=List.getElem?_set_self hkl
    refine qA ?_
    refine qL (qD rfl (vK rfl (qM (vU (pu ?_)))))
    refine ⟨_,rfl,fun hb=>?_,fun hb=>?_⟩
    ·obtain ⟨b1,e1,rfl⟩:=rdNo e9 (S_eq33 hb)
     have hl1:=(rd_len files m).1 _ _ _ _ e1
     refine qA (qO ?_)
     refine' wI (fun Z=>rfl) rfl rfl (by decide) (by decide) (fun C=>by exact qI rfl rfl) (by exact (fun x cc h=>by cases h)) ?_
     refine xD ?_
     refine qW rfl hK.g_law_read hK.p_law_read ?_
     refine qC rfl (qB rfl (qC rfl (qB rfl (qC rfl (qH (qE ?_))))))
     refine qP (ih m (Nat.le_refl _) 2 rest b1 t k e1 (by exact o114) (by exact o188 hd) (by exact o189 hu) (by exact o197 hts) hmu2 ?_)
     refine ⟨_,rfl,by simp;exact o203 hf hl1,[],fun p hp=>(nomatch hp),fun C=>?_⟩
     refine vJ AV.bool (fun b=>.bool (!b)) (fun b=>[("hold",.bool b)]) b1 _ (fun Z Z=>rfl) (fun Z Z=>rfl) (fun Z Z=>rfl) (fun g hg raws=>?_) ?_
     ·refine ev_not (qB rfl (qT ?_))
      exact ⟨rfl,rfl⟩
     exact set_not (mu:=mu) h
    have n33:=S_ne33 hb
    refine qF (qA (qL (qD rfl (vK rfl (qM (vU (pu ?_)))))))
    refine ⟨_,rfl,fun hb=>?_,fun hb=>?_⟩
    ·obtain ⟨cl,e1⟩:=rdPa e9 (S_eq40 hb)
     have hs1:=(zP files m).1 _ _ _ _ e1
     refine qA ?_
     refine qR rfl rfl ?_
     refine qW rfl hK.g_law_read hK.p_law_read ?_
     refine qC rfl (qB rfl (qC rfl (qB rfl (qC rfl (qH (qE ?_))))))
     refine qP (ih m (Nat.le_refl _) 0 rest b (cl::t) k e1 (by exact o116) (by exact o188 hd) (by exact o189 hu) (by exact o197 hts) hmu2 ?_)
     refine qA ?_
     have hmu3:((mu.set k (toksAO rest)).set k (toksAO (cl::t)))[k]?=some (.list (t.reverse.map tokAV++[tokAV cl])):=by rw [List.getElem?_set_self (by rw [List.length_set];exact hkl),toksAO,jJ]
     refine vA rfl rfl ?_
     refine' qQ (pl:=_) (qS rfl) rfl ?_
     refine qB rfl ?_
     refine qZ F.slot_list_pop F.type_list_pop hmu3 ⟨.inr (fun a z=>nomatch z),?_⟩
     refine qE ?_
     refine qP (xG hmu3 (toks_le (Nat.le_trans (o54 hs1) (o197 hts))) ?_)
     refine ⟨trivial,?_⟩
     refine qA (qO (qB rfl ?_))
     exact set3 (P:=K (boolsAV b)) h
    obtain ⟨ch,w,rfl,hg1,hg2,rfl,rfl⟩:=rdWo e9 n33 (S_ne40 hb)
    refine qF (qA (qO ?_))
    refine' wI (fun Z=>rfl) rfl rfl (by decide) (by decide) (fun C=>by exact ⟨qI rfl rfl,qI rfl rfl,qI rfl rfl,trivial⟩) (by exact xO rfl) ?_
    refine xD ?_
    refine qB rfl ?_
    refine ⟨_,rfl,len_file hf,[("sign",tokAV (ch::w))],?_,fun C=>?_⟩
    ·intro p hp
     rw [List.mem_singleton.mp hp]
     exact ⟨rfl,.inl rfl,.inl rfl,L+2,rfl,rfl⟩
    refine vJ file3AV (fun f=>.bool (wordHolds (ch::w) f.1 f.2.1 f.2.2)) (fun f=>[("sign",tokAV (ch::w)),("mode",.int (f.1:Int)),("name",.str (S f.2.1)),("kind",.str (S f.2.2))]) files _ (fun Z Z=>rfl) (fun Z Z=>rfl) (fun Z Z=>rfl) (fun g hg raws=>?_) ?_
    ·refine qW rfl hK.g_law_holds hK.p_law_holds ?_
     refine qC rfl (vK rfl (qC rfl (qB rfl (qC rfl (qB rfl (qC rfl (qB rfl (qE ?_))))))))
     exact qG (c_holds hK ch w g.1 g.2.1 g.2.2 hg1 hg2 (by exact o205 hd) ⟨rfl,rfl,rfl⟩)
    exact bools_map h
end c_read_step
section
variable {c:Cx}{d u:Nat}{env:Env}{σ:St}{mu:List AO}{K:AV→List AO→Prop}
theorem c_read_step{c files m d u K mu k}:c_read_step.Cq c files m d u K mu k:=@eps _ _ c_read_step.Dq c_read_step.tq rfl @c_read_step.T0 (c,files,m,d,u,K,mu,k)
theorem c_read(hK:Keys c.K)(files:List File3)(hf:files.length≤100):∀(n:Nat),∀(m:Nat),m≤n→ReadS c files m:=by
 intro n
 induction n with
 | zero =>
  intro m hm d u K mu rank ts b t k e
  cases Nat.le_zero.mp hm
  cases e
 | succ n ih =>
  intro m hm d u K mu rank ts b t k e hr hd hu hts hmu h
  cases m with
  | zero=>cases e
  | succ m=>exact c_read_step hK hf (fun m' hm'=>ih m' (o184 hm hm')) rank ts b t e hr hd hu hts hmu h
end
end
section
section
variable {c:Cx}{d u:Nat}{env:Env}{σ:St}{mu:List AO}{K:AV→List AO→Prop}
theorem and_fmt(m:Nat):m &&& 61440=m / 4096%16*4096:=by
 have e:(61440:Nat)=15 <<< 12:=by decide
 have e2:m / 4096%16*4096=((m >>> 12) &&& 15) <<< 12:=by
  rw [Nat.shiftLeft_eq,Nat.shiftRight_eq_div_pow,show (15:Nat)=2 ^ 4 - 1 by decide,Nat.and_two_pow_sub_one_eq_mod]
 rw [e,e2]
 apply Nat.eq_of_testBit_eq
 intro i
 simp only [Nat.testBit_and,Nat.testBit_shiftLeft,Nat.testBit_shiftRight]
 by_cases h:12≤i
 ·simp [h]
 ·simp [h]
theorem and_perm(m:Nat):m &&& 4095=m%4096:=by
 rw [show (4095:Nat)=2 ^ 12 - 1 by decide,Nat.and_two_pow_sub_one_eq_mod]
theorem zY{α:Type}(l:List α)(x:α):(l++[x])[l.length]?=some x:=by simp
noncomputable def toldOf(q:Nat):List Bool:=[q==1,q==2,q==4,q==6,q==8,q==10,q==12,false,false,false]
noncomputable def kindSigns:List Nat:=[112,99,100,98,45,108,115,68,80,87]
noncomputable def kindParts (q:Nat):List Str:=(kindSigns.zip (toldOf q)).map fun p=>if p.2=true then S [p.1] else Str.ofString ""
noncomputable abbrev signBool(p:Nat×Bool):AV:=.tup [.str (S [p.1]),.bool p.2]
theorem kind_join:∀q:Nat,q < 16→JoinOk (Str.ofString "") (kindParts q)=true∧(if (Txt.join (Str.ofString "") (kindParts q) != Str.ofString "")=true then Txt.join (Str.ofString "") (kindParts q) else Str.ofString "?")=S [[63,112,99,63,100,63,98,63,45,63,108,63,115,63,63,63].getD q 63]:=by
 intro q hq
 have:∀j:Fin 16,JoinOk (Str.ofString "") (kindParts (j:Nat))=true∧(if (Txt.join (Str.ofString "") (kindParts (j:Nat)) != Str.ofString "")=true then Txt.join (Str.ofString "") (kindParts (j:Nat)) else Str.ofString "?")=S [[63,112,99,63,100,63,98,63,45,63,108,63,115,63,63,63].getD (j:Nat) 63]:=by decide +kernel
 exact this ⟨q,hq⟩
end
namespace c_kind
noncomputable def Cq(c:Cx)(d u:Nat)(mu:List AO)(K:AV→List AO→Prop)(m:Nat):Prop:=∀(hK:Keys c.K) (hdp:d+2 < recursionLimit) (h:K (.str (S [kindCh m])) mu),CallOK c d u (.ref 928) [.int (m:Int)] [] mu K
noncomputable def Dq(p:Cx×Nat×Nat×(List AO)×(AV→List AO→Prop)×Nat):Prop:=Cq p.1 p.2.1 p.2.2.1 p.2.2.2.1 p.2.2.2.2.1 p.2.2.2.2.2
def tq:=@ep _ (by have:=neCx;infer_instance) Dq
def c:=tq.1
def d:=tq.2.1
def u:=tq.2.2.1
def mu:=tq.2.2.2.1
def K:=tq.2.2.2.2.1
def m:=tq.2.2.2.2.2
theorem T0:Cq c d u mu K m:=by
 intro hK hdp h
 refine' enter1 (n1:="mode") hK.k_law_kind (by exact o206 hdp) (fun Z Z Z Z Z Z=>rfl) rfl ?h
 case h =>
  intro cdv L
  have eb:∀v:Nat,(Builtin.bitAnd (m:Int) 61440==(v*4096:Int))=(m / 4096%16==v):=fun v=>by
   rw [show Builtin.bitAnd (m:Int) 61440=((m &&& 61440:Nat):Int) from wE m 61440,and_fmt,Bool.eq_iff_iff]
   simp only [beq_iff_eq]
   exact o207
  refine ss_freeze (pre:=f_law_kind.body.take 2) (rest:=f_law_kind.body.drop 2) (Str.ofString "told") rfl ?_
  refine qA ?_
  refine' qR ?y22z0 ?y22z1 ?_
  case y22z0=>rfl
  case y22z1=>rfl
  refine jC ?_
  refine qC rfl ?_
  refine qW rfl hK.g_S_ISFIFO hK.p_S_ISFIFO ?_
  refine qC rfl (qB rfl (qE ?_))
  refine qG (c_isfifo hK (by exact o208 hdp) (pu ?_))
  refine qC rfl ?_
  refine qW rfl hK.g_S_ISCHR hK.p_S_ISCHR ?_
  refine qC rfl (qB rfl (qE ?_))
  refine qG (c_ischr hK (by exact o208 hdp) (pu ?_))
  refine qC rfl ?_
  refine qW rfl hK.g_S_ISDIR hK.p_S_ISDIR ?_
  refine qC rfl (qB rfl (qE ?_))
  refine qG (c_isdir hK (by exact o208 hdp) (pu ?_))
  refine qC rfl ?_
  refine qW rfl hK.g_S_ISBLK hK.p_S_ISBLK ?_
  refine qC rfl (qB rfl (qE ?_))
  refine qG (c_isblk hK (by exact o208 hdp) (pu ?_))
  refine qC rfl ?_
  refine qW rfl hK.g_S_ISREG hK.p_S_ISREG ?_
  refine qC rfl (qB rfl (qE ?_))
  refine qG (c_isreg hK (by exact o208 hdp) (pu ?_))
  refine qC rfl ?_
  refine qW rfl hK.g_S_ISLNK hK.p_S_ISLNK ?_
  refine qC rfl (qB rfl (qE ?_))
  refine qG (c_islnk hK (by exact o208 hdp) (pu ?_))
  refine qC rfl ?_
  refine qW rfl hK.g_S_ISSOCK hK.p_S_ISSOCK ?_
  refine qC rfl (qB rfl (qE ?_))
  refine qG (c_issock hK (by exact o208 hdp) (pu ?_))
  refine qE ?_
  refine ⟨by show 7≤1000;decide,?_⟩
  refine qA ?_
  refine vA rfl rfl ?_
  refine' qQ ?y16z0 ?y16z1 ?_
  case y16z0=>exact qS (by rfl)
  case y16z1=>rfl
  refine qB rfl ?_
  have hmu:=zY mu (AO.list [AV.bool (Builtin.bitAnd (m:Int) 61440==4096),AV.bool (Builtin.bitAnd (m:Int) 61440==8192),AV.bool (Builtin.bitAnd (m:Int) 61440==16384),AV.bool (Builtin.bitAnd (m:Int) 61440==24576),AV.bool (Builtin.bitAnd (m:Int) 61440==32768),AV.bool (Builtin.bitAnd (m:Int) 61440==40960),AV.bool (Builtin.bitAnd (m:Int) 61440==49152)])
  refine qZ F.slot_list_extend F.type_list_extend hmu ⟨.inr (fun a z=>nomatch z),?_⟩
  refine qC rfl (yB ?_)
  refine qC rfl ?_
  refine qW rfl hK.g_S_ISDOOR hK.p_S_ISDOOR ?_
  refine qC rfl (qB rfl (qE ?_))
  refine qG (c_isdoor hK (by exact o209 hdp) (pu ?_))
  refine qC rfl ?_
  refine qW rfl hK.g_S_ISPORT hK.p_S_ISPORT ?_
  refine qC rfl (qB rfl (qE ?_))
  refine qG (c_isport hK (by exact o209 hdp) (pu ?_))
  refine qC rfl ?_
  refine qW rfl hK.g_S_ISWHT hK.p_S_ISWHT ?_
  refine qC rfl (qB rfl (qE ?_))
  refine qG (c_iswht hK (by exact o209 hdp) (pu ?_))
  refine qE ?_
  refine ⟨by show 3≤1000;decide,?_⟩
  refine qE ?_
  refine qP (kK hmu (by show 7+3≤100000;decide) ?_)
  refine ⟨trivial,?_⟩
  refine qF ?_
  have e1:(Builtin.bitAnd (m:Int) 61440==4096)=(m / 4096%16==1):=eb 1
  have e2:(Builtin.bitAnd (m:Int) 61440==8192)=(m / 4096%16==2):=eb 2
  have e4:(Builtin.bitAnd (m:Int) 61440==16384)=(m / 4096%16==4):=eb 4
  have e6:(Builtin.bitAnd (m:Int) 61440==24576)=(m / 4096%16==6):=eb 6
  have e8:(Builtin.bitAnd (m:Int) 61440==32768)=(m / 4096%16==8):=eb 8
  have e10:(Builtin.bitAnd (m:Int) 61440==40960)=(m / 4096%16==10):=eb 10
  have e12:(Builtin.bitAnd (m:Int) 61440==49152)=(m / 4096%16==12):=eb 12
  have hq:m / 4096%16 < 16:=o128
  refine ⟨rfl,(toldOf (m / 4096%16)).map .bool,[("mode",.int (m:Int))],?_,kI _,rfl,.cons rfl (.nil _),fun p hp=>by rw [List.mem_singleton.mp hp];rfl,?_⟩
  ·show (mu++[AO.list _]).set mu.length (AO.list _)=_
   have sm:=fun (x y:AO)=>wZ mu x y []
   simp only [List.append_nil] at sm
   rw [sm,e1,e2,e4,e6,e8,e10,e12]
   rfl
  refine qA ?_
  refine' qR ?y23z0 ?y23z1 ?_
  case y23z0=>rfl
  case y23z1=>rfl
  refine' qQ ?y17z0 ?y17z1 ?_
  case y17z0=>exact qS (by rfl)
  case y17z1=>rfl
  refine qM ?_
  refine yZ ⟨.inr (fun a z=>nomatch z),?_⟩
  refine qC rfl ?_
  refine' wI (fun Z=>rfl) rfl rfl (by decide) (by decide) (fun C=>by exact ⟨qI rfl rfl,qI rfl rfl,trivial⟩) (by exact (fun x cc h=>h)) ?_
  refine' xE rfl rfl rfl rfl rfl (qS rfl) ?k7 rfl (by decide) (fun a z=>nomatch z) ?_
  case k7=>exact hK.b_zip
  refine qC rfl (qM (qC rfl (qB rfl (qE ?_))))
  refine ic_zipS (by decide +kernel) (by show _≤10;decide +kernel) ?_
  have ez:zipItems (signsOf (Str.ofString "pcdb-lsDPW")) ((toldOf (m / 4096%16)).map AV.bool)=(kindSigns.zip (toldOf (m / 4096%16))).map signBool:=by
   rw [show Str.ofString "pcdb-lsDPW"=S kindSigns by decide +kernel,jK]
   rfl
  rw [ez]
  refine ⟨by show 10≤100000;decide,[],fun p hp=>(nomatch hp),fun C=>?_⟩
  refine vJ signBool (fun p=>.str (if p.2=true then S [p.1] else Str.ofString "")) (fun p=>[("sign",.str (S [p.1])),("one",.bool p.2)]) _ _ (fun Z Z=>rfl) (fun Z Z=>rfl) (fun Z Z=>rfl) (fun p hp raws=>?_) ?_
  ·refine wH (qD rfl (qB rfl (wG ?_)))
   refine is_bb (pu ?_)
   refine ⟨_,rfl,fun hb=>?_,fun hb=>?_⟩
   ·have hp2:p.2=false:=by simpa using hb
    refine qM ?_
    exact ⟨rfl,by rw [hp2];rfl⟩
   ·have hp2:p.2=true:=by simpa using hb
    refine wH (qD rfl (qB rfl (wG ?_)))
    refine is_bb (pu ?_)
    refine ⟨_,rfl,fun hb=>?_,fun hb=>?_⟩
    ·refine qB rfl ?_
     exact ⟨rfl,by rw [hp2];rfl⟩
    ·rw [hp2] at hb;cases hb
  refine qE ?_
  obtain ⟨j1,j2⟩:=kind_join _ hq
  have ep:(kindSigns.zip (toldOf (m / 4096%16))).map (fun p=>AV.str (if p.2=true then S [p.1] else Str.ofString ""))=(kindParts (m / 4096%16)).map .str:=by unfold kindParts;rw [List.map_map];rfl
  rw [ep]
  refine qG (call_join j1 (pu ?_))
  refine qA (qO (wH (qD rfl (qB rfl (qM (ne_ss (pu ?_)))))))
  have hk2:S [kindCh m]=S [[63,112,99,63,100,63,98,63,45,63,108,63,115,63,63,63].getD (m / 4096%16) 63]:=rfl
  refine ⟨_,rfl,fun hb=>?_,fun hb=>?_⟩
  ·refine qB rfl ?_
   rw [if_pos hb] at j2
   rw [hk2,← j2] at h
   exact h
  ·refine qM ?_
   rw [if_neg (by rw [hb];decide)] at j2
   rw [hk2,← j2] at h
   exact h
end c_kind
section
variable {c:Cx}{d u:Nat}{env:Env}{σ:St}{mu:List AO}{K:AV→List AO→Prop}
theorem c_kind(hK:Keys c.K)(m:Nat)(hdp:d+2 < recursionLimit)(h:K (.str (S [kindCh m])) mu):CallOK c d u (.ref 928) [.int (m:Int)] [] mu K:=(@eps _ _ c_kind.Dq c_kind.tq rfl @c_kind.T0 (c,d,u,mu,K,m)) hK hdp h
end
end
section
variable {c:Cx}{d u:Nat}{env:Env}{σ:St}{mu:List AO}{K:AV→List AO→Prop}
noncomputable def writtenTab:List (Str×Str):=[("n",Str.ofString "n"),("n|",Str.ofString "'n|'"),("n(",Str.ofString "'n('"),("n it's",Str.ofString "'n it'\"'\"'s'"),("n\n",Str.ofString "'n\n'"),("n#)",Str.ofString "'n#)'")]
noncomputable def writtenL(n:List Nat):List Nat:=((writtenTab.lookup (S n)).getD (S [])).cps.toList
theorem hZ:∀n∈nameTab,writtenTab.lookup (S n)=some (S (writtenL n))∧(writtenL n).length≤20:=by decide +kernel
noncomputable def markL(m:Nat):List Nat:=if kindCh m=63 then [39] else []
noncomputable def shownL(m:Nat)(n:List Nat):List Nat:=markL m++signsL m++markL m++[32]++octL 3 (m%4096)++[32]++writtenL n
theorem vE{x y:Str}{k:Nat}{pos:Pos}{K:AV→St→Prop}(e:x=y)(h:K (.str y) σ):EvOK c d u env (.Constant (.str x) k pos) σ K:=qM (by rw [e];exact h)
theorem ev_same{e:Expr}{K:AV→St→Prop}(v:AV)(h1:EvOK c d u env e σ (fun av σ'=>av=v∧σ'=σ))(h2:K v σ):EvOK c d u env e σ K:=h1.mono fun Z Z h=>by obtain ⟨rfl,rfl⟩:=h;exact h2
theorem xW(m:Nat):(signsL m).length=10:=rfl
theorem ofS39:Str.ofString "'"=S [39]:=by decide +kernel
theorem ofS0:Str.ofString ""=S []:=by decide +kernel
theorem ofS32:Str.ofString " "=S [32]:=by decide +kernel
theorem ofS63:Str.ofString "?"=S [63]:=by decide +kernel
theorem c_shown(hK:Keys c.K)(m:Nat)(n:List Nat)(hn:n∈nameTab)(hdp:d+5 < recursionLimit)(h:K (.str (S (shownL m n))) mu):CallOK c d u (.ref 901) [.int (m:Int),.str (S n)] [] mu K:=by
 refine zH ?_
 refine' enter2 (n1:="mode") (n2:="name") hK.k_law_shown (by exact o210 hdp) (fun Z Z Z Z Z Z Z=>rfl) rfl ?h
 case h =>
  intro cdv L
  obtain ⟨hw1,hw2⟩:=hZ n hn
  have hs10:=xW m
  have hmk:(markL m).length≤1:=by unfold markL;split <;> simp
  refine qA ?_
  refine' qR ?y20z0 ?y20z1 ?_
  case y20z0=>rfl
  case y20z1=>rfl
  refine ev_same (.str (S (markL m))) ?_ ?_
  ·refine wH (qD rfl (qU ?_))
   refine qW rfl hK.g_law_signs hK.p_law_signs ?_
   refine qC rfl (qB rfl (qE ?_))
   refine qG (hY hK m (by exact o211 hdp) (pu ?_))
   refine qH ?_
   refine wL (cp:=kindCh m) (by decide) (by decide) rfl (fun Z Z=>rfl) (pu ?_)
   refine qM (vU (pu ?_))
   rw [ofS63,show (⟨#[kindCh m]⟩:Str)=S [kindCh m] from rfl,wY]
   refine ⟨_,rfl,fun hb=>?_,fun hb=>?_⟩
   ·have h1:kindCh m=63:=by simpa using hb
    refine vE ofS39 ⟨?_,rfl⟩
    unfold markL;rw [if_pos h1]
   ·have h1:¬kindCh m=63:=by simpa using hb
    refine vE ofS0 ⟨?_,rfl⟩
    unfold markL;rw [if_neg h1]
  refine qA ?_
  refine' qR ?y21z0 ?y21z1 ?_
  case y21z0=>rfl
  case y21z1=>rfl
  with_reducible refine ev_dictS (ps:=writtenTab) ?ka ?kb ?kc ?kd ?ke ?kf ?kg
  case kc=>rfl
  case kd=>rfl
  case ke=>exact (fun z=>nomatch z)
  case kf=>decide
  case kb=>decide +kernel
  case ka=>repeat constructor
  intro o ho
  have hmu:(mu++[AO.raw o])[mu.length]?=some (.raw o):=zY mu _
  refine qA (qO (qK (qK (qK (qK (qK (qK (qB rfl ?_))))))))
  refine qW rfl hK.g_law_signs hK.p_law_signs ?_
  refine qC rfl (qB rfl (qE ?_))
  refine qG (hY hK m (by exact o211 hdp) (pu ?_))
  refine wJ (by unfold sizeLine;exact o212 hs10 hmk) (pu ?_)
  refine qB rfl ?_
  refine wJ (by unfold sizeLine;simp;exact o213 hs10 hmk) (pu ?_)
  refine vE ofS32 ?_
  refine wJ (by unfold sizeLine;simp;exact o214 hs10 hmk) (pu ?_)
  refine qW rfl hK.g_law_figures hK.p_law_figures ?_
  refine qC rfl (qK (qB rfl (qH (vW (by decide) (pu (qE ?_))))))
  rw [show (m:Int)%4096=((m%4096:Nat):Int) by exact o215]
  have ho3:=xT 3 (m%4096)
  refine qG (jX hK 3 (m%4096) (by exact o216) (by exact o217) (by exact o218 hdp) (pu ?_))
  refine wJ (by unfold sizeLine;simp;exact o219 hs10 hmk ho3) (pu ?_)
  refine vE ofS32 ?_
  refine wJ (by unfold sizeLine;simp;exact o220 hs10 hmk ho3) (pu ?_)
  refine qU (qB rfl (qB rfl ?_))
  refine sub_dictS hmu ho hw1 (fun Z Z=>rfl) (pu ?_)
  refine wJ (by unfold sizeLine;simp;exact o221 hw2 hs10 hmk ho3) (pu ?_)
  exact ⟨_,rfl,rfl,h⟩
end
section
section
variable {c:Cx}{d u:Nat}{env:Env}{σ:St}{mu:List AO}{K:AV→List AO→Prop}
theorem and_bit(m k:Nat):(m &&& 2 ^ k==2 ^ k)=m.testBit k:=by
 rw [Bool.eq_iff_iff,beq_iff_eq]
 constructor
 ·intro h
  have:=congrArg (fun n=>n.testBit k) h
  simpa [Nat.testBit_and,Nat.testBit_two_pow] using this
 ·intro h
  apply Nat.eq_of_testBit_eq
  intro i
  rw [Nat.testBit_and,Nat.testBit_two_pow]
  by_cases e:k=i
  ·subst e;simp [h]
  ·simp [e]
theorem and_bits(m j k:Nat):(m &&& (2 ^ j ||| 2 ^ k)==(2 ^ j ||| 2 ^ k))=(m.testBit j&&m.testBit k):=by
 rw [Bool.eq_iff_iff,beq_iff_eq,Bool.and_eq_true]
 constructor
 ·intro h
  have h1:=congrArg (fun n=>n.testBit j) h
  have h2:=congrArg (fun n=>n.testBit k) h
  simp [Nat.testBit_and,Nat.testBit_or,Nat.testBit_two_pow] at h1 h2
  exact ⟨h1,h2⟩
 ·rintro ⟨h1,h2⟩
  apply Nat.eq_of_testBit_eq
  intro i
  rw [Nat.testBit_and,Nat.testBit_or,Nat.testBit_two_pow,Nat.testBit_two_pow]
  by_cases e:j=i
  ·subst e;simp [h1]
  ·by_cases e2:k=i
   ·subst e2;simp [h2]
   ·simp [e,e2]
theorem tb(m k:Nat):m.testBit k=(m / 2 ^ k%2==1):=by
 rw [Nat.testBit_eq_decide_div_mod_eq,Bool.eq_iff_iff];simp
noncomputable def pickP(m:Nat)(i:Nat)(p:Int×Nat):Bool:=if i=0 then Builtin.bitAnd (m:Int) 61440==p.1 else Builtin.bitAnd (m:Int) p.1==p.1
noncomputable def pick(m:Nat)(i:Nat)(r:List (Int×Nat)):Nat:=match r.find? (pickP m i) with | some p=>p.2 | none=>if i=0 then 63 else 45
theorem wR(m v:Nat)(ch:Nat)(z:Int)(hz:z=((v*4096:Nat):Int)):pickP m 0 (z,ch)=(m / 4096%16==v):=by
 subst hz
 show (Builtin.bitAnd (m:Int) 61440==((v*4096:Nat):Int))=_
 rw [show Builtin.bitAnd (m:Int) 61440=((m &&& 61440:Nat):Int) from wE m 61440,and_fmt,Bool.eq_iff_iff]
 simp only [beq_iff_eq]
 exact o222
theorem jP(m i k ch:Nat)(z:Int)(hz:z=((2 ^ k:Nat):Int))(hi:¬i=0):pickP m i (z,ch)=(m / 2 ^ k%2==1):=by
 subst hz
 rw [pickP,if_neg hi]
 show (Builtin.bitAnd (m:Int) ((2 ^ k:Nat):Int)==((2 ^ k:Nat):Int))=_
 rw [wE,← tb,← and_bit,Bool.eq_iff_iff]
 simp only [beq_iff_eq]
 exact Int.ofNat_inj
theorem pickP_bits(m i j k ch:Nat)(z:Int)(hz:z=((2 ^ j ||| 2 ^ k:Nat):Int))(hi:¬i=0):pickP m i (z,ch)=((m / 2 ^ j%2==1)&&(m / 2 ^ k%2==1)):=by
 subst hz
 rw [pickP,if_neg hi]
 show (Builtin.bitAnd (m:Int) ((2 ^ j ||| 2 ^ k:Nat):Int)==((2 ^ j ||| 2 ^ k:Nat):Int))=_
 rw [wE,← tb,← tb,← and_bits,Bool.eq_iff_iff]
 simp only [beq_iff_eq]
 exact o180
theorem pick0(m:Nat):pick m 0 [(40960,108),(49152,115),(32768,45),(24576,98),(16384,100),(8192,99),(4096,112)]=kindCh m:=by
 have hq:m / 4096%16 < 16:=o128
 unfold pick kindCh
 rw [List.find?_cons,wR m 10 _ _ (by decide),List.find?_cons,wR m 12 _ _ (by decide),List.find?_cons,wR m 8 _ _ (by decide),List.find?_cons,wR m 6 _ _ (by decide),List.find?_cons,wR m 4 _ _ (by decide),List.find?_cons,wR m 2 _ _ (by decide),List.find?_cons,wR m 1 _ _ (by decide)]
 generalize m / 4096%16=q at hq
 match q,hq with
 | 0,_ | 1,_ | 2,_ | 3,_ | 4,_ | 5,_ | 6,_ | 7,_ | 8,_ | 9,_ | 10,_ | 11,_ | 12,_ | 13,_ | 14,_ | 15,_=>rfl
 | q+16,hq=>exact absurd hq (by exact o223)
theorem pick1(m i k ch:Nat)(z:Int)(hz:z=((2 ^ k:Nat):Int))(hi:¬i=0):pick m i [(z,ch)]=[45,ch].getD (m / 2 ^ k%2) 0:=by
 unfold pick
 rw [List.find?_cons,jP m i k ch z hz hi,if_neg hi]
 have hq:m / 2 ^ k%2 < 2:=o224
 generalize m / 2 ^ k%2=q at hq
 match q,hq with
 | 0,_ | 1,_=>rfl
theorem pick3(m i j k c1 c2 c3:Nat)(z1 z2 z3:Int)(h1:z1=((2 ^ k ||| 2 ^ j:Nat):Int))(h2:z2=((2 ^ j:Nat):Int))(h3:z3=((2 ^ k:Nat):Int))(hi:¬i=0):pick m i [(z1,c1),(z2,c2),(z3,c3)]=[45,c3,c2,c1].getD (m / 2 ^ j%2*2+m / 2 ^ k%2) 0:=by
 unfold pick
 rw [List.find?_cons,pickP_bits m i k j c1 z1 h1 hi,List.find?_cons,jP m i j c2 z2 h2 hi,List.find?_cons,jP m i k c3 z3 h3 hi,if_neg hi]
 have hq:m / 2 ^ k%2 < 2:=o224
 have hr:m / 2 ^ j%2 < 2:=o224
 generalize m / 2 ^ k%2=q at hq
 generalize m / 2 ^ j%2=r at hr
 match q,hq,r,hr with
 | 0,_,0,_ | 0,_,1,_ | 1,_,0,_ | 1,_,1,_=>rfl
theorem g84(x:Nat):x%8 / 4=x / 4%2:=Nat.mod_mul_right_div_self x 4 2
theorem g82(x:Nat):x%8 / 2%2=x / 2%2:=(congrArg (·%2) (Nat.mod_mul_right_div_self x 2 4)).trans (Nat.mod_mod_of_dvd _ (by decide))
theorem g81(x:Nat):x%8%2=x%2:=Nat.mod_mod_of_dvd _ (by decide)
end
namespace picks_signs
noncomputable def Cq(m:Nat):Prop:=(modeTab.zipIdx.map fun p=>pick m p.2 p.1)=signsL m
noncomputable def Dq(p:Nat):Prop:=Cq p
def tq:=@ep _ _ Dq
def m:=tq
theorem T0 :(modeTab.zipIdx.map fun p=>pick m p.2 p.1)=signsL m:=by
 show [pick m 0 _,pick m 1 _,pick m 2 _,pick m 3 _,pick m 4 _,pick m 5 _,pick m 6 _,pick m 7 _,pick m 8 _,pick m 9 _]=_
 rw [pick0,pick1 m 1 8 114 256 (by decide) (by decide),pick1 m 2 7 119 128 (by decide) (by decide),pick3 m 3 11 6 115 83 120 2112 2048 64 (by decide) (by decide) (by decide) (by decide),
  pick1 m 4 5 114 32 (by decide) (by decide),pick1 m 5 4 119 16 (by decide) (by decide),pick3 m 6 10 3 115 83 120 1032 1024 8 (by decide) (by decide) (by decide) (by decide),
  pick1 m 7 2 114 4 (by decide) (by decide),pick1 m 8 1 119 2 (by decide) (by decide),pick3 m 9 9 0 116 84 120 513 512 1 (by decide) (by decide) (by decide) (by decide)]
 unfold signsL tri
 have a1:m / 8 ^ (2 - 0)%8 / 4=m / 2 ^ 8%2:=(g84 (m / 64)).trans (congrArg (·%2) (Nat.div_div_eq_div_mul m 64 4))
 have a2:m / 8 ^ (2 - 0)%8 / 2%2=m / 2 ^ 7%2:=(g82 (m / 64)).trans (congrArg (·%2) (Nat.div_div_eq_div_mul m 64 2))
 have a3:m / 8 ^ (2 - 0)%8%2=m / 2 ^ 6%2:=g81 (m / 64)
 have b1:m / 8 ^ (2 - 1)%8 / 4=m / 2 ^ 5%2:=(g84 (m / 8)).trans (congrArg (·%2) (Nat.div_div_eq_div_mul m 8 4))
 have b2:m / 8 ^ (2 - 1)%8 / 2%2=m / 2 ^ 4%2:=(g82 (m / 8)).trans (congrArg (·%2) (Nat.div_div_eq_div_mul m 8 2))
 have b3:m / 8 ^ (2 - 1)%8%2=m / 2 ^ 3%2:=g81 (m / 8)
 have c1:m / 8 ^ (2 - 2)%8 / 4=m / 2 ^ 2%2:=(g84 (m / 1)).trans (congrArg (·%2) (Nat.div_div_eq_div_mul m 1 4))
 have c2:m / 8 ^ (2 - 2)%8 / 2%2=m / 2 ^ 1%2:=(g82 (m / 1)).trans (congrArg (·%2) (Nat.div_div_eq_div_mul m 1 2))
 have c3:m / 8 ^ (2 - 2)%8%2=m / 2 ^ 0%2:=g81 (m / 1)
 simp only [a1,a2,a3,b1,b2,b3,c1,c2,c3,List.cons_append,List.nil_append]
 have e:∀r q:Nat,r < 2→q < 2→[45,120,83,115].getD (r*2+q) 0=[45,120,83,115,45,120,84,116].getD (0*4+r*2+q) 0∧[45,120,83,115].getD (r*2+q) 0=[45,120,83,115,45,120,84,116].getD (1 / 2*4+r*2+q) 0∧[45,120,84,116].getD (r*2+q) 0=[45,120,83,115,45,120,84,116].getD (2 / 2*4+r*2+q) 0:=by
  intro r q hr hq
  match q,hq,r,hr with
  | 0,_,0,_ | 0,_,1,_ | 1,_,0,_ | 1,_,1,_=>decide
 rw [(e _ _ (Nat.mod_lt _ (by decide)) (Nat.mod_lt _ (by decide))).1,(e (m / 2 ^ 10%2) (m / 2 ^ 3%2) (Nat.mod_lt _ (by decide)) (Nat.mod_lt _ (by decide))).2.1,(e (m / 2 ^ 9%2) (m / 2 ^ 0%2) (Nat.mod_lt _ (by decide)) (Nat.mod_lt _ (by decide))).2.2]
end picks_signs
section
variable {c:Cx}{d u:Nat}{env:Env}{σ:St}{mu:List AO}{K:AV→List AO→Prop}
theorem picks_signs(m:Nat):(modeTab.zipIdx.map fun p=>pick m p.2 p.1)=signsL m:=(@eps _ _ picks_signs.Dq picks_signs.tq rfl @picks_signs.T0 (m))
theorem enum_rows:∀(n:Nat) (l:List (List (Int×Nat))),enumItems n (l.map rowAV)=(l.zipIdx n).map fun p=>AV.tup [.int (p.2:Int),rowAV p.1]
 | n,[]=>rfl
 | n,a::l=>by simp only [List.map_cons,enumItems,List.zipIdx_cons];rw [enum_rows (n+1) l]
noncomputable abbrev permAV(l:List Nat):List AV:=l.map fun ch=>.str (S [ch])
theorem perm_snoc(l:List Nat)(ch:Nat):permAV (l++[ch])=permAV l++[AV.str (S [ch])]:=by simp [permAV]
theorem flats_perm(l:List Nat):flats (permAV l)=true:=xA (fun Z=>rfl) l
noncomputable def joinL(sep:List Nat):List (List Nat)→List Nat
 | []=>[]
 | x::r=>r.foldl (fun acc p=>acc++sep++p) x
theorem join_fold(sep:List Nat)(r:List (List Nat)):∀x:List Nat,(r.map S).foldl (fun (acc:Array Nat) p=>acc++(S sep).cps++p.cps) x.toArray=(r.foldl (fun acc p=>acc++sep++p) x).toArray:=by
 induction r with
 | nil=>exact fun x=>rfl
 | cons a r ih =>
  intro x
  rw [List.map_cons,List.foldl_cons,List.foldl_cons,← ih (x++sep++a)]
  congr 1
  simp
theorem join_S(sep:List Nat)(parts:List (List Nat)):Txt.join (S sep) (parts.map S)=S (joinL sep parts):=by
 cases parts with
 | nil=>rfl
 | cons x r =>
  show (⟨(r.map S).foldl (fun (acc:Array Nat) p=>acc++(S sep).cps++p.cps) x.toArray⟩:Str)=_
  rw [join_fold]
  rfl
theorem gZ(sep:List Nat)(parts:List (List Nat))(h:(parts.map List.length).sum+parts.length*sep.length≤16000000):JoinOk (S sep) (parts.map S)=true:=by
 have key:∀(l:List (List Nat)) (n:Nat),(l.map S).foldl (fun a p=>a+p.length+(S sep).length) n=n+(l.map List.length).sum+l.length*sep.length:=by
  intro l
  induction l with
  | nil=>intro n;simp
  | cons a l ih =>
   intro n
   rw [List.map_cons,List.foldl_cons,ih,List.map_cons,List.sum_cons,List.length_cons,vV,vV,Nat.succ_mul]
   exact o225
 unfold JoinOk Builtin.Str.tooLong
 rw [List.foldl_toArray,key]
 unfold sizeLine
 simp
 exact o226 h
theorem joinL_ones:∀(l:List Nat),joinL [] (l.map fun ch=>[ch])=l:=by
 have key:∀(l x:List Nat),(l.map fun ch=>[ch]).foldl (fun acc p=>acc++([]:List Nat)++p) x=x++l:=by
  intro l
  induction l with
  | nil=>intro x;simp
  | cons a l ih=>intro x;rw [List.map_cons,List.foldl_cons,ih];simp
 intro l
 cases l with
 | nil=>rfl
 | cons a l=>show (l.map fun ch=>[ch]).foldl _ [a]=_;rw [key];rfl
theorem join_one (l:List Nat) (h:l.length≤20):JoinOk (Str.ofString "") (l.map fun ch=>S [ch])=true∧Txt.join (Str.ofString "") (l.map fun ch=>S [ch])=S l:=by
 have e:(l.map fun ch=>S [ch])=(l.map fun ch=>[ch]).map S:=by rw [List.map_map];rfl
 rw [ofS0,e]
 refine ⟨gZ [] _ ?_,?_⟩
 ·have:(l.map fun ch=>[ch]).map List.length=l.map fun Z=>1:=by rw [List.map_map];rfl
  have e2:∀l:List Nat,(l.map fun Z=>1).sum=l.length:=fun l=>by induction l with | nil=>rfl | cons a l ih=>rw [List.map_cons,List.sum_cons,ih,List.length_cons];exact o227
  rw [this,e2]
  simp
  exact o228 h
 ·rw [join_S,joinL_ones]
theorem ofS45:Str.ofString "-"=S [45]:=by decide +kernel
end
namespace c_filemode
noncomputable def Cq(c:Cx)(d u:Nat)(mu:List AO)(K:AV→List AO→Prop)(m:Nat):Prop:=∀(hK:Keys c.K) (hdp:d+5 < recursionLimit) (h:K (.str (S (signsL m))) mu),CallOK c d u (.ref 168) [.int (m:Int)] [] mu K
noncomputable def Dq(p:Cx×Nat×Nat×(List AO)×(AV→List AO→Prop)×Nat):Prop:=Cq p.1 p.2.1 p.2.2.1 p.2.2.2.1 p.2.2.2.2.1 p.2.2.2.2.2
def tq:=@ep _ (by have:=neCx;infer_instance) Dq
def c:=tq.1
def d:=tq.2.1
def u:=tq.2.2.1
def mu:=tq.2.2.2.1
def K:=tq.2.2.2.2.1
def m:=tq.2.2.2.2.2
theorem T0:Cq c d u mu K m:=by
 intro hK hdp h
 refine zH (call_wf fun hwf=>?_)
 refine' enter1 (n1:="mode") hK.k_filemode (by exact o210 hdp) (fun Z Z Z Z Z Z=>rfl) rfl ?h
 case h =>
  intro cdv L
  refine qA ?_
  refine' qR rfl rfl ?_
  refine jC ?_
  refine qE ⟨by decide,?_⟩
  refine qA ?_
  refine gH ⟨qI rfl rfl,qI rfl rfl,trivial⟩ (fun Z=>rfl) ?_
  refine' xE rfl rfl rfl rfl rfl (qS rfl) ?k7 rfl (by decide) (fun a z=>nomatch z) ?_
  case k7=>exact hK.b_enumerate
  refine qC rfl ?_
  refine ev_globX rfl rfl rfl rfl hK.g_filemode_table hK.tab ?_
  refine qE ?_
  refine ic_enum ?_
  rw [enum_rows]
  show ForOK' _ _ _ _ _ _ _ _ _ [("mode",.int (m:Int)),("perm",.mut mu.length)] (mu++[AO.list (permAV [])]) [] _
  refine for_foldB (n:=mu.length+1) (fun r l=>l.length+r.length≤15∧∀p∈r,∀q∈p.1,q.1 < 100000) (fun Z=>[("mode",.int (m:Int)),("perm",.mut mu.length)]) (fun p=>AV.tup [.int (p.2:Int),rowAV p.1]) (fun l p=>l++[pick m p.2 p.1]) (fun l=>mu++[AO.list (permAV l)]) (fun Z=>by exact List.length_append) ?_ ?_ ?_ modeTab.zipIdx [] [] ⟨by decide,by decide⟩ ?_
  ·intro xs a _ ao hao
   rcases List.mem_append.mp hao with z | z
   ·exact AO.under_mono (Nat.le_succ _) (hwf ao z)
   ·rw [List.mem_singleton.mp z]
    exact wC (flats_perm _)
  ·intro xs a _
   refine all2 ?_ ?_
   ·rfl
   ·show decide (mu.length < mu.length+1)=true;simp
  ·rintro l ⟨row,i⟩ r ⟨hI1,hI2⟩
   simp only [List.length_cons] at hI1
   refine ⟨⟨by simp;exact o229 hI1,fun p hp=>hI2 p (.tail _ hp)⟩,_,rfl,fun raws=>?_⟩
   refine ss_wf fun hwf2=>?_
   have hmu0:∀R:List AO,(mu++[AO.list (permAV l)]++raws++R)[mu.length]?=some (AO.list (permAV l)):=fun R=>by simp
   have hset:∀(ch:Nat) (R:List AO),(mu++[AO.list (permAV l)]++raws++R).set mu.length (AO.list (permAV l++[AV.str (S [ch])]))=mu++[AO.list (permAV (l++[ch]))]++raws++R:=fun ch R=>by
    have:=wZ mu (AO.list (permAV l)) (AO.list (permAV l++[AV.str (S [ch])])) (raws++R)
    rw [perm_snoc]
    simpa using this
   refine qA ?_
   refine gH ⟨qI rfl rfl,qI rfl rfl,trivial⟩ (fun Z=>rfl) ?_
   refine it_tup ?_
   refine qB rfl ?_
   refine ⟨_,rfl,?_⟩
   have hA:∀ao∈mu++[AO.list (permAV l)]++raws,ao.under (mu++[AO.list (permAV l)]++raws).length=true:=hwf2
   have turn:∀(b:Int×Nat) (R:List AO),∀body,body=(match f_filemode.body with | _::.For _ _ (.For _ _ b _ _::_) _ _::_=>b | _=>[])→SsOK c (d+1) (u+3) (envOf f_filemode.qual f_filemode.scope L 168 cdv) (execs body (envOf f_filemode.qual f_filemode.scope L 168 cdv))
     ⟨[(Str.ofString "mode",.int (m:Int)),(Str.ofString "perm",.mut mu.length),(Str.ofString "index",.int (i:Int)),(Str.ofString "table",rowAV row),(Str.ofString "bit",.int b.1),(Str.ofString "char",.str (S [b.2]))],mu++[AO.list (permAV l)]++raws++R⟩
     (fun f σ'=>(pickP m i b=false→f=.next∧σ'=⟨[(Str.ofString "mode",.int (m:Int)),(Str.ofString "perm",.mut mu.length),(Str.ofString "index",.int (i:Int)),(Str.ofString "table",rowAV row),(Str.ofString "bit",.int b.1),(Str.ofString "char",.str (S [b.2]))],mu++[AO.list (permAV l)]++raws++R⟩) ∧
      (pickP m i b=true→f=.brk∧σ'.loc=[(Str.ofString "mode",.int (m:Int)),(Str.ofString "perm",.mut mu.length),(Str.ofString "index",.int (i:Int)),(Str.ofString "table",rowAV row),(Str.ofString "bit",.int b.1),(Str.ofString "char",.str (S [b.2]))]∧σ'.mu=mu++[AO.list (permAV (l++[b.2]))]++raws++R)):=by
    rintro b R _ rfl
    refine qA ?_
    refine qL (qD rfl (qB rfl (qH (wM (pu ?_)))))
    refine ⟨_,rfl,fun hb=>?_,fun hb=>?_⟩
    ·have hi:i=0:=by simpa using hb
     subst hi
     refine qA (qL (qD rfl ?_))
     refine qW rfl hK.g_S_IFMT hK.p_S_IFMT ?_
     refine qC rfl (qB rfl (qE ?_))
     refine qG (yR hK (by exact o211 hdp) (pu ?_))
     refine qB rfl (wM (pu ?_))
     refine ⟨_,rfl,fun hp=>?_,fun hp=>?_⟩
     ·have hp':pickP m 0 b=true:=hp
      refine qA (vA rfl rfl ?_)
      refine' qQ ?y11z0 ?y11z1 ?_
      case y11z0=>exact qS (by rfl)
      case y11z1=>rfl
      refine qB rfl ?_
      refine qZ F.slot_list_append F.type_list_append (hmu0 R) ⟨.inr (fun a z=>nomatch z),?_⟩
      refine qC rfl (qB rfl (qE ?_))
      refine qP (vB (hmu0 R) (by simp;exact o230 hI1) ?_)
      refine ⟨trivial,?_⟩
      refine qA (vN ?_)
      exact ⟨fun z=>(by rw [hp'] at z;cases z),fun Z=>⟨rfl,rfl,hset b.2 R⟩⟩
     ·have hp':pickP m 0 b=false:=hp
      refine qF (qF (qF ?_))
      exact ⟨fun Z=>⟨rfl,rfl⟩,fun z=>by rw [hp'] at z;cases z⟩
    ·have hi:¬i=0:=by simpa using hb
     refine qA (qL (qD rfl (qK (qB rfl (qB rfl (fM (pu (qB rfl (wM (pu ?_))))))))))
     refine ⟨_,rfl,fun hp=>?_,fun hp=>?_⟩
     ·have hp':pickP m i b=true:=by rw [pickP,if_neg hi];exact hp
      refine qA (vA rfl rfl ?_)
      refine' qQ ?y12z0 ?y12z1 ?_
      case y12z0=>exact qS (by rfl)
      case y12z1=>rfl
      refine qB rfl ?_
      refine qZ F.slot_list_append F.type_list_append (hmu0 R) ⟨.inr (fun a z=>nomatch z),?_⟩
      refine qC rfl (qB rfl (qE ?_))
      refine qP (vB (hmu0 R) (by simp;exact o230 hI1) ?_)
      refine ⟨trivial,?_⟩
      refine qA (vN ?_)
      exact ⟨fun z=>(by rw [hp'] at z;cases z),fun Z=>⟨rfl,rfl,hset b.2 R⟩⟩
     ·have hp':pickP m i b=false:=by rw [pickP,if_neg hi];exact hp
      refine qF (qF (qF ?_))
      exact ⟨fun Z=>⟨rfl,rfl⟩,fun z=>by rw [hp'] at z;cases z⟩
   show ForOK' _ _ _ _ _ _ _ _ (row.map cellAV) [("mode",.int (m:Int)),("perm",.mut mu.length),("index",.int (i:Int)),("table",rowAV row)] (mu++[AO.list (permAV l)]++raws) [] _
   refine for_find cellAV (pickP m i) (fun b=>[(Str.ofString "mode",.int (m:Int)),(Str.ofString "perm",.mut mu.length),(Str.ofString "index",.int (i:Int)),(Str.ofString "table",rowAV row),(Str.ofString "bit",.int b.1),(Str.ofString "char",.str (S [b.2]))]) _ _ hA ?_ row (fun Z Z=>rfl) ?_ ?_ ?_
   ·refine all4 ?_ ?_ ?_ ?_
    ·rfl
    ·show decide (mu.length < _)=true;simp
    ·rfl
    ·exact AV.flat_under (show flats _=true from xA (fun Z=>rfl) _)
   ·intro b hb hpf R
    refine (turn b R _ rfl).mono fun f σ' hf=>?_
    obtain ⟨rfl,rfl⟩:=hf.1 hpf
    exact ⟨.inl rfl,.cons rfl (.cons rfl (.cons rfl (.cons rfl (.nil _)))),rfl⟩
   ·intro b hb R
    refine (turn b R _ rfl).mono fun f σ' hf=>?_
    obtain ⟨rfl,h1,h2⟩:=hf.2 (List.find?_some hb)
    have hpk:pick m i row=b.2:=by unfold pick;rw [hb]
    refine ⟨rfl,?_⟩
    refine qF ⟨.inl rfl,?_,R,?_⟩
    ·rw [h1];exact .cons rfl (.cons rfl (.nil _))
    ·rw [hpk];exact h2
   ·intro hno
    have hpk:pick m i row=if i=0 then 63 else 45:=by unfold pick;rw [hno]
    have hmu1:(mu++[AO.list (permAV l)]++raws)[mu.length]?=some (AO.list (permAV l)):=by have:=hmu0 [];rwa [List.append_nil] at this
    have hset1:∀ch:Nat,(mu++[AO.list (permAV l)]++raws).set mu.length (AO.list (permAV l++[AV.str (S [ch])]))=mu++[AO.list (permAV (l++[ch]))]++raws++[]:=fun ch=>by have:=hset ch [];rwa [List.append_nil] at this
    refine qA ?_
    refine qL (qD rfl (qB rfl (qH (wM (pu ?_)))))
    refine ⟨_,rfl,fun hb=>?_,fun hb=>?_⟩
    ·have hi:i=0:=by simpa using hb
     refine qA (vA rfl rfl ?_)
     refine' qQ ?y13z0 ?y13z1 ?_
     case y13z0=>exact qS (by rfl)
     case y13z1=>rfl
     refine qB rfl ?_
     refine qZ F.slot_list_append F.type_list_append hmu1 ⟨.inr (fun a z=>nomatch z),?_⟩
     refine qC rfl (vE ofS63 ?_)
     refine qE ?_
     refine qP (vB hmu1 (by simp;exact o230 hI1) ?_)
     refine ⟨trivial,?_⟩
     refine qF (qF (qF ?_))
     refine ⟨.inl rfl,.cons rfl (.cons rfl (.nil _)),[],?_⟩
     rw [hpk,if_pos hi];exact hset1 63
    ·have hi:¬i=0:=by simpa using hb
     refine qA (vA rfl rfl ?_)
     refine' qQ ?y14z0 ?y14z1 ?_
     case y14z0=>exact qS (by rfl)
     case y14z1=>rfl
     refine qB rfl ?_
     refine qZ F.slot_list_append F.type_list_append hmu1 ⟨.inr (fun a z=>nomatch z),?_⟩
     refine qC rfl (vE ofS45 ?_)
     refine qE ?_
     refine qP (vB hmu1 (by simp;exact o230 hI1) ?_)
     refine ⟨trivial,?_⟩
     refine qF (qF (qF ?_))
     refine ⟨.inl rfl,.cons rfl (.cons rfl (.nil _)),[],?_⟩
     rw [hpk,if_neg hi];exact hset1 45
  ·rintro ⟨hI,_⟩
   have hfold:modeTab.zipIdx.foldl (fun l p=>l++[pick m p.2 p.1]) []=signsL m:=by rw [← picks_signs];rfl
   rw [hfold]
   obtain ⟨j1,j2⟩:=join_one (signsL m) (by rw [xW];decide)
   refine qF ?_
   refine qA ?_
   refine qO ?_
   refine' qQ ?y15z0 ?y15z1 ?_
   case y15z0=>exact qS (by rfl)
   case y15z1=>rfl
   refine qM ?_
   refine yZ ⟨.inr (fun a z=>nomatch z),?_⟩
   refine qC rfl (qB rfl (qE ?_))
   refine qG (call_joinM (xs:=(signsL m).map fun ch=>S [ch]) ?_ j1 (pu ?_))
   ·rw [List.map_map];exact zY mu _
   rw [j2]
   exact ⟨_,rfl,rfl,h⟩
end c_filemode
section
variable {c:Cx}{d u:Nat}{env:Env}{σ:St}{mu:List AO}{K:AV→List AO→Prop}
theorem c_filemode(hK:Keys c.K)(m:Nat)(hdp:d+5 < recursionLimit)(h:K (.str (S (signsL m))) mu):CallOK c d u (.ref 168) [.int (m:Int)] [] mu K:=(@eps _ _ c_filemode.Dq c_filemode.tq rfl @c_filemode.T0 (c,d,u,mu,K,m)) hK hdp h
end
end
section
set_option tactic.hygienic true
section
variable {c:Cx}{d u:Nat}{env:Env}{σ:St}{mu:List AO}{K:AV→List AO→Prop}
theorem ofS10:Str.ofString "\n"=S [10]:=by decide +kernel
noncomputable def sioD (l:List Nat) (p:Nat):List (Str×AV):=[("_StringIO__newline",.str (S [10])),("_StringIO__buf",.str (S l)),("_StringIO__pos",.int (p:Int))]
theorem gK (l:List Nat) (p q:Nat):setL (Str.ofString "_StringIO__pos") (.int (q:Int)) (sioD l p)=sioD l q:=rfl
theorem c_index(hK:Keys c.K)(i:Int)(x:Str)(h1:-10≤i)(h2:i≤10)(hdp:d < recursionLimit)(h:K (.int i) mu):CallOK c d u (.ref 187) [.int i,.str x] [] mu K:=by
 refine' enter2 (n1:="n") (n2:="what") hK.k_index hdp (fun Z Z Z Z Z Z Z=>rfl) rfl ?h
 case h =>
  intro cdv L
  refine qA ?_
  refine qL (qY (qD rfl ?_))
  refine vS rfl rfl rfl rfl rfl (qS rfl) hK.b_type rfl (by decide) (fun a z=>nomatch z) ?_
  refine qC rfl (qB rfl (qE ?_))
  refine qG (call_type_int (pu ?_))
  refine wD rfl rfl rfl rfl rfl hK.b_int rfl (by decide) ?_
  refine fA (pu ?_)
  refine ⟨_,rfl,fun hb=>?_,fun hb=>?_⟩
  ·exact absurd hb (by decide)
  refine ⟨fun z=>(nomatch z),fun Z=>?_⟩
  refine qF (qA (qR rfl rfl ?_))
  refine vS rfl rfl rfl rfl rfl (qS rfl) hK.b_int rfl (by decide) (fun a z=>nomatch z) ?_
  refine qC rfl (qB rfl (qE ?_))
  refine qG (call_int_int' (pu ?_))
  refine qA (qL (yG (qD rfl (qB rfl (qH (gt_ii (pu ?_)))))))
  refine ⟨_,rfl,fun hb=>?_,fun hb=>?_⟩
  ·refine yG (qD rfl (qB rfl (ev_neg (qH ?_))))
   refine ⟨_,rfl,?_⟩
   refine lt_ii (pu ?_)
   refine ⟨_,rfl,fun hb=>yS ?_,fun hb=>?_⟩
   ·refine ⟨fun z=>(nomatch z),fun Z=>?_⟩
    refine qF (qA (qO (qB rfl ?_)))
    exact h
   ·exact absurd hb (by simp;exact o231 h1)
  ·exact absurd hb (by simp;exact o232 h2)
theorem kL(hK:Keys c.K)(k:Nat)(l:List Nat)(p:Nat)(hmu:mu[k]?=some (.dict (sioD l p)))(hdp:d < recursionLimit)(h:K .none mu):CallOK c d u (.ref 505) [.inst 721 k] [] mu K:=by
 refine' enter1 (n1:="self") hK.k_StringIO_check hdp (fun Z Z Z Z Z Z=>rfl) rfl ?h
 case h =>
  intro cdv L
  refine qA ?_
  refine qL (qD rfl ?_)
  refine' qJ rfl (rdS (by assumption) (by decide)) (by assumption) rfl rfl ?_
  refine qX ?_
  refine vP rfl (pu ?_)
  refine ⟨_,rfl,fun hb=>(nomatch hb),fun hb=>?_⟩
  refine qF (qF ?_)
  exact h
noncomputable def lineEnd(l:List Nat)(p:Nat):Nat:=match nlIdx (l.drop p) with | some j=>p+j+1 | none=>l.length
theorem nlIdx_lt:∀(r:List Nat) (j:Nat),nlIdx r=some j→j < r.length:=by
 intro zz
 induction zz with
 | nil =>
  intro j h
  cases h
 | cons a r ih =>
  intro j h
  unfold nlIdx at h
  split at h
  ·cases h;simp
  ·obtain ⟨i,h1,rfl⟩:=Option.map_eq_some_iff.mp h
   have:=ih i h1
   simp;exact o16 this
theorem xZ(l:List Nat)(p:Nat)(hp:p≤l.length):p≤lineEnd l p∧lineEnd l p≤l.length:=by
 unfold lineEnd
 split
 ·rename_i j hj
  have:=nlIdx_lt _ _ hj
  simp at this
  exact o233 this
 ·exact o234 hp
theorem lineEnd_end(l:List Nat)(p:Nat)(hp:p=l.length):lineEnd l p=p:=by
 unfold lineEnd
 rw [List.drop_eq_nil_of_le (by exact o14 hp)]
 exact hp.symm
theorem set_same{α:Type}{l:List α}{k:Nat}{x:α}(h:l[k]?=some x):l.set k x=l:=by
 apply List.ext_getElem?
 intro i
 by_cases e:k=i
 ·subst e
  rw [List.getElem?_set_self (List.getElem?_eq_some_iff.mp h).1,h]
 ·rw [List.getElem?_set_ne e]
end
namespace c_sio_line
noncomputable def Cq(c:Cx)(d u:Nat)(mu:List AO)(K:AV→List AO→Prop)(k:Nat)(l:List Nat)(p:Nat):Prop:=∀(hK:Keys c.K) (hp:p≤l.length) (hz:l.length≤10000) (hmu:mu[k]?=some (.dict (sioD l p))) (hdp:d < recursionLimit) (h:∀x,K (.str x) (mu.set k (.dict (sioD l (lineEnd l p))))),CallOK c d u (.ref 519) [.inst 721 k,.int (-1)] [] mu K
noncomputable def Dq(p:Cx×Nat×Nat×(List AO)×(AV→List AO→Prop)×Nat×(List Nat)×Nat):Prop:=Cq p.1 p.2.1 p.2.2.1 p.2.2.2.1 p.2.2.2.2.1 p.2.2.2.2.2.1 p.2.2.2.2.2.2.1 p.2.2.2.2.2.2.2
def tq:=@ep _ (by have:=neCx;infer_instance) Dq
def c:=tq.1
def d:=tq.2.1
def u:=tq.2.2.1
def mu:=tq.2.2.2.1
def K:=tq.2.2.2.2.1
def k:=tq.2.2.2.2.2.1
def l:=tq.2.2.2.2.2.2.1
def p:=tq.2.2.2.2.2.2.2
theorem T0:Cq c d u mu K k l p:=by
 intro hK hp hz hmu hdp h
 refine' enter2 (n1:="self") (n2:="limit") hK.k_StringIO_line hdp (fun Z Z Z Z Z Z Z=>rfl) rfl ?h
 case h =>
  intro cdv L
  have hkl:k < mu.length:=(List.getElem?_eq_some_iff.mp hmu).1
  refine qA ?_
  refine qR rfl rfl ?_
  refine' qJ rfl (rdS (by assumption) (by decide)) (by assumption) rfl rfl ?_
  refine qA (qR rfl rfl ?_)
  refine vS rfl rfl rfl rfl rfl (qS rfl) hK.b_len rfl (by decide) (fun a z=>nomatch z) ?_
  refine qC rfl ?_
  refine' qJ rfl (rdS (by assumption) (by decide)) (by assumption) rfl rfl ?_
  refine qE ?_
  refine qG (yC (by rw [vV];exact o235 hz) (pu ?_))
  rw [vV]
  refine qA (qL (qD rfl (qB rfl (qB rfl (xU (pu ?_))))))
  refine ⟨_,rfl,fun hb=>?_,fun hb=>?_⟩
  ·have hpl:p=l.length:=by simp at hb;exact o236 hp hb
   refine qA (qO (qM ?_))
   have h':=h (Str.ofString "")
   rw [lineEnd_end l p hpl] at h'
   rw [set_same hmu] at h'
   exact h'
  have hpl:p < l.length:=by simp at hb;exact o16 hb
  refine qF (qA (qR rfl rfl (wG (qA (qL (qY (qD rfl (qB rfl (qH (xU (pu ?_)))))))))))
  refine ⟨_,rfl,fun hb=>(nomatch hb),fun Z=>?_⟩
  refine ⟨fun z=>(nomatch z),fun Z=>?_⟩
  refine qF ?_
  refine qA ?_
  refine' qR rfl rfl ?_
  refine' qJ rfl (rdS (by assumption) (by decide)) (by assumption) rfl rfl ?_
  have hle:=xZ l p hp
  refine kC [("self",.inst 721 k),("start",.int (p:Int)),("stop",.int (lineEnd l p:Int))] mu ?_ ?_
  ·refine qL (qD rfl (qB rfl (qM (vU (pu ?_)))))
   refine ⟨_,rfl,fun hb=>absurd hb (by decide +kernel),fun Z=>?_⟩
   refine qA (qR rfl rfl (wH (qD rfl (qB rfl (qX ?_)))))
   refine vP rfl (pu ?_)
   refine ⟨_,rfl,fun hb=>(nomatch hb),fun hb=>?_⟩
   refine qB rfl (qA (qL (qY ?_)))
   refine vL ?_
   refine qB rfl (qT ?_)
   refine ⟨fun z=>(nomatch z),fun Z=>?_⟩
   refine ⟨fun z=>(nomatch z),fun Z=>?_⟩
   refine qF (qA (qR rfl rfl ?_))
   refine' qQ (pl:=_) (qS rfl) rfl ?_
   refine' qJ rfl (rdS (by assumption) (by decide)) (by assumption) rfl rfl ?_
   refine meth_find ⟨.inr (fun a z=>nomatch z),?_⟩
   refine qC rfl (qB rfl (qC rfl (qB rfl (qC rfl (qB rfl (qE ?_))))))
   refine qG (call_find4 (by exact o30 hp) (pu ?_))
   unfold lineEnd
   cases hj:nlIdx (l.drop p) with
   | none =>
    refine qA (qL (qD rfl (qB rfl (qH (xU (pu ?_))))))
    refine ⟨_,rfl,fun hb=>(nomatch hb),fun Z=>?_⟩
    refine qF (qF ?_)
    exact ⟨rfl,.cons rfl (.cons rfl (.cons rfl (.nil _))),rfl⟩
   | some j =>
    refine qA (qL (qD rfl (qB rfl (qH (xU (pu ?_))))))
    refine ⟨_,rfl,fun Z=>?_,fun hb=>absurd hb (by simp;exact o237)⟩
    refine qA (qR rfl rfl (qK (qB rfl ?_)))
    refine vS rfl rfl rfl rfl rfl (qS rfl) hK.b_len rfl (by decide) (fun a z=>nomatch z) ?_
    refine qC rfl (qB rfl (qE ?_))
    refine qG (yC (by rw [vV];decide) (pu ?_))
    refine xQ (pu (qF (qF ?_)))
    refine ⟨rfl,.cons rfl (.cons rfl (.cons ?_ (.nil _))),rfl⟩
    show some (AV.int (((p+j:Nat):Int)+((S [10]).length:Int)))=some (AV.int ((p+j+1:Nat):Int))
    rw [vV];rfl
  refine qA ?_
  refine' xK (C:=721) rfl rfl rfl rfl (stS (by assumption) (by decide)) ?_
  refine qB rfl ?_
  refine ⟨k,rfl,sioD l p,hmu,(by show 3≤900;decide),?_⟩
  rw [gK]
  have hmu2:(mu.set k (.dict (sioD l (lineEnd l p))))[k]?=some (.dict (sioD l (lineEnd l p))):=List.getElem?_set_self hkl
  refine qA (qO ?_)
  refine kJ (x:=S l) (fun Z Z Z=>rfl) (fun Z Z Z=>rfl) (by rw [vV];exact o235 hz) ?_
  refine' qJ rfl (rdS (by assumption) (by decide)) (by assumption) rfl rfl ?_
  refine ⟨rfl,?_⟩
  refine qB rfl ?_
  refine ⟨_,rfl,?_⟩
  refine qB rfl ?_
  refine ⟨_,rfl,?_⟩
  exact h _
end c_sio_line
section
variable {c:Cx}{d u:Nat}{env:Env}{σ:St}{mu:List AO}{K:AV→List AO→Prop}
theorem c_sio_line(hK:Keys c.K)(k:Nat)(l:List Nat)(p:Nat)(hp:p≤l.length)(hz:l.length≤10000)(hmu:mu[k]?=some (.dict (sioD l p)))(hdp:d < recursionLimit)(h:∀x,K (.str x) (mu.set k (.dict (sioD l (lineEnd l p))))):CallOK c d u (.ref 519) [.inst 721 k,.int (-1)] [] mu K:=(@eps _ _ c_sio_line.Dq c_sio_line.tq rfl @c_sio_line.T0 (c,d,u,mu,K,k,l,p)) hK hp hz hmu hdp h
end
end
section
section
variable {c:Cx}{d u:Nat}{env:Env}{σ:St}{mu:List AO}{K:AV→List AO→Prop}
theorem jW (hK:Keys c.K) (k:Nat) (x:Str) (hmu:mu[k]?=some (.dict [("_StringIO__newline",.str (S [10])),("_StringIO__buf",.str (Str.ofString "")),("_StringIO__pos",.int 0)])) (hdp:d < recursionLimit) (h:K (.str x) mu):CallOK c d u (.ref 498) [.inst 721 k,.str x] [] mu K:=by
 refine' enter2 (n1:="self") (n2:="s") hK.k_StringIO_translated hdp (fun Z Z Z Z Z Z Z=>rfl) rfl ?h
 case h =>
  intro cdv L
  refine qA ?_
  refine qR rfl rfl ?_
  refine' qJ rfl (rdS (by assumption) (by decide)) (by assumption) rfl rfl ?_
  refine qA (qL (qD rfl (qB rfl (qX ?_))))
  refine vP rfl (pu ?_)
  refine ⟨_,rfl,fun hb=>(nomatch hb),fun Z=>?_⟩
  refine qF (qA (qL (yG (qD rfl (qB rfl (qM (vU (pu ?_))))))))
  refine ⟨_,rfl,fun Z=>?_,fun hb=>absurd hb (by decide +kernel)⟩
  refine yG (qD rfl (qB rfl (qM (vU (pu ?_)))))
  refine ⟨_,rfl,fun Z=>yS ?_,fun hb=>absurd hb (by decide +kernel)⟩
  refine ⟨fun z=>(nomatch z),fun Z=>?_⟩
  refine qF (qA (qO (qB rfl ?_)))
  exact h
end
namespace c_sio_read
noncomputable def Cq(c:Cx)(d u:Nat)(mu:List AO)(K:AV→List AO→Prop)(k:Nat)(l:List Nat)(p:Nat):Prop:=∀(hK:Keys c.K) (hp:p≤l.length) (hz:l.length≤10000) (hmu:mu[k]?=some (.dict (sioD l p))) (hdp:d+1 < recursionLimit) (h1:∀ch,l[p]?=some ch→K (.str (S [ch])) (mu.set k (.dict (sioD l (p+1))))) (h2:p=l.length→K (.str (S [])) mu),CallOK c d u (.ref 667) [.inst 721 k,.int 1] [] mu K
noncomputable def Dq(p:Cx×Nat×Nat×(List AO)×(AV→List AO→Prop)×Nat×(List Nat)×Nat):Prop:=Cq p.1 p.2.1 p.2.2.1 p.2.2.2.1 p.2.2.2.2.1 p.2.2.2.2.2.1 p.2.2.2.2.2.2.1 p.2.2.2.2.2.2.2
def tq:=@ep _ (by have:=neCx;infer_instance) Dq
def c:=tq.1
def d:=tq.2.1
def u:=tq.2.2.1
def mu:=tq.2.2.2.1
def K:=tq.2.2.2.2.1
def k:=tq.2.2.2.2.2.1
def l:=tq.2.2.2.2.2.2.1
def p:=tq.2.2.2.2.2.2.2
theorem T0:Cq c d u mu K k l p:=by
 intro hK hp hz hmu hdp h1 h2
 obtain ⟨T,oT,its,n,hT,hs,⟨t0,rfl⟩,oc,od,osl,doc,pm,an,cdv,ct,ho,hcd⟩:=hK.d_StringIO_read
 refine' jE (loc:=[("self",.inst 721 k),("size",.int 1)]) ho hcd (by exact o178 hdp) (jG rfl hT hs ?hb) ?h ?c1 ?c2 ?c3 ?c4
 (case c1=>rfl);(case c2=>rfl);(case c3=>rfl);(case c4=>decide)
 case hb =>
  intro g as ws kws rs rk
  cases rk
  cases rs with
  | cons r1 rs=>cases rs with
   | cons r2 rs =>
    cases rs
    refine ⟨_,[("self",_),("size",_)],rfl,rfl,?_,xY ?_⟩
    ·exact all2 rfl rfl
    ·refine all2 ?_ ?_
     ·exact ⟨_,rfl,r1⟩
     ·exact ⟨_,rfl,r2⟩
 case h =>
  intro L
  have hkl:k < mu.length:=(List.getElem?_eq_some_iff.mp hmu).1
  refine qA ?_
  refine qL (qD rfl (qB rfl (qX ?_)))
  refine vP rfl (pu ?_)
  refine ⟨_,rfl,fun hb=>(nomatch hb),fun Z=>?_⟩
  refine qF (qA (qR rfl rfl ?_))
  refine qW rfl hK.g_index hK.p_index ?_
  refine qC rfl (qB rfl (qC rfl (qM (qE ?_))))
  refine qG (c_index hK 1 _ (by decide) (by decide) (by exact o179 hdp) (pu ?_))
  refine qA ?_
  refine vA rfl rfl ?_
  refine' qQ (pl:=_) (qS rfl) rfl ?_
  refine qB rfl ?_
  refine wB hK (n:="_StringIO__check") (f:=505) (by decide) hK.kit721 hmu rfl ?_
  refine qE ?_
  refine qG (kL hK k l p hmu (by exact o179 hdp) (pu ?_))
  refine ⟨trivial,?_⟩
  refine qA (qR rfl rfl ?_)
  refine' qJ rfl (rdS (by assumption) (by decide)) (by assumption) rfl rfl ?_
  refine qA (qR rfl rfl ?_)
  refine vS rfl rfl rfl rfl rfl (qS rfl) hK.b_len rfl (by decide) (fun a z=>nomatch z) ?_
  refine qC rfl ?_
  refine' qJ rfl (rdS (by assumption) (by decide)) (by assumption) rfl rfl ?_
  refine qE ?_
  refine qG (yC (by rw [vV];exact o235 hz) (pu ?_))
  rw [vV]
  refine qA (qL (qD rfl (qB rfl (qB rfl (xU (pu ?_))))))
  refine ⟨_,rfl,fun hb=>?_,fun hb=>?_⟩
  ·have hpl:p=l.length:=by simp at hb;exact o236 hp hb
   refine qA (qO (vE ofS0 ?_))
   exact h2 hpl
  have hpl:p < l.length:=by simp at hb;exact o16 hb
  obtain ⟨ch,hch⟩:∃ch,l[p]?=some ch:=⟨l[p],List.getElem?_eq_getElem hpl⟩
  refine qF ?_
  refine kC [("self",.inst 721 k),("start",.int (p:Int)),("stop",.int ((p+1:Nat):Int))] mu ?_ ?_
  ·refine qL (qY (qD rfl (qB rfl (qH (xU (pu ?_))))))
   refine ⟨_,rfl,fun Z=>?_,fun hb=>(nomatch hb)⟩
   refine qY (qD rfl (qK (qB rfl (qB rfl (xQ (pu (qB rfl (lt_ii (pu ?_)))))))))
   refine ⟨_,rfl,fun hb2=>wP ?_,fun hb2=>?_⟩
   ·refine ⟨fun Z=>?_,fun z=>nomatch z⟩
    refine qA (qR rfl rfl (qK (qB rfl (qB rfl (xQ (pu (qF ?_)))))))
    exact ⟨rfl,.cons rfl (.cons rfl (.cons rfl (.nil _))),rfl⟩
   ·refine ⟨fun z=>(nomatch z),fun Z=>?_⟩
    have hpe:l.length=p+1:=o238 hpl (Int.not_lt.mp (of_decide_eq_false hb2))
    refine qF ?_
    refine ⟨rfl,.cons rfl (.cons rfl (.cons ?_ (.nil _))),rfl⟩
    rw [← hpe];rfl
  refine qA ?_
  refine' xK (C:=721) rfl rfl rfl rfl (stS (by assumption) (by decide)) ?_
  refine qB rfl ?_
  refine ⟨k,rfl,sioD l p,hmu,(by show 3≤900;decide),?_⟩
  rw [gK]
  have hmu2:(mu.set k (.dict (sioD l (p+1))))[k]?=some (.dict (sioD l (p+1))):=List.getElem?_set_self hkl
  refine qA (qO ?_)
  refine kJ (x:=S l) (fun Z Z Z=>rfl) (fun Z Z Z=>rfl) (by rw [vV];exact o235 hz) ?_
  refine' qJ rfl (rdS (by assumption) (by decide)) (by assumption) rfl rfl ?_
  refine ⟨rfl,?_⟩
  refine qB rfl ?_
  refine ⟨_,rfl,?_⟩
  refine qB rfl ?_
  refine ⟨_,rfl,?_⟩
  rw [slice_S (by exact o34) (by exact o239 hpl),show p+1 - p=1 by exact o240]
  have e:(l.drop p).take 1=[ch]:=by
   have:=List.getElem?_eq_some_iff.mp hch
   obtain ⟨_,h4⟩:=this
   rw [List.drop_eq_getElem_cons hpl,h4];rfl
  rw [e]
  exact h1 ch hch
end c_sio_read
section
variable {c:Cx}{d u:Nat}{env:Env}{σ:St}{mu:List AO}{K:AV→List AO→Prop}
theorem c_sio_read(hK:Keys c.K)(k:Nat)(l:List Nat)(p:Nat)(hp:p≤l.length)(hz:l.length≤10000)(hmu:mu[k]?=some (.dict (sioD l p)))(hdp:d+1 < recursionLimit)(h1:∀ch,l[p]?=some ch→K (.str (S [ch])) (mu.set k (.dict (sioD l (p+1)))))(h2:p=l.length→K (.str (S [])) mu):
  CallOK c d u (.ref 667) [.inst 721 k,.int 1] [] mu K:=(@eps _ _ c_sio_read.Dq c_sio_read.tq rfl @c_sio_read.T0 (c,d,u,mu,K,k,l,p)) hK hp hz hmu hdp h1 h2
theorem xH(hK:Keys c.K)(k:Nat)(l:List Nat)(p:Nat)(hp:p≤l.length)(hz:l.length≤10000)(hmu:mu[k]?=some (.dict (sioD l p)))(hdp:d+1 < recursionLimit)(h:∀x,K (.str x) (mu.set k (.dict (sioD l (lineEnd l p))))):CallOK c d u (.ref 675) [.inst 721 k] [] mu K:=by
 obtain ⟨T,oT,its,n,hT,hs,⟨t0,rfl⟩,oc,od,osl,doc,pm,an,cdv,ct,ho,hcd⟩:=hK.d_StringIO_readline
 refine' jE (loc:=[("self",.inst 721 k),("size",.int (-1))]) ho hcd (by exact o178 hdp) (jG rfl hT hs ?hb) ?h ?c1 ?c2 ?c3 ?c4
 (case c1=>rfl);(case c2=>rfl);(case c3=>rfl);(case c4=>decide)
 case hb =>
  intro g as ws kws rs rk
  cases rk
  cases rs with
  | cons r1 rs =>
   cases rs
   refine ⟨_,[("self",_),("size",.int (-1) t0)],rfl,rfl,?_,xY ?_⟩
   ·exact all2 rfl rfl
   ·refine all2 ?_ ?_
    ·exact ⟨_,rfl,r1⟩
    ·exact ⟨_,rfl,.int _ _⟩
 case h =>
  intro L
  have hkl:k < mu.length:=(List.getElem?_eq_some_iff.mp hmu).1
  refine qA ?_
  refine qL (qD rfl (qB rfl (qX ?_)))
  refine vP rfl (pu ?_)
  refine ⟨_,rfl,fun hb=>(nomatch hb),fun Z=>?_⟩
  refine qF (qA (qR rfl rfl ?_))
  refine qW rfl hK.g_index hK.p_index ?_
  refine qC rfl (qB rfl (qC rfl (qM (qE ?_))))
  refine qG (c_index hK (-1) _ (by decide) (by decide) (by exact o179 hdp) (pu ?_))
  refine qA ?_
  refine vA rfl rfl ?_
  refine' qQ (pl:=_) (qS rfl) rfl ?_
  refine qB rfl ?_
  refine wB hK (n:="_StringIO__check") (f:=505) (by decide) hK.kit721 hmu rfl ?_
  refine qE ?_
  refine qG (kL hK k l p hmu (by exact o179 hdp) (pu ?_))
  refine ⟨trivial,?_⟩
  refine qA (qO ?_)
  refine' qQ (pl:=_) (qS rfl) rfl ?_
  refine qB rfl ?_
  refine wB hK (n:="_StringIO__line") (f:=519) (by decide) hK.kit721 hmu rfl ?_
  refine qC rfl (qB rfl (qE ?_))
  exact qP (c_sio_line hK k l p hp hz hmu (by exact o179 hdp) fun x=>h x)
end
end
section
section
variable {c:Cx}{d u:Nat}{env:Env}{σ:St}{mu:List AO}{K:AV→List AO→Prop}
theorem c_io_new(hK:Keys c.K)(b:AV)(hdp:d < recursionLimit)(h:K (.inst 721 mu.length) (mu++[.dict []])):CallOK c d u (.ref 214) [.st (.ref 721),b] [] mu K:=by
 obtain ⟨oc,od,osl,doc,pm,an,cdv,ct,ho,hcd⟩:=hK.k_IOBase_new
 refine' call_star (n0:=Str.ofString "cls") (n1:=Str.ofString "args") (n2:=Str.ofString "kwargs") ho hcd hdp ?hb ?hnm ?h01 ?h02 ?h ?c1 ?c2 ?c3 ?c4
 (case c1=>rfl);(case c2=>rfl);(case c3=>rfl);(case c4=>decide)
 case hb=>intro w0 w1;rfl
 case hnm=>show ∀x∈_,f_IOBase_new.scope.names.lookup x=_;decide
 case h01=>decide
 case h02=>decide
 case h =>
  intro L
  refine qA ?_
  refine qL (qY (qD rfl (qB rfl ?_)))
  refine wT rfl rfl rfl rfl hK.g_BytesIO (fun g as=>.st _) ?_
  refine isnot_ref hK.ic721 hK.ic474 (pu ?_)
  refine ⟨_,rfl,fun Z=>?_,fun hb=>(nomatch hb)⟩
  refine qY (qD rfl (qB rfl ?_))
  refine wT rfl rfl rfl rfl hK.g_StringIO (fun g as=>.st _) ?_
  refine isnot_ref hK.ic721 hK.ic721 (pu ?_)
  refine ⟨_,rfl,fun hb=>(nomatch hb),fun Z=>?_⟩
  refine ⟨fun z=>(nomatch z),fun Z=>?_⟩
  refine qF ?_
  refine qA (qO ?_)
  refine ev_methV (pl:=_) (by exact qS rfl) rfl ?_
  refine wD rfl rfl rfl rfl rfl hK.b_object rfl (by decide) ?_
  refine meth_type (by kernel_rfl) (by decide +kernel) hK.fobj rfl ⟨.inr (fun a z=>nomatch z),?_⟩
  refine qC rfl (qB rfl (qE ?_))
  refine qP (call_objnew hK ?_)
  exact h
end
namespace c_sio_init
noncomputable def Cq(c:Cx)(d u:Nat)(mu:List AO)(K:AV→List AO→Prop)(k:Nat)(l:List Nat):Prop:=∀(hK:Keys c.K) (hmu:mu[k]?=some (.dict [])) (hdp:d+1 < recursionLimit) (h:K .none (mu.set k (.dict (sioD l 0)))),CallOK c d u (.ref 491) [.inst 721 k,.str (S l)] [] mu K
noncomputable def Dq(p:Cx×Nat×Nat×(List AO)×(AV→List AO→Prop)×Nat×(List Nat)):Prop:=Cq p.1 p.2.1 p.2.2.1 p.2.2.2.1 p.2.2.2.2.1 p.2.2.2.2.2.1 p.2.2.2.2.2.2
def tq:=@ep _ (by have:=neCx;infer_instance) Dq
def c:=tq.1
def d:=tq.2.1
def u:=tq.2.2.1
def mu:=tq.2.2.2.1
def K:=tq.2.2.2.2.1
def k:=tq.2.2.2.2.2.1
def l:=tq.2.2.2.2.2.2
theorem T0:Cq c d u mu K k l:=by
 intro hK hmu hdp h
 obtain ⟨T,oT,its,n,hT,hs,⟨t1,t2,rfl⟩,oc,od,osl,doc,pm,an,cdv,ct,ho,hcd⟩:=hK.d_StringIO_init
 refine' jE (loc:=[("self",.inst 721 k),("initial_value",.str (S l)),("newline",.str (Str.ofString "\n"))]) ho hcd (by exact o178 hdp) (jG rfl hT hs ?hb) ?h ?c1 ?c2 ?c3 ?c4
 (case c1=>rfl);(case c2=>rfl);(case c3=>rfl);(case c4=>decide)
 case hb =>
  intro g as ws kws rs rk
  cases rk
  cases rs with
  | cons r1 rs=>cases rs with
   | cons r2 rs =>
    cases rs
    refine ⟨_,[("self",_),("initial_value",_),("newline",.str (Str.ofString "\n") t2)],rfl,rfl,?_,xY ?_⟩
    ·exact all3 rfl rfl rfl
    ·refine all3 ?_ ?_ ?_
     ·exact ⟨_,rfl,r1⟩
     ·exact ⟨_,rfl,r2⟩
     ·exact ⟨_,rfl,.str _ _⟩
 case h =>
  intro L
  have hkl:k < mu.length:=(List.getElem?_eq_some_iff.mp hmu).1
  refine qA ?_
  refine qL (qY (qD rfl (qB rfl (qX ?_))))
  refine vT rfl (pu ?_)
  refine ⟨_,rfl,fun Z=>?_,fun hb=>(nomatch hb)⟩
  refine qY (qD rfl ?_)
  refine vS rfl rfl rfl rfl rfl (qS rfl) hK.b_type rfl (by decide) (fun a z=>nomatch z) ?_
  refine qC rfl (qB rfl (qE ?_))
  refine qG (zE (pu ?_))
  refine wD rfl rfl rfl rfl rfl hK.b_str rfl (by decide) ?_
  refine fA (pu ?_)
  refine ⟨_,rfl,fun hb=>absurd hb (by decide),fun Z=>?_⟩
  refine ⟨fun z=>(nomatch z),fun Z=>?_⟩
  refine qF (qA (qL (qY (qD rfl (qB rfl (qX ?_))))))
  refine vT rfl (pu ?_)
  refine ⟨_,rfl,fun Z=>?_,fun hb=>(nomatch hb)⟩
  refine qY (qD rfl (qB rfl (qM (ne_ss (pu ?_)))))
  refine ⟨_,rfl,fun Z=>?_,fun hb=>absurd hb (by decide +kernel)⟩
  refine qY (qD rfl (qB rfl (qM (ne_ss (pu ?_)))))
  refine ⟨_,rfl,fun hb=>absurd hb (by decide +kernel),fun Z=>?_⟩
  refine ⟨fun z=>(nomatch z),fun Z=>?_⟩
  refine qF (qA (qL (qY (qD rfl (qB rfl (qX ?_))))))
  refine vT rfl (pu ?_)
  refine ⟨_,rfl,fun Z=>?_,fun hb=>(nomatch hb)⟩
  refine qY (qD rfl ?_)
  refine vS rfl rfl rfl rfl rfl (qS rfl) hK.b_type rfl (by decide) (fun a z=>nomatch z) ?_
  refine qC rfl (qB rfl (qE ?_))
  refine qG (zE (pu ?_))
  refine wD rfl rfl rfl rfl rfl hK.b_str rfl (by decide) ?_
  refine fA (pu ?_)
  refine ⟨_,rfl,fun hb=>absurd hb (by decide),fun Z=>?_⟩
  refine ⟨fun z=>(nomatch z),fun Z=>?_⟩
  refine qF ?_
  refine qA ?_
  refine' xK (C:=721) rfl rfl rfl rfl (stS (by assumption) (by decide)) ?_
  refine qB rfl ?_
  refine ⟨k,rfl,_,hmu,(by show 0≤900;decide),?_⟩
  have hm1:∀a,(mu.set k a)[k]?=some a:=fun a=>List.getElem?_set_self hkl
  refine qA ?_
  refine' xK (C:=721) rfl rfl rfl rfl (stS (by assumption) (by decide)) ?_
  refine qM ?_
  refine ⟨k,rfl,_,hm1 _,(by show 1≤900;decide),?_⟩
  refine qA ?_
  refine' xK (C:=721) rfl rfl rfl rfl (stS (by assumption) (by decide)) ?_
  refine qH ?_
  refine ⟨k,rfl,_,by show ((mu.set k _).set k _)[k]?=_;rw [List.set_set];exact hm1 _,(by show 2≤900;decide),?_⟩
  with_reducible refine' vD [("self",.inst 721 k),("initial_value",.str (S l)),("newline",.str (Str.ofString "\n"))] (mu.set k (.dict [("_StringIO__newline",.str (S [10])),("_StringIO__buf",.str (Str.ofString "")),("_StringIO__pos",.int 0)])) ?fa ?fb ?_
  case fa=>exact .cons rfl (.cons rfl (.cons rfl (.nil _)))
  case fb =>
   show ((mu.set k _).set k _).set k _=_
   rw [List.set_set,List.set_set,← ofS10]
   rfl
  refine qA ?_
  refine qL (qD rfl (qB rfl (qX ?_)))
  refine vT rfl (pu ?_)
  refine ⟨_,rfl,fun Z=>?_,fun hb=>(nomatch hb)⟩
  refine qA ?_
  refine' xK (C:=721) rfl rfl rfl rfl (stS (by assumption) (by decide)) ?_
  refine' qQ (pl:=_) (qS rfl) rfl ?_
  refine qB rfl ?_
  refine wB hK (n:="_StringIO__translated") (f:=498) (by decide) hK.kit721 (hm1 _) rfl ?_
  refine qC rfl (qB rfl (qE ?_))
  refine qG (jW hK k (S l) (hm1 _) (by exact o179 hdp) (pu ?_))
  refine ⟨k,rfl,_,hm1 _,(by show 3≤900;decide),?_⟩
  refine qF (qF ?_)
  show K .none ((mu.set k _).set k _)
  rw [List.set_set]
  exact h
end c_sio_init
section
variable {c:Cx}{d u:Nat}{env:Env}{σ:St}{mu:List AO}{K:AV→List AO→Prop}
theorem c_sio_init(hK:Keys c.K)(k:Nat)(l:List Nat)(hmu:mu[k]?=some (.dict []))(hdp:d+1 < recursionLimit)(h:K .none (mu.set k (.dict (sioD l 0)))):CallOK c d u (.ref 491) [.inst 721 k,.str (S l)] [] mu K:=(@eps _ _ c_sio_init.Dq c_sio_init.tq rfl @c_sio_init.T0 (c,d,u,mu,K,k,l)) hK hmu hdp h
theorem c_sio_make(hK:Keys c.K)(l:List Nat)(hdp:d+2 < recursionLimit)(h:K (.inst 721 mu.length) (mu++[.dict (sioD l 0)])):CallOK c d u (.ref 721) [.str (S l)] [] mu K:=by
 obtain ⟨oc,od,cd,sl,e0,e1,e2,e3,_⟩:=hK.oo721
 refine call_own (P:=218) (fN:=214) (fI:=491) ⟨⟨oc,od,cd,sl,e0,e1,e2,e3⟩,hK.oc721,hK.ot721,hK.or721,hK.of721,hK.os218⟩ hK.in721 hK.ty491 ?_
 refine c_io_new hK _ (by exact o209 hdp) ⟨mu.length,rfl,?_⟩
 refine c_sio_init hK mu.length l (zY mu _) (by exact o208 hdp) ⟨rfl,?_⟩
 have:=wZ mu (AO.dict []) (AO.dict (sioD l 0)) []
 simp only [List.append_nil] at this
 rw [this]
 exact h
end
end
section
variable {c:Cx}{d u:Nat}{env:Env}{σ:St}{mu base rest:List AO}{K:AV→List AO→Prop}{l:List Nat}
structure LexSt where
 state:AV
 token:List Nat
 lineno:Nat
 pos:Nat
 pb:List Nat
noncomputable def wcStr:Str:=Str.ofString "abcdfeghijklmnopqrstuvwxyzABCDEFGHIJKLMNOPQRSTUVWXYZ0123456789_"++Str.ofString "ßàáâãäåæçèéêëìíîïðñòóôõöøùúûüýþÿÀÁÂÃÄÅÆÇÈÉÊËÌÍÎÏÐÑÒÓÔÕÖØÙÚÛÜÝÞ"++Str.ofString "~-./*?="
noncomputable def lexD (b:Nat) (s:LexSt):List (Str×AV):=[("instream",.inst 721 (b+1)),("infile",.none),("posix",.bool true),("eof",.none),("commenters",.str (Str.ofString "#")),("wordchars",.str wcStr),("whitespace",.str (Str.ofString " \t\r\n")),("whitespace_split",.bool false),("quotes",.str (Str.ofString "'\"")),("escape",.str (Str.ofString "\\")),("escapedquotes",.str (Str.ofString "\"")),
 ("state",s.state),("pushback",.mut (b+2)),("lineno",.int (s.lineno:Int)),("debug",.int 0),("token",.str (S s.token)),("filestack",.mut (b+3)),("source",.none),("_punctuation_chars",.str (Str.ofString "();<>|&")),("_pushback_chars",.mut (b+4))]
noncomputable abbrev chAV(ch:Nat):AV:=.str (S [ch])
noncomputable def lmu(base rest:List AO)(l:List Nat)(s:LexSt):List AO:=base++(.dict (lexD base.length s)::.dict (sioD l s.pos)::.deque []::.deque []::.deque (s.pb.map chAV)::rest)
theorem yE{α:Type}(a b:List α)(j:Nat):(a++b)[a.length+j]?=b[j]?:=by rw [List.getElem?_append_right (by exact o18)];congr 1;exact o20
theorem qN(base rest:List AO)(l:List Nat)(s:LexSt):(lmu base rest l s)[base.length]?=some (.dict (lexD base.length s)):=yE base _ 0
theorem kF(base rest:List AO)(l:List Nat)(s:LexSt):(lmu base rest l s)[base.length+1]?=some (.dict (sioD l s.pos)):=yE base _ 1
theorem lmu_2(base rest:List AO)(l:List Nat)(s:LexSt):(lmu base rest l s)[base.length+2]?=some (.deque []):=yE base _ 2
theorem lmu_3(base rest:List AO)(l:List Nat)(s:LexSt):(lmu base rest l s)[base.length+3]?=some (.deque []):=yE base _ 3
theorem gY(base rest:List AO)(l:List Nat)(s:LexSt):(lmu base rest l s)[base.length+4]?=some (.deque (s.pb.map chAV)):=yE base _ 4
theorem jH{α:Type}(a b:List α)(j:Nat)(x:α):(a++b).set (a.length+j) x=a++b.set j x:=by rw [List.set_append_right _ _ (by exact o18)];congr 2;exact o20
theorem gX(s s':LexSt)(h1:s'.pos=s.pos)(h2:s'.pb=s.pb):(lmu base rest l s).set base.length (.dict (lexD base.length s'))=lmu base rest l s':=by
 unfold lmu;rw [h1,h2];exact jH base _ 0 _
theorem zU(s:LexSt)(p:Nat):(lmu base rest l s).set (base.length+1) (.dict (sioD l p))=lmu base rest l { s with pos:=p }:=jH base _ 1 _
theorem gW(s:LexSt)(pb:List Nat):(lmu base rest l s).set (base.length+4) (.deque (pb.map chAV))=lmu base rest l { s with pb:=pb }:=jH base _ 4 _
theorem tr_S{l:List Nat}{mu:List AO}{K:Bool→Prop}(hz:l.length≤100000)(h:K (!l.isEmpty)):TrOK c d u (.str (S l)) mu K:=gE (by rw [vV];exact o241 hz) (by
 rw [vV]
 have:((l.length:Int) != 0)=!l.isEmpty:=by cases l <;> simp <;> exact o51
 rw [this];exact h)
theorem vC{o:Expr}{name:Str}{pos:Pos}{K:Bool→St→Prop}(h:EvOK c d u env (.Attribute o name pos) σ (fun a σ1=>TrOK c d u a σ1.mu (fun b=>K b σ1))):TsOK c d u env (.Attribute o name pos) σ K:=zI rfl h
theorem jB {x:Str} {px pos:Pos} {loc:List (Str×AV)} {s:LexSt} {K:AV→St→Prop} (hK:Keys c.K) (hk:env.scope.kind=.function) (hl:env.kindOf x=some .local) (hd:(x==("__debug__":Str))=false) (hv:loc.lookup x=some (.inst 856 base.length)) (hdp:d < recursionLimit)
  (h:K (.str (Str.ofString "();<>|&")) ⟨loc,lmu base rest l s⟩):EvOK c d u env (.Attribute (.Name x px) (Str.ofString "punctuation_chars") pos) ⟨loc,lmu base rest l s⟩ K:=by
 refine ev_attrP rfl (vI hk hl hd hv ?_)
 refine get_prop' (fget:=787) ⟨hK.kit856.hg,hK.kit856.hh,788,_,hK.pr.1,hK.pr.2.1,hK.pr.2.2.1,hK.pr.2.2.2.choose_spec⟩ (qN _ _ _ _) ?_
 obtain ⟨oc,od,osl,doc,pm,an,cdv,ct,ho,hcd⟩:=hK.k_shlex_punctuation_chars
 refine' code_fn ho hcd hdp (jF (names:=["self"]) _ rfl ?hb ?hl ?hn) ?h ?c1 ?c2 ?c3 ?c4 ?hl0
 (case c1=>rfl);(case c2=>rfl);(case c3=>rfl);(case c4=>decide)
 case hb=>intro ws hw;obtain ⟨v,rfl⟩:=len1 hw;rfl
 case hl=>show ∀x∈_,f_shlex_punctuation_chars.scope.names.lookup x=_;decide
 case hn=>decide
 case hl0 =>
  intro p hp
  have:p=((Str.ofString "self"),AV.inst 856 base.length):=by simpa using hp
  rw [this];rfl
 case h =>
  intro L
  refine qA (qO ?_)
  refine qJ rfl (rdL hK (by decide)) (qN _ _ _ _) rfl rfl ?_
  exact ⟨rfl,rfl,h⟩
end
section
variable {c:Cx}{d u:Nat}{env:Env}{σ:St}{mu base rest:List AO}{K:AV→List AO→Prop}{l:List Nat}
noncomputable def isWs (ch:Nat):Bool:=decide (ch∈(Str.ofString " \t\r\n").cps.toList)
noncomputable def isCm (ch:Nat):Bool:=decide (ch∈(Str.ofString "#").cps.toList)
noncomputable def isEs (ch:Nat):Bool:=decide (ch∈(Str.ofString "\\").cps.toList)
noncomputable def isWd(ch:Nat):Bool:=decide (ch∈wcStr.cps.toList)
noncomputable def isPu (ch:Nat):Bool:=decide (ch∈(Str.ofString "();<>|&").cps.toList)
noncomputable def isQu (ch:Nat):Bool:=decide (ch∈(Str.ofString "'\"").cps.toList)
noncomputable def dropLine:List Nat→List Nat
 | []=>[]
 | a::r=>if a=10 then r else dropLine r
theorem jT:∀(l:List Nat) (p:Nat),p≤l.length→l.drop (lineEnd l p)=dropLine (l.drop p):=by
 have key:∀r:List Nat,dropLine r=(match nlIdx r with | some j=>r.drop (j+1) | none=>[]):=by
  intro r
  induction r with
  | nil=>rfl
  | cons a r ih =>
   unfold dropLine nlIdx
   by_cases h:a=10
   ·rw [if_pos h,if_pos h];rfl
   ·rw [if_neg h,if_neg h,ih]
    cases nlIdx r with
    | none=>rfl
    | some j=>rfl
 intro l p hp
 rw [key]
 unfold lineEnd
 cases nlIdx (l.drop p) with
 | none=>simp
 | some j=>simp [List.drop_drop,Nat.add_assoc]
inductive LMode where
 | sp | eof
 | wd (t:List Nat) (q:Bool)
 | qu (k:Nat) (t:List Nat)
 | pn (t:List Nat)
noncomputable def lex1:Nat→LMode→List Nat→Option (Option (List Nat)×Bool×List Nat)
 | 0,_,_=>none
 | _+1,.eof,[]=>some (none,true,[])
 | _+1,.eof,_::_=>none
 | _+1,.sp,[]=>some (none,true,[])
 | n+1,.sp,a::r =>
  if isWs a then lex1 n .sp r
  else if isCm a then lex1 n .sp (dropLine r)
  else if isEs a then none
  else if isWd a then lex1 n (.wd [a] false) r
  else if isPu a then lex1 n (.pn [a]) r
  else if isQu a then lex1 n (.qu a []) r
  else some (some [a],false,r)
 | _+1,.wd t q,[]=>if t.isEmpty&&!q then none else some (some t,true,[])
 | n+1,.wd t q,a::r =>
  if t.isEmpty&&!q then none
  else if isWs a then some (some t,false,r)
  else if isCm a then some (some t,false,dropLine r)
  else if isQu a then lex1 n (.qu a t) r
  else if isEs a then none
  else if isWd a then lex1 n (.wd (t++[a]) q) r
  else some (some t,false,a::r)
 | _+1,.qu _ _,[]=>none
 | n+1,.qu k t,a::r =>
  if a=k then lex1 n (.wd t true) r
  else if isEs a then none
  else lex1 n (.qu k (t++[a])) r
 | _+1,.pn t,[]=>if t.isEmpty then none else some (some t,true,[])
 | n+1,.pn t,a::r =>
  if t.isEmpty then none
  else if isWs a then some (some t,false,r)
  else if isCm a then some (some t,false,dropLine r)
  else if isPu a then lex1 n (.pn (t++[a])) r
  else some (some t,false,a::r)
noncomputable def LMode.st:LMode→AV
 | .sp=>.str (S [32])
 | .eof=>.none
 | .wd _ _=>.str (S [97])
 | .qu k _=>.str (S [k])
 | .pn _=>.str (S [99])
noncomputable def LMode.tok:LMode→List Nat
 | .sp=>[]
 | .eof=>[]
 | .wd t _=>t
 | .qu _ t=>t
 | .pn t=>t
noncomputable def LMode.quo:LMode→Bool→Prop
 | .wd _ q,b=>b=q
 | .qu k _,b=>isQu k=true
 | _,b=>b=false
noncomputable abbrev rtLoc (b:Nat) (q:Bool):List (Str×AV):=[("self",.inst 856 b),("quoted",.bool q),("escapedstate",.str (S [32]))]
noncomputable abbrev rtLoc1 (b:Nat) (q:Bool) (x:List Nat):List (Str×AV):=[("self",.inst 856 b),("quoted",.bool q),("escapedstate",.str (S [32])),("nextchar",.str (S x))]
structure Good(l:List Nat)(s:LexSt):Prop where
 pb:s.pb.length≤1
 pos:s.pos≤l.length
noncomputable def stream(l:List Nat)(s:LexSt):List Nat:=s.pb++l.drop s.pos
noncomputable def nextS(l:List Nat)(s:LexSt):List Nat×LexSt:=match s.pb with
 | []=>(match l[s.pos]? with
  | some ch=>([ch],{ s with pos:=s.pos+1 })
  | none=>([],s))
 | ch::_=>([ch],{ s with pb:=[] })
theorem yY{s:LexSt}{a:Nat}{r:List Nat}(h:stream l s=a::r)(hg:Good l s):(nextS l s).1=[a]∧stream l (nextS l s).2=r∧Good l (nextS l s).2∧(nextS l s).2.pb=[]∧(nextS l s).2.state=s.state∧(nextS l s).2.token=s.token:=by
 obtain ⟨st,tk,ln,pos,pb⟩:=s
 obtain ⟨h1,h2⟩:=hg
 dsimp only at h1 h2
 unfold stream at h
 dsimp only at h
 cases pb with
 | nil =>
  rw [List.nil_append] at h
  have hlt:pos < l.length:=by
   apply Nat.lt_of_not_le
   intro hh
   rw [List.drop_eq_nil_of_le hh] at h
   cases h
  have hd:=List.drop_eq_getElem_cons hlt
  rw [hd] at h
  simp only [List.cons.injEq] at h
  have e:l[pos]?=some a:=by rw [List.getElem?_eq_getElem hlt,h.1]
  simp only [nextS,e]
  exact ⟨trivial,h.2,⟨by exact Nat.le_of_ble_eq_true rfl,hlt⟩,trivial,trivial,trivial⟩
 | cons ch pb =>
  have hpb:pb=[]:=by cases pb with | nil=>rfl | cons _ _=>simp at h1
  subst hpb
  simp only [List.cons_append,List.nil_append,List.cons.injEq] at h
  simp only [nextS]
  exact ⟨by rw [h.1],h.2,⟨by exact Nat.le_of_ble_eq_true rfl,h2⟩,trivial,trivial,trivial⟩
theorem zS{s:LexSt}(h:stream l s=[]):(nextS l s).1=[]∧(nextS l s).2=s:=by
 obtain ⟨st,tk,ln,pos,pb⟩:=s
 unfold stream at h
 simp only [List.append_eq_nil_iff] at h
 obtain ⟨rfl,h⟩:=h
 have e:l[pos]?=none:=by rw [List.getElem?_eq_none_iff];exact List.drop_eq_nil_iff.mp h
 simp only [nextS,e]
 exact ⟨trivial,trivial⟩
noncomputable def rtBody:List Stmt:=match f_shlex_read_token.body with | _::_::.While _ b _ _::_=>b | _=>[]
noncomputable def stAt(b:List Stmt)(i:Nat):Stmt:=(b[i]?).getD (.Pass ⟨0,0,0,0⟩)
theorem rt_read(hK:Keys c.K)(L:Addr)(cdv:Value)(st:Stmt)(hst:st=stAt rtBody 0)(q:Bool)(s:LexSt)(hg:Good l s)(hz:l.length≤10000)(hdp:d+3 < recursionLimit):
  SsOK c d u (envOf f_shlex_read_token.qual f_shlex_read_token.scope L 824 cdv) (exec st (envOf f_shlex_read_token.qual f_shlex_read_token.scope L 824 cdv)) ⟨rtLoc base.length q,lmu base rest l s⟩
   (fun f σ'=>f=.next∧Sub (rtLoc1 base.length q (nextS l s).1) σ'.loc∧σ'.mu=lmu base rest l (nextS l s).2):=by
 subst hst
 refine qL ?_
 refine qY (vC (jB (by assumption) rfl rfl rfl rfl (by exact o255 hdp) (gE (by decide +kernel) ?_)))
 refine ⟨fun Z=>?_,fun hb=>absurd hb (by decide +kernel)⟩
 refine qY (vC (qJ rfl (rdL hK (by decide)) (qN _ _ _ _) rfl rfl ?_))
 refine tr_dq (gY _ _ _ _) (by rw [List.length_map];have:=hg.pb;exact o256 this) ?_
 obtain ⟨st,tk,ln,pos,pb⟩:=s
 obtain ⟨h1,h2⟩:=hg
 dsimp only at h1 h2
 cases pb with
 | cons ch pb =>
  have hpb:pb=[]:=by cases pb with | nil=>rfl | cons _ _=>simp at h1
  subst hpb
  refine ⟨fun Z=>?_,fun hb=>(nomatch hb)⟩
  refine wP ?_
  refine ⟨fun Z=>?_,fun hb=>(nomatch hb)⟩
  refine qA (qR rfl rfl ?_)
  refine' qQ (pl:=_) (qS rfl) rfl ?_
  refine qJ rfl (rdL hK (by decide)) (qN _ _ _ _) rfl rfl ?_
  refine meth_dq sl_dqpop ty_dqpop (gY _ _ _ _) ⟨.inr (fun a z=>nomatch z),?_⟩
  refine qE ?_
  refine qP (call_dqpop (vs:=[]) (v:=chAV ch) (gY _ _ _ _) (by decide) ?_)
  refine qF ?_
  refine ⟨rfl,.cons rfl (.cons rfl (.cons rfl (.cons rfl (.nil _)))),?_⟩
  exact gW _ []
 | nil =>
  refine ⟨fun hb=>(nomatch hb),fun Z=>?_⟩
  refine ⟨fun hb=>(nomatch hb),fun Z=>?_⟩
  refine qA (qR rfl rfl ?_)
  refine' qQ (pl:=_) (qS rfl) rfl ?_
  refine qJ rfl (rdL hK (by decide)) (qN _ _ _ _) rfl rfl ?_
  refine wB hK (n:="read") (f:=667) (by decide) hK.kit721 (kF _ _ _ _) rfl ?_
  refine qC rfl (qH (qE ?_))
  refine qP (c_sio_read hK _ l pos h2 hz (kF _ _ _ _) (by exact o257 hdp) (fun ch hch=>?_) (fun hp=>?_))
  ·refine qF ?_
   unfold nextS
   dsimp only
   rw [hch]
   refine ⟨rfl,.cons rfl (.cons rfl (.cons rfl (.cons rfl (.nil _)))),?_⟩
   exact zU _ _
  ·have hn:l[pos]?=none:=by rw [List.getElem?_eq_none_iff];exact o14 hp
   refine qF ?_
   unfold nextS
   dsimp only
   rw [hn]
   exact ⟨rfl,.cons rfl (.cons rfl (.cons rfl (.cons rfl (.nil _)))),rfl⟩
theorem lex_setlineno (b:Nat) (s:LexSt) (n:Nat):setL (Str.ofString "lineno") (.int ((n:Nat):Int)) (lexD b s)=lexD b { s with lineno:=n }:=rfl
theorem wF (b:Nat) (s:LexSt) (t:List Nat):setL (Str.ofString "token") (.str (S t)) (lexD b s)=lexD b { s with token:=t }:=rfl
theorem qV (b:Nat) (s:LexSt) (v:AV):setL (Str.ofString "state") v (lexD b s)=lexD b { s with state:=v }:=rfl
end
section
variable {c:Cx}{d u:Nat}{env:Env}{σ:St}{mu base rest:List AO}{l:List Nat}
theorem vX {x:Str} {px pos' pos:Pos} {name:Str} {value:Expr} {loc:List (Str×AV)} {s:LexSt} {K:Fl→St→Prop} (hk:env.scope.kind=.function) (hl:env.kindOf x=some .local) (hd:(x==("__debug__":Str))=false) (hv:loc.lookup x=some (.inst 856 base.length)) (hs:swapsWith value (some (.Attribute (.Name x px) name pos')) pos.line env=pure false) (st:Stores c.K 856 name)
  (h:EvOK c d u env value ⟨loc,lmu base rest l s⟩ (fun v σ1=>σ1=⟨loc,lmu base rest l s⟩∧∃s',setL name v (lexD base.length s)=lexD base.length s'∧s'.pos=s.pos∧s'.pb=s.pb∧K .next ⟨loc,lmu base rest l s'⟩)) :
  SsOK c d u env (exec (.Assign [.Attribute (.Name x px) name pos'] value pos) env) ⟨loc,lmu base rest l s⟩ K :=
 xK (C:=856) hk hl hd hs st (h.mono fun v σ1 hh=>by
  obtain ⟨rfl,s',h1,h2,h3,h4⟩:=hh
  refine ⟨base.length,hv,lexD base.length s,qN _ _ _ _,(by show 20≤900;decide),?_⟩
  rw [h1]
  show K .next ⟨loc,(lmu base rest l s).set _ _⟩
  rw [gX s s' h2 h3]
  exact h4)
theorem zA {x:Str} {px tpos pos p1:Pos} {k1:Nat} {loc:List (Str×AV)} {s:LexSt} {K:Fl→St→Prop} (hK:Keys c.K) (hk:env.scope.kind=.function) (hl:env.kindOf x=some .local) (hd:(x==("__debug__":Str))=false) (hv:loc.lookup x=some (.inst 856 base.length))
  (h:K .next ⟨loc,lmu base rest l { s with lineno:=s.lineno+1 }⟩):SsOK c d u env (exec (.AugAssign (.Attribute (.Name x px) (Str.ofString "lineno") tpos) .Add (.Constant (.int 1) k1 p1) pos) env) ⟨loc,lmu base rest l s⟩ K :=
 ss_augattr (C:=856) (k:=base.length) (attrs:=lexD base.length s) (vI hk hl hd hv ⟨rfl,rfl,.int (s.lineno:Int),zZ (rdL hK (by decide)) (qN _ _ _ _) rfl rfl ⟨rfl,rfl⟩,qH ⟨rfl,iadd_ii ⟨rfl,stL hK (by decide),qN _ _ _ _,(by show 20≤900;decide),by
  have e:=lex_setlineno base.length s (s.lineno+1)
  have e2:(((s.lineno+1:Nat):Int))=(s.lineno:Int)+1:=o258
  rw [e2] at e
  show K .next ⟨loc,(lmu base rest l s).set _ (.dict (setL (Str.ofString "lineno") _ _))⟩
  rw [e,gX s { s with lineno:=s.lineno+1 } rfl rfl]
  exact h⟩⟩⟩)
theorem gV {x y:Str} {px py tpos pos:Pos} {loc:List (Str×AV)} {s:LexSt} {a:Nat} {K:Fl→St→Prop} (hK:Keys c.K) (hk:env.scope.kind=.function) (hl:env.kindOf x=some .local) (hd:(x==("__debug__":Str))=false) (hv:loc.lookup x=some (.inst 856 base.length))
  (hl2:env.kindOf y=some .local) (hd2:(y==("__debug__":Str))=false) (hv2:loc.lookup y=some (.str (S [a]))) (hz:s.token.length≤100000)
  (h:K .next ⟨loc,lmu base rest l { s with token:=s.token++[a] }⟩):SsOK c d u env (exec (.AugAssign (.Attribute (.Name x px) (Str.ofString "token") tpos) .Add (.Name y py) pos) env) ⟨loc,lmu base rest l s⟩ K :=
 ss_augattr (C:=856) (k:=base.length) (attrs:=lexD base.length s) (vI hk hl hd hv ⟨rfl,rfl,.str (S s.token),zZ (rdL hK (by decide)) (qN _ _ _ _) rfl rfl ⟨rfl,rfl⟩,vI hk hl2 hd2 hv2 ⟨rfl,iadd_ss (by rw [vV,vV];unfold sizeLine;simp;exact o259 hz) ⟨rfl,stL hK (by decide),qN _ _ _ _,(by show 20≤900;decide),by
  show K .next ⟨loc,(lmu base rest l s).set _ (.dict (setL (Str.ofString "token") (.str (S s.token++S [a])) _))⟩
  rw [yH,wF,gX s { s with token:=s.token++[a] } rfl rfl]
  exact h⟩⟩⟩)
noncomputable def lnOf(x:List Nat)(s:LexSt):LexSt:={ s with lineno:=if x=[10] then s.lineno+1 else s.lineno }
theorem rt_line(hK:Keys c.K)(L:Addr)(cdv:Value)(st:Stmt)(hst:st=stAt rtBody 1)(q:Bool)(x:List Nat)(s:LexSt):
  SsOK c d u (envOf f_shlex_read_token.qual f_shlex_read_token.scope L 824 cdv) (exec st (envOf f_shlex_read_token.qual f_shlex_read_token.scope L 824 cdv)) ⟨rtLoc1 base.length q x,lmu base rest l s⟩
   (fun f σ'=>f=.next∧Sub (rtLoc1 base.length q x) σ'.loc∧σ'.mu=lmu base rest l (lnOf x s)):=by
 subst hst
 refine qL ?_
 refine qD rfl (qB rfl (qM (vU (pu ?_))))
 rw [ofS10,wY]
 refine ⟨_,rfl,fun hb=>?_,fun hb=>?_⟩
 ·have hx:x=[10]:=by simpa using hb
  refine qA ?_
  refine zA hK rfl rfl rfl rfl ?_
  refine qF ⟨rfl,Sub.refl _,?_⟩
  unfold lnOf;rw [if_pos hx]
 ·have hx:¬x=[10]:=by simpa using hb
  refine qF ⟨rfl,Sub.refl _,?_⟩
  unfold lnOf;rw [if_neg hx]
theorem rt_debug(hK:Keys c.K)(L:Addr)(cdv:Value)(st:Stmt)(hst:st=stAt rtBody 2)(q:Bool)(x:List Nat)(s:LexSt):
  SsOK c d u (envOf f_shlex_read_token.qual f_shlex_read_token.scope L 824 cdv) (exec st (envOf f_shlex_read_token.qual f_shlex_read_token.scope L 824 cdv)) ⟨rtLoc1 base.length q x,lmu base rest l s⟩
   (fun f σ'=>f=.next∧Sub (rtLoc1 base.length q x) σ'.loc∧σ'.mu=lmu base rest l s):=by
 subst hst
 refine qL ?_
 refine qD rfl (qJ rfl (rdL hK (by decide)) (qN _ _ _ _) rfl rfl (qH (xU (pu ?_))))
 refine ⟨_,rfl,fun hb=>absurd hb (by decide),fun Z=>?_⟩
 exact qF ⟨rfl,Sub.refl _,rfl⟩
theorem yN(hK:Keys c.K)(L:Addr)(cdv:Value)(body:List Stmt)(hbody:body=rtBody)(q:Bool)(s:LexSt)(hg:Good l s)(hz:l.length≤10000)(hdp:d+3 < recursionLimit){K:Fl→St→Prop}
  (h:∀st,st=stAt rtBody 3→SsOK c d u (envOf f_shlex_read_token.qual f_shlex_read_token.scope L 824 cdv) (execs [st] (envOf f_shlex_read_token.qual f_shlex_read_token.scope L 824 cdv)) ⟨rtLoc1 base.length q (nextS l s).1,lmu base rest l (lnOf (nextS l s).1 (nextS l s).2)⟩ K) :
  SsOK c d u (envOf f_shlex_read_token.qual f_shlex_read_token.scope L 824 cdv) (execs body (envOf f_shlex_read_token.qual f_shlex_read_token.scope L 824 cdv)) ⟨rtLoc base.length q,lmu base rest l s⟩ K:=by
 subst hbody
 refine kC _ _ (rt_read hK L cdv _ rfl q s hg hz hdp) ?_
 refine kC _ _ (rt_line hK L cdv _ rfl q _ _) ?_
 refine kC _ _ (rt_debug hK L cdv _ rfl q _ _) ?_
 exact h _ rfl
end
section
section
variable {c:Cx}{d u:Nat}{env:Env}{σ:St}{mu base rest:List AO}{l:List Nat}
theorem ofS97:Str.ofString "a"=S [97]:=by decide +kernel
theorem ofS99:Str.ofString "c"=S [99]:=by decide +kernel
theorem sub1(b:Nat)(q:Bool)(x:List Nat):Sub (rtLoc b q) (rtLoc1 b q x):=.cons rfl (.cons rfl (.cons rfl (.nil _)))
theorem wN:∀r:List Nat,(dropLine r).length≤r.length
 | []=>Nat.le_refl _
 | a::r=>by
  unfold dropLine
  split
  ·simp
  ·have:=wN r;simp;exact o28 this
noncomputable abbrev Res:=Option (List Nat)×Bool×List Nat
noncomputable def LInv(base rest:List AO)(l:List Nat)(res:Res)(n:Nat)(σ:St):Prop:=∃mode q s loc,lex1 n mode (stream l s)=some res∧s.state=mode.st∧s.token=mode.tok∧mode.quo q∧Good l s∧Sub (rtLoc base.length q) loc∧s.token.length+(stream l s).length≤20000∧σ=⟨loc,lmu base rest l s⟩
noncomputable def tokOK:Option (List Nat)→List Nat→Bool→Prop
 | some t',t,q=>t'=t∧(t≠[]∨q=true)
 | none,t,q=>t=[]∧q=false
noncomputable def LBrk(base rest:List AO)(l:List Nat)(res:Res)(σ:St):Prop:=∃q s loc,tokOK res.1 s.token q∧s.state=(if res.2.1 then AV.none else .str (S [32]))∧stream l s=res.2.2∧Good l s∧Sub (rtLoc base.length q) loc∧σ=⟨loc,lmu base rest l s⟩
theorem ifN{α:Type}{b:Bool}{x y z:α}(hb:b=false)(h:(if b=true then x else y)=z):y=z:=by subst hb;exact h
theorem ifP{α:Type}{b:Bool}{x y z:α}(hb:b=true)(h:(if b=true then x else y)=z):x=z:=by subst hb;exact h
noncomputable def TurnPost(base rest:List AO)(l:List Nat)(res:Res)(n:Nat)(f:Fl)(σ:St):Prop:=((f=.next∨f=.cont)∧LInv base rest l res n σ)∨(f=.brk∧LBrk base rest l res σ)
theorem turn_eof(hK:Keys c.K)(L:Addr)(cdv:Value)(body:List Stmt)(hbody:body=rtBody)(s:LexSt)(n:Nat)(res:Res)(h:lex1 (n+1) .eof (stream l s)=some res)(hs:s.state=AV.none)(ht:s.token=[])(hg:Good l s)(hz:l.length≤10000)(hdp:d+3 < recursionLimit):
  SsOK c d u (envOf f_shlex_read_token.qual f_shlex_read_token.scope L 824 cdv) (execs body (envOf f_shlex_read_token.qual f_shlex_read_token.scope L 824 cdv)) ⟨rtLoc base.length false,lmu base rest l s⟩ (TurnPost base rest l res n):=by
 refine yN hK L cdv body hbody false s hg hz hdp fun st hst=>?_
 subst hst
 obtain ⟨stv,tk,ln,pos,pb⟩:=s
 dsimp only at hs ht
 subst hs ht
 cases hcs:stream l ⟨.none,[],ln,pos,pb⟩ with
 | cons a r=>rw [hcs] at h;simp [lex1] at h
 | nil =>
  rw [hcs] at h
  simp only [lex1,Option.some.injEq] at h
  subst h
  obtain ⟨e1,e2⟩:=zS hcs
  rw [e1,e2]
  obtain ⟨ln',hln⟩:∃ln',lnOf [] ⟨.none,[],ln,pos,pb⟩=⟨.none,[],ln',pos,pb⟩:=⟨_,rfl⟩
  refine zC (congrArg (lmu base rest l) hln) ?_
  refine qA ?_
  refine qL ?_
  refine qD rfl (qJ rfl (rdL hK (by decide)) (qN _ _ _ _) rfl rfl (qX (vP rfl (pu ?_))))
  refine yT rfl ?_
  refine qA ?_
  refine' vX rfl rfl rfl rfl rfl (stL hK (by decide)) ?_
  refine vE ofS0 ?_
  refine ⟨rfl,_,wF _ _ _,rfl,rfl,?_⟩
  refine qA (vN ?_)
  exact .inr ⟨rfl,false,⟨.none,[],ln',pos,pb⟩,_,⟨rfl,rfl⟩,rfl,hcs,⟨hg.pb,hg.pos⟩,.cons rfl (.cons rfl (.cons rfl (.nil _))),rfl⟩
end
namespace turn_sp0
noncomputable def Cq(c:Cx)(d u:Nat)(base rest:List AO)(l:List Nat)(L:Addr)(cdv:Value)(ln pos:Nat)(pb:List Nat)(n:Nat):Prop:=∀(hK:Keys c.K) (res:Res) (h:lex1 (n+1) .sp (stream l (⟨AV.str (S [32]),[],ln,pos,pb⟩:LexSt))=some res) (hB:([]:List Nat).length+(stream l (⟨AV.str (S [32]),[],ln,pos,pb⟩:LexSt)).length≤20000) (hg:Good l (⟨AV.str (S [32]),[],ln,pos,pb⟩:LexSt)) (hz:l.length≤10000) (hdp:d+3 < recursionLimit),SsOK c d u (envOf f_shlex_read_token.qual f_shlex_read_token.scope L 824 cdv) (execs rtBody (envOf f_shlex_read_token.qual f_shlex_read_token.scope L 824 cdv)) ⟨rtLoc base.length false,lmu base rest l (⟨AV.str (S [32]),[],ln,pos,pb⟩:LexSt)⟩ (TurnPost base rest l res n)
noncomputable def Dq(p:Cx×Nat×Nat×(List AO)×(List AO)×(List Nat)×Addr×Value×Nat×Nat×(List Nat)×Nat):Prop:=Cq p.1 p.2.1 p.2.2.1 p.2.2.2.1 p.2.2.2.2.1 p.2.2.2.2.2.1 p.2.2.2.2.2.2.1 p.2.2.2.2.2.2.2.1 p.2.2.2.2.2.2.2.2.1 p.2.2.2.2.2.2.2.2.2.1 p.2.2.2.2.2.2.2.2.2.2.1 p.2.2.2.2.2.2.2.2.2.2.2
def tq:=@ep _ (by have:=neCx;infer_instance) Dq
def c:=tq.1
def d:=tq.2.1
def u:=tq.2.2.1
def base:=tq.2.2.2.1
def rest:=tq.2.2.2.2.1
def l:=tq.2.2.2.2.2.1
def L:=tq.2.2.2.2.2.2.1
def cdv:=tq.2.2.2.2.2.2.2.1
def ln:=tq.2.2.2.2.2.2.2.2.1
def pos:=tq.2.2.2.2.2.2.2.2.2.1
def pb:=tq.2.2.2.2.2.2.2.2.2.2.1
def n:=tq.2.2.2.2.2.2.2.2.2.2.2
theorem T0:Cq c d u base rest l L cdv ln pos pb n:=by
 intro hK res h hB hg hz hdp
 refine yN hK L cdv rtBody rfl false (⟨AV.str (S [32]),[],ln,pos,pb⟩:LexSt) hg hz hdp fun st hst=>?_
 subst hst
 cases hcs:stream l ⟨AV.str (S [32]),[],ln,pos,pb⟩ with
 | nil =>
  rw [hcs] at h
  simp only [lex1,Option.some.injEq] at h
  subst h
  obtain ⟨e1,e2⟩:=zS hcs
  rw [e1,e2]
  obtain ⟨ln',hln⟩:∃ln',lnOf [] ⟨AV.str (S [32]),[],ln,pos,pb⟩=⟨AV.str (S [32]),[],ln',pos,pb⟩:=⟨_,rfl⟩
  refine zC (congrArg (lmu base rest l) hln) ?_
  refine qA ?_
  refine qL ?_
  refine qD rfl (qJ rfl (rdL hK (by decide)) (qN _ _ _ _) rfl rfl (qX (vP rfl (pu ?_))))
  refine yF rfl ?_
  refine qA (qL (qD rfl (qJ rfl (rdL hK (by decide)) (qN _ _ _ _) rfl rfl (qM (vU (pu ?_))))))
  refine ⟨_,rfl,fun Z=>?_,fun z=>absurd z (by decide +kernel)⟩
  refine qA (qL (wO (vL (qB rfl (tr_S (Nat.le_of_ble_eq_true rfl) ?_)))))
  refine onT ?_
  refine qA ?_
  refine' vX rfl rfl rfl rfl rfl (stL hK (by decide)) ?_
  refine qX ?_
  refine ⟨rfl,_,qV _ _ _,rfl,rfl,?_⟩
  refine qA (vN ?_)
  exact .inr ⟨rfl,false,⟨.none,[],ln',pos,pb⟩,_,⟨rfl,rfl⟩,rfl,hcs,⟨hg.pb,hg.pos⟩,.cons rfl (.cons rfl (.cons rfl (.nil _))),rfl⟩
 | cons a r =>
  rw [hcs] at h hB
  simp only [List.length_cons,List.length_nil] at hB
  unfold lex1 at h
  obtain ⟨e1,e2,e3,e4,e5,e6⟩:=yY hcs hg
  generalize nextS l ⟨AV.str (S [32]),[],ln,pos,pb⟩=ns at *
  obtain ⟨x,stv1,tk1,ln1,pos1,pb1⟩:=ns
  dsimp only at e1 e2 e3 e4 e5 e6
  subst e1 e4 e5 e6
  obtain ⟨ln',hln⟩:∃ln',lnOf [a] ⟨AV.str (S [32]),[],ln1,pos1,[]⟩=⟨AV.str (S [32]),[],ln',pos1,[]⟩:=⟨_,rfl⟩
  refine zC (congrArg (lmu base rest l) hln) ?_
  have e3':∀ln t st,Good l ⟨st,t,ln,pos1,[]⟩:=fun Z Z Z=>⟨e3.pb,e3.pos⟩
  refine qA ?_
  refine qL ?_
  refine qD rfl (qJ rfl (rdL hK (by decide)) (qN _ _ _ _) rfl rfl (qX (vP rfl (pu ?_))))
  refine yF rfl ?_
  refine qA (qL (qD rfl (qJ rfl (rdL hK (by decide)) (qN _ _ _ _) rfl rfl (qM (vU (pu ?_))))))
  refine ⟨_,rfl,fun Z=>?_,fun z=>absurd z (by decide +kernel)⟩
  refine qA (qL (wO (vL (qB rfl (tr_S (Nat.le_of_ble_eq_true rfl) ?_)))))
  refine onF ?_
  refine qA (qL (qD rfl (qB rfl (qJ rfl (rdL hK (by decide)) (qN _ _ _ _) rfl rfl (vF (pu ?_))))))
  have go:∀(m:LMode) (q:Bool) (ln t st loc) (f:Fl),(f=.next∨f=.cont)→lex1 n m r=some res→st=m.st→t=m.tok→m.quo q→Sub (rtLoc base.length q) loc→t.length≤1→TurnPost base rest l res n f ⟨loc,lmu base rest l ⟨st,t,ln,pos1,[]⟩⟩ :=
   fun m q ln t st loc f hf hl h1 h2 h3 h4 h5=>.inl ⟨hf,m,q,⟨st,t,ln,pos1,[]⟩,loc,by rw [show stream l ⟨st,t,ln,pos1,[]⟩=r from e2];exact hl,h1,h2,h3,e3' _ _ _,h4,by rw [show stream l ⟨st,t,ln,pos1,[]⟩=r from e2];show t.length+_≤_;exact o260 hB h5,rfl⟩
  refine ⟨_,rfl,fun hb=>?_,fun hb=>?_⟩
  ·replace h:=ifP (show isWs a=true from hb) h
   refine qA ?_
   refine qL (qD rfl (qJ rfl (rdL hK (by decide)) (qN _ _ _ _) rfl rfl (qH (xU (pu ?_)))))
   refine yF rfl ?_
   refine qF (qA (qL (yG (vC (qJ rfl (rdL hK (by decide)) (qN _ _ _ _) rfl rfl (tr_S (Nat.le_of_ble_eq_true rfl) ?_))))))
   refine onT' ?_
   refine yG (qY (vC (qJ rfl (rdL hK (by decide)) (qN _ _ _ _) rfl rfl (qT ?_))))
   refine onT ?_
   refine qY (vL (qB rfl (qT ?_)))
   refine onF ?_
   refine onT' ?_
   refine yS ?_
   refine onF ?_
   refine qA (ss_continue ?_)
   exact go .sp false _ _ _ (rtLoc1 base.length false [a]) _ (.inr rfl) h rfl rfl rfl (sub1 _ _ _) (by first | exact Nat.le_refl 1 | exact Nat.zero_le 1)
  replace h:=ifN (show isWs a=false from hb) h
  refine qA (qL (qD rfl (qB rfl (qJ rfl (rdL hK (by decide)) (qN _ _ _ _) rfl rfl (vF (pu ?_))))))
  refine ⟨_,rfl,fun hb=>?_,fun hb=>?_⟩
  ·replace h:=ifP (show isCm a=true from hb) h
   refine qA (vA rfl rfl ?_)
   refine' qQ (pl:=_) (qS rfl) rfl ?_
   refine qJ rfl (rdL hK (by decide)) (qN _ _ _ _) rfl rfl ?_
   refine wB hK (n:="readline") (f:=675) (by decide) hK.kit721 (kF _ _ _ _) rfl ?_
   refine qE ?_
   refine qP (xH hK _ l pos1 e3.pos hz (kF _ _ _ _) (by exact o257 hdp) fun x=>⟨trivial,?_⟩)
   refine wA ⟨rtLoc1 base.length false [a],lmu base rest l ⟨AV.str (S [32]),[],ln',lineEnd l pos1,[]⟩⟩ (by show (⟨_,(lmu base rest l _).set _ _⟩:St)=_;rw [zU]) ?_
   refine qA ?_
   refine zA hK rfl rfl rfl rfl ?_
   repeat (with_reducible refine qF ?_)
   have e2':l.drop pos1=r:=e2
   have el:stream l ⟨AV.str (S [32]),[],ln'+1,lineEnd l pos1,[]⟩=dropLine r:=by rw [← e2',← jT l pos1 e3.pos];rfl
   exact .inl ⟨.inl rfl,.sp,false,⟨AV.str (S [32]),[],ln'+1,lineEnd l pos1,[]⟩,rtLoc1 base.length false [a],by rw [el];exact h,rfl,rfl,rfl,⟨e3.pb,(xZ l pos1 e3.pos).2⟩,sub1 _ _ _,by rw [el];have:=wN r;show 0+_≤_;exact o261 hB this,rfl⟩
  replace h:=ifN (show isCm a=false from hb) h
  refine qA (qL (qY (vC (qJ rfl (rdL hK (by decide)) (qN _ _ _ _) rfl rfl (qT ?_)))))
  refine onT ?_
  refine qY (qD rfl (qB rfl (qJ rfl (rdL hK (by decide)) (qN _ _ _ _) rfl rfl (vF (pu ?_)))))
  refine ⟨_,rfl,fun hb=>?_,fun hb=>?_⟩
  ·replace h:=ifP (show isEs a=true from hb) h;cases h
  replace h:=ifN (show isEs a=false from hb) h
  refine onF ?_
  refine qA (qL (qD rfl (qB rfl (qJ rfl (rdL hK (by decide)) (qN _ _ _ _) rfl rfl (vF (pu ?_))))))
  refine ⟨_,rfl,fun hb=>?_,fun hb=>?_⟩
  ·replace h:=ifP (show isWd a=true from hb) h
   refine qA ?_
   refine' vX rfl rfl rfl rfl rfl (stL hK (by decide)) ?_
   refine qB rfl ?_
   refine ⟨rfl,_,wF _ _ _,rfl,rfl,?_⟩
   refine qA ?_
   refine' vX rfl rfl rfl rfl rfl (stL hK (by decide)) ?_
   refine vE ofS97 ?_
   refine ⟨rfl,_,qV _ _ _,rfl,rfl,?_⟩
   repeat (with_reducible refine qF ?_)
   exact go (.wd [a] false) false _ _ _ (rtLoc1 base.length false [a]) _ (.inl rfl) h rfl rfl rfl (sub1 _ _ _) (by first | exact Nat.le_refl 1 | exact Nat.zero_le 1)
  replace h:=ifN (show isWd a=false from hb) h
  refine qA (qL (qD rfl (qB rfl (jB (by assumption) rfl rfl rfl rfl (by exact o255 hdp) (vF (pu ?_))))))
  refine ⟨_,rfl,fun hb=>?_,fun hb=>?_⟩
  ·replace h:=ifP (show isPu a=true from hb) h
   refine qA ?_
   refine' vX rfl rfl rfl rfl rfl (stL hK (by decide)) ?_
   refine qB rfl ?_
   refine ⟨rfl,_,wF _ _ _,rfl,rfl,?_⟩
   refine qA ?_
   refine' vX rfl rfl rfl rfl rfl (stL hK (by decide)) ?_
   refine vE ofS99 ?_
   refine ⟨rfl,_,qV _ _ _,rfl,rfl,?_⟩
   repeat (with_reducible refine qF ?_)
   exact go (.pn [a]) false _ _ _ (rtLoc1 base.length false [a]) _ (.inl rfl) h rfl rfl rfl (sub1 _ _ _) (by first | exact Nat.le_refl 1 | exact Nat.zero_le 1)
  replace h:=ifN (show isPu a=false from hb) h
  refine qA (qL (qD rfl (qB rfl (qJ rfl (rdL hK (by decide)) (qN _ _ _ _) rfl rfl (vF (pu ?_))))))
  refine ⟨_,rfl,fun hb=>?_,fun hb=>?_⟩
  ·replace h:=ifP (show isQu a=true from hb) h
   have hq:isQu a=true:=hb
   refine qA ?_
   refine qL (wO (vC (qJ rfl (rdL hK (by decide)) (qN _ _ _ _) rfl rfl (qT ?_))))
   refine onF ?_
   refine qF ?_
   refine qA ?_
   refine' vX rfl rfl rfl rfl rfl (stL hK (by decide)) ?_
   refine qB rfl ?_
   refine ⟨rfl,_,qV _ _ _,rfl,rfl,?_⟩
   repeat (with_reducible refine qF ?_)
   exact go (.qu a []) false _ _ _ (rtLoc1 base.length false [a]) _ (.inl rfl) h rfl rfl hq (sub1 _ _ _) (by first | exact Nat.le_refl 1 | exact Nat.zero_le 1)
  replace h:=ifN (show isQu a=false from hb) h
  refine qA (qL (vC (qJ rfl (rdL hK (by decide)) (qN _ _ _ _) rfl rfl (qT ?_))))
  refine onF ?_
  refine qA ?_
  refine' vX rfl rfl rfl rfl rfl (stL hK (by decide)) ?_
  refine qB rfl ?_
  refine ⟨rfl,_,wF _ _ _,rfl,rfl,?_⟩
  refine qA ?_
  refine qL (yG (vC (qJ rfl (rdL hK (by decide)) (qN _ _ _ _) rfl rfl (tr_S (Nat.le_of_ble_eq_true rfl) ?_))))
  refine onF' ?_
  refine onT ?_
  refine qA (vN ?_)
  cases h
  exact .inr ⟨rfl,false,⟨AV.str (S [32]),[a],ln',pos1,[]⟩,_,⟨rfl,.inl (fun z=>nomatch z)⟩,rfl,e2,e3' _ _ _,.cons rfl (.cons rfl (.cons rfl (.nil _))),rfl⟩
end turn_sp0
section
variable {c:Cx}{d u:Nat}{env:Env}{σ:St}{mu base rest:List AO}{l:List Nat}
theorem turn_sp0(hK:Keys c.K)(L:Addr)(cdv:Value)(ln pos:Nat)(pb:List Nat)(n:Nat)(res:Res)(h:lex1 (n+1) .sp (stream l (⟨AV.str (S [32]),[],ln,pos,pb⟩:LexSt))=some res)(hB:([]:List Nat).length+(stream l (⟨AV.str (S [32]),[],ln,pos,pb⟩:LexSt)).length≤20000)(hg:Good l (⟨AV.str (S [32]),[],ln,pos,pb⟩:LexSt))(hz:l.length≤10000)(hdp:d+3 < recursionLimit):
  SsOK c d u (envOf f_shlex_read_token.qual f_shlex_read_token.scope L 824 cdv) (execs rtBody (envOf f_shlex_read_token.qual f_shlex_read_token.scope L 824 cdv)) ⟨rtLoc base.length false,lmu base rest l (⟨AV.str (S [32]),[],ln,pos,pb⟩:LexSt)⟩ (TurnPost base rest l res n):=(@eps _ _ turn_sp0.Dq turn_sp0.tq rfl @turn_sp0.T0 (c,d,u,base,rest,l,L,cdv,ln,pos,pb,n)) hK res h hB hg hz hdp
theorem turn_sp(hK:Keys c.K)(L:Addr)(cdv:Value)(body:List Stmt)(hbody:body=rtBody)(s:LexSt)(n:Nat)(res:Res)(h:lex1 (n+1) .sp (stream l s)=some res)(hs:s.state=AV.str (S [32]))(ht:s.token=[])(hB:s.token.length+(stream l s).length≤20000)(hg:Good l s)(hz:l.length≤10000)(hdp:d+3 < recursionLimit):
  SsOK c d u (envOf f_shlex_read_token.qual f_shlex_read_token.scope L 824 cdv) (execs body (envOf f_shlex_read_token.qual f_shlex_read_token.scope L 824 cdv)) ⟨rtLoc base.length false,lmu base rest l s⟩ (TurnPost base rest l res n):=by
 subst hbody
 obtain ⟨stv,tk,ln,pos,pb⟩:=s
 dsimp only at hs ht
 subst hs ht
 exact turn_sp0 hK L cdv  ln pos pb n res h hB hg hz hdp
end
end
section
section
variable {c:Cx}{d u:Nat}{env:Env}{σ:St}{mu base rest:List AO}{l:List Nat}
theorem yU{t:List Nat}{q:Bool}(h:(t.isEmpty&&!q)=false):t≠[]∨q=true:=by
 cases t with
 | nil=>right;cases q <;> simp_all
 | cons a t=>left;exact fun z=>nomatch z
theorem tr_S'{l:List Nat}{mu:List AO}{K:Bool→Prop}(hz:l.length≤100000)(h:∀b,b=!l.isEmpty→K b):TrOK c d u (.str (S l)) mu K:=tr_S hz (h _ rfl)
theorem xR {x y:Str} {px px2 py p1 p2 p3 p4:Pos} {loc:List (Str×AV)} {s:LexSt} {q:Bool} {K:Bool→St→Prop} (hK:Keys c.K) (hk:env.scope.kind=.function) (hl:env.kindOf x=some .local) (hd:(x==("__debug__":Str))=false) (hv:loc.lookup x=some (.inst 856 base.length))
  (hl2:env.kindOf y=some .local) (hd2:(y==("__debug__":Str))=false) (hv2:loc.lookup y=some (.bool q)) (hz:s.token.length≤20000) (htq:s.token≠[]∨q=true) (h:K true ⟨loc,lmu base rest l s⟩) :
  TsOK c d u env (.BoolOp .Or [.Attribute (.Name x px) (Str.ofString "token") p1,.BoolOp .And [.Attribute (.Name x px2) (Str.ofString "posix") p2,.Name y py] p3] p4) ⟨loc,lmu base rest l s⟩ K:=by
 refine yG (vC (ev_inst hk hl hd hv (rdL hK (by decide)) (qN _ _ _ _) (av:=.str (S s.token)) rfl rfl (tr_S' (by exact o262 hz) fun b hb=>⟨fun hb2=>?_,fun Z=>h⟩)))
 have hq:q=true:=by
  rcases htq with z | z
  ·rw [hb2] at hb
   cases ht:s.token with
   | nil=>exact absurd ht z
   | cons a r=>rw [ht] at hb;cases hb
  ·exact z
 subst hq
 refine yG (qY (vC (ev_inst hk hl hd hv (rdL hK (by decide)) (qN _ _ _ _) (av:=.bool true) rfl rfl (qT ⟨fun Z=>?_,fun z=>nomatch z⟩))))
 refine qY (vL (vI hk hl2 hd2 hv2 (qT ⟨fun Z=>wP ⟨fun z=>(nomatch z),fun Z=>h⟩,fun z=>nomatch z⟩)))
end
namespace turn_wd0
noncomputable def Cq(c:Cx)(d u:Nat)(base rest:List AO)(l:List Nat)(L:Addr)(cdv:Value)(tk:List Nat)(q:Bool)(ln pos:Nat)(pb:List Nat)(n:Nat):Prop:=∀(hK:Keys c.K) (res:Res) (h:lex1 (n+1) (.wd tk q) (stream l (⟨AV.str (S [97]),tk,ln,pos,pb⟩:LexSt))=some res) (hB:tk.length+(stream l (⟨AV.str (S [97]),tk,ln,pos,pb⟩:LexSt)).length≤20000) (hg:Good l (⟨AV.str (S [97]),tk,ln,pos,pb⟩:LexSt)) (hz:l.length≤10000) (hdp:d+3 < recursionLimit),SsOK c d u (envOf f_shlex_read_token.qual f_shlex_read_token.scope L 824 cdv) (execs rtBody (envOf f_shlex_read_token.qual f_shlex_read_token.scope L 824 cdv)) ⟨rtLoc base.length q,lmu base rest l (⟨AV.str (S [97]),tk,ln,pos,pb⟩:LexSt)⟩ (TurnPost base rest l res n)
noncomputable def Dq(p:Cx×Nat×Nat×(List AO)×(List AO)×(List Nat)×Addr×Value×(List Nat)×Bool×Nat×Nat×(List Nat)×Nat):Prop:=Cq p.1 p.2.1 p.2.2.1 p.2.2.2.1 p.2.2.2.2.1 p.2.2.2.2.2.1 p.2.2.2.2.2.2.1 p.2.2.2.2.2.2.2.1 p.2.2.2.2.2.2.2.2.1 p.2.2.2.2.2.2.2.2.2.1 p.2.2.2.2.2.2.2.2.2.2.1 p.2.2.2.2.2.2.2.2.2.2.2.1 p.2.2.2.2.2.2.2.2.2.2.2.2.1 p.2.2.2.2.2.2.2.2.2.2.2.2.2
def tq:=@ep _ (by have:=neCx;infer_instance) Dq
def c:=tq.1
def d:=tq.2.1
def u:=tq.2.2.1
def base:=tq.2.2.2.1
def rest:=tq.2.2.2.2.1
def l:=tq.2.2.2.2.2.1
def L:=tq.2.2.2.2.2.2.1
def cdv:=tq.2.2.2.2.2.2.2.1
def tk:=tq.2.2.2.2.2.2.2.2.1
def q:=tq.2.2.2.2.2.2.2.2.2.1
def ln:=tq.2.2.2.2.2.2.2.2.2.2.1
def pos:=tq.2.2.2.2.2.2.2.2.2.2.2.1
def pb:=tq.2.2.2.2.2.2.2.2.2.2.2.2.1
def n:=tq.2.2.2.2.2.2.2.2.2.2.2.2.2
theorem T0:Cq c d u base rest l L cdv tk q ln pos pb n:=by
 intro hK res h hB hg hz hdp
 refine yN hK L cdv rtBody rfl q (⟨AV.str (S [97]),tk,ln,pos,pb⟩:LexSt) hg hz hdp fun st hst=>?_
 subst hst
 cases hcs:stream l ⟨AV.str (S [97]),tk,ln,pos,pb⟩ with
 | nil =>
  rw [hcs] at h
  unfold lex1 at h
  split at h
  ·cases h
  rename_i hem
  cases h
  have htq:=yU (by simpa using hem)
  obtain ⟨e1,e2⟩:=zS hcs
  rw [e1,e2]
  obtain ⟨ln',hln⟩:∃ln',lnOf [] ⟨AV.str (S [97]),tk,ln,pos,pb⟩=⟨AV.str (S [97]),tk,ln',pos,pb⟩:=⟨_,rfl⟩
  refine zC (congrArg (lmu base rest l) hln) ?_
  refine qA ?_
  refine qL ?_
  refine qD rfl (qJ rfl (rdL hK (by decide)) (qN _ _ _ _) rfl rfl (qX (vP rfl (pu ?_))))
  refine yF rfl ?_
  refine qA (qL (qD rfl (qJ rfl (rdL hK (by decide)) (qN _ _ _ _) rfl rfl (qM (vU (pu ?_))))))
  refine ⟨_,rfl,fun z=>absurd z (by decide +kernel),fun Z=>?_⟩
  refine qA (qL (qD rfl (qJ rfl (rdL hK (by decide)) (qN _ _ _ _) rfl rfl (qJ rfl (rdL hK (by decide)) (qN _ _ _ _) rfl rfl (vF (pu ?_))))))
  refine ⟨_,rfl,fun z=>absurd z (by decide +kernel),fun Z=>?_⟩
  refine qA (qL (qD rfl (qJ rfl (rdL hK (by decide)) (qN _ _ _ _) rfl rfl (qJ rfl (rdL hK (by decide)) (qN _ _ _ _) rfl rfl (vF (pu ?_))))))
  refine ⟨_,rfl,fun z=>absurd z (by decide +kernel),fun Z=>?_⟩
  refine qA (qL (qD rfl (qJ rfl (rdL hK (by decide)) (qN _ _ _ _) rfl rfl (vR (qC rfl (qM (qC rfl (qM (qE ?_)))))))))
  refine ⟨by decide,?_⟩
  refine kZ (pu ?_)
  refine ⟨_,rfl,fun Z=>?_,fun z=>absurd z (by decide +kernel)⟩
  refine qA (qL (wO (vL (qB rfl (tr_S (Nat.le_of_ble_eq_true rfl) ?_)))))
  refine onT ?_
  refine qA ?_
  refine' vX rfl rfl rfl rfl rfl (stL hK (by decide)) ?_
  refine qX ?_
  refine ⟨rfl,_,qV _ _ _,rfl,rfl,?_⟩
  refine qA (vN ?_)
  exact .inr ⟨rfl,q,⟨.none,tk,ln',pos,pb⟩,_,⟨rfl,htq⟩,rfl,hcs,⟨hg.pb,hg.pos⟩,.cons rfl (.cons rfl (.cons rfl (.nil _))),rfl⟩
 | cons a r =>
  rw [hcs] at h hB
  simp only [List.length_cons] at hB
  unfold lex1 at h
  split at h
  ·cases h
  rename_i hem
  have htq:=yU (by simpa using hem)
  obtain ⟨e1,e2,e3,e4,e5,e6⟩:=yY hcs hg
  generalize nextS l ⟨AV.str (S [97]),tk,ln,pos,pb⟩=ns at *
  obtain ⟨x,stv1,tk,ln1,pos1,pb1⟩:=ns
  dsimp only at e1 e2 e3 e4 e5 e6 hB
  subst e1 e4 e5 e6
  obtain ⟨ln',hln⟩:∃ln',lnOf [a] ⟨AV.str (S [97]),tk,ln1,pos1,[]⟩=⟨AV.str (S [97]),tk,ln',pos1,[]⟩:=⟨_,rfl⟩
  refine zC (congrArg (lmu base rest l) hln) ?_
  have e3':∀ln t st,Good l ⟨st,t,ln,pos1,[]⟩:=fun Z Z Z=>⟨e3.pb,e3.pos⟩
  have hzt:tk.length≤20000:=o88 hB
  have go:∀(m:LMode) (ln t st loc) (f:Fl),(f=.next∨f=.cont)→lex1 n m r=some res→st=m.st→t=m.tok→m.quo q→Sub (rtLoc base.length q) loc→t.length≤tk.length+1→TurnPost base rest l res n f ⟨loc,lmu base rest l ⟨st,t,ln,pos1,[]⟩⟩ :=
   fun m ln t st loc f hf hl h1 h2 h3 h4 h5=>.inl ⟨hf,m,q,⟨st,t,ln,pos1,[]⟩,loc,by rw [show stream l ⟨st,t,ln,pos1,[]⟩=r from e2];exact hl,h1,h2,h3,e3' _ _ _,h4,by rw [show stream l ⟨st,t,ln,pos1,[]⟩=r from e2];show t.length+_≤_;exact o263 hB h5,rfl⟩
  refine qA ?_
  refine qL ?_
  refine qD rfl (qJ rfl (rdL hK (by decide)) (qN _ _ _ _) rfl rfl (qX (vP rfl (pu ?_))))
  refine yF rfl ?_
  refine qA (qL (qD rfl (qJ rfl (rdL hK (by decide)) (qN _ _ _ _) rfl rfl (qM (vU (pu ?_))))))
  refine ⟨_,rfl,fun z=>absurd z (by decide +kernel),fun Z=>?_⟩
  refine qA (qL (qD rfl (qJ rfl (rdL hK (by decide)) (qN _ _ _ _) rfl rfl (qJ rfl (rdL hK (by decide)) (qN _ _ _ _) rfl rfl (vF (pu ?_))))))
  refine ⟨_,rfl,fun z=>absurd z (by decide +kernel),fun Z=>?_⟩
  refine qA (qL (qD rfl (qJ rfl (rdL hK (by decide)) (qN _ _ _ _) rfl rfl (qJ rfl (rdL hK (by decide)) (qN _ _ _ _) rfl rfl (vF (pu ?_))))))
  refine ⟨_,rfl,fun z=>absurd z (by decide +kernel),fun Z=>?_⟩
  refine qA (qL (qD rfl (qJ rfl (rdL hK (by decide)) (qN _ _ _ _) rfl rfl (vR (qC rfl (qM (qC rfl (qM (qE ?_)))))))))
  refine ⟨by decide,?_⟩
  refine kZ (pu ?_)
  refine ⟨_,rfl,fun Z=>?_,fun z=>absurd z (by decide +kernel)⟩
  refine qA (qL (wO (vL (qB rfl (tr_S (Nat.le_of_ble_eq_true rfl) ?_)))))
  refine onF ?_
  refine qA (qL (qD rfl (qB rfl (qJ rfl (rdL hK (by decide)) (qN _ _ _ _) rfl rfl (vF (pu ?_))))))
  refine ⟨_,rfl,fun hb=>?_,fun hb=>?_⟩
  ·replace h:=ifP (show isWs a=true from hb) h
   cases h
   refine qA ?_
   refine qL (qD rfl (qJ rfl (rdL hK (by decide)) (qN _ _ _ _) rfl rfl (qH (xU (pu ?_)))))
   refine yF rfl ?_
   refine qF ?_
   refine qA ?_
   refine' vX rfl rfl rfl rfl rfl (stL hK (by decide)) ?_
   refine vE ofS32 ?_
   refine ⟨rfl,_,qV _ _ _,rfl,rfl,?_⟩
   refine qA (qL ?_)
   refine xR (q:=q) hK rfl rfl rfl rfl rfl rfl rfl hzt htq ?_
   refine onT ?_
   refine qA (vN ?_)
   exact .inr ⟨rfl,q,⟨AV.str (S [32]),tk,ln',pos1,[]⟩,_,⟨rfl,htq⟩,rfl,e2,e3' _ _ _,sub1 _ _ _,rfl⟩
  replace h:=ifN (show isWs a=false from hb) h
  refine qA (qL (qD rfl (qB rfl (qJ rfl (rdL hK (by decide)) (qN _ _ _ _) rfl rfl (vF (pu ?_))))))
  refine ⟨_,rfl,fun hb=>?_,fun hb=>?_⟩
  ·replace h:=ifP (show isCm a=true from hb) h
   cases h
   refine qA (vA rfl rfl ?_)
   refine' qQ (pl:=_) (qS rfl) rfl ?_
   refine qJ rfl (rdL hK (by decide)) (qN _ _ _ _) rfl rfl ?_
   refine wB hK (n:="readline") (f:=675) (by decide) hK.kit721 (kF _ _ _ _) rfl ?_
   refine qE ?_
   refine qP (xH hK _ l pos1 e3.pos hz (kF _ _ _ _) (by exact o257 hdp) fun x=>⟨trivial,?_⟩)
   refine wA ⟨rtLoc1 base.length q [a],lmu base rest l ⟨AV.str (S [97]),tk,ln',lineEnd l pos1,[]⟩⟩ (by show (⟨_,(lmu base rest l _).set _ _⟩:St)=_;rw [zU]) ?_
   refine qA ?_
   refine zA hK rfl rfl rfl rfl ?_
   refine qA ?_
   refine qL (vC (qJ rfl (rdL hK (by decide)) (qN _ _ _ _) rfl rfl (qT ?_)))
   refine onT ?_
   refine qA ?_
   refine' vX rfl rfl rfl rfl rfl (stL hK (by decide)) ?_
   refine vE ofS32 ?_
   refine ⟨rfl,_,qV _ _ _,rfl,rfl,?_⟩
   refine qA (qL ?_)
   refine xR (q:=q) hK rfl rfl rfl rfl rfl rfl rfl hzt htq ?_
   refine onT ?_
   refine qA (vN ?_)
   have e2':l.drop pos1=r:=e2
   have el:stream l ⟨AV.str (S [32]),tk,ln'+1,lineEnd l pos1,[]⟩=dropLine r:=by rw [← e2',← jT l pos1 e3.pos];rfl
   exact .inr ⟨rfl,q,⟨AV.str (S [32]),tk,ln'+1,lineEnd l pos1,[]⟩,_,⟨rfl,htq⟩,rfl,el,⟨e3.pb,(xZ l pos1 e3.pos).2⟩,sub1 _ _ _,rfl⟩
  replace h:=ifN (show isCm a=false from hb) h
  refine qA (qL (qD rfl (qJ rfl (rdL hK (by decide)) (qN _ _ _ _) rfl rfl (qM (vU (pu ?_))))))
  refine ⟨_,rfl,fun z=>absurd z (by decide +kernel),fun Z=>?_⟩
  refine qA (qL (qY (vC (qJ rfl (rdL hK (by decide)) (qN _ _ _ _) rfl rfl (qT ?_)))))
  refine onT ?_
  refine qY (qD rfl (qB rfl (qJ rfl (rdL hK (by decide)) (qN _ _ _ _) rfl rfl (vF (pu ?_)))))
  refine ⟨_,rfl,fun hb=>?_,fun hb=>?_⟩
  ·replace h:=ifP (show isQu a=true from hb) h
   have hq:isQu a=true:=hb
   refine wP ?_
   refine onT ?_
   refine qA ?_
   refine' vX rfl rfl rfl rfl rfl (stL hK (by decide)) ?_
   refine qB rfl ?_
   refine ⟨rfl,_,qV _ _ _,rfl,rfl,?_⟩
   repeat (with_reducible refine qF ?_)
   exact go (.qu a tk) _ _ _ (rtLoc1 base.length q [a]) _ (.inl rfl) h rfl rfl hq (sub1 _ _ _) (Nat.le_succ _)
  replace h:=ifN (show isQu a=false from hb) h
  have hqu:isQu a=false:=hb
  refine onF ?_
  refine qA (qL (qY (vC (qJ rfl (rdL hK (by decide)) (qN _ _ _ _) rfl rfl (qT ?_)))))
  refine onT ?_
  refine qY (qD rfl (qB rfl (qJ rfl (rdL hK (by decide)) (qN _ _ _ _) rfl rfl (vF (pu ?_)))))
  refine ⟨_,rfl,fun hb=>?_,fun hb=>?_⟩
  ·replace h:=ifP (show isEs a=true from hb) h;cases h
  replace h:=ifN (show isEs a=false from hb) h
  refine onF ?_
  refine qA (qL (yG (qD rfl (qB rfl (qJ rfl (rdL hK (by decide)) (qN _ _ _ _) rfl rfl (vF (pu ?_)))))))
  refine ⟨_,rfl,fun hb=>?_,fun hb=>?_⟩
  ·replace h:=ifN (show isWd a=false from hb) h
   cases h
   refine yG (qD rfl (qB rfl (qJ rfl (rdL hK (by decide)) (qN _ _ _ _) rfl rfl (vF (pu ?_)))))
   refine ⟨_,rfl,fun Z=>?_,fun z=>by rw [show decide (a∈(Str.ofString "'\"").cps.toList)=false from hqu] at z;cases z⟩
   refine yG (qY (vC (qJ rfl (rdL hK (by decide)) (qN _ _ _ _) rfl rfl (qT ?_))))
   refine onF ?_
   refine onT' ?_
   refine yS ?_
   refine onF ?_
   refine qA (qL ?_)
   refine vC (jB (by assumption) rfl rfl rfl rfl (by exact o255 hdp) (gE (by decide +kernel) ?_))
   refine ⟨fun Z=>?_,fun hb=>absurd hb (by decide +kernel)⟩
   refine qA (vA rfl rfl ?_)
   refine' qQ (pl:=_) (qS rfl) rfl ?_
   refine qJ rfl (rdL hK (by decide)) (qN _ _ _ _) rfl rfl ?_
   refine meth_dq yM kB (gY _ _ _ _) ⟨.inr (fun a z=>nomatch z),?_⟩
   refine qC rfl (qB rfl (qE ?_))
   refine qP (zF (vs:=[]) (gY _ _ _ _) (by decide) ⟨trivial,?_⟩)
   refine wA ⟨rtLoc1 base.length q [a],lmu base rest l ⟨AV.str (S [97]),tk,ln',pos1,[a]⟩⟩ (by show (⟨_,(lmu base rest l _).set _ (.deque ([a].map chAV))⟩:St)=_;rw [gW]) ?_
   refine qF ?_
   refine qA ?_
   refine qL (qD rfl (qJ rfl (rdL hK (by decide)) (qN _ _ _ _) rfl rfl (qH (xU (pu ?_)))))
   refine yF rfl ?_
   refine qF ?_
   refine qA ?_
   refine' vX rfl rfl rfl rfl rfl (stL hK (by decide)) ?_
   refine vE ofS32 ?_
   refine ⟨rfl,_,qV _ _ _,rfl,rfl,?_⟩
   refine qA (qL ?_)
   refine xR (q:=q) hK rfl rfl rfl rfl rfl rfl rfl hzt htq ?_
   refine onT ?_
   refine qA (vN ?_)
   exact .inr ⟨rfl,q,⟨AV.str (S [32]),tk,ln',pos1,[a]⟩,_,⟨rfl,htq⟩,rfl,by rw [← e2];rfl,⟨Nat.le_refl 1,e3.pos⟩,sub1 _ _ _,rfl⟩
  ·replace h:=ifP (show isWd a=true from hb) h
   refine onT ?_
   refine qA ?_
   refine gV (a:=a) hK rfl rfl rfl rfl rfl rfl rfl (by show tk.length≤_;exact o262 hzt) ?_
   repeat (with_reducible refine qF ?_)
   exact go (.wd (tk++[a]) q) _ _ _ (rtLoc1 base.length q [a]) _ (.inl rfl) h rfl rfl rfl (sub1 _ _ _) (by simp)
end turn_wd0
section
variable {c:Cx}{d u:Nat}{env:Env}{σ:St}{mu base rest:List AO}{l:List Nat}
theorem turn_wd0(hK:Keys c.K)(L:Addr)(cdv:Value)(tk:List Nat)(q:Bool)(ln pos:Nat)(pb:List Nat)(n:Nat)(res:Res)(h:lex1 (n+1) (.wd tk q) (stream l (⟨AV.str (S [97]),tk,ln,pos,pb⟩:LexSt))=some res)(hB:tk.length+(stream l (⟨AV.str (S [97]),tk,ln,pos,pb⟩:LexSt)).length≤20000)(hg:Good l (⟨AV.str (S [97]),tk,ln,pos,pb⟩:LexSt))(hz:l.length≤10000)(hdp:d+3 < recursionLimit):
  SsOK c d u (envOf f_shlex_read_token.qual f_shlex_read_token.scope L 824 cdv) (execs rtBody (envOf f_shlex_read_token.qual f_shlex_read_token.scope L 824 cdv)) ⟨rtLoc base.length q,lmu base rest l (⟨AV.str (S [97]),tk,ln,pos,pb⟩:LexSt)⟩ (TurnPost base rest l res n):=(@eps _ _ turn_wd0.Dq turn_wd0.tq rfl @turn_wd0.T0 (c,d,u,base,rest,l,L,cdv,tk,q,ln,pos,pb,n)) hK res h hB hg hz hdp
theorem turn_wd(hK:Keys c.K)(L:Addr)(cdv:Value)(body:List Stmt)(hbody:body=rtBody)(s:LexSt)(n:Nat)(res:Res)(t:List Nat)(q:Bool)(h:lex1 (n+1) (.wd t q) (stream l s)=some res)(hs:s.state=AV.str (S [97]))(ht:s.token=t)(hB:s.token.length+(stream l s).length≤20000)(hg:Good l s)(hz:l.length≤10000)(hdp:d+3 < recursionLimit):
  SsOK c d u (envOf f_shlex_read_token.qual f_shlex_read_token.scope L 824 cdv) (execs body (envOf f_shlex_read_token.qual f_shlex_read_token.scope L 824 cdv)) ⟨rtLoc base.length q,lmu base rest l s⟩ (TurnPost base rest l res n):=by
 subst hbody
 obtain ⟨stv,tk,ln,pos,pb⟩:=s
 dsimp only at hs ht
 subst hs ht
 exact turn_wd0 hK L cdv tk q ln pos pb n res h hB hg hz hdp
end
end
section
section
variable {c:Cx}{d u:Nat}{env:Env}{σ:St}{mu base rest:List AO}{l:List Nat}
end
namespace turn_pn0
noncomputable def Cq(c:Cx)(d u:Nat)(base rest:List AO)(l:List Nat)(L:Addr)(cdv:Value)(tk:List Nat)(ln pos:Nat)(pb:List Nat)(n:Nat):Prop:=∀(hK:Keys c.K) (res:Res) (h:lex1 (n+1) (.pn tk) (stream l (⟨AV.str (S [99]),tk,ln,pos,pb⟩:LexSt))=some res) (hB:tk.length+(stream l (⟨AV.str (S [99]),tk,ln,pos,pb⟩:LexSt)).length≤20000) (hg:Good l (⟨AV.str (S [99]),tk,ln,pos,pb⟩:LexSt)) (hz:l.length≤10000) (hdp:d+3 < recursionLimit),SsOK c d u (envOf f_shlex_read_token.qual f_shlex_read_token.scope L 824 cdv) (execs rtBody (envOf f_shlex_read_token.qual f_shlex_read_token.scope L 824 cdv)) ⟨rtLoc base.length false,lmu base rest l (⟨AV.str (S [99]),tk,ln,pos,pb⟩:LexSt)⟩ (TurnPost base rest l res n)
noncomputable def Dq(p:Cx×Nat×Nat×(List AO)×(List AO)×(List Nat)×Addr×Value×(List Nat)×Nat×Nat×(List Nat)×Nat):Prop:=Cq p.1 p.2.1 p.2.2.1 p.2.2.2.1 p.2.2.2.2.1 p.2.2.2.2.2.1 p.2.2.2.2.2.2.1 p.2.2.2.2.2.2.2.1 p.2.2.2.2.2.2.2.2.1 p.2.2.2.2.2.2.2.2.2.1 p.2.2.2.2.2.2.2.2.2.2.1 p.2.2.2.2.2.2.2.2.2.2.2.1 p.2.2.2.2.2.2.2.2.2.2.2.2
def tq:=@ep _ (by have:=neCx;infer_instance) Dq
def c:=tq.1
def d:=tq.2.1
def u:=tq.2.2.1
def base:=tq.2.2.2.1
def rest:=tq.2.2.2.2.1
def l:=tq.2.2.2.2.2.1
def L:=tq.2.2.2.2.2.2.1
def cdv:=tq.2.2.2.2.2.2.2.1
def tk:=tq.2.2.2.2.2.2.2.2.1
def ln:=tq.2.2.2.2.2.2.2.2.2.1
def pos:=tq.2.2.2.2.2.2.2.2.2.2.1
def pb:=tq.2.2.2.2.2.2.2.2.2.2.2.1
def n:=tq.2.2.2.2.2.2.2.2.2.2.2.2
theorem T0:Cq c d u base rest l L cdv tk ln pos pb n:=by
 intro hK res h hB hg hz hdp
 refine yN hK L cdv rtBody rfl false (⟨AV.str (S [99]),tk,ln,pos,pb⟩:LexSt) hg hz hdp fun st hst=>?_
 subst hst
 cases hcs:stream l ⟨AV.str (S [99]),tk,ln,pos,pb⟩ with
 | nil =>
  rw [hcs] at h
  unfold lex1 at h
  split at h
  ·cases h
  rename_i hem
  cases h
  have htq:tk≠[]∨false=true:=yU (by simpa using hem)
  obtain ⟨e1,e2⟩:=zS hcs
  rw [e1,e2]
  obtain ⟨ln',hln⟩:∃ln',lnOf [] ⟨AV.str (S [99]),tk,ln,pos,pb⟩=⟨AV.str (S [99]),tk,ln',pos,pb⟩:=⟨_,rfl⟩
  refine zC (congrArg (lmu base rest l) hln) ?_
  refine qA ?_
  refine qL ?_
  refine qD rfl (qJ rfl (rdL hK (by decide)) (qN _ _ _ _) rfl rfl (qX (vP rfl (pu ?_))))
  refine yF rfl ?_
  refine qA (qL (qD rfl (qJ rfl (rdL hK (by decide)) (qN _ _ _ _) rfl rfl (qM (vU (pu ?_))))))
  refine ⟨_,rfl,fun z=>absurd z (by decide +kernel),fun Z=>?_⟩
  refine qA (qL (qD rfl (qJ rfl (rdL hK (by decide)) (qN _ _ _ _) rfl rfl (qJ rfl (rdL hK (by decide)) (qN _ _ _ _) rfl rfl (vF (pu ?_))))))
  refine ⟨_,rfl,fun z=>absurd z (by decide +kernel),fun Z=>?_⟩
  refine qA (qL (qD rfl (qJ rfl (rdL hK (by decide)) (qN _ _ _ _) rfl rfl (qJ rfl (rdL hK (by decide)) (qN _ _ _ _) rfl rfl (vF (pu ?_))))))
  refine ⟨_,rfl,fun z=>absurd z (by decide +kernel),fun Z=>?_⟩
  refine qA (qL (qD rfl (qJ rfl (rdL hK (by decide)) (qN _ _ _ _) rfl rfl (vR (qC rfl (qM (qC rfl (qM (qE ?_)))))))))
  refine ⟨by decide,?_⟩
  refine kZ (pu ?_)
  refine ⟨_,rfl,fun Z=>?_,fun z=>absurd z (by decide +kernel)⟩
  refine qA (qL (wO (vL (qB rfl (tr_S (Nat.le_of_ble_eq_true rfl) ?_)))))
  refine onT ?_
  refine qA ?_
  refine' vX rfl rfl rfl rfl rfl (stL hK (by decide)) ?_
  refine qX ?_
  refine ⟨rfl,_,qV _ _ _,rfl,rfl,?_⟩
  refine qA (vN ?_)
  exact .inr ⟨rfl,false,⟨.none,tk,ln',pos,pb⟩,_,⟨rfl,htq⟩,rfl,hcs,⟨hg.pb,hg.pos⟩,.cons rfl (.cons rfl (.cons rfl (.nil _))),rfl⟩
 | cons a r =>
  rw [hcs] at h hB
  simp only [List.length_cons] at hB
  unfold lex1 at h
  split at h
  ·cases h
  rename_i hem
  have htq:tk≠[]∨false=true:=yU (by simpa using hem)
  obtain ⟨e1,e2,e3,e4,e5,e6⟩:=yY hcs hg
  generalize nextS l ⟨AV.str (S [99]),tk,ln,pos,pb⟩=ns at *
  obtain ⟨x,stv1,tk,ln1,pos1,pb1⟩:=ns
  dsimp only at e1 e2 e3 e4 e5 e6 hB
  subst e1 e4 e5 e6
  obtain ⟨ln',hln⟩:∃ln',lnOf [a] ⟨AV.str (S [99]),tk,ln1,pos1,[]⟩=⟨AV.str (S [99]),tk,ln',pos1,[]⟩:=⟨_,rfl⟩
  refine zC (congrArg (lmu base rest l) hln) ?_
  have e3':∀ln t st,Good l ⟨st,t,ln,pos1,[]⟩:=fun Z Z Z=>⟨e3.pb,e3.pos⟩
  have hzt:tk.length≤20000:=o88 hB
  refine qA ?_
  refine qL ?_
  refine qD rfl (qJ rfl (rdL hK (by decide)) (qN _ _ _ _) rfl rfl (qX (vP rfl (pu ?_))))
  refine yF rfl ?_
  refine qA (qL (qD rfl (qJ rfl (rdL hK (by decide)) (qN _ _ _ _) rfl rfl (qM (vU (pu ?_))))))
  refine ⟨_,rfl,fun z=>absurd z (by decide +kernel),fun Z=>?_⟩
  refine qA (qL (qD rfl (qJ rfl (rdL hK (by decide)) (qN _ _ _ _) rfl rfl (qJ rfl (rdL hK (by decide)) (qN _ _ _ _) rfl rfl (vF (pu ?_))))))
  refine ⟨_,rfl,fun z=>absurd z (by decide +kernel),fun Z=>?_⟩
  refine qA (qL (qD rfl (qJ rfl (rdL hK (by decide)) (qN _ _ _ _) rfl rfl (qJ rfl (rdL hK (by decide)) (qN _ _ _ _) rfl rfl (vF (pu ?_))))))
  refine ⟨_,rfl,fun z=>absurd z (by decide +kernel),fun Z=>?_⟩
  refine qA (qL (qD rfl (qJ rfl (rdL hK (by decide)) (qN _ _ _ _) rfl rfl (vR (qC rfl (qM (qC rfl (qM (qE ?_)))))))))
  refine ⟨by decide,?_⟩
  refine kZ (pu ?_)
  refine ⟨_,rfl,fun Z=>?_,fun z=>absurd z (by decide +kernel)⟩
  refine qA (qL (wO (vL (qB rfl (tr_S (Nat.le_of_ble_eq_true rfl) ?_)))))
  refine onF ?_
  refine qA (qL (qD rfl (qB rfl (qJ rfl (rdL hK (by decide)) (qN _ _ _ _) rfl rfl (vF (pu ?_))))))
  refine ⟨_,rfl,fun hb=>?_,fun hb=>?_⟩
  ·replace h:=ifP (show isWs a=true from hb) h
   cases h
   refine qA ?_
   refine qL (qD rfl (qJ rfl (rdL hK (by decide)) (qN _ _ _ _) rfl rfl (qH (xU (pu ?_)))))
   refine yF rfl ?_
   refine qF ?_
   refine qA ?_
   refine' vX rfl rfl rfl rfl rfl (stL hK (by decide)) ?_
   refine vE ofS32 ?_
   refine ⟨rfl,_,qV _ _ _,rfl,rfl,?_⟩
   refine qA (qL ?_)
   refine xR (q:=false) hK rfl rfl rfl rfl rfl rfl rfl hzt htq ?_
   refine onT ?_
   refine qA (vN ?_)
   exact .inr ⟨rfl,false,⟨AV.str (S [32]),tk,ln',pos1,[]⟩,_,⟨rfl,htq⟩,rfl,e2,e3' _ _ _,sub1 _ _ _,rfl⟩
  have hws:isWs a=false:=hb
  replace h:=ifN (show isWs a=false from hb) h
  refine qA (qL (qD rfl (qB rfl (qJ rfl (rdL hK (by decide)) (qN _ _ _ _) rfl rfl (vF (pu ?_))))))
  refine ⟨_,rfl,fun hb=>?_,fun hb=>?_⟩
  ·replace h:=ifP (show isCm a=true from hb) h
   cases h
   refine qA (vA rfl rfl ?_)
   refine' qQ (pl:=_) (qS rfl) rfl ?_
   refine qJ rfl (rdL hK (by decide)) (qN _ _ _ _) rfl rfl ?_
   refine wB hK (n:="readline") (f:=675) (by decide) hK.kit721 (kF _ _ _ _) rfl ?_
   refine qE ?_
   refine qP (xH hK _ l pos1 e3.pos hz (kF _ _ _ _) (by exact o257 hdp) fun x=>⟨trivial,?_⟩)
   refine wA ⟨rtLoc1 base.length false [a],lmu base rest l ⟨AV.str (S [99]),tk,ln',lineEnd l pos1,[]⟩⟩ (by show (⟨_,(lmu base rest l _).set _ _⟩:St)=_;rw [zU]) ?_
   refine qA ?_
   refine zA hK rfl rfl rfl rfl ?_
   refine qA ?_
   refine qL (vC (qJ rfl (rdL hK (by decide)) (qN _ _ _ _) rfl rfl (qT ?_)))
   refine onT ?_
   refine qA ?_
   refine' vX rfl rfl rfl rfl rfl (stL hK (by decide)) ?_
   refine vE ofS32 ?_
   refine ⟨rfl,_,qV _ _ _,rfl,rfl,?_⟩
   refine qA (qL ?_)
   refine xR (q:=false) hK rfl rfl rfl rfl rfl rfl rfl hzt htq ?_
   refine onT ?_
   refine qA (vN ?_)
   have e2':l.drop pos1=r:=e2
   have el:stream l ⟨AV.str (S [32]),tk,ln'+1,lineEnd l pos1,[]⟩=dropLine r:=by rw [← e2',← jT l pos1 e3.pos];rfl
   exact .inr ⟨rfl,false,⟨AV.str (S [32]),tk,ln'+1,lineEnd l pos1,[]⟩,_,⟨rfl,htq⟩,rfl,el,⟨e3.pb,(xZ l pos1 e3.pos).2⟩,sub1 _ _ _,rfl⟩
  replace h:=ifN (show isCm a=false from hb) h
  refine qA (qL (qD rfl (qJ rfl (rdL hK (by decide)) (qN _ _ _ _) rfl rfl (qM (vU (pu ?_))))))
  refine ⟨_,rfl,fun Z=>?_,fun z=>absurd z (by decide +kernel)⟩
  refine qA (qL (qD rfl (qB rfl (jB (by assumption) rfl rfl rfl rfl (by exact o255 hdp) (vF (pu ?_))))))
  refine ⟨_,rfl,fun hb=>?_,fun hb=>?_⟩
  ·replace h:=ifP (show isPu a=true from hb) h
   refine qA ?_
   refine gV (a:=a) hK rfl rfl rfl rfl rfl rfl rfl (by show tk.length≤_;exact o262 hzt) ?_
   repeat (with_reducible refine qF ?_)
   have er:stream l ⟨AV.str (S [99]),tk++[a],ln',pos1,[]⟩=r:=e2
   exact .inl ⟨.inl rfl,.pn (tk++[a]),false,⟨AV.str (S [99]),tk++[a],ln',pos1,[]⟩,rtLoc1 base.length false [a],by rw [er];exact h,rfl,rfl,rfl,e3' _ _ _,sub1 _ _ _,by rw [er];show (tk++[a]).length+_≤_;simp;exact o89 hB,rfl⟩
  replace h:=ifN (show isPu a=false from hb) h
  cases h
  refine qA ?_
  refine qL (qD rfl (qB rfl (qJ rfl (rdL hK (by decide)) (qN _ _ _ _) rfl rfl (nin1_ss (pu ?_)))))
  refine ⟨_,rfl,fun Z=>?_,fun z=>by rw [show decide (a∈(Str.ofString " \t\r\n").cps.toList)=false from hws] at z;cases z⟩
  refine qA (vA rfl rfl ?_)
  refine' qQ (pl:=_) (qS rfl) rfl ?_
  refine qJ rfl (rdL hK (by decide)) (qN _ _ _ _) rfl rfl ?_
  refine meth_dq yM kB (gY _ _ _ _) ⟨.inr (fun a z=>nomatch z),?_⟩
  refine qC rfl (qB rfl (qE ?_))
  refine qP (zF (vs:=[]) (gY _ _ _ _) (by decide) ⟨trivial,?_⟩)
  refine wA ⟨rtLoc1 base.length false [a],lmu base rest l ⟨AV.str (S [99]),tk,ln',pos1,[a]⟩⟩ (by show (⟨_,(lmu base rest l _).set _ (.deque ([a].map chAV))⟩:St)=_;rw [gW]) ?_
  refine qF ?_
  refine qA ?_
  refine' vX rfl rfl rfl rfl rfl (stL hK (by decide)) ?_
  refine vE ofS32 ?_
  refine ⟨rfl,_,qV _ _ _,rfl,rfl,?_⟩
  refine qA (vN ?_)
  exact .inr ⟨rfl,false,⟨AV.str (S [32]),tk,ln',pos1,[a]⟩,_,⟨rfl,htq⟩,rfl,by rw [← e2];rfl,⟨Nat.le_refl 1,e3.pos⟩,sub1 _ _ _,rfl⟩
end turn_pn0
section
variable {c:Cx}{d u:Nat}{env:Env}{σ:St}{mu base rest:List AO}{l:List Nat}
theorem turn_pn0(hK:Keys c.K)(L:Addr)(cdv:Value)(tk:List Nat)(ln pos:Nat)(pb:List Nat)(n:Nat)(res:Res)(h:lex1 (n+1) (.pn tk) (stream l (⟨AV.str (S [99]),tk,ln,pos,pb⟩:LexSt))=some res)(hB:tk.length+(stream l (⟨AV.str (S [99]),tk,ln,pos,pb⟩:LexSt)).length≤20000)(hg:Good l (⟨AV.str (S [99]),tk,ln,pos,pb⟩:LexSt))(hz:l.length≤10000)(hdp:d+3 < recursionLimit):
  SsOK c d u (envOf f_shlex_read_token.qual f_shlex_read_token.scope L 824 cdv) (execs rtBody (envOf f_shlex_read_token.qual f_shlex_read_token.scope L 824 cdv)) ⟨rtLoc base.length false,lmu base rest l (⟨AV.str (S [99]),tk,ln,pos,pb⟩:LexSt)⟩ (TurnPost base rest l res n):=(@eps _ _ turn_pn0.Dq turn_pn0.tq rfl @turn_pn0.T0 (c,d,u,base,rest,l,L,cdv,tk,ln,pos,pb,n)) hK res h hB hg hz hdp
theorem turn_pn(hK:Keys c.K)(L:Addr)(cdv:Value)(body:List Stmt)(hbody:body=rtBody)(s:LexSt)(n:Nat)(res:Res)(t:List Nat)(h:lex1 (n+1) (.pn t) (stream l s)=some res)(hs:s.state=AV.str (S [99]))(ht:s.token=t)(hB:s.token.length+(stream l s).length≤20000)(hg:Good l s)(hz:l.length≤10000)(hdp:d+3 < recursionLimit):
  SsOK c d u (envOf f_shlex_read_token.qual f_shlex_read_token.scope L 824 cdv) (execs body (envOf f_shlex_read_token.qual f_shlex_read_token.scope L 824 cdv)) ⟨rtLoc base.length false,lmu base rest l s⟩ (TurnPost base rest l res n):=by
 subst hbody
 obtain ⟨stv,tk,ln,pos,pb⟩:=s
 dsimp only at hs ht
 subst hs ht
 exact turn_pn0 hK L cdv tk ln pos pb n res h hB hg hz hdp
theorem turn_qu0(hK:Keys c.K)(L:Addr)(cdv:Value)(k:Nat)(tk:List Nat)(q:Bool)(hq:isQu k=true)(ln pos:Nat)(pb:List Nat)(n:Nat)(res:Res)(h:lex1 (n+1) (.qu k tk) (stream l (⟨AV.str (S [k]),tk,ln,pos,pb⟩:LexSt))=some res)(hB:tk.length+(stream l (⟨AV.str (S [k]),tk,ln,pos,pb⟩:LexSt)).length≤20000)(hg:Good l (⟨AV.str (S [k]),tk,ln,pos,pb⟩:LexSt))(hz:l.length≤10000)(hdp:d+3 < recursionLimit):
  SsOK c d u (envOf f_shlex_read_token.qual f_shlex_read_token.scope L 824 cdv) (execs rtBody (envOf f_shlex_read_token.qual f_shlex_read_token.scope L 824 cdv)) ⟨rtLoc base.length q,lmu base rest l (⟨AV.str (S [k]),tk,ln,pos,pb⟩:LexSt)⟩ (TurnPost base rest l res n):=by
 refine yN hK L cdv rtBody rfl q (⟨AV.str (S [k]),tk,ln,pos,pb⟩:LexSt) hg hz hdp fun st hst=>?_
 subst hst
 have hk32:¬k=32:=fun z=>by subst z;exact absurd hq (by decide +kernel)
 cases hcs:stream l ⟨AV.str (S [k]),tk,ln,pos,pb⟩ with
 | nil=>rw [hcs] at h;unfold lex1 at h;cases h
 | cons a r =>
  rw [hcs] at h hB
  simp only [List.length_cons] at hB
  unfold lex1 at h
  obtain ⟨e1,e2,e3,e4,e5,e6⟩:=yY hcs hg
  generalize nextS l ⟨AV.str (S [k]),tk,ln,pos,pb⟩=ns at *
  obtain ⟨x,stv1,tk1,ln1,pos1,pb1⟩:=ns
  dsimp only at e1 e2 e3 e4 e5 e6 hB
  subst e1 e4 e5 e6
  obtain ⟨ln',hln⟩:∃ln',lnOf [a] ⟨AV.str (S [k]),tk1,ln1,pos1,[]⟩=⟨AV.str (S [k]),tk1,ln',pos1,[]⟩:=⟨_,rfl⟩
  refine zC (congrArg (lmu base rest l) hln) ?_
  have e3':∀ln t st,Good l ⟨st,t,ln,pos1,[]⟩:=fun Z Z Z=>⟨e3.pb,e3.pos⟩
  refine qA ?_
  refine qL ?_
  refine qD rfl (qJ rfl (rdL hK (by decide)) (qN _ _ _ _) rfl rfl (qX (vP rfl (pu ?_))))
  refine yF rfl ?_
  refine qA (qL (qD rfl (qJ rfl (rdL hK (by decide)) (qN _ _ _ _) rfl rfl (qM (vU (pu ?_))))))
  refine ⟨_,rfl,fun z=>?_,fun Z=>?_⟩
  ·rw [ofS32,wY] at z
   exact absurd (by simpa using z) hk32
  refine qA (qL (qD rfl (qJ rfl (rdL hK (by decide)) (qN _ _ _ _) rfl rfl (qJ rfl (rdL hK (by decide)) (qN _ _ _ _) rfl rfl (vF (pu ?_))))))
  refine ⟨_,rfl,fun Z=>?_,fun z=>by rw [show decide (k∈(Str.ofString "'\"").cps.toList)=true from hq] at z;cases z⟩
  refine qA ?_
  refine' qR rfl rfl ?_
  refine wG ?_
  with_reducible refine' vD (rtLoc1 base.length true [a]) (lmu base rest l ⟨AV.str (S [k]),tk1,ln',pos1,[]⟩) ?fa ?fb ?_
  case fa=>exact .cons rfl (.cons rfl (.cons rfl (.cons rfl (.nil _))))
  case fb=>rfl
  refine qA ?_
  refine qL (wO (vL (qB rfl (tr_S (Nat.le_of_ble_eq_true rfl) ?_))))
  refine onF ?_
  refine qF ?_
  refine qA ?_
  refine qL (qD rfl (qB rfl (qJ rfl (rdL hK (by decide)) (qN _ _ _ _) rfl rfl (vU (pu ?_)))))
  rw [wY]
  have go:∀(m:LMode) (ln t st) (f:Fl),(f=.next∨f=.cont)→lex1 n m r=some res→st=m.st→t=m.tok→m.quo true→t.length≤tk1.length+1→TurnPost base rest l res n f ⟨rtLoc1 base.length true [a],lmu base rest l ⟨st,t,ln,pos1,[]⟩⟩ :=
   fun m ln t st f hf hl h1 h2 h3 h5=>.inl ⟨hf,m,true,⟨st,t,ln,pos1,[]⟩,_,by rw [show stream l ⟨st,t,ln,pos1,[]⟩=r from e2];exact hl,h1,h2,h3,e3' _ _ _,sub1 _ _ _,by rw [show stream l ⟨st,t,ln,pos1,[]⟩=r from e2];show t.length+_≤_;exact o263 hB h5,rfl⟩
  refine ⟨_,rfl,fun hb=>?_,fun hb=>?_⟩
  ·have hak:a=k:=by simpa using hb
   rw [if_pos hak] at h
   refine qA ?_
   refine qL (wO (vC (qJ rfl (rdL hK (by decide)) (qN _ _ _ _) rfl rfl (qT ?_))))
   refine onF ?_
   refine qA ?_
   refine' vX rfl rfl rfl rfl rfl (stL hK (by decide)) ?_
   refine vE ofS97 ?_
   refine ⟨rfl,_,qV _ _ _,rfl,rfl,?_⟩
   repeat (with_reducible refine qF ?_)
   exact go (.wd tk1 true) _ _ _ _ (.inl rfl) h rfl rfl rfl (Nat.le_succ _)
  ·have hak:¬a=k:=by simpa using hb
   rw [if_neg hak] at h
   refine qA (qL (qY (vC (qJ rfl (rdL hK (by decide)) (qN _ _ _ _) rfl rfl (qT ?_)))))
   refine onT ?_
   refine qY (qD rfl (qB rfl (qJ rfl (rdL hK (by decide)) (qN _ _ _ _) rfl rfl (vF (pu ?_)))))
   refine ⟨_,rfl,fun hb=>?_,fun hb=>?_⟩
   ·replace h:=ifP (show isEs a=true from hb) h;cases h
   replace h:=ifN (show isEs a=false from hb) h
   refine onF ?_
   refine qA ?_
   refine gV (a:=a) hK rfl rfl rfl rfl rfl rfl rfl (by show tk1.length≤_;exact o264 hB) ?_
   repeat (with_reducible refine qF ?_)
   exact go (.qu k (tk1++[a])) _ _ _ _ (.inl rfl) h rfl rfl hq (by simp)
theorem turn_qu(hK:Keys c.K)(L:Addr)(cdv:Value)(body:List Stmt)(hbody:body=rtBody)(s:LexSt)(n:Nat)(res:Res)(k:Nat)(t:List Nat)(q:Bool)(hq:isQu k=true)(h:lex1 (n+1) (.qu k t) (stream l s)=some res)(hs:s.state=AV.str (S [k]))(ht:s.token=t)(hB:s.token.length+(stream l s).length≤20000)(hg:Good l s)(hz:l.length≤10000)(hdp:d+3 < recursionLimit):
  SsOK c d u (envOf f_shlex_read_token.qual f_shlex_read_token.scope L 824 cdv) (execs body (envOf f_shlex_read_token.qual f_shlex_read_token.scope L 824 cdv)) ⟨rtLoc base.length q,lmu base rest l s⟩ (TurnPost base rest l res n):=by
 subst hbody
 obtain ⟨stv,tk,ln,pos,pb⟩:=s
 dsimp only at hs ht
 subst hs ht
 exact turn_qu0 hK L cdv k tk q hq ln pos pb n res h hB hg hz hdp
end
end
section
section
variable {c:Cx}{d u:Nat}{env:Env}{σ:St}{mu base rest:List AO}{l:List Nat}{K:AV→List AO→Prop}
noncomputable def resAV:Option (List Nat)→AV
 | none=>.none
 | some t=>.str (S t)
theorem ts_true{k:Nat}{pos:Pos}{K:Bool→St→Prop}(h:K true σ):TsOK c d u env (.Constant (.bool true) k pos) σ K:=zI rfl (wG (qT h))
end
namespace c_read_token
noncomputable def Cq(c:Cx)(d u:Nat)(base rest:List AO)(l:List Nat)(K:AV→List AO→Prop)(s:LexSt):Prop:=∀(hK:Keys c.K) (n:Nat) (m0:LMode) (res:Res) (h0:lex1 n m0 (stream l s)=some res) (hm:m0=.sp∨m0=.eof) (hs:s.state=m0.st) (ht:s.token=[]) (hg:Good l s) (hz:l.length≤10000) (hdp:d+5 < recursionLimit) (h:∀s',s'.state=(if res.2.1 then AV.none else .str (S [32]))→s'.token=[]→stream l s'=res.2.2→Good l s'→K (resAV res.1) (lmu base rest l s')),CallOK c d u (.ref 824) [.inst 856 base.length] [] (lmu base rest l s) K
noncomputable def Dq(p:Cx×Nat×Nat×(List AO)×(List AO)×(List Nat)×(AV→List AO→Prop)×LexSt):Prop:=Cq p.1 p.2.1 p.2.2.1 p.2.2.2.1 p.2.2.2.2.1 p.2.2.2.2.2.1 p.2.2.2.2.2.2.1 p.2.2.2.2.2.2.2
def tq:=@ep _ (by have:=(⟨⟨.none,[],0,0,[]⟩⟩:Nonempty LexSt);have:=neCx;infer_instance) Dq
def c:=tq.1
def d:=tq.2.1
def u:=tq.2.2.1
def base:=tq.2.2.2.1
def rest:=tq.2.2.2.2.1
def l:=tq.2.2.2.2.2.1
def K:=tq.2.2.2.2.2.2.1
def s:=tq.2.2.2.2.2.2.2
theorem T0:Cq c d u base rest l K s:=by
 intro hK n m0 res h0 hm hs ht hg hz hdp h
 refine' enter1 (n1:="self") hK.k_shlex_read_token (by exact o210 hdp) (fun Z Z Z Z Z Z=>rfl) rfl ?h
 case h =>
  intro cdv L
  have hB:s.token.length+(stream l s).length≤20000:=by
   rw [ht];unfold stream;have:=hg.pb;simp;exact o265 hz this
  refine qA ?_
  refine' qR rfl rfl ?_
  refine wG ?_
  refine qA ?_
  refine' qR rfl rfl ?_
  refine vE ofS32 ?_
  with_reducible refine' vD (rtLoc base.length false) (lmu base rest l s) ?fa ?fb ?_
  case fa=>exact .cons rfl (.cons rfl (.cons rfl (.nil _)))
  case fb=>rfl
  refine qA (SsOK.mono (K:=fun f σ'=>f=.next∧LBrk base rest l res σ') ?_ ?_)
  ·refine yL (LInv base rest l res) ?_ n ⟨m0,false,s,rtLoc base.length false,h0,hs,by rw [ht];rcases hm with rfl | rfl <;> rfl,by rcases hm with rfl | rfl <;> rfl,hg,Sub.refl _,hB,rfl⟩
   rintro n σ ⟨mode,q,s1,loc,hl,hst,htk,hq,hg1,hsub,hB1,rfl⟩
   refine ts_true ⟨fun Z=>?_,fun z=>nomatch z⟩
   cases n with
   | zero=>simp [lex1] at hl
   | succ n =>
    with_reducible refine' vD (rtLoc base.length q) (lmu base rest l s1) ?fa ?fb ?_
    case fa=>exact hsub
    case fb=>rfl
    have fin:∀f σ',TurnPost base rest l res n f σ'→turnK (LInv base rest l res) (fun f σ'=>f=.next∧LBrk base rest l res σ') (n+1) f σ':=by
     rintro f σ' (⟨hf,hI⟩ | ⟨rfl,hB⟩)
     ·rcases hf with rfl | rfl
      ·exact ⟨n,Nat.lt_succ_self _,hI⟩
      ·exact ⟨n,Nat.lt_succ_self _,hI⟩
     ·exact ⟨rfl,hB⟩
    cases mode with
    | sp =>
     have hq':q=false:=hq
     subst hq'
     exact SsOK.mono (turn_sp hK L cdv _ rfl s1 n res hl hst htk hB1 hg1 hz (by exact o218 hdp)) fin
    | eof =>
     have hq':q=false:=hq
     subst hq'
     exact SsOK.mono (turn_eof hK L cdv _ rfl s1 n res hl hst htk hg1 hz (by exact o218 hdp)) fin
    | wd t qq =>
     have hq':q=qq:=hq
     subst hq'
     exact SsOK.mono (turn_wd hK L cdv _ rfl s1 n res t q hl hst htk hB1 hg1 hz (by exact o218 hdp)) fin
    | qu k t=>exact SsOK.mono (turn_qu hK L cdv _ rfl s1 n res k t q hq hl hst htk hB1 hg1 hz (by exact o218 hdp)) fin
    | pn t =>
     have hq':q=false:=hq
     subst hq'
     exact SsOK.mono (turn_pn hK L cdv _ rfl s1 n res t hl hst htk hB1 hg1 hz (by exact o218 hdp)) fin
  ·rintro f σ' ⟨rfl,q,s2,loc,hto,hst,hstr,hg2,hsub,rfl⟩
   obtain ⟨st2,tk2,ln2,pos2,pb2⟩:=s2
   with_reducible refine' vD (rtLoc base.length q) (lmu base rest l ⟨st2,tk2,ln2,pos2,pb2⟩) ?fa ?fb ?_
   case fa=>exact hsub
   case fb=>rfl
   dsimp only at hto hst
   refine qA ?_
   refine' qR rfl rfl ?_
   refine qJ rfl (rdL hK (by decide)) (qN _ _ _ _) (av:=.str (S tk2)) rfl rfl ?_
   with_reducible refine' vD [("self",.inst 856 base.length),("quoted",.bool q),("result",.str (S tk2))] (lmu base rest l ⟨st2,tk2,ln2,pos2,pb2⟩) ?fa ?fb ?_
   case fa=>exact .cons rfl (.cons rfl (.cons rfl (.nil _)))
   case fb=>rfl
   refine qA ?_
   refine' vX rfl rfl rfl rfl rfl (stL hK (by decide)) ?_
   refine vE ofS0 ?_
   refine ⟨rfl,_,wF _ _ _,rfl,rfl,?_⟩
   refine kC [("self",.inst 856 base.length),("result",resAV res.1)] (lmu base rest l ⟨st2,[],ln2,pos2,pb2⟩) ?_ ?_
   ·obtain ⟨r1,r2,r3⟩:=res
    dsimp only at hto ⊢
    refine qL ?_
    refine qY (vC (qJ rfl (rdL hK (by decide)) (qN _ _ _ _) rfl rfl (qT ?_)))
    refine onT ?_
    refine qY (wO (vL (qB rfl (qT ?_))))
    cases r1 with
    | none =>
     obtain ⟨rfl,rfl⟩:=hto
     refine onT ?_
     refine qY (qD rfl (qB rfl (qM (vU (pu ?_)))))
     refine ⟨_,rfl,fun Z=>?_,fun z=>absurd z (by decide +kernel)⟩
     refine wP ?_
     refine onT ?_
     refine qA (qR rfl rfl (qX (qF ?_)))
     exact ⟨rfl,.cons rfl (.cons rfl (.nil _)),rfl⟩
    | some t =>
     obtain ⟨rfl,htq⟩:=hto
     refine ⟨fun hqf=>?_,fun hqt=>?_⟩
     ·have hne:t≠[]:=by
       rcases htq with z | z
       ·exact z
       ·subst z;cases hqf
      refine qY (qD rfl (qB rfl (qM (vU (pu ?_)))))
      rw [ofS0,wY]
      refine ⟨_,rfl,fun z=>absurd (by simpa using z) hne,fun Z=>?_⟩
      refine onF ?_
      refine qF ?_
      exact ⟨rfl,.cons rfl (.cons rfl (.nil _)),rfl⟩
     ·first | refine onF ?_ | refine onF' ?_
      refine qF ?_
      exact ⟨rfl,.cons rfl (.cons rfl (.nil _)),rfl⟩
   ·refine qA ?_
    refine qL (qD rfl (qJ rfl (rdL hK (by decide)) (qN _ _ _ _) rfl rfl (qH (gt_ii (pu ?_)))))
    refine yF rfl ?_
    refine qF (qA (qO (qB rfl ?_)))
    exact h ⟨st2,[],ln2,pos2,pb2⟩ hst rfl hstr ⟨hg2.pb,hg2.pos⟩
end c_read_token
section
variable {c:Cx}{d u:Nat}{env:Env}{σ:St}{mu base rest:List AO}{l:List Nat}{K:AV→List AO→Prop}
theorem c_read_token(hK:Keys c.K)(s:LexSt)(n:Nat)(m0:LMode)(res:Res)(h0:lex1 n m0 (stream l s)=some res)(hm:m0=.sp∨m0=.eof)(hs:s.state=m0.st)(ht:s.token=[])(hg:Good l s)(hz:l.length≤10000)(hdp:d+5 < recursionLimit)
  (h:∀s',s'.state=(if res.2.1 then AV.none else .str (S [32]))→s'.token=[]→stream l s'=res.2.2→Good l s'→K (resAV res.1) (lmu base rest l s')):CallOK c d u (.ref 824) [.inst 856 base.length] [] (lmu base rest l s) K:=(@eps _ (by have:=(⟨⟨.none,[],0,0,[]⟩⟩:Nonempty LexSt);have:=neCx;infer_instance) c_read_token.Dq c_read_token.tq rfl @c_read_token.T0 (c,d,u,base,rest,l,K,s)) hK n m0 res h0 hm hs ht hg hz hdp h
end
end
section
variable {c:Cx}{d u:Nat}{env:Env}{σ:St}{mu base rest:List AO}{l:List Nat}{K:AV→List AO→Prop}
theorem eq_res_none{r:Option (List Nat)}{mu:List AO}(h:K (.bool r.isNone) mu):Op2OK c d u (compareOp .Eq) (resAV r) .none mu K:=fun A g as s Q E w1 w2 ro G m r1 r2 q=>by
 cases r2
 cases r with
 | none=>cases r1;exact PySem.EqNone.eq_none_none (q _ g as s.heap s.toks _ mu (StaysIn.refl' g) (List.prefix_refl _) m (.bool _) h)
 | some t=>cases r1;exact PySem.EqNone.eq_str_none (q _ g as s.heap s.toks _ mu (StaysIn.refl' g) (List.prefix_refl _) m (.bool _) h)
theorem kM(hK:Keys c.K)(s:LexSt)(n:Nat)(m0:LMode)(res:Res)(h0:lex1 n m0 (stream l s)=some res)(hm:m0=.sp∨m0=.eof)(hs:s.state=m0.st)(ht:s.token=[])(hg:Good l s)(hz:l.length≤10000)(hdp:d+6 < recursionLimit)
  (h:∀s',s'.state=(if res.2.1 then AV.none else .str (S [32]))→s'.token=[]→stream l s'=res.2.2→Good l s'→K (resAV res.1) (lmu base rest l s')):CallOK c d u (.ref 817) [.inst 856 base.length] [] (lmu base rest l s) K:=by
 refine' enter1 (n1:="self") hK.k_shlex_get_token (by exact o266 hdp) (fun Z Z Z Z Z Z=>rfl) rfl ?h
 case h =>
  intro cdv L
  with_reducible refine' vD [("self",.inst 856 base.length)] (lmu base rest l s) ?fa ?fb ?_
  case fa=>exact .cons rfl (.nil _)
  case fb=>rfl
  refine qA ?_
  refine qL (vC (qJ rfl (rdL hK (by decide)) (qN _ _ _ _) rfl rfl ?_))
  refine tr_dq (lmu_2 _ _ _ _) (by decide) ?_
  refine onF ?_
  refine qF ?_
  refine qA ?_
  refine' qR rfl rfl ?_
  refine' qQ (pl:=_) (qS rfl) rfl ?_
  refine qB rfl ?_
  refine wB hK (n:="read_token") (f:=824) (by decide) hK.kit856 (qN _ _ _ _) rfl ?_
  refine qE ?_
  refine qP (c_read_token hK s n m0 res h0 hm hs ht hg hz (by exact o267 hdp) fun s' h1 h2 h3 h4=>?_)
  obtain ⟨r1,r2,r3⟩:=res
  dsimp only at h1 h3
  refine wA ⟨[("self",.inst 856 base.length),("raw",resAV r1)],lmu base rest l s'⟩ rfl ?_
  refine qA ?_
  refine qL (qD rfl (qJ rfl (rdL hK (by decide)) (qN _ _ _ _) rfl rfl (qX ?_)))
  refine vT rfl (pu ?_)
  refine yF rfl ?_
  refine qF ?_
  refine qA ?_
  refine yL (fun m σ=>m=0∧σ=⟨[("self",.inst 856 base.length),("raw",resAV r1)],lmu base rest l s'⟩) ?_ 0 ⟨rfl,rfl⟩
  rintro m σ ⟨rfl,rfl⟩
  refine qD rfl (qB rfl (qJ rfl (rdL hK (by decide)) (qN _ _ _ _) rfl rfl ?_))
  refine eq_res_none (pu ?_)
  refine ⟨_,rfl,fun hb=>?_,fun hb=>?_⟩
  ·cases r1 with
   | some t=>cases hb
   | none =>
    refine qA ?_
    refine qL (wO (vC (qJ rfl (rdL hK (by decide)) (qN _ _ _ _) rfl rfl ?_)))
    refine tr_dq (lmu_3 _ _ _ _) (by decide) ?_
    refine onT ?_
    refine qA (qO ?_)
    refine qJ rfl (rdL hK (by decide)) (qN _ _ _ _) rfl rfl ?_
    exact h s' h1 h2 h3 h4
  ·refine qF ?_
   refine qA ?_
   refine qL (qD rfl (qJ rfl (rdL hK (by decide)) (qN _ _ _ _) rfl rfl (qH (xU (pu ?_)))))
   refine yF rfl ?_
   refine qF (qA (qO (qB rfl ?_)))
   exact h s' h1 h2 h3 h4
end
section
section
variable {c:Cx}{d u:Nat}{env:Env}{σ:St}{mu base tail:List AO}{l:List Nat}{K:AV→List AO→Prop}
noncomputable def imu(base:List AO)(attrs:List (Str×AV))(tail:List AO):List AO:=base++(.dict attrs::tail)
theorem fC(base:List AO)(attrs:List (Str×AV))(tail:List AO):(imu base attrs tail)[base.length]?=some (.dict attrs):=yE base _ 0
theorem imu_len(base:List AO)(attrs:List (Str×AV))(tail:List AO):(imu base attrs tail).length=base.length+(tail.length+1):=by unfold imu;simp
theorem hO(base:List AO)(attrs:List (Str×AV))(tail t:List AO):imu base attrs tail++t=imu base attrs (tail++t):=by unfold imu;simp
theorem imu_set(base:List AO)(attrs attrs':List (Str×AV))(tail:List AO):(imu base attrs tail).set base.length (.dict attrs')=imu base attrs' tail:=jH base _ 0 _
theorem ts_callE{f:Expr}{args:List Expr}{kws:List Keyword}{pos:Pos}{K:Bool→St→Prop}(h:EvOK c d u env (.Call f args kws pos) σ (fun a σ1=>TrOK c d u a σ1.mu (fun b=>K b σ1))):TsOK c d u env (.Call f args kws pos) σ K:=zI rfl h
theorem setL_new{x:Str}{v:AV}{a:List (Str×AV)}(h:a.lookup x=none):setL x v a=a++[(x,v)]:=by
 induction a with
 | nil=>rfl
 | cons p a ih =>
  obtain ⟨y,w⟩:=p
  rw [List.lookup_cons] at h
  cases hb:x==y with
  | true=>rw [hb] at h;cases h
  | false =>
   rw [hb] at h
   unfold setL
   rw [if_neg (fun z=>by rw [show y=x from beq_iff_eq.mp z,beq_self_eq_true] at hb;cases hb),ih h];rfl
noncomputable def preD (b:Nat) (w:Str) (more:List (Str×AV)):List (Str×AV):=[(Str.ofString "instream",.inst 721 (b+1)),(Str.ofString "infile",.none),(Str.ofString "posix",.bool true),(Str.ofString "eof",.none),(Str.ofString "commenters",.str (Str.ofString "#")),(Str.ofString "wordchars",.str w),(Str.ofString "whitespace",.str (Str.ofString " \t\r\n")),(Str.ofString "whitespace_split",.bool false),(Str.ofString "quotes",.str (Str.ofString "'\"")),(Str.ofString "escape",.str (Str.ofString "\\")),(Str.ofString "escapedquotes",.str (Str.ofString "\"")),
 (Str.ofString "state",.str (S [32])),(Str.ofString "pushback",.mut (b+2)),(Str.ofString "lineno",.int 1),(Str.ofString "debug",.int 0),(Str.ofString "token",.str (S [])),(Str.ofString "filestack",.mut (b+3)),(Str.ofString "source",.none)]++more
noncomputable def wAB:Str:=Str.ofString "abcdfeghijklmnopqrstuvwxyzABCDEFGHIJKLMNOPQRSTUVWXYZ0123456789_"++Str.ofString "ßàáâãäåæçèéêëìíîïðñòóôõöøùúûüýþÿÀÁÂÃÄÅÆÇÈÉÊËÌÍÎÏÐÑÒÓÔÕÖØÙÚÛÜÝÞ"
theorem vQ {x:Str} {px pos' pos:Pos} {name:Str} {value:Expr} {loc:List (Str×AV)} {attrs:List (Str×AV)} {K:Fl→St→Prop} (hk:env.scope.kind=.function) (hl:env.kindOf x=some .local) (hd:(x==("__debug__":Str))=false) (hv:loc.lookup x=some (.inst 856 base.length)) (hs:swapsWith value (some (.Attribute (.Name x px) name pos')) pos.line env=pure false) (st:Stores c.K 856 name) (hz:attrs.length≤900)
  (h:EvOK c d u env value ⟨loc,imu base attrs tail⟩ (fun v σ1=>∃tail',σ1=⟨loc,imu base attrs tail'⟩∧attrs.lookup name=none∧K .next ⟨loc,imu base (attrs++[(name,v)]) tail'⟩)) :
  SsOK c d u env (exec (.Assign [.Attribute (.Name x px) name pos'] value pos) env) ⟨loc,imu base attrs tail⟩ K :=
 xK (C:=856) hk hl hd hs st (h.mono fun v σ1 hh=>by
  obtain ⟨tail',rfl,h1,h2⟩:=hh
  refine ⟨base.length,hv,attrs,fC _ _ _,hz,?_⟩
  show K .next ⟨loc,(imu base attrs tail').set _ _⟩
  rw [setL_new h1,imu_set]
  exact h2)
theorem in_aug {x:Str} {px tpos pos p1:Pos} {k1:Nat} {name:Str} {y z:Str} {loc attrs attrs':List (Str×AV)} {K:Fl→St→Prop} (hk:env.scope.kind=.function) (hl:env.kindOf x=some .local) (hd:(x==("__debug__":Str))=false) (hv:loc.lookup x=some (.inst 856 base.length)) (rd:Reads' c.K 856 name none) (st:Stores c.K 856 name) (hz:attrs.length≤900)
  (hat:attrs.lookup name=some (.str y)) (hlen:y.length+z.length≤sizeLine) (hset:setL name (.str (y++z)) attrs=attrs') (h:K .next ⟨loc,imu base attrs' tail⟩) :
  SsOK c d u env (exec (.AugAssign (.Attribute (.Name x px) name tpos) .Add (.Constant (.str z) k1 p1) pos) env) ⟨loc,imu base attrs tail⟩ K :=
 ss_augattr (C:=856) (k:=base.length) (attrs:=attrs) (vI hk hl hd hv ⟨rfl,rfl,.str y,zZ rd (fC _ _ _) hat rfl ⟨rfl,rfl⟩,qM ⟨rfl,iadd_ss hlen ⟨rfl,st,fC _ _ _,hz,by
  show K .next ⟨loc,(imu base attrs tail).set _ (.dict (setL name (.str (y++z)) attrs))⟩
  rw [hset,imu_set]
  exact h⟩⟩⟩)
theorem fE {n:Str} {np pos:Pos} {loc:List (Str×AV)} {attrs:List (Str×AV)} {K:AV→St→Prop} (hk:env.scope.kind=.function) (hl:env.kindOf n=some .globalImplicit) (hg:env.globals=mainGlobals) (hd:(n==("__debug__":Str))=false) (e:nsIn c.K mainGlobals n=some (some (.type "collections.deque")))
  (h:K (.mut (base.length+(tail.length+1))) ⟨loc,imu base attrs (tail++[.deque []])⟩):EvOK c d u env (.Call (.Name n np) [] [] pos) ⟨loc,imu base attrs tail⟩ K :=
 hV (by exact qS rfl) (wT hk hl hg hd e (fun g as=>.st _) ⟨_,rfl,.inr (fun a z=>nomatch z),qE (call_deque (by rw [imu_len,hO];exact h))⟩)
end
namespace c_lex_init
noncomputable def Cq (c:Cx) (d u:Nat) (base:List AO) (K:AV→List AO→Prop) (l:List Nat):Prop:=∀(hK:Keys c.K) (hz:l.length≤10000) (hdp:d+4 < recursionLimit) (h:∀o,K .none (lmu base [.raw o] l ⟨.str (S [32]),[],1,0,[]⟩)),CallOK c d u (.ref 780) [.inst 856 base.length,.str (S l)] [(Str.ofString "posix",.bool true),(Str.ofString "punctuation_chars",.bool true)] (base++[.dict []]) K
noncomputable def Dq(p:Cx×Nat×Nat×(List AO)×(AV→List AO→Prop)×(List Nat)):Prop:=Cq p.1 p.2.1 p.2.2.1 p.2.2.2.1 p.2.2.2.2.1 p.2.2.2.2.2
def tq:=@ep _ (by have:=neCx;infer_instance) Dq
def c:=tq.1
def d:=tq.2.1
def u:=tq.2.2.1
def base:=tq.2.2.2.1
def K:=tq.2.2.2.2.1
def l:=tq.2.2.2.2.2
theorem T0:Cq c d u base K l:=by
 intro hK hz hdp h
 obtain ⟨T,oT,its,n,hT,hs,rfl,oc,od,osl,doc,pm,an,cdv,ct,ho,hcd⟩:=hK.d_shlex_init
 refine' jE (loc:=[("self",.inst 856 base.length),("instream",.str (S l)),("infile",.none),("posix",.bool true),("punctuation_chars",.bool true)]) ho hcd (by exact o268 hdp) (jG rfl hT hs ?hb) ?h ?c1 ?c2 ?c3 ?c4
 (case c1=>rfl);(case c2=>rfl);(case c3=>rfl);(case c4=>decide)
 case hb =>
  intro g as ws kws rs rk
  cases rk with
  | cons q1 rk=>cases rk with
   | cons q2 rk =>
    cases rk
    cases rs with
    | cons r1 rs=>cases rs with
     | cons r2 rs =>
      cases rs
      refine ⟨_,[("self",_),("instream",_),("infile",.none),("posix",_),("punctuation_chars",_)],rfl,rfl,?_,xY ?_⟩
      ·exact all5 rfl rfl rfl rfl rfl
      ·refine all5 ?_ ?_ ?_ ?_ ?_
       ·exact ⟨_,rfl,r1⟩
       ·exact ⟨_,rfl,r2⟩
       ·exact ⟨_,rfl,.none⟩
       ·exact ⟨_,rfl,q1⟩
       ·exact ⟨_,rfl,q2⟩
 case h =>
  intro L
  refine wA ⟨[("self",.inst 856 base.length),("instream",.str (S l)),("infile",.none),("posix",.bool true),("punctuation_chars",.bool true)],imu base [] []⟩ rfl ?_
  refine kC [("self",.inst 856 base.length),("instream",.inst 721 (base.length+1)),("infile",.none),("posix",.bool true),("punctuation_chars",.bool true)] (imu base [] [.dict (sioD l 0)]) ?_ ?_
  ·refine qL (ts_callE ?_)
   refine vS rfl rfl rfl rfl rfl (qS rfl) hK.b_isinstance rfl (by decide) (fun a z=>nomatch z) ?_
   refine qC rfl ?_
   refine qB rfl (qC rfl ?_)
   refine wD rfl rfl rfl rfl rfl hK.b_str rfl (by decide) ?_
   refine qE ?_
   refine qG (call_isstr (pu ?_))
   refine qT ?_
   refine onT ?_
   refine qA ?_
   refine' qR rfl rfl ?_
   refine qW rfl hK.g_StringIO hK.kp721 ?_
   refine qC rfl (qB rfl (qE ?_))
   refine qP (c_sio_make hK l (by exact o269 hdp) ?_)
   refine qF ⟨rfl,.cons rfl (.cons ?_ (.cons rfl (.cons rfl (.cons rfl (.nil _))))),?_⟩
   ·show some (AV.inst 721 (imu base [] []).length)=_
    rw [imu_len];rfl
   ·show imu base [] []++_=_
    rw [hO];rfl
  refine kC [("self",.inst 856 base.length),("posix",.bool true),("punctuation_chars",.bool true)] (imu base [("instream",.inst 721 (base.length+1)),("infile",.none)] [.dict (sioD l 0)]) ?_ ?_
  ·refine qL ?_
   refine qD rfl (qB rfl (qX ?_))
   refine vT rfl (pu ?_)
   refine yT rfl ?_
   refine qA ?_
   refine' vQ rfl rfl rfl rfl rfl (stL hK (by decide)) (Nat.le_of_ble_eq_true rfl) ?_
   refine qB rfl ?_
   refine ⟨_,rfl,rfl,?_⟩
   refine qA ?_
   refine' vQ rfl rfl rfl rfl rfl (stL hK (by decide)) (Nat.le_of_ble_eq_true rfl) ?_
   refine qB rfl ?_
   refine ⟨_,rfl,rfl,?_⟩
   exact qF ⟨rfl,.cons rfl (.cons rfl (.cons rfl (.nil _))),rfl⟩
  refine qA ?_
  refine' vQ rfl rfl rfl rfl rfl (stL hK (by decide)) (Nat.le_of_ble_eq_true rfl) ?_
  refine qB rfl ?_
  refine ⟨_,rfl,rfl,?_⟩
  refine qA (qL ?_)
  refine vL ?_
  refine qB rfl (qT ?_)
  refine onT ?_
  refine qA ?_
  refine' vQ rfl rfl rfl rfl rfl (stL hK (by decide)) (Nat.le_of_ble_eq_true rfl) ?_
  refine qX ?_
  refine ⟨_,rfl,rfl,?_⟩
  refine qF ?_
  refine qA ?_
  refine' vQ rfl rfl rfl rfl rfl (stL hK (by decide)) (Nat.le_of_ble_eq_true rfl) ?_
  refine qM ?_
  refine ⟨_,rfl,rfl,?_⟩
  refine qA ?_
  refine' vQ rfl rfl rfl rfl rfl (stL hK (by decide)) (Nat.le_of_ble_eq_true rfl) ?_
  refine qM ?_
  refine ⟨_,rfl,rfl,?_⟩
  refine qA (qL ?_)
  refine vC (qJ rfl (rdL hK (by decide)) (fC _ _ _) (av:=.bool true) rfl rfl (qT ?_))
  refine onT ?_
  refine qA ?_
  refine in_aug (attrs':=[(Str.ofString "instream",.inst 721 (base.length+1)),(Str.ofString "infile",.none),(Str.ofString "posix",.bool true),(Str.ofString "eof",.none),(Str.ofString "commenters",.str (Str.ofString "#")),(Str.ofString "wordchars",.str (Str.ofString "abcdfeghijklmnopqrstuvwxyzABCDEFGHIJKLMNOPQRSTUVWXYZ0123456789_"++Str.ofString "ßàáâãäåæçèéêëìíîïðñòóôõöøùúûüýþÿÀÁÂÃÄÅÆÇÈÉÊËÌÍÎÏÐÑÒÓÔÕÖØÙÚÛÜÝÞ"))]) rfl rfl rfl rfl (rdL hK (by decide)) (stL hK (by decide)) (by exact Nat.le_of_ble_eq_true rfl) rfl (by decide +kernel) rfl ?_
  refine qF ?_
  refine qA ?_
  refine' vQ rfl rfl rfl rfl rfl (stL hK (by decide)) (Nat.le_of_ble_eq_true rfl) ?_
  refine qM ?_
  refine ⟨_,rfl,rfl,?_⟩
  refine qA ?_
  refine' vQ rfl rfl rfl rfl rfl (stL hK (by decide)) (Nat.le_of_ble_eq_true rfl) ?_
  refine wG ?_
  refine ⟨_,rfl,rfl,?_⟩
  refine qA ?_
  refine' vQ rfl rfl rfl rfl rfl (stL hK (by decide)) (Nat.le_of_ble_eq_true rfl) ?_
  refine qM ?_
  refine ⟨_,rfl,rfl,?_⟩
  refine qA ?_
  refine' vQ rfl rfl rfl rfl rfl (stL hK (by decide)) (Nat.le_of_ble_eq_true rfl) ?_
  refine qM ?_
  refine ⟨_,rfl,rfl,?_⟩
  refine qA ?_
  refine' vQ rfl rfl rfl rfl rfl (stL hK (by decide)) (Nat.le_of_ble_eq_true rfl) ?_
  refine qM ?_
  refine ⟨_,rfl,rfl,?_⟩
  refine qA ?_
  refine' vQ rfl rfl rfl rfl rfl (stL hK (by decide)) (Nat.le_of_ble_eq_true rfl) ?_
  refine vE ofS32 ?_
  refine ⟨_,rfl,rfl,?_⟩
  refine qA ?_
  refine' vQ rfl rfl rfl rfl rfl (stL hK (by decide)) (Nat.le_of_ble_eq_true rfl) ?_
  refine fE rfl rfl rfl rfl hK.g_deque ?_
  refine ⟨_,rfl,rfl,?_⟩
  refine qA ?_
  refine' vQ rfl rfl rfl rfl rfl (stL hK (by decide)) (Nat.le_of_ble_eq_true rfl) ?_
  refine qH ?_
  refine ⟨_,rfl,rfl,?_⟩
  refine qA ?_
  refine' vQ rfl rfl rfl rfl rfl (stL hK (by decide)) (Nat.le_of_ble_eq_true rfl) ?_
  refine qH ?_
  refine ⟨_,rfl,rfl,?_⟩
  refine qA ?_
  refine' vQ rfl rfl rfl rfl rfl (stL hK (by decide)) (Nat.le_of_ble_eq_true rfl) ?_
  refine vE ofS0 ?_
  refine ⟨_,rfl,rfl,?_⟩
  refine qA ?_
  refine' vQ rfl rfl rfl rfl rfl (stL hK (by decide)) (Nat.le_of_ble_eq_true rfl) ?_
  refine fE rfl rfl rfl rfl hK.g_deque ?_
  refine ⟨_,rfl,rfl,?_⟩
  refine qA ?_
  refine' vQ rfl rfl rfl rfl rfl (stL hK (by decide)) (Nat.le_of_ble_eq_true rfl) ?_
  refine qX ?_
  refine ⟨_,rfl,rfl,?_⟩
  refine qA (qL ?_)
  refine wO (vL ?_)
  refine qB rfl (qT ?_)
  refine onF ?_
  refine qA (qL ?_)
  refine qD rfl (qB rfl (wG ?_))
  refine is_bb (pu ?_)
  refine yT rfl ?_
  refine qA ?_
  refine' qR rfl rfl ?_
  refine qM ?_
  refine qF ?_
  refine qF ?_
  with_reducible refine' vD [("self",.inst 856 base.length),("punctuation_chars",.str (Str.ofString "();<>|&"))] (imu base (preD base.length wAB []) [.dict (sioD l 0),.deque [],.deque []]) ?fa ?fb ?_
  case fa=>exact .cons rfl (.cons rfl (.nil _))
  case fb=>rfl
  refine qA ?_
  refine' vQ rfl rfl rfl rfl rfl (stL hK (by decide)) (Nat.le_of_ble_eq_true rfl) ?_
  refine qB rfl ?_
  refine ⟨_,rfl,rfl,?_⟩
  refine qA (qL ?_)
  refine vL ?_
  refine qB rfl ?_
  refine gE (by decide +kernel) ?_
  refine ⟨fun Z=>?_,fun z=>absurd z (by decide +kernel)⟩
  refine qA ?_
  refine' vQ rfl rfl rfl rfl rfl (stL hK (by decide)) (Nat.le_of_ble_eq_true rfl) ?_
  refine fE rfl rfl rfl rfl hK.g_deque ?_
  refine ⟨_,rfl,rfl,?_⟩
  refine qA ?_
  refine in_aug (attrs':=preD base.length wcStr [("_punctuation_chars",.str (Str.ofString "();<>|&")),("_pushback_chars",.mut (base.length+4))]) rfl rfl rfl rfl (rdL hK (by decide)) (stL hK (by decide)) (by simp [preD]) (y:=wAB) rfl (by decide +kernel) rfl ?_
  with_reducible refine' vD [("self",.inst 856 base.length),("punctuation_chars",.str (Str.ofString "();<>|&"))] (imu base (preD base.length wcStr [("_punctuation_chars",.str (Str.ofString "();<>|&")),("_pushback_chars",.mut (base.length+4))]) [.dict (sioD l 0),.deque [],.deque [],.deque []]) ?fa ?fb ?_
  case fa=>exact .cons rfl (.cons rfl (.nil _))
  case fb=>rfl
  refine ss_table (x:=wcStr) (y:=Str.ofString "();<>|&") (l:=[40,41,59,60,62,124,38]) (b:=base.length) (attrs:=preD base.length wcStr [("_punctuation_chars",.str (Str.ofString "();<>|&")),("_pushback_chars",.mut (base.length+4))]) hK (by decide +kernel) (by decide) (by decide) (by decide +kernel) (by decide +kernel) (by decide +kernel) (by decide +kernel)
   rfl rfl rfl rfl (fun v p=>fun z=>nomatch z) rfl rfl rfl rfl rfl rfl (stL hK (by decide)) ?h1 ?harg ?h2 ?h3 ?h4 (fC _ _ _) (by show 20≤900;decide) ?_
  case h1=>exact qJ rfl (rdL hK (by decide)) (fC _ _ _) (av:=.str wcStr) rfl rfl ⟨rfl,rfl⟩
  case harg=>exact qB rfl ⟨rfl,rfl⟩
  case h2 =>
   intro o
   exact qJ rfl (rdL hK (by decide)) (by show (imu _ _ _++_)[_]?=_;rw [hO];exact fC _ _ _) (av:=.str wcStr) rfl rfl ⟨rfl,rfl⟩
  case h3 =>
   intro o
   exact qB rfl ⟨rfl,rfl⟩
  case h4 =>
   intro o
   exact qB rfl ⟨rfl,rfl⟩
  intro o
  refine qF ?_
  refine qF ?_
  show K .none ((imu _ _ _++_).set _ _)
  rw [hO,imu_set]
  exact h o
end c_lex_init
section
variable {c:Cx}{d u:Nat}{env:Env}{σ:St}{mu base tail:List AO}{l:List Nat}{K:AV→List AO→Prop}
theorem c_lex_init(hK:Keys c.K)(l:List Nat)(hz:l.length≤10000)(hdp:d+4 < recursionLimit)(h:∀o,K .none (lmu base [.raw o] l ⟨.str (S [32]),[],1,0,[]⟩)):
  CallOK c d u (.ref 780) [.inst 856 base.length,.str (S l)] [(Str.ofString "posix",.bool true),(Str.ofString "punctuation_chars",.bool true)] (base++[.dict []]) K:=(@eps _ _ c_lex_init.Dq c_lex_init.tq rfl @c_lex_init.T0 (c,d,u,base,K,l)) hK hz hdp h
theorem c_lex_make(hK:Keys c.K)(l:List Nat)(hz:l.length≤10000)(hdp:d+5 < recursionLimit)(h:∀o,K (.inst 856 mu.length) (lmu mu [.raw o] l ⟨.str (S [32]),[],1,0,[]⟩)):
  CallOK c d u (.ref 856) [.str (S l)] [("posix",.bool true),("punctuation_chars",.bool true)] mu K :=
 call_make hK.mk856 hK.in856 hK.ty780 (c_lex_init hK l hz (by exact o270 hdp) fun o=>⟨rfl,h o⟩)
end
end
section
section
variable {c:Cx}{d u:Nat}{env:Env}{σ:St}{mu:List AO}{K:AV→List AO→Prop}
noncomputable def isOp(ch:Nat):Bool:=ch==40 || ch==41 || ch==38 || ch==124
noncomputable def splitT(t:List Nat):List (List Nat):=if isOp (t.headD 0) then t.map (fun ch=>[ch]) else [t]
noncomputable def lexAll:Nat→LMode→List Nat→Option (List (List Nat))
 | 0,_,_=>none
 | n+1,m,cs=>match lex1 (cs.length+2) m cs with
  | none=>none
  | some (none,_,_)=>some []
  | some (some t,e,r)=>if t=[] then none else (lexAll n (if e then .eof else .sp) r).map fun ts=>splitT t++ts
theorem in4 (ch:Nat):decide (ch∈(Str.ofString "()&|").cps.toList)=isOp ch:=by
 have e:(Str.ofString "()&|").cps.toList=[40,41,38,124]:=by decide +kernel
 rw [e]
 unfold isOp
 rw [Bool.eq_iff_iff]
 simp [or_assoc]
noncomputable abbrev tkMu(mu:List AO)(o:Obj)(l:List Nat)(s:LexSt)(acc:List (List Nat)):List AO:=lmu mu [.raw o,.list (acc.map tokAV)] l s
theorem tk_get(mu:List AO)(o:Obj)(l:List Nat)(s:LexSt)(acc:List (List Nat)):(tkMu mu o l s acc)[mu.length+6]?=some (.list (acc.map tokAV)):=yE mu _ 6
theorem tk_set(mu:List AO)(o:Obj)(l:List Nat)(s:LexSt)(acc acc':List (List Nat)):(tkMu mu o l s acc).set (mu.length+6) (.list (acc'.map tokAV))=tkMu mu o l s acc':=jH mu _ 6 _
noncomputable abbrev tkLoc (mu:List AO) (l:List Nat) (r:Option (List Nat)):List (Str×AV):=[("text",.str (S l)),("lexer",.inst 856 mu.length),("signs",.mut (mu.length+6)),("token",resAV r)]
noncomputable def TkInv(mu:List AO)(o:Obj)(l:List Nat)(ts:List (List Nat))(n:Nat)(σ:St):Prop:=∃acc s r,σ=⟨tkLoc mu l r,tkMu mu o l s acc⟩∧match r with
 | none=>acc=ts
 | some t=>t≠[]∧s.token=[]∧Good l s∧∃m ts2,(m=.sp∨m=.eof)∧s.state=m.st∧lexAll n m (stream l s)=some ts2∧acc++(splitT t++ts2)=ts
theorem kG{n:Nat}{m:LMode}{cs:List Nat}{ts:List (List Nat)}(h:lexAll n m cs=some ts):∃n' res,n=n'+1∧lex1 (cs.length+2) m cs=some res ∧
  match res with
  | (none,_,_)=>ts=[]
  | (some t,e,r)=>t≠[]∧∃ts2,lexAll n' (if e then .eof else .sp) r=some ts2∧ts=splitT t++ts2:=by
 cases n with
 | zero=>cases h
 | succ n =>
  rw [lexAll] at h
  cases e:lex1 (cs.length+2) m cs with
  | none=>rw [e] at h;cases h
  | some res =>
   rw [e] at h
   refine ⟨n,res,rfl,rfl,?_⟩
   obtain ⟨r1,r2,r3⟩:=res
   cases r1 with
   | none=>simpa using h.symm
   | some t =>
    dsimp only at h ⊢
    by_cases ht:t=[]
    ·rw [if_pos ht] at h;cases h
    ·rw [if_neg ht] at h
     refine ⟨ht,?_⟩
     cases e2:lexAll n (if r2=true then .eof else .sp) r3 with
     | none=>rw [e2] at h;cases h
     | some ts2=>rw [e2] at h;exact ⟨ts2,rfl,by simpa using h.symm⟩
theorem tk_next {o:Obj} {l:List Nat} {ts acc ts2:List (List Nat)} {n:Nat} {res:Res} {s':LexSt} (h2:match res with
  | (none,_,_)=>ts2=[]
  | (some t,e,r)=>t≠[]∧∃ts3,lexAll n (if e then .eof else .sp) r=some ts3∧ts2=splitT t++ts3) (ha:acc++ts2=ts)
  (h1:s'.state=(if res.2.1 then AV.none else .str (S [32]))) (ht:s'.token=[]) (hs:stream l s'=res.2.2) (hg:Good l s'):TkInv mu o l ts n ⟨tkLoc mu l res.1,tkMu mu o l s' acc⟩:=by
 obtain ⟨r1,r2,r3⟩:=res
 refine ⟨acc,s',r1,rfl,?_⟩
 cases r1 with
 | none=>dsimp only at h2 ⊢;rw [h2] at ha;simpa using ha
 | some t =>
  obtain ⟨h3,ts3,h4,h5⟩:=h2
  refine ⟨h3,ht,hg,(if r2 then .eof else .sp),ts3,?_,?_,?_,?_⟩
  ·cases r2 <;> simp
  ·rw [h1];cases r2 <;> rfl
  ·rw [hs];exact h4
  ·rw [← h5];exact ha
end
namespace c_tokens
noncomputable def Cq(c:Cx)(d u:Nat)(mu:List AO)(K:AV→List AO→Prop)(l:List Nat):Prop:=∀(hK:Keys c.K) (n:Nat) (ts:List (List Nat)) (h0:lexAll n .sp l=some ts) (hz:l.length≤10000) (hn:ts.length≤10000) (hdp:d+8 < recursionLimit) (h:∀G,K (.mut (mu.length+G.length)) (mu++G++[toksAO ts])),CallOK c d u (.ref 923) [.str (S l)] [] mu K
noncomputable def Dq(p:Cx×Nat×Nat×(List AO)×(AV→List AO→Prop)×(List Nat)):Prop:=Cq p.1 p.2.1 p.2.2.1 p.2.2.2.1 p.2.2.2.2.1 p.2.2.2.2.2
def tq:=@ep _ (by have:=neCx;infer_instance) Dq
def c:=tq.1
def d:=tq.2.1
def u:=tq.2.2.1
def mu:=tq.2.2.2.1
def K:=tq.2.2.2.2.1
def l:=tq.2.2.2.2.2
theorem T0:Cq c d u mu K l:=by
 intro hK n ts h0 hz hn hdp h
 refine' enter1 (n1:="text") hK.k_law_tokens (by exact o165 hdp) (fun Z Z Z Z Z Z=>rfl) rfl ?h
 case h =>
  intro cdv L
  refine qA ?_
  refine' qR rfl rfl ?_
  refine ev_callKw rfl rfl rfl rfl hK.g_shlex hK.kp856 rfl rfl rfl rfl ?_
  refine qC rfl (qB rfl (qE ?_))
  refine ks_cons ?_
  refine wG ?_
  refine ks_cons ?_
  refine wG ?_
  refine ks_nil ?_
  refine c_lex_make hK l hz (by exact o271 hdp) fun o=>?_
  refine qA ?_
  refine' qR rfl rfl ?_
  refine jC (qE ⟨by show 0≤1000;decide,?_⟩)
  have eL:(lmu mu [.raw o] l ⟨.str (S [32]),[],1,0,[]⟩).length=mu.length+6:=by simp [lmu]
  with_reducible refine wA ⟨[("text",.str (S l)),("lexer",.inst 856 mu.length),("signs",.mut (mu.length+6))],tkMu mu o l ⟨.str (S [32]),[],1,0,[]⟩ []⟩ ?e1 ?_
  case e1 =>
   have e2:lmu mu [.raw o] l ⟨.str (S [32]),[],1,0,[]⟩++[.list []]=tkMu mu o l ⟨.str (S [32]),[],1,0,[]⟩ []:=by simp [lmu]
   show (⟨[("text",.str (S l)),("lexer",.inst 856 mu.length),("signs",.mut (lmu mu [.raw o] l ⟨.str (S [32]),[],1,0,[]⟩).length)],lmu mu [.raw o] l ⟨.str (S [32]),[],1,0,[]⟩++[.list []]⟩:St)=_
   rw [eL,e2]
  obtain ⟨n',res,rfl,e1,e2⟩:=kG h0
  refine qA ?_
  refine' qR rfl rfl ?_
  refine' qQ (pl:=_) (qS rfl) rfl ?_
  refine qB rfl ?_
  refine wB hK (n:="get_token") (f:=817) (by decide) hK.kit856 (qN _ _ _ _) rfl ?_
  refine qE ?_
  refine qP (kM hK ⟨.str (S [32]),[],1,0,[]⟩ _ .sp res e1 (.inl rfl) rfl rfl ⟨by simp,by simp⟩ hz (by exact o166 hdp) fun s' h1 h2 h3 h4=>?_)
  have inv:TkInv mu o l ts n' ⟨tkLoc mu l res.1,tkMu mu o l s' []⟩:=tk_next e2 (by simp) h1 h2 h3 h4
  refine wA ⟨tkLoc mu l res.1,tkMu mu o l s' []⟩ rfl ?_
  refine qA ?_
  refine yL (TkInv mu o l ts) ?_ n' inv
  clear inv h1 h2 h3 h4 e2 e1
  rintro n2 σ ⟨acc,s,r,rfl,hr⟩
  refine qD rfl (qB rfl (qX ?_))
  cases r with
  | none =>
   dsimp only at hr
   subst hr
   refine vT rfl (pu ?_)
   refine yF rfl ?_
   refine qF ?_
   refine qA (qO (ev_mut_rev (i:=mu.length+6) (vs:=acc.map tokAV) (fun Z Z=>rfl) (fun Z Z=>⟨_,rfl⟩) (by rw [List.length_map];exact o235 hn) ?_))
   refine qB rfl ?_
   refine ⟨rfl,?_⟩
   refine ev_neg (qH ?_)
   refine ⟨1,rfl,?_⟩
   refine ⟨rfl,tk_get _ _ _ _ _,?_⟩
   have e3:=h (.dict (lexD mu.length s)::.dict (sioD l s.pos)::.deque []::.deque []::.deque (s.pb.map chAV)::[.raw o,.list (acc.map tokAV)])
   rw [← List.length_append] at e3
   rw [← List.map_reverse]
   exact e3
  | some t =>
   obtain ⟨ht,hs1,hg,m,ts2,hm,hst,hl,hacc⟩:=hr
   have hlt:(splitT t).length≤10000:=by
    have:=congrArg List.length hacc
    simp only [List.length_append] at this
    exact o272 hn this
   obtain ⟨ch,w,rfl⟩:∃ch w,t=ch::w:=by cases t with | nil=>exact absurd rfl ht | cons a b=>exact ⟨a,b,rfl⟩
   refine vT rfl (pu ?_)
   refine yT rfl ?_
   refine qA ?_
   refine vA rfl rfl ?_
   refine' qQ (pl:=_) (qS rfl) rfl ?_
   refine qB rfl ?_
   refine qZ F.slot_list_extend F.type_list_extend (tk_get _ _ _ _ _) ⟨.inr (fun a z=>nomatch z),?_⟩
   refine qC rfl ?_
   refine ev_same (.lst ((splitT (ch::w)).map tokAV)) ?_ ?_
   ·refine wH ?_
    refine qD rfl (qU (qB rfl (qH ?_)))
    refine wL (cp:=ch) (by decide) (by decide) rfl (fun Z Z=>rfl) (pu ?_)
    refine qM ?_
    refine vF (pu ?_)
    rw [in4]
    refine ⟨_,rfl,fun hb=>?_,fun hb=>?_⟩
    ·have es:splitT (ch::w)=(ch::w).map fun ch=>[ch]:=by unfold splitT;rw [if_pos];exact hb
     rw [es,List.length_map,List.length_cons] at hlt
     refine' wI (fun Z=>rfl) rfl rfl (by decide) (by decide) (fun C=>by first | exact qI rfl rfl | exact ⟨qI rfl rfl,trivial⟩ | exact ⟨qI rfl rfl,qI rfl rfl,trivial⟩ | exact ⟨qI rfl rfl,qI rfl rfl,qI rfl rfl,trivial⟩) (by first | exact (fun x cc h=>h) | exact xO rfl | exact (fun x cc h=>by cases h)) ?_
     refine it_str ?_
     refine qB rfl ?_
     refine ⟨_,rfl,?_⟩
     rw [jK]
     refine ⟨by simp;exact o273 hlt,[],(fun p hp=>nomatch hp),fun C=>?_⟩
     refine vJ (fun ch=>AV.str (S [ch])) (fun ch=>AV.str (S [ch])) (fun ch=>[("sign",AV.str (S [ch]))]) (ch::w) _ (fun Z Z=>rfl) (fun Z Z=>rfl) (fun Z Z=>rfl) (fun x hx raws=>?_) ?_
     ·refine qB rfl ?_
      exact ⟨rfl,rfl⟩
     ·rw [es,List.map_map]
      exact ⟨rfl,rfl⟩
    ·have es:splitT (ch::w)=[ch::w]:=by unfold splitT;rw [if_neg];show ¬isOp ch=true;rw [hb];decide
     refine yB ?_
     refine qC rfl (qB rfl (qE ?_))
     refine ⟨by show 1≤1000;decide,?_⟩
     rw [es]
     exact ⟨rfl,rfl⟩
   refine qE ?_
   have hlen:(acc.map tokAV).length+((splitT (ch::w)).map tokAV).length≤100000:=by
    have:=congrArg List.length hacc
    simp only [List.length_append] at this
    simp only [List.length_map]
    exact o274 hn this
   refine qP (kK (tk_get _ _ _ _ _) hlen ?_)
   rw [← List.map_append,tk_set]
   refine ⟨trivial,?_⟩
   refine wA ⟨tkLoc mu l (some (ch::w)),tkMu mu o l s (acc++splitT (ch::w))⟩ rfl ?_
   refine qA ?_
   refine' qR rfl rfl ?_
   refine' qQ (pl:=_) (qS rfl) rfl ?_
   refine qB rfl ?_
   obtain ⟨n',res,rfl,e1,e2⟩:=kG hl
   refine wB hK (n:="get_token") (f:=817) (by decide) hK.kit856 (qN _ _ _ _) rfl ?_
   refine qE ?_
   refine qP (kM hK s _ m res e1 hm hst hs1 hg hz (by exact o166 hdp) fun s' h1 h2 h3 h4=>?_)
   have inv:TkInv mu o l ts n' ⟨tkLoc mu l res.1,tkMu mu o l s' (acc++splitT (ch::w))⟩:=tk_next e2 (by rw [List.append_assoc];exact hacc) h1 h2 h3 h4
   refine wA ⟨tkLoc mu l res.1,tkMu mu o l s' (acc++splitT (ch::w))⟩ rfl ?_
   refine qF ?_
   exact ⟨n',Nat.lt_succ_self _,inv⟩
end c_tokens
section
variable {c:Cx}{d u:Nat}{env:Env}{σ:St}{mu:List AO}{K:AV→List AO→Prop}
theorem c_tokens(hK:Keys c.K)(l:List Nat)(n:Nat)(ts:List (List Nat))(h0:lexAll n .sp l=some ts)(hz:l.length≤10000)(hn:ts.length≤10000)(hdp:d+8 < recursionLimit)
  (h:∀G,K (.mut (mu.length+G.length)) (mu++G++[toksAO ts])):CallOK c d u (.ref 923) [.str (S l)] [] mu K:=(@eps _ _ c_tokens.Dq c_tokens.tq rfl @c_tokens.T0 (c,d,u,mu,K,l)) hK n ts h0 hz hn hdp h
end
end
section
variable {c:Cx}{d u:Nat}{env:Env}{σ:St}{mu:List AO}{K:AV→List AO→Prop}
theorem c_join (hK:Keys c.K) (xs:List Str) (hmu0:mu[0]?=some (.raw (tabObj #[]))) (hxs:∀x∈xs,0 < x.length∧x.length≤1000∧(Txt.replace x (Str.ofString "'") (Str.ofString "'\"'\"'")).length≤10000) (hok:JoinOk (Str.ofString " ") (xs.map quoteS)=true) (hsz:xs.length≤1000) (hdp:d+4 < recursionLimit)
  (h:∀ps,K (.str (Txt.join (Str.ofString " ") (xs.map quoteS))) (mu.set 0 (.raw (tabObj ps)))):CallG c 862 d u (.ref 867) [.lst (xs.map .str)] mu K:=by
 obtain ⟨oc,od,osl,doc,pm,an,ct,ho,hcd⟩:=hK.j_join
 refine' callG_fn ho hcd (by exact o268 hdp) (jF (names:=["split_command"]) _ rfl ?hb ?hl ?hn) ?h ?c1 ?c2 ?c3 ?c4
 (case c1=>rfl);(case c2=>rfl);(case c3=>rfl);(case c4=>decide)
 case hb=>intro ws hw;obtain ⟨v,rfl⟩:=len1 hw;rfl
 case hl=>show ∀x∈_,f_join.scope.names.lookup x=_;decide
 case hn=>decide
 case h =>
  intro L
  refine zM (gJ ?_)
  refine evG_joingen (xs:=xs) (qf:=quoteS) (c0:=866) (f:=875) rfl (qM ⟨rfl,rfl⟩) rfl hK.jhd rfl rfl (by decide) rfl hmu0 rfl rfl rfl (by decide) (by decide) (by decide) rfl (by decide) (by decide) (by decide) (by exact o275 hdp) hK.g_quote hK.p_quote ?_ hok (by unfold sizeLine;exact o276 hsz) ?_
  ·intro x hx K hk
   obtain ⟨h1,h2,h3⟩:=hxs x hx
   exact c_quote hK x h1 h2 h3 (by exact o277 hdp) hk
  ·intro o'
   exact h o'
end
section
section
theorem kH(n:Nat):∀(k:Nat) (m:LMode) (cs:List Nat),cs.length+1≤n→cs.length+1≤k→lex1 n m cs=lex1 k m cs:=by
 induction n with
 | zero=>exact fun _ _ _ h _=>absurd h (Nat.not_succ_le_zero _)
 | succ n ih =>
  intro k m cs h1 h2
  cases k with
  | zero=>exact absurd h2 (Nat.not_succ_le_zero _)
  | succ k =>
   cases cs with
   | nil=>cases m <;> rfl
   | cons a r =>
    have i1:∀m',lex1 n m' r=lex1 k m' r:=fun m'=>ih k m' r (Nat.le_of_succ_le_succ h1) (Nat.le_of_succ_le_succ h2)
    have i2:∀m',lex1 n m' (dropLine r)=lex1 k m' (dropLine r):=fun m'=>ih k m' _ (o104 h1 (wN r)) (o104 h2 (wN r))
    cases m <;> simp only [lex1,i1,i2]
noncomputable def LA(m:LMode)(cs:List Nat)(ts:List (List Nat)):Prop:=∃n,lexAll n m cs=some ts
theorem vY{m m':LMode}{cs cs':List Nat}{ts:List (List Nat)}(x:LA m cs ts)(h:lex1 (cs'.length+2) m' cs'=lex1 (cs.length+2) m cs):LA m' cs' ts:=by
 obtain ⟨n,e⟩:=x
 cases n with
 | zero=>cases e
 | succ n=>exact ⟨n+1,by rw [lexAll] at e ⊢;rw [h];exact e⟩
theorem kX{m m':LMode}{cs cs':List Nat}{ts:List (List Nat)}(x:LA m cs ts)(h:lex1 (cs.length+2) m cs=lex1 (cs'.length+2) m' cs'):LA m' cs' ts:=vY x h.symm
theorem yA{m:LMode}{cs r t:List Nat}{e:Bool}{ts:List (List Nat)}(h:lex1 (cs.length+2) m cs=some (some t,e,r))(ht:t≠[])(x:LA (if e then .eof else .sp) r ts):LA m cs (splitT t++ts):=by
 obtain ⟨n,e1⟩:=x
 exact ⟨n+1,by rw [lexAll,h];dsimp only;rw [if_neg ht,e1];rfl⟩
theorem la_uns{m:LMode}{cs r t:List Nat}{e:Bool}{ts:List (List Nat)}(x:LA m cs ts)(h:lex1 (cs.length+2) m cs=some (some t,e,r)):∃ts',ts=splitT t++ts'∧LA (if e then .eof else .sp) r ts':=by
 obtain ⟨n,e1⟩:=x
 cases n with
 | zero=>cases e1
 | succ n =>
  rw [lexAll,h] at e1
  dsimp only at e1
  split at e1
  ·cases e1
  ·cases e2:lexAll n (if e=true then LMode.eof else LMode.sp) r with
   | none=>rw [e2] at e1;cases e1
   | some ts'=>rw [e2] at e1;cases e1;exact ⟨ts',rfl,n,e2⟩
theorem la_end:LA .sp [] []:=⟨1,rfl⟩
theorem la_eof{ts:List (List Nat)}(x:LA .sp [] ts):LA .eof [] ts:=vY x rfl
theorem isOp_is{a:Nat}(h:isOp a=true):isWs a=false∧isCm a=false∧isQu a=false∧isEs a=false∧isWd a=false∧isPu a=true:=by
 unfold isOp at h
 simp only [Bool.or_eq_true,beq_iff_eq] at h
 rcases h with ((h | h) | h) | h <;> subst h <;> decide +kernel
noncomputable def okCh(a:Nat):Bool:=isWd a&&!isWs a&&!isCm a&&!isEs a&&!isQu a&&!isPu a&&!isOp a&&a != 33
theorem okCh_is{a:Nat}(h:okCh a=true):isWd a=true∧isWs a=false∧isCm a=false∧isEs a=false∧isQu a=false∧isPu a=false∧isOp a=false∧a≠33:=by
 simpa [okCh,and_assoc] using h
noncomputable def Clean(k:List Nat):Prop:=∀a∈k,isPu a=true→isOp a=true
noncomputable def EndOK(k:List Nat):Prop:=k=[]∨∃a r,k=a::r∧isOp a=true
theorem drop_gap(k:List Nat):dropLine (32::105::116::39::115::32::40::10::k)=k:=by simp [dropLine]
theorem gap_sp{gap k:List Nat}{ts:List (List Nat)}(hg:gap∈gapTab)(x:LA .sp k ts):LA .sp (gap++k) ts:=by
 have w32:isWs 32=true:=by decide +kernel
 have w10:isWs 10=true:=by decide +kernel
 have w35:isWs 35=false:=by decide +kernel
 have c35:isCm 35=true:=by decide +kernel
 simp only [gapTab,List.mem_cons,List.not_mem_nil,or_false] at hg
 rcases hg with h | h | h | h <;> subst h
 ·exact x
 ·exact vY x (by simp only [List.cons_append,List.nil_append,List.length_cons];rw [lex1,if_pos w32])
 ·exact vY x (by simp only [List.cons_append,List.nil_append,List.length_cons];rw [lex1,if_pos w10])
 ·refine vY x ?_
  simp only [List.cons_append,List.nil_append,List.length_cons]
  rw [lex1,if_neg (by rw [w35];decide),if_pos c35]
  rw [drop_gap]
  exact kH _ _ _ _ (by exact o105) (by exact o106)
theorem wK{gap:List Nat}(hg:gap∈gapTab):Clean gap:=by
 have key:∀g∈gapTab,∀a∈g,isPu a=true→isOp a=true:=by decide +kernel
 exact key gap hg
theorem Clean.app{a b:List Nat}(x:Clean a)(y:Clean b):Clean (a++b):=fun c hc=>(List.mem_append.mp hc).elim (x c) (y c)
theorem splitT_word{t:List Nat}(h:isOp (t.headD 0)=false):splitT t=[t]:=by unfold splitT;rw [if_neg (by rw [h];decide)]
theorem gA{t:List Nat}{q:Bool}{gap k:List Nat}{ts:List (List Nat)}(ht:t≠[])(ho:isOp (t.headD 0)=false)(hg:gap∈gapTab)(he:EndOK k)(x:LA .sp k ts):LA (.wd t q) (gap++k) (t::ts):=by
 have hte:¬((t.isEmpty&&!q)=true):=by cases t with | nil=>exact absurd rfl ht | cons _ _=>simp
 have key:∀{cs r:List Nat} {e:Bool},lex1 (cs.length+2) (.wd t q) cs=some (some t,e,r)→LA (if e then .eof else .sp) r ts→LA (.wd t q) cs (t::ts):=fun h y=>by
  have:=yA h ht y
  rw [splitT_word ho] at this
  exact this
 have w32:isWs 32=true:=by decide +kernel
 have w10:isWs 10=true:=by decide +kernel
 have w35:isWs 35=false:=by decide +kernel
 have c35:isCm 35=true:=by decide +kernel
 simp only [gapTab,List.mem_cons,List.not_mem_nil,or_false] at hg
 rcases hg with h | h | h | h <;> subst h
 ·rcases he with h | ⟨a,r,h,ha⟩ <;> subst h
  ·exact key (e:=true) (r:=[]) (by simp only [List.append_nil,List.length_nil];rw [lex1,if_neg hte]) (la_eof x)
  ·obtain ⟨h1,h2,h3,h4,h5,h6⟩:=isOp_is ha
   refine key (e:=false) (r:=a::r) ?_ x
   simp only [List.nil_append,List.length_cons]
   rw [lex1,if_neg hte,h1,h2,h3,h4,h5];rfl
 ·refine key (e:=false) (r:=k) ?_ x
  simp only [List.cons_append,List.nil_append,List.length_cons]
  rw [lex1,if_neg hte,if_pos w32]
 ·refine key (e:=false) (r:=k) ?_ x
  simp only [List.cons_append,List.nil_append,List.length_cons]
  rw [lex1,if_neg hte,if_pos w10]
 ·refine key (e:=false) (r:=k) ?_ x
  simp only [List.cons_append,List.nil_append,List.length_cons]
  rw [lex1,if_neg hte,if_neg (by rw [w35];decide),if_pos c35]
  rw [drop_gap]
theorem word_more{w:List Nat}:∀{t:List Nat} {q:Bool} {k:List Nat} {ts:List (List Nat)},t≠[]→(∀a∈w,okCh a=true)→LA (.wd (t++w) q) k ts→LA (.wd t q) (w++k) ts:=by
 induction w with
 | nil=>intro t q k ts _ _ x;simpa using x
 | cons a w ih =>
  intro t q k ts ht hw x
  obtain ⟨h1,h2,h3,h4,h5,h6,h7,h8⟩:=okCh_is (hw a (.head _))
  have y:=ih (t:=t++[a]) (q:=q) (k:=k) (ts:=ts) (by exact List.append_ne_nil_of_right_ne_nil _ (List.cons_ne_nil _ _)) (fun b hb=>hw b (.tail _ hb)) (by simpa using x)
  refine vY y ?_
  have hte:¬((t.isEmpty&&!q)=true):=by cases t with | nil=>exact absurd rfl ht | cons _ _=>simp
  simp only [List.cons_append,List.length_cons]
  rw [lex1,if_neg hte,h2,h3,h5,h4,h1];rfl
theorem word_sp{a:Nat}{w gap k:List Nat}{ts:List (List Nat)}(hw:∀b∈a::w,okCh b=true)(hg:gap∈gapTab)(he:EndOK k)(x:LA .sp k ts):LA .sp ((a::w)++gap++k) ((a::w)::ts):=by
 obtain ⟨h1,h2,h3,h4,h5,h6,h7,h8⟩:=okCh_is (hw a (.head _))
 have y:=word_more (t:=[a]) (q:=false) (by exact List.cons_ne_nil _ _) (fun b hb=>hw b (.tail _ hb)) (gA (t:=[a]++w) (q:=false) (by exact List.cons_ne_nil _ _) h7 hg he x)
 refine vY y ?_
 simp only [List.cons_append,List.length_cons,List.append_assoc]
 rw [lex1,h2,h3,h4,h1];rfl
inductive PnC(cs:List Nat):Prop
 | out (e:Bool) (r:List Nat) (h:∀t:List Nat,t≠[]→lex1 (cs.length+2) (.pn t) cs=some (some t,e,r))
 | more (a:Nat) (r:List Nat) (q:cs=a::r) (h:∀t:List Nat,t≠[]→lex1 ((a::r).length+2) (.pn t) (a::r)=lex1 (r.length+2) (.pn (t++[a])) r)
theorem pn_cases(cs:List Nat):PnC cs:=by
 have ne:∀t:List Nat,t≠[]→¬(t.isEmpty=true):=fun t h z=>h (List.isEmpty_iff.mp z)
 cases cs with
 | nil=>exact .out true [] fun t h=>by show (if _ then _ else _)=_;rw [if_neg (ne t h)]
 | cons a r =>
  by_cases c1:isWs a=true
  ·exact .out false r fun t h=>by show (if _ then _ else _)=_;rw [if_neg (ne t h),if_pos c1]
  by_cases c2:isCm a=true
  ·exact .out false (dropLine r) fun t h=>by show (if _ then _ else _)=_;rw [if_neg (ne t h),if_neg c1,if_pos c2]
  by_cases c3:isPu a=true
  ·exact .more a r rfl fun t h=>by show (if _ then _ else _)=_;rw [if_neg (ne t h),if_neg c1,if_neg c2,if_pos c3];rfl
  ·exact .out false (a::r) fun t h=>by show (if _ then _ else _)=_;rw [if_neg (ne t h),if_neg c1,if_neg c2,if_neg c3]
theorem op_push{op:Nat}(ho:isOp op=true):∀{r t:List Nat} {ts:List (List Nat)},t≠[]→isOp (t.headD 0)=true→LA (.pn t) r ts→LA (.pn (op::t)) r ([op]::ts):=by
 have hs:∀t:List Nat,isOp (t.headD 0)=true→splitT (op::t)=[op]::splitT t:=fun t h=>by
  unfold splitT
  rw [if_pos h,List.headD_cons,if_pos ho];rfl
 have key:∀{cs:List Nat} {e:Bool} {r:List Nat},(∀t:List Nat,t≠[]→lex1 (cs.length+2) (.pn t) cs=some (some t,e,r))→∀{t:List Nat} {ts:List (List Nat)},t≠[]→isOp (t.headD 0)=true→LA (.pn t) cs ts→LA (.pn (op::t)) cs ([op]::ts):=fun h t ts ht hh x=>by
  obtain ⟨ts',rfl,y⟩:=la_uns x (h t ht)
  have z:=yA (h (op::t) (List.cons_ne_nil _ _)) (List.cons_ne_nil _ _) y
  rw [hs t hh] at z
  exact z
 intro r
 induction r with
 | nil =>
  rcases pn_cases [] with ⟨e,r,h⟩ | ⟨a,r,q,h⟩
  ·exact key h
  ·cases q
 | cons a r ih =>
  rcases pn_cases (a::r) with ⟨e,r,h⟩ | ⟨b,r',q,h⟩
  ·exact key h
  ·intro t ts ht hh x
   cases q
   refine vY (ih (t:=t++[a]) (List.append_ne_nil_of_right_ne_nil _ (List.cons_ne_nil _ _)) ?_ (kX x (h t ht))) (h (op::t) (List.cons_ne_nil _ _))
   cases t with
   | nil=>exact absurd rfl ht
   | cons _ _=>exact hh
theorem op_sp{op:Nat}(ho:isOp op=true){k:List Nat}{ts:List (List Nat)}(hc:Clean k)(x:LA .sp k ts):LA .sp (op::k) ([op]::ts):=by
 obtain ⟨h1,h2,h3,h4,h5,h6⟩:=isOp_is ho
 have toPn:LA (.pn [op]) k ([op]::ts)→LA .sp (op::k) ([op]::ts):=fun y=>by
  refine vY y ?_
  simp only [List.length_cons]
  rw [lex1,h1,h2,h4,h5,h6];rfl
 have hs:splitT [op]=[[op]]:=by unfold splitT;rw [List.headD_cons,if_pos ho];rfl
 refine toPn ?_
 cases k with
 | nil =>
  have z:=yA (m:=.pn [op]) (cs:=[]) (t:=[op]) (e:=true) (r:=[]) (ts:=ts) rfl (by exact List.cons_ne_nil _ _) (la_eof x)
  rw [hs] at z;exact z
 | cons a r =>
  by_cases c3:isPu a=true
  ·have ha:=hc a (.head _) c3
   obtain ⟨g1,g2,g3,g4,g5,g6⟩:=isOp_is ha
   have y:LA (.pn [a]) r ts:=kX x (by simp only [List.length_cons];rw [lex1,g1,g2,g4,g5,g6];rfl)
   refine vY (op_push ho (t:=[a]) (by exact List.cons_ne_nil _ _) ha y) ?_
   simp only [List.length_cons]
   rw [lex1,g1,g2,g6];rfl
  ·by_cases c1:isWs a=true
   ·have y:LA .sp r ts:=kX x (by simp only [List.length_cons];rw [lex1,if_pos c1])
    have z:=yA (m:=.pn [op]) (cs:=a::r) (t:=[op]) (e:=false) (r:=r) (ts:=ts) (by simp only [List.length_cons];rw [lex1,if_pos c1];rfl) (by exact List.cons_ne_nil _ _) y
    rw [hs] at z;exact z
   by_cases c2:isCm a=true
   ·have y:LA .sp (dropLine r) ts:=kX x (by
     simp only [List.length_cons];rw [lex1,if_neg c1,if_pos c2]
     exact kH _ _ _ _ (by have:=wN r;exact o107 this) (by exact o106))
    have z:=yA (m:=.pn [op]) (cs:=a::r) (t:=[op]) (e:=false) (r:=dropLine r) (ts:=ts) (by simp only [List.length_cons];rw [lex1,if_neg c1,if_pos c2];rfl) (by exact List.cons_ne_nil _ _) y
    rw [hs] at z;exact z
   ·have z:=yA (m:=.pn [op]) (cs:=a::r) (t:=[op]) (e:=false) (r:=a::r) (ts:=ts) (by simp only [List.length_cons];rw [lex1,if_neg c1,if_neg c2,if_neg c3];rfl) (by exact List.cons_ne_nil _ _) x
    rw [hs] at z;exact z
theorem bang_sp{k:List Nat}{ts:List (List Nat)}(x:LA .sp k ts):LA .sp (33::k) ([33]::ts):=by
 have h:isWs 33=false∧isCm 33=false∧isQu 33=false∧isEs 33=false∧isWd 33=false∧isPu 33=false∧splitT [33]=[[33]]:=by decide +kernel
 obtain ⟨h1,h2,h3,h4,h5,h6,h7⟩:=h
 have z:=yA (m:=.sp) (cs:=33::k) (t:=[33]) (e:=false) (r:=k) (ts:=ts) (by simp only [List.length_cons];rw [lex1,h1,h2,h4,h5,h6,h3];rfl) (by exact List.cons_ne_nil _ _) x
 rw [h7] at z;exact z
theorem qseg{qk:Nat}:∀{s t k:List Nat} {ts:List (List Nat)},(∀a∈s,a≠qk∧isEs a=false)→LA (.wd (t++s) true) k ts→LA (.qu qk t) (s++qk::k) ts:=by
 intro s
 induction s with
 | nil =>
  intro t k ts _ x
  refine vY (by simpa using x) ?_
  simp only [List.nil_append,List.length_cons]
  rw [lex1,if_pos rfl]
 | cons a s ih =>
  intro t k ts hs x
  obtain ⟨h1,h2⟩:=hs a (.head _)
  have y:=ih (t:=t++[a]) (k:=k) (ts:=ts) (fun b hb=>hs b (.tail _ hb)) (by simpa using x)
  refine vY y ?_
  simp only [List.cons_append,List.length_cons]
  rw [lex1,if_neg h1,h2];rfl
theorem sp_qu{qk:Nat}(h:qk=39∨qk=34){k:List Nat}{ts:List (List Nat)}(x:LA (.qu qk []) k ts):LA .sp (qk::k) ts:=by
 have key:∀q,(q=39∨q=34)→isWs q=false∧isCm q=false∧isEs q=false∧isWd q=false∧isPu q=false∧isQu q=true:=by
  intro q hq;rcases hq with h | h <;> subst h <;> decide +kernel
 obtain ⟨h1,h2,h3,h4,h5,h6⟩:=key qk h
 refine vY x ?_
 simp only [List.length_cons]
 rw [lex1,h1,h2,h3,h4,h5,h6];rfl
theorem wd_qu{qk:Nat}(h:qk=39∨qk=34){t k:List Nat}{ts:List (List Nat)}(x:LA (.qu qk t) k ts):LA (.wd t true) (qk::k) ts:=by
 have key:∀q,(q=39∨q=34)→isWs q=false∧isCm q=false∧isEs q=false∧isWd q=false∧isPu q=false∧isQu q=true:=by
  intro q hq;rcases hq with h | h <;> subst h <;> decide +kernel
 obtain ⟨h1,h2,h3,h4,h5,h6⟩:=key qk h
 refine vY x ?_
 simp only [List.length_cons]
 rw [lex1,h1,h2,h6];simp
theorem name_sp{n gap k:List Nat}{ts:List (List Nat)}(hn:n∈nameTab)(hg:gap∈gapTab)(he:EndOK k)(x:LA .sp k ts):LA .sp (quoteL n++gap++k) (n::ts):=by
 have q1:∀n∈[[110,124],[110,40],[110,10],[110,35,41]],quoteL n=39::(n++[39])∧(∀a∈n,a≠39∧isEs a=false)∧n≠[]∧isOp (n.headD 0)=false:=by decide +kernel
 have go:∀n∈[[110,124],[110,40],[110,10],[110,35,41]],LA .sp (quoteL n++gap++k) (n::ts):=by
  intro n hn
  obtain ⟨e,h1,h2,h3⟩:=q1 n hn
  rw [e]
  have:=sp_qu (.inl rfl) (qseg (qk:=39) (s:=n) (t:=[]) h1 (gA (t:=[]++n) (q:=true) h2 h3 hg he x))
  simpa using this
 refine all6 (P:=fun n=>LA .sp (quoteL n++gap++k) (n::ts)) ?_ (go _ (.head _)) (go _ (.tail _ (.head _))) ?_ (go _ (.tail _ (.tail _ (.head _)))) (go _ (.tail _ (.tail _ (.tail _ (.head _))))) n hn
 ·have e:quoteL [110]=[110]:=by decide +kernel
  have ok:∀b∈[110],okCh b=true:=by decide +kernel
  show LA _ (quoteL [110]++_++_) _
  rw [e]
  exact word_sp ok hg he x
 ·have e:quoteL [110,32,105,116,39,115]=39::([110,32,105,116]++39::34::([39]++34::39::([115]++[39]))):=by decide +kernel
  have c1:∀a∈[110,32,105,116],a≠39∧isEs a=false:=by decide +kernel
  have c2:∀a∈[39],a≠34∧isEs a=false:=by decide +kernel
  have c3:∀a∈[115],a≠39∧isEs a=false:=by decide +kernel
  show LA _ (quoteL [110,32,105,116,39,115]++_++_) _
  rw [e]
  have y:=gA (t:=[110,32,105,116,39,115]) (q:=true) (by exact List.cons_ne_nil _ _) (by decide) hg he x
  have y3:=qseg (qk:=39) (s:=[115]) (t:=[110,32,105,116,39]) c3 y
  have y2:=qseg (qk:=34) (s:=[39]) (t:=[110,32,105,116]) c2 (wd_qu (.inl rfl) y3)
  have y1:=sp_qu (.inl rfl) (qseg (qk:=39) (s:=[110,32,105,116]) (t:=[]) c1 (wd_qu (.inr rfl) y2))
  simpa using y1
structure LT(t:List Nat)(ts:List (List Nat)):Prop where
 cl:Clean t
 go:∀k tk,Clean k→EndOK k→LA .sp k tk→LA .sp (t++k) (ts++tk)
theorem lt_word{w gap:List Nat}(h0:w≠[])(hw:∀b∈w,okCh b=true)(hg:gap∈gapTab):LT (w++gap) [w]:=by
 refine ⟨Clean.app (fun a ha hp=>?_) (wK hg),fun k tk hk he x=>?_⟩
 ·obtain ⟨h1,h2,h3,h4,h5,h6,_⟩:=okCh_is (hw a ha)
  rw [h6] at hp;cases hp
 ·cases w with
  | nil=>exact absurd rfl h0
  | cons a w=>exact word_sp hw hg he x
theorem lt_name{n gap:List Nat}(hn:n∈nameTab)(hg:gap∈gapTab):LT (quoteL n++gap) [n]:=by
 have key:∀n∈nameTab,∀a∈quoteL n,isPu a=true→isOp a=true:=by decide +kernel
 exact ⟨Clean.app (key n hn) (wK hg),fun k tk hk he x=>name_sp hn hg he x⟩
theorem clean1{a:Nat}(h:isOp a=true∨a=33):Clean [a]:=by
 intro b hb hp
 rw [List.mem_singleton.mp hb] at hp ⊢
 rcases h with h | h
 ·exact h
 ·subst h;exact absurd hp (by decide +kernel)
theorem lt_bang{t gap:List Nat}{ts:List (List Nat)}(hg:gap∈gapTab)(x:LT t ts):LT ([33]++gap++t) ([33]::ts) :=
 ⟨((clean1 (.inr rfl)).app (wK hg)).app x.cl,fun k tk hk he y=>by
  have:=bang_sp (gap_sp hg (x.go k tk hk he y))
  simpa using this⟩
theorem lt_par{t gap:List Nat}{ts:List (List Nat)}(hg:gap∈gapTab)(x:LT t ts):LT ([40]++gap++t++[41]) ([40]::(ts++[[41]])) :=
 ⟨(((clean1 (.inl rfl)).app (wK hg)).app x.cl).app (clean1 (.inl rfl)),fun k tk hk he y=>by
  have c1:Clean (41::k):=(clean1 (a:=41) (.inl rfl)).app hk
  have z:=x.go (41::k) ([41]::tk) c1 (.inr ⟨41,k,rfl,rfl⟩) (op_sp rfl hk y)
  have:=op_sp (op:=40) rfl ((wK hg).app (x.cl.app c1)) (gap_sp hg z)
  simpa using this⟩
theorem lt_join{op:Nat}(ho:isOp op=true){l r gap:List Nat}{tl tr:List (List Nat)}(hg:gap∈gapTab)(x:LT l tl)(y:LT r tr):LT (l++[op]++gap++r) (tl++[op]::tr) :=
 ⟨((x.cl.app (clean1 (.inl ho))).app (wK hg)).app y.cl,fun k tk hk he z=>by
  have z1:=op_sp ho ((wK hg).app (y.cl.app hk)) (gap_sp hg (y.go k tk hk he z))
  have:=x.go _ _ ((clean1 (a:=op) (.inl ho)).app ((wK hg).app (y.cl.app hk))) (.inr ⟨op,_,rfl,ho⟩) z1
  simpa using this⟩
theorem lt_lex{t:List Nat}{ts:List (List Nat)}(x:LT t ts):∃n,lexAll n .sp t=some ts:=by
 have:=x.go [] [] (fun a ha=>nomatch ha) (.inl rfl) la_end
 simpa [LA] using this
end
end
section
set_option tactic.hygienic true
section
variable {files:List File3}
theorem yW(files:List File3):∀n,(∀rank ts b t,rd files n rank ts=some (b,t)→t.length < ts.length):=by
 intro zz
 induction zz with
 | zero=>exact fun Z Z Z Z h=>by simp [rd] at h
 | succ n ih =>
  have ih2:=(zP files n).2
  intro rank ts b t h
  rcases jM h with ⟨_,b1,t1,e,h⟩ | ⟨_,s,u,rfl,⟨_,b1,e,rfl⟩ | ⟨_,x,e⟩ | ⟨_,_,_,rfl,rfl⟩⟩
  ·exact Nat.lt_of_le_of_lt (ih2 _ _ _ _ _ h) (ih _ _ _ _ e)
  ·exact Nat.lt_succ_of_lt (ih _ _ _ _ e)
  ·exact Nat.lt_succ_of_lt (Nat.lt_of_succ_lt (ih _ _ _ _ e))
  ·exact Nat.lt_succ_self _
variable {n rank:Nat}{w:List Nat}{t t' ts t1 t2:List (List Nat)}{b b1 b2:List Bool}{r:Option (List Bool×List (List Nat))}
theorem rd_up(hr:rank < 2)(e:rd files n (rank+1) ts=some (b1,t1))(h:rdLoop files n rank b1 t1=r):rd files (n+1) rank ts=r:=by
 unfold rd;rw [if_pos hr,e];exact h
theorem rd_33(e:rd files n 2 t=some (b,t')):rd files (n+1) 2 ([33]::t)=some (b.map not,t'):=by
 unfold rd;rw [if_neg o119];dsimp only;rw [if_pos rfl,e]
theorem rd_40(e:rd files n 0 t=some (b,w::t')):rd files (n+1) 2 ([40]::t)=some (b,t'):=by
 unfold rd;rw [if_neg o119];dsimp only;rw [if_neg (by decide),if_pos rfl,e]
theorem rd_w(h1:¬w=[33])(h2:¬w=[40])(h3:goodWord w=true):rd files (n+1) 2 (w::t)=some (files.map fun f=>wordHolds w f.1 f.2.1 f.2.2,t):=by
 unfold rd;rw [if_neg o119];dsimp only;rw [if_neg h1,if_neg h2,if_pos h3]
theorem rl_c(e:rd files n (rank+1) t=some (b2,t2))(h:rdLoop files n rank ((b.zip b2).map (comb rank)) t2=r):rdLoop files (n+1) rank b ([opCh rank]::t)=r:=by
 unfold rdLoop;dsimp only;rw [if_pos rfl,e];exact h
theorem rl_s(h:∀u,¬ts=[opCh rank]::u):rdLoop files (n+1) rank b ts=some (b,ts):=by
 cases ts with
 | nil=>rfl
 | cons s t=>unfold rdLoop;dsimp only;rw [if_neg fun q=>h t (by rw [q])]
theorem zO(files:List File3):∀N,(∀rank ts b t,rd files N rank ts=some (b,t)→∀n,3*ts.length+3 - rank≤n→rank≤2→rd files n rank ts=some (b,t)) ∧
  (∀rank b0 ts b t,rdLoop files N rank b0 ts=some (b,t)→∀n,3*ts.length+1≤n→rank < 2→rdLoop files n rank b0 ts=some (b,t)):=by
 intro zz
 induction zz with
 | zero=>exact ⟨fun Z Z Z Z h=>by simp [rd] at h,fun Z Z Z Z Z h=>by simp [rdLoop] at h⟩
 | succ N ih =>
  obtain ⟨ih1,ih2⟩:=ih
  constructor
  ·intro rank ts b t h n hn hr
   cases n with
   | zero=>first | exact (h17 hn hr).elim | exact (Nat.not_succ_le_zero _ hn).elim
   | succ n =>
   rcases jM h with ⟨h2,b1,t1,e,h⟩ | ⟨h2,s,u,rfl,hN⟩
   ·exact rd_up h2 (ih1 _ _ _ _ e n (by exact o110 hn) (by exact o111 h2)) (ih2 _ _ _ _ _ h n (o112 hn h2 (yW files N _ _ _ _ e)) h2)
   ·obtain rfl:=Nat.le_antisymm hr (Nat.le_of_not_lt h2)
    rcases hN with ⟨rfl,b1,e,rfl⟩ | ⟨rfl,x,e⟩ | ⟨n1,n2,g,rfl,rfl⟩
    ·exact rd_33 (ih1 _ _ _ _ e n (by exact o113 hr hn) (by exact o114))
    ·exact rd_40 (ih1 _ _ _ _ e n (by exact o115 hr hn) (by exact o116))
    ·exact rd_w n1 n2 g
  ·intro rank b0 ts b t h n hn hr
   cases n with
   | zero=>first | exact (h17 hn hr).elim | exact (Nat.not_succ_le_zero _ hn).elim
   | succ n =>
   rcases gP h with ⟨b2,t2,u,rfl,e,h2⟩ | ⟨n1,rfl,rfl⟩
   ·exact rl_c (ih1 _ _ _ _ e n (by exact o117 hn) (by exact o111 hr)) (ih2 _ _ _ _ _ h2 n (o118 hn (yW files N _ _ _ _ e)) hr)
   ·exact rl_s n1
noncomputable def Rd(files:List File3)(rank:Nat)(ts:List (List Nat))(b:List Bool)(t:List (List Nat)):Prop:=∃n,rd files n rank ts=some (b,t)
noncomputable def Lp(files:List File3)(rank:Nat)(b0:List Bool)(ts:List (List Nat))(b:List Bool)(t:List (List Nat)):Prop:=∃n,rdLoop files n rank b0 ts=some (b,t)
theorem Rd.up{rank:Nat}{ts t t':List (List Nat)}{b b':List Bool}(x:Rd files (rank+1) ts b t)(y:Lp files rank b t b' t')(hr:rank < 2):Rd files rank ts b' t':=by
 obtain ⟨n,e⟩:=x
 obtain ⟨k,f⟩:=y
 have hs:=yW files n _ _ _ _ e
 refine ⟨(3*ts.length+3)+1,?_⟩
 refine rd_up hr ((zO files n).1 _ _ _ _ e _ (by exact o120) (by exact o111 hr)) ?_
 exact (zO files k).2 _ _ _ _ _ f _ (by exact o121 hs) hr
theorem Lp.op{rank:Nat}{t t2 t':List (List Nat)}{b0 b2 b':List Bool}(x:Rd files (rank+1) t b2 t2)(y:Lp files rank ((b0.zip b2).map (comb rank)) t2 b' t')(hr:rank < 2):Lp files rank b0 ([opCh rank]::t) b' t':=by
 obtain ⟨n,e⟩:=x
 obtain ⟨k,f⟩:=y
 have hs:=yW files n _ _ _ _ e
 refine ⟨(3*t.length+3)+1,?_⟩
 refine rl_c ((zO files n).1 _ _ _ _ e _ (by exact o120) (by exact o111 hr)) ?_
 exact (zO files k).2 _ _ _ _ _ f _ (by exact o121 hs) hr
theorem Lp.stop{rank:Nat}{b:List Bool}{ts:List (List Nat)}(h:ts.head?≠some [opCh rank]):Lp files rank b ts b ts:=by
 exact ⟨0+1,rl_s fun u q=>h (by rw [q];rfl)⟩
noncomputable def At(files:List File3)(ts:List (List Nat))(h:List Bool):Prop:=∀rest,Rd files 2 (ts++rest) h rest
noncomputable def Stp(rank:Nat)(rest:List (List Nat)):Prop:=rank=0→rest.head?≠some [opCh 1]
structure Ch(files:List File3)(rank:Nat)(ts:List (List Nat))(h:List Bool):Prop where
 fst:∀rest b' t',Stp rank rest→Lp files rank h rest b' t'→Rd files rank (ts++rest) b' t'
 nxt:∀b0 rest b' t',Stp rank rest→Lp files rank ((b0.zip h).map (comb rank)) rest b' t'→Lp files rank b0 ([opCh rank]::(ts++rest)) b' t'
theorem At.ch1{ts:List (List Nat)}{h:List Bool}(x:At files ts h):Ch files 1 ts h :=
 ⟨fun rest b' t' Z y=>(x rest).up y (by exact o122),fun b0 rest b' t' Z y=>Lp.op (x rest) y (by exact o122)⟩
theorem Ch.ch0{ts:List (List Nat)}{h:List Bool}(x:Ch files 1 ts h):Ch files 0 ts h:=by
 have key:∀rest,Stp 0 rest→Rd files 1 (ts++rest) h rest:=fun rest hs=>x.fst rest h rest (fun q=>(nomatch q)) (Lp.stop (hs rfl))
 exact ⟨fun rest b' t' hs y=>(key rest hs).up y (by exact o123),fun b0 rest b' t' hs y=>Lp.op (key rest hs) y (by exact o123)⟩
noncomputable def Lev(files:List File3):Nat→List (List Nat)→List Bool→Prop
 | 0=>Ch files 0
 | 1=>Ch files 1
 | _=>At files
theorem Lev.zero{rank:Nat}{ts:List (List Nat)}{h:List Bool}(x:Lev files rank ts h):Ch files 0 ts h:=match rank,x with
 | 0,x=>x
 | 1,x=>Ch.ch0 x
 | _+2,x=>(At.ch1 x).ch0
theorem Lev.one{rank:Nat}{ts:List (List Nat)}{h:List Bool}(x:Lev files rank ts h)(hr:rank≥1):Ch files 1 ts h:=match rank,x with
 | 0,x=>absurd hr (by exact o124)
 | 1,x=>x
 | _+2,x=>At.ch1 x
theorem at_word{w:List Nat}(h1:w≠[33])(h2:w≠[40])(h3:goodWord w=true):At files [w] (files.map fun f=>wordHolds w f.1 f.2.1 f.2.2):=fun rest=>by
 exact ⟨0+1,rd_w h1 h2 h3⟩
theorem at_bang{ts:List (List Nat)}{h:List Bool}(x:At files ts h):At files ([33]::ts) (h.map not):=fun rest=>by
 obtain ⟨n,e⟩:=x rest
 exact ⟨n+1,rd_33 e⟩
theorem at_par{ts:List (List Nat)}{h:List Bool}(x:Ch files 0 ts h):At files ([40]::(ts++[[41]])) h:=fun rest=>by
 obtain ⟨n,e⟩:=x.fst ([41]::rest) h ([41]::rest) (fun Z=>by simp [opCh]) (Lp.stop (by simp [opCh]))
 refine ⟨n+1,?_⟩
 show rd files (n+1) 2 ([40]::((ts++[[41]])++rest))=_
 rw [List.append_assoc];exact rd_40 e
theorem comb_assoc(rank:Nat)(a b c:List Bool):(((a.zip b).map (comb rank)).zip c).map (comb rank)=(a.zip ((b.zip c).map (comb rank))).map (comb rank):=by
 induction a generalizing b c with
 | nil=>rfl
 | cons x a ih =>
  cases b with
  | nil=>rfl
  | cons y b =>
   cases c with
   | nil=>rfl
   | cons z c =>
    show comb rank (comb rank (x,y),z)::_=comb rank (x,comb rank (y,z))::_
    refine congr (congrArg List.cons ?_) (ih b c)
    unfold comb
    by_cases h:rank=1
    ·simp only [if_pos h,Bool.and_assoc]
    ·simp only [if_neg h,Bool.or_assoc]
theorem ch_join{rank:Nat}(hr:rank < 2){tl tr:List (List Nat)}{hl hr':List Bool}(x:Ch files rank tl hl)(y:Ch files rank tr hr'):Ch files rank (tl++[opCh rank]::tr) ((hl.zip hr').map (comb rank)):=by
 have st:∀rest:List (List Nat),Stp rank ([opCh rank]::rest):=fun rest q=>by subst q;simp [opCh]
 refine ⟨fun rest b' t' hs z=>?_,fun b0 rest b' t' hs z=>?_⟩
 ·have:=x.fst _ _ _ (st (tr++rest)) (y.nxt hl rest b' t' hs z)
  simpa using this
 ·have:=x.nxt b0 _ _ _ (st (tr++rest)) (y.nxt _ rest b' t' hs (by rw [comb_assoc];exact z))
  simpa using this
structure EP(files:List File3)(e:Ent)(ts:List (List Nat)):Prop where
 lt:LT e.text ts
 lv:Lev files e.rank ts e.holds
noncomputable def wtoks(e:Ent)(ts:List (List Nat))(rank:Nat):List (List Nat):=if e.rank≥rank then ts else [40]::(ts++[[41]])
theorem nil_gap:([]:List Nat)∈gapTab:=by simp [gapTab]
theorem EP.within_lt{e:Ent}{ts:List (List Nat)}(x:EP files e ts)(rank:Nat):LT (within e rank) (wtoks e ts rank):=by
 unfold within wtoks
 split
 ·exact x.lt
 ·have:=lt_par nil_gap x.lt
  simpa using this
theorem EP.within_ch{e:Ent}{ts:List (List Nat)}(x:EP files e ts){rank:Nat}(hr:rank < 2):Ch files rank (wtoks e ts rank) e.holds:=by
 unfold wtoks
 split
 ·rename_i h
  rcases lt2 hr with rfl | rfl
  ·exact x.lv.zero
  ·exact x.lv.one h
 ·have:=at_par x.lv.zero
  rcases lt2 hr with rfl | rfl
  ·exact this.ch1.ch0
  ·exact this.ch1
theorem EP.within_at{e:Ent}{ts:List (List Nat)}(x:EP files e ts):At files (wtoks e ts 2) e.holds:=by
 unfold wtoks
 split
 ·rename_i h
  match e.rank,h,x.lv with
  | _+2,_,y=>exact y
 ·exact at_par x.lv.zero
theorem jI(e:Ent)(ts:List (List Nat))(rank:Nat):(wtoks e ts rank).length≤ts.length+2:=by unfold wtoks;split <;> simp
theorem ep_join{l r:Ent}{tl tr:List (List Nat)}{rank:Nat}{gap:List Nat}(hr:rank < 2)(hg:gap∈gapTab)(x:EP files l tl)(y:EP files r tr):EP files (joined rank gap l r) (wtoks l tl rank++[opCh rank]::wtoks r tr rank):=by
 have ho:isOp (opCh rank)=true:=by rcases lt2 hr with rfl | rfl <;> rfl
 refine ⟨lt_join ho hg (x.within_lt rank) (y.within_lt rank),?_⟩
 have:=ch_join hr (x.within_ch hr) (y.within_ch hr)
 rcases lt2 hr with rfl | rfl <;> exact this
noncomputable def PI(files:List File3):List Ent→Nat→Prop
 | [],_=>True
 | e::rest,p=>∃ts q,EP files e ts∧ts.length+5+q≤p∧PI files rest q
theorem PI.cons{e:Ent}{ts:List (List Nat)}{rest:List Ent}{p q:Nat}(a:EP files e ts)(b:ts.length+5+q≤p)(c:PI files rest q):PI files (e::rest) p:=⟨_,_,a,b,c⟩
theorem PI.mono{rp:List Ent}{p q:Nat}(x:PI files rp p)(h:p≤q):PI files rp q:=by
 cases rp with
 | nil=>exact x
 | cons e rest=>obtain ⟨_,_,a,b,c⟩:=x;exact .cons a (by exact o125 h b) c
theorem pi_join{l r:Ent}{rest:List Ent}{p rank:Nat}{gap:List Nat}(hr:rank < 2)(hg:gap∈gapTab)(x:PI files (r::l::rest) p):PI files (joined rank gap l r::rest) p:=by
   obtain ⟨tr,_,e1,h1,tl,q,e2,h2,x⟩:=x
   refine .cons (ep_join hr hg e2 e1) ?_ x
   have w1:=jI l tl rank
   have w2:=jI r tr rank
   rw [List.length_append]
   exact o126 h1 h2 w1 w2
theorem pi_collapse(n:Nat):∀{rp:List Ent} {p:Nat},PI files rp p→rp≠[]→∃ts,EP files (collapse n rp) ts∧ts.length+5≤p:=by
 induction n with
 | zero =>
  intro rp p x h
  cases rp with
  | nil=>exact absurd rfl h
  | cons e rest =>
   obtain ⟨_,_,a,b,_⟩:=x
   cases rest with
   | nil=>exact ⟨_,a,o127 b⟩
   | cons l rest=>exact ⟨_,a,o127 b⟩
 | succ n ih =>
  intro rp p x h
  cases rp with
  | nil=>exact absurd rfl h
  | cons e rest =>
   cases rest with
   | nil=>obtain ⟨_,_,a,b,_⟩:=x;exact ⟨_,a,o127 b⟩
   | cons l rest=>exact ih (pi_join (Nat.mod_lt _ o123) nil_gap x) (fun z=>nomatch z)
end
end
section
section
noncomputable def files3(fs:List File):List File3:=fs.map fun f=>(f.1,f.2,[kindCh f.1])
theorem kY(m:Nat):okCh (kindCh m)=true∧kindCh m≠110∧isOct (kindCh m)=false∧kindCh m≠40∧kindCh m≠33∧unsafeC (kindCh m)=(kindCh m==63):=by
 have key:∀i:Fin 16,(fun k=>okCh k=true∧k≠110∧isOct k=false∧k≠40∧k≠33∧unsafeC k=(k==63)) ([63,112,99,63,100,63,98,63,45,63,108,63,115,63,63,63].getD (i:Nat) 63):=by decide +kernel
 exact key ⟨m / 4096%16,by exact o128⟩
theorem holds_kind(fs:List File)(m:Nat):(files3 fs).map (fun f=>wordHolds [kindCh m] f.1 f.2.1 f.2.2)=fs.map fun g=>[kindCh g.1]==[kindCh m]:=by
 obtain ⟨h1,h2,h3,_⟩:=kY m
 unfold files3
 rw [List.map_map]
 apply List.map_congr_left
 intro g _
 show wordHolds [kindCh m] g.1 g.2 [kindCh g.1]=_
 unfold wordHolds
 rw [List.headD_cons,if_neg h2,if_pos h3,Bool.eq_iff_iff]
 simp only [beq_iff_eq]
 exact eq_comm
theorem names_ok:∀n∈nameTab,n.headD 0=110∧n≠[33]∧n≠[40]∧goodWord n=true:=by decide
theorem holds_name(fs:List File)(n:List Nat)(hn:n∈nameTab):(files3 fs).map (fun f=>wordHolds n f.1 f.2.1 f.2.2)=fs.map fun g=>g.2==n:=by
 have h1:=(names_ok n hn).1
 unfold files3
 rw [List.map_map]
 apply List.map_congr_left
 intro g _
 show wordHolds n g.1 g.2 [kindCh g.1]=_
 unfold wordHolds
 rw [if_pos h1,Bool.eq_iff_iff]
 simp only [beq_iff_eq]
 exact eq_comm
theorem oct1(n:Nat):isOct (48+n%8)=true:=by unfold isOct;simp;exact o129
theorem yX(k:Nat):∀n,∀ch∈octL k n,isOct ch=true:=by
 induction k with
 | zero=>exact fun n ch h=>by rw [List.mem_singleton.mp h];exact oct1 n
 | succ k ih =>
  intro n ch h
  rcases List.mem_append.mp (show ch∈(if n > 7 then octL k (n / 8) else [])++[48+n%8] from h) with h | h
  ·split at h
   ·exact ih _ ch h
   ·cases h
  ·rw [List.mem_singleton.mp h];exact oct1 n
theorem oct_ne(k n:Nat):octL k n≠[]:=by cases k <;> simp [octL]
theorem octVal_snoc(l:List Nat)(d:Nat):octVal (l++[d])=octVal l*8+(d - 48):=by simp [octVal,List.foldl_append]
theorem octVal_octL:∀(k n:Nat),n < 8 ^ (k+1)→octVal (octL k n)=n:=by
 intro zz
 induction zz with
 | zero =>
  intro n h
  simp [octL,octVal];exact o130 h
 | succ k ih =>
  intro n h
  rw [octL,octVal_snoc]
  split
  ·rw [ih (n / 8) (by rw [Nat.pow_succ] at h;exact o131 h)];exact o132
  ·show 0*8+_=_;exact o133 (by assumption)
theorem oct_ok{ch:Nat}(h:isOct ch=true):okCh ch=true∧ch≠110∧unsafeC ch=false:=by
 unfold isOct at h
 have h':48≤ch∧ch≤55:=by simpa using h
 have key:∀j:Fin 8,(fun c=>okCh c=true∧c≠110∧unsafeC c=false) (48+(j:Nat)):=by decide +kernel
 have:=key ⟨ch - 48,by exact o134 h'⟩
 dsimp only at this
 rw [show 48+(ch - 48)=ch by exact o135 h'] at this
 exact this
theorem and_or(a b:Nat):((a &&& b)==b)=((a ||| b)==a):=by
 rw [Bool.eq_iff_iff,beq_iff_eq,beq_iff_eq]
 constructor
 ·intro h
  apply Nat.eq_of_testBit_eq
  intro i
  have:=congrArg (fun n=>n.testBit i) h
  simp only [Nat.testBit_and,Nat.testBit_or] at this ⊢
  cases ha:a.testBit i <;> cases hb:b.testBit i <;> simp_all
 ·intro h
  apply Nat.eq_of_testBit_eq
  intro i
  have:=congrArg (fun n=>n.testBit i) h
  simp only [Nat.testBit_and,Nat.testBit_or] at this ⊢
  cases ha:a.testBit i <;> cases hb:b.testBit i <;> simp_all
theorem asked_lt(x:Nat)(f:File):askedOf x f < 4096:=Nat.lt_of_le_of_lt Nat.and_le_left (Nat.mod_lt _ (by decide))
theorem holds_oct(fs:List File)(a:Nat)(ha:a < 4096):(files3 fs).map (fun f=>wordHolds (octL 3 a) f.1 f.2.1 f.2.2)=fs.map fun g=>(g.1%4096 ||| a)==g.1%4096:=by
 unfold files3
 rw [List.map_map]
 apply List.map_congr_left
 intro g _
 show wordHolds (octL 3 a) g.1 g.2 [kindCh g.1]=_
 have hh:isOct ((octL 3 a).headD 0)=true:=by
  cases e:octL 3 a with
  | nil=>exact absurd e (oct_ne _ _)
  | cons x r=>exact yX 3 a x (by rw [e];exact .head _)
 unfold wordHolds
 rw [if_neg (oct_ok hh).2.1,if_neg (by rw [hh];decide),octVal_octL 3 a (by simpa using ha),and_perm,and_or]
theorem good_oct(a:Nat):goodWord (octL 3 a)=true:=by
 have h1:=xT 3 a
 have h2:(octL 3 a).isEmpty=false:=by cases e:octL 3 a with | nil=>exact absurd e (oct_ne _ _) | cons _ _=>rfl
 have h3:(octL 3 a).all isOct=true:=List.all_eq_true.mpr (yX 3 a)
 unfold goodWord
 rw [h2,h3]
 simp;exact o136 h1
theorem good_kind(m:Nat):goodWord [kindCh m]=true:=by
 have:=(kY m).2.2.1
 unfold goodWord
 simp [this]
theorem gap_mem(x:Nat):gapOf x∈gapTab:=by
 have key:∀i:Fin 4,gapTab.getD (i:Nat) []∈gapTab:=by decide
 exact key ⟨x / 768%4,by exact o137⟩
theorem pi_step{fs:List File}{rp:List Ent}{p x:Nat}{f:File}(hf:f.2∈nameTab)(h:PI (files3 fs) rp p):PI (files3 fs) (step fs rp (x,f)) (p+10):=by
 have hg:=gap_mem x
 have hk:=kY f.1
 unfold step
 dsimp only
 split
 ·refine .cons (ts:=[[kindCh f.1]]) (q:=p) ⟨lt_word (by simp) (fun b hb=>?_) hg,?_⟩ (by simp;exact o138) h
  ·rw [List.mem_singleton.mp hb];exact hk.1
  ·show At _ _ _
   dsimp only
   rw [← holds_kind]
   exact at_word (fun q=>hk.2.2.2.2.1 (List.head_eq_of_cons_eq q)) (fun q=>hk.2.2.2.1 (List.head_eq_of_cons_eq q)) (good_kind _)
 split
 ·have oh:∀c,c∈[33,40]→octL 3 (askedOf x f)≠[c]:=fun c hc q=>by
   have:=yX 3 (askedOf x f) c (by rw [q];exact .head _)
   revert hc this
   have key:∀c∈[33,40],isOct c=true→False:=by decide
   exact fun h1 h2=>key c h1 h2
  refine .cons (ts:=[octL 3 (askedOf x f)]) (q:=p) ⟨lt_word (oct_ne _ _) (fun b hb=>(oct_ok (yX _ _ b hb)).1) hg,?_⟩ (by simp;exact o138) h
  show At _ _ _
  dsimp only
  rw [← holds_oct fs _ (asked_lt x f)]
  exact at_word (oh 33 (by simp)) (oh 40 (by simp)) (good_oct _)
 split
 ·have nk:=names_ok f.2 hf
  refine .cons (ts:=[f.2]) (q:=p) ⟨lt_name hf hg,?_⟩ (by simp;exact o138) h
  show At _ _ _
  dsimp only
  rw [← holds_name fs _ hf]
  exact at_word nk.2.1 nk.2.2.1 nk.2.2.2
 split
 ·cases rp with
  | nil=>exact h
  | cons t rest =>
   obtain ⟨ts,q,e,h1,hr⟩:=h
   refine .cons (ts:=[33]::wtoks t ts 2) ⟨lt_bang hg (e.within_lt 2),at_bang e.within_at⟩ ?_ hr
   have:=jI t ts 2
   simp only [List.length_cons];exact o139 h1 this
 split
 ·cases rp with
  | nil=>exact h
  | cons t rest =>
   obtain ⟨ts,q,e,h1,hr⟩:=h
   refine .cons (ts:=[40]::(ts++[[41]])) ⟨lt_par hg e.lt,at_par e.lv.zero⟩ ?_ hr
   simp only [List.length_cons,List.length_append,List.length_nil];exact o140 h1
 ·cases rp with
  | nil=>exact h
  | cons t rest =>
   obtain ⟨ts,q,e,h1,hr⟩:=h
   cases rest with
   | nil=>exact .cons e (by exact o141 h1) hr
   | cons l rest=>exact (pi_join (by exact o142) hg (.cons e h1 hr)).mono (by exact o143)
theorem pi_fold{fs:List File}(l:List (Nat×File)):∀(rp:List Ent) (p:Nat),(∀q∈l,q.2.2∈nameTab)→PI (files3 fs) rp p→PI (files3 fs) (l.foldl (step fs) rp) (p+10*l.length):=by
 induction l with
 | nil=>exact fun rp p Z h=>h
 | cons a l ih=>exact fun rp p hn h=>(ih _ _ (fun q hq=>hn q (.tail _ hq)) (pi_step (x:=a.1) (f:=a.2) (hn a (.head _)) h)).mono o144
theorem inv_fold{fs:List File}:∀(l:List (Nat×File)) (rp:List Ent),Inv fs l rp→(rp≠[]∨l≠[])→l.foldl (step fs) rp≠[]∧Inv fs [] (l.foldl (step fs) rp):=by
 intro zz
 induction zz with
 | nil =>
  intro rp h h0
  exact ⟨h0.elim id fun q=>absurd rfl q,h⟩
 | cons p l ih =>
  intro rp h Z
  obtain ⟨h1,h2⟩:=inv_step h
  exact ih _ h1 (.inl h2)
theorem lens_le{fs:List File}{e:Ent}{rest:List Ent}(h:WInv fs (e::rest)):e.text.length≤4000:=o145 (b:=lens rest) (c:=rest.length+1) h.len
theorem collapse_len{fs:List File}(n:Nat):∀{rp:List Ent},WInv fs rp→(collapse n rp).text.length≤4000∧(rp≠[]→(collapse n rp).holds.length=fs.length):=by
 induction n with
 | zero =>
  intro rp h
  cases rp with
  | nil=>exact ⟨Nat.zero_le _,fun z=>absurd rfl z⟩
  | cons e rest =>
   cases rest with
   | nil=>exact ⟨lens_le h,fun Z=>h.hol e (.head _)⟩
   | cons l rest=>exact ⟨lens_le h,fun Z=>h.hol e (.head _)⟩
 | succ n ih =>
  intro rp h
  cases rp with
  | nil=>exact ⟨Nat.zero_le _,fun z=>absurd rfl z⟩
  | cons e rest =>
   cases rest with
   | nil=>exact ⟨lens_le h,fun Z=>h.hol e (.head _)⟩
   | cons l rest =>
    have:=ih (winv_join (k:=(rest.length+2)%2) h)
    exact ⟨this.1,fun Z=>this.2 fun q=>nomatch q⟩
theorem plain_read{ns:List Nat}{fs:List File}(hI:Inv fs (ns.zip fs) [])(hz:ns.zip fs≠[])(hl:(ns.zip fs).length≤10):
  (drawn ns fs).text.length≤4000∧(drawn ns fs).holds.length=fs.length∧∃ts n,lexAll n .sp (drawn ns fs).text=some ts∧ts.length≤95∧rd (files3 fs) (3*ts.length+3) 0 ts=some ((drawn ns fs).holds,[]):=by
 obtain ⟨hne,hI2⟩:=inv_fold (ns.zip fs) [] hI (.inr hz)
 have hw:WInv fs (pileOf ns fs):=⟨by have a:=hI2.len;have b:=hI2.cnt;simp only [List.length_nil] at a b;unfold pileOf;exact o146 a b,by have b:=hI2.cnt;simp only [List.length_nil] at b;unfold pileOf;exact o147 b,hI2.hol⟩
 have h1:=collapse_len (pileOf ns fs).length hw
 obtain ⟨ts,ep,hts⟩:=pi_collapse (pileOf ns fs).length (pi_fold (ns.zip fs) [] 0 hI.nm trivial) hne
 obtain ⟨n,hn⟩:=lt_lex ep.lt
 refine ⟨h1.1,h1.2 hne,ts,n,hn,by exact o148 hl hts,?_⟩
 obtain ⟨N,e⟩:=ep.lv.zero.fst [] _ [] (fun Z=>by simp) (Lp.stop (by simp))
 rw [List.append_nil] at e
 exact (zO _ N).1 _ _ _ _ e _ (by exact o149) (by exact o116)
end
end
section
section
theorem zN{x z:Str}{cp:Nat}(h:cp∉x.cps.toList):Txt.replace x ⟨#[cp]⟩ z=x:=by
 unfold Txt.replace
 cases ho:Builtin.Str.occurrences x ⟨#[cp]⟩ 0 x.length (x.length+1) with
 | nil=>rfl
 | cons i r =>
  exfalso
  obtain ⟨f,hh⟩:=StrLaws.occ_chain x ⟨#[cp]⟩ (x.length+1)
  rw [ho] at hh
  exact h (List.mem_of_getElem? ((StrLaws.subAt_one x cp i).mp hh.2.1))
theorem kE{l:List Nat}(h:∀ch∈l,unsafeC ch=false):quoteL l=l:=by
 unfold quoteL quoteS
 rw [if_neg]
 intro hb
 obtain ⟨ch,h1,h2⟩:=List.any_eq_true.mp hb
 rw [h ch (by simpa using h1)] at h2;cases h2
theorem tri_mem(m p:Nat)(hp:p≤3):∀ch∈tri m p,ch∈[45,114,119,120,83,115,84,116]:=by
 intro ch h
 simp only [tri,List.mem_cons,List.not_mem_nil,or_false] at h
 rcases h with h | h | h
 ·have key:∀i:Fin 2,[45,114].getD (i:Nat) 0∈[45,114,119,120,83,115,84,116]:=by decide
  rw [h];exact key ⟨m / 8 ^ (2 - p)%8 / 4,by exact o150⟩
 ·have key:∀i:Fin 2,[45,119].getD (i:Nat) 0∈[45,114,119,120,83,115,84,116]:=by decide
  rw [h];exact key ⟨m / 8 ^ (2 - p)%8 / 2%2,by exact o151⟩
 ·have key:∀i:Fin 8,[45,120,83,115,45,120,84,116].getD (i:Nat) 0∈[45,114,119,120,83,115,84,116]:=by decide
  rw [h];exact key ⟨p / 2*4+m / 2 ^ (11 - p)%2*2+m / 8 ^ (2 - p)%8%2,by exact o152 hp⟩
theorem gB(m p:Nat)(hp:p≤3):∀ch∈tri m p,unsafeC ch=false∧ch≠39:=by
 have key:∀ch∈[45,114,119,120,83,115,84,116],unsafeC ch=false∧ch≠39:=by decide +kernel
 exact fun ch h=>key ch (tri_mem m p hp ch h)
theorem gN(m:Nat):∃r,signsL m=kindCh m::r∧∀ch∈r,unsafeC ch=false∧ch≠39:=by
 refine ⟨tri m 0++tri m 1++tri m 2,by simp [signsL],fun ch h=>?_⟩
 rcases List.mem_append.mp h with h | h
 ·rcases List.mem_append.mp h with h | h
  ·exact gB m 0 (by exact o153) ch h
  ·exact gB m 1 (by exact o154) ch h
 ·exact gB m 2 (by exact o155) ch h
theorem kind39(m:Nat):kindCh m≠39:=by
 have key:∀i:Fin 16,[63,112,99,63,100,63,98,63,45,63,108,63,115,63,63,63].getD (i:Nat) 63≠39:=by decide
 exact key ⟨m / 4096%16,by exact o128⟩
theorem signs_39(m:Nat):39∉signsL m:=by
 obtain ⟨r,e,h⟩:=gN m
 rw [e]
 intro q
 rcases List.mem_cons.mp q with q | q
 ·exact kind39 m q.symm
 ·exact (h 39 q).2 rfl
theorem yO(m:Nat):quoteL (signsL m)=markL m++signsL m++markL m:=by
 obtain ⟨r,e,h⟩:=gN m
 have hk:=(kY m).2.2.2.2.2
 unfold markL
 split
 ·rename_i h63
  unfold quoteL quoteS
  rw [if_pos]
  ·rw [ofS39,show (S [39]:Str)=⟨#[39]⟩ from rfl,zN (by simpa using signs_39 m)]
   show (S [39]++S (signsL m)++S [39]).cps.toList=_
   rw [yH,yH]
  ·refine List.any_eq_true.mpr ⟨kindCh m,?_,?_⟩
   ·rw [e];simp
   ·rw [hk,h63];rfl
 ·rename_i h63
  rw [kE]
  ·simp
  ·rw [e]
   intro ch hc
   rcases List.mem_cons.mp hc with q | q
   ·rw [q,hk];simpa using h63
   ·exact (h ch q).1
theorem jN(a:Nat):quoteL (octL 3 a)=octL 3 a:=kE fun ch h=>(oct_ok (yX _ _ ch h)).2.2
theorem gR:∀n∈nameTab,quoteL n=writtenL n:=by decide +kernel
noncomputable def wordsL(fs:List File):List (List Nat):=fs.flatMap fun f=>[signsL f.1,octL 3 (f.1%4096),f.2]
theorem wS(sep x y:List Nat)(r:List (List Nat)):joinL sep (x::y::r)=x++sep++joinL sep (y::r):=by
 have key:∀(r:List (List Nat)) (a b:List Nat),r.foldl (fun acc p=>acc++sep++p) (a++b)=a++r.foldl (fun acc p=>acc++sep++p) b:=by
  intro r
  induction r with
  | nil=>intro a b;rfl
  | cons c r ih=>intro a b;rw [List.foldl_cons,List.foldl_cons,List.append_assoc,List.append_assoc,ih,List.append_assoc]
 show (y::r).foldl _ x=x++sep++r.foldl _ y
 rw [List.foldl_cons,key]
theorem listing_eq(fs:List File)(h:∀f∈fs,f.2∈nameTab):joinL [32] ((wordsL fs).map quoteL)=joinL [32] (fs.map fun f=>shownL f.1 f.2):=by
 induction fs with
 | nil=>rfl
 | cons f fs ih =>
  cases fs with
  | nil =>
   show joinL [32] [quoteL (signsL f.1),quoteL (octL 3 (f.1%4096)),quoteL f.2]=shownL f.1 f.2
   rw [yO,jN,gR _ (h f (.head _)),wS,wS]
   simp [joinL,shownL]
  | cons g fs =>
   have ih:=ih (fun q hq=>h q (.tail _ hq))
   show joinL [32] (quoteL (signsL f.1)::quoteL (octL 3 (f.1%4096))::quoteL f.2::(wordsL (g::fs)).map quoteL)=joinL [32] (shownL f.1 f.2::shownL g.1 g.2::fs.map fun f=>shownL f.1 f.2)
   have e:∃w ws,(wordsL (g::fs)).map quoteL=w::ws:=⟨_,_,rfl⟩
   obtain ⟨w,ws,e⟩:=e
   rw [e] at ih ⊢
   rw [yO,jN,gR _ (h f (.head _)),wS,wS,wS,wS,ih]
   simp [shownL]
theorem words_ok {fs:List File} (h:∀f∈fs,f.2∈nameTab):∀l∈wordsL fs,0 < (S l).length∧(S l).length≤1000∧(Txt.replace (S l) (Str.ofString "'") (Str.ofString "'\"'\"'")).length≤10000∧(quoteL l).length≤20:=by
 intro l hl
 obtain ⟨f,hf,hm⟩:=List.mem_flatMap.mp hl
 have rep:∀l:List Nat,39∉l→Txt.replace (S l) (Str.ofString "'") (Str.ofString "'\"'\"'")=S l:=fun l h39=>by
  rw [ofS39,show (S [39]:Str)=⟨#[39]⟩ from rfl]
  exact zN (by simpa using h39)
 simp only [List.mem_cons,List.not_mem_nil,or_false] at hm
 rcases hm with q | q | q
 ·subst q
  have hl:=xW f.1
  rw [rep _ (signs_39 _),yO,vV]
  have:(markL f.1).length≤1:=by unfold markL;split <;> simp
  simp only [List.length_append]
  exact o156 hl this
 ·subst q
  have hl:=xT 3 (f.1%4096)
  have hne:0 < (octL 3 (f.1%4096)).length:=List.length_pos_iff.mpr (oct_ne _ _)
  rw [rep _ (fun q=>by have:=yX _ _ 39 q;revert this;decide),jN,vV]
  exact o157 hl hne
 ·subst q
  have:=gQ f.2 (h f hf)
  exact ⟨this.1,this.2.1,this.2.2.1,by exact o158 this⟩
theorem words_len(fs:List File):(wordsL fs).length=3*fs.length:=by
 induction fs with
 | nil=>rfl
 | cons f fs ih =>
  show ([signsL f.1,octL 3 (f.1%4096),f.2]++wordsL fs).length=_
  rw [List.length_append,ih];simp;exact o159
theorem sum_le(l:List (List Nat))(k:Nat)(h:∀x∈l,x.length≤k):(l.map List.length).sum≤k*l.length:=by
 induction l with
 | nil=>simp
 | cons a l ih =>
  rw [List.map_cons,List.sum_cons,List.length_cons]
  have h1:=h a (.head _)
  have h2:=ih fun x hx=>h x (.tail _ hx)
  have:k*(l.length+1)=k*l.length+k:=Nat.mul_succ _ _
  exact o160 h1 h2 this
theorem shown_len(f:File)(h:f.2∈nameTab):(shownL f.1 f.2).length≤50:=by
 have h1:=xW f.1
 have h2:=xT 3 (f.1%4096)
 have h3:=(hZ f.2 h).2
 have:(markL f.1).length≤1:=by unfold markL;split <;> simp
 unfold shownL
 simp only [List.length_append,List.length_cons,List.length_nil]
 exact o161 h1 h2 h3 this
end
end
section
section
variable {c:Cx}{d u:Nat}{env:Env}{σ:St}{mu:List AO}{K:AV→List AO→Prop}
noncomputable def numsOf(ns:List Int):List Nat:=[6495648322,174180,7696363,4660640]++(ns.take 6).map fun x=>(x%1000000000000).toNat
theorem nums_av(ns:List Int):[AV.int 6495648322,.int 174180,.int 7696363,.int 4660640]++((ns.take 6).map fun x=>AV.int (x%1000000000000))=(numsOf ns).map numAV:=by
 unfold numsOf
 rw [List.map_append,List.map_map]
 congr 1
 apply List.map_congr_left
 intro x _
 show AV.int _=AV.int _
 congr 1
 exact (Int.toNat_of_nonneg (Int.emod_nonneg _ (by decide))).symm
theorem name_mem(x:Nat):nameOf x∈nameTab:=by
 have key:∀i:Fin 6,nameTab.getD (i:Nat) []∈nameTab:=by decide
 exact key ⟨x / 128%6,by exact o287⟩
theorem nums_len(ns:List Int):4≤(numsOf ns).length∧(numsOf ns).length≤10:=by
 unfold numsOf
 rw [List.length_append,List.length_map,List.length_take]
 simp;exact o288
noncomputable abbrev lawFs(ns:List Int):List File:=(numsOf ns).map fileOf
theorem zip_self:∀(l:List Nat),l.zip (l.map fileOf)=l.map fun x=>(x,fileOf x):=by
 intro zz
 induction zz with
 | nil =>
  exact rfl
 | cons a l ih =>
  rw [List.map_cons,List.zip_cons_cons,ih];rfl
theorem law_inv(ns:List Int):Inv (lawFs ns) ((numsOf ns).zip (lawFs ns)) []∧(numsOf ns).zip (lawFs ns)≠[]∧((numsOf ns).zip (lawFs ns)).length≤10:=by
 have hn:=nums_len ns
 rw [zip_self]
 refine ⟨⟨?_,?_,fun e he=>(nomatch he),fun Z p q e=>?_,fun p hp=>?_,fun e he=>(nomatch he)⟩,?_,?_⟩
 ·show lens []+40*_≤_
  rw [List.length_map]
  show 0+_≤_
  exact o289 hn
 ·rw [List.length_map];show 0+_≤_;exact o290 hn
 ·unfold numsOf at e
  simp only [List.cons_append,List.map_cons,List.cons.injEq] at e
  rw [← e.1]
  show 6495648322%8 < 4
  decide
 ·obtain ⟨x,_,rfl⟩:=List.mem_map.mp hp
  exact name_mem x
 ·intro q
  have:=congrArg List.length q
  rw [List.length_map] at this
  simp at this
  rw [this] at hn
  simp at hn
 ·rw [List.length_map];exact hn.2
theorem lawFs_names(ns:List Int):∀f∈lawFs ns,f.2∈nameTab:=fun f hf=>by
 obtain ⟨x,_,rfl⟩:=List.mem_map.mp hf
 exact name_mem x
theorem files3_av(fs:List File):fs.map (fun f=>file3AV (f.1,f.2,[kindCh f.1]))=(files3 fs).map file3AV:=by unfold files3;rw [List.map_map];rfl
noncomputable def wordsAV(f:File):List AV:=[.str (S (signsL f.1)),.str (S (octL 3 (f.1%4096))),.str (S f.2)]
theorem words_av:∀fs:List File,fs.flatMap wordsAV=((wordsL fs).map S).map AV.str
 | []=>rfl
 | f::fs=>by
  rw [List.flatMap_cons,words_av fs]
  show _=((([signsL f.1,octL 3 (f.1%4096),f.2]++wordsL fs)).map S).map AV.str
  rw [List.map_append,List.map_append];rfl
theorem words_q(fs:List File):((wordsL fs).map S).map quoteS=((wordsL fs).map quoteL).map S:=by
 rw [List.map_map,List.map_map]
 exact List.map_congr_left fun l Z=>quoteL_S l
noncomputable def hitsL(fs:List File)(hs:List Bool):List File:=((fs.zip hs).filter (·.2)).map (·.1)
theorem hits_av(fs:List File)(hs:List Bool):([]:List AV)++((fs.zip hs).filter fun a=>a.2).map (fun a=>fileAV a.1)=(hitsL fs hs).map fileAV:=by
 unfold hitsL;rw [List.nil_append,List.map_map];rfl
theorem hits_mem{fs:List File}{hs:List Bool}{f:File}(h:f∈hitsL fs hs):f∈fs:=by
 obtain ⟨p,hp,rfl⟩:=List.mem_map.mp h
 exact (List.of_mem_zip (List.mem_filter.mp hp).1).1
theorem hits_len(fs:List File)(hs:List Bool):(hitsL fs hs).length≤fs.length:=by
 unfold hitsL
 rw [List.length_map]
 exact Nat.le_trans (List.length_filter_le _ _) (by rw [List.length_zip];exact o291)
noncomputable abbrev holdAV(p:File×Bool):AV:=.tup [fileAV p.1,.bool p.2]
theorem kA:∀(l:List File) (r:List Bool),zipItems (l.map fileAV) (r.map .bool)=(l.zip r).map holdAV
 | [],_=>by simp [zipItems]
 | _::_,[]=>by simp [zipItems]
 | a::l,b::r=>by simp [zipItems,kA l r]
theorem wQ{P0:Addr}{t:Sem Flow}{K:Fl→St→Prop}(σ':St)(e:σ=σ')(h:SsG c P0 d u env t σ' K):SsG c P0 d u env t σ K:=e▸h
end
namespace c_law
noncomputable def Cq(c:Cx)(d u:Nat)(K:AV→List AO→Prop)(ns:List Int):Prop:=∀(hK:Keys c.K) (hl:ns.length≤63) (hdp:d+310 < recursionLimit) (hu:u≤8000) (h:∀ps M,K (.bool true) (.raw (tabObj ps)::M)),CallG c 862 d u (.ref 945) [.lst (ns.map .int)] [.raw (tabObj #[])] K
noncomputable def Dq(p:Cx×Nat×Nat×(AV→List AO→Prop)×(List Int)):Prop:=Cq p.1 p.2.1 p.2.2.1 p.2.2.2.1 p.2.2.2.2
def tq:=@ep _ (by have:=neCx;infer_instance) Dq
def c:=tq.1
def d:=tq.2.1
def u:=tq.2.2.1
def K:=tq.2.2.2.1
def ns:=tq.2.2.2.2
theorem T0:Cq c d u K ns:=by
 intro hK hl hdp hu h
 obtain ⟨oc,od,osl,doc,pm,an,cdv,ct,ho,hcd⟩:=hK.k_law
 refine' callG_fn ho hcd (by exact o292 hdp) (jF (names:=["script"]) _ rfl ?hb ?hl ?hn) ?h ?c1 ?c2 ?c3 ?c4
 (case c1=>rfl);(case c2=>rfl);(case c3=>rfl);(case c4=>decide)
 case hb=>intro ws hw;obtain ⟨v,rfl⟩:=len1 hw;rfl
 case hl=>show ∀x∈_,f_law.scope.names.lookup x=_;decide
 case hn=>decide
 case h =>
  intro L
  refine xS ?_
  refine' qR rfl rfl ?_
  refine qK ?_
  refine yB ?_
  refine qC rfl (qH (qC rfl (qH (qC rfl (qH (qC rfl (qH (qE ?_))))))))
  refine ⟨by decide,?_⟩
  refine' wI (fun Z=>rfl) rfl rfl (by decide) (by decide) (fun C=>by first | exact qI rfl rfl | exact ⟨qI rfl rfl,trivial⟩ | exact ⟨qI rfl rfl,qI rfl rfl,trivial⟩ | exact ⟨qI rfl rfl,qI rfl rfl,qI rfl rfl,trivial⟩) (by first | exact (fun x cc h=>h) | exact xO rfl | exact (fun x cc h=>by cases h)) ?_
  refine xD ?_
  refine ev_lst_upto (k:=6) (vs:=ns.map .int) (fun Z Z=>rfl) (fun Z Z=>rfl) (by rw [List.length_map];exact o293 hl) ?_
  refine qB rfl ?_
  refine ⟨rfl,?_⟩
  refine qH ?_
  refine ⟨rfl,?_⟩
  refine ⟨_,rfl,by simp;exact o294,[],(fun p hp=>nomatch hp),fun C=>?_⟩
  rw [← List.map_take]
  refine vJ AV.int (fun x=>.int (x%1000000000000)) (fun x=>[("x",.int x)]) (ns.take 6) _ (fun Z Z=>rfl) (fun Z Z=>rfl) (fun Z Z=>rfl) (fun x hx raws=>?_) ?_
  ·refine qK ?_
   refine qB rfl (qK (qH (qH ?_)))
   refine pow_ii (by decide) (by decide) (by decide) (pu ?_)
   rw [show (10:Int) ^ (12:Int).toNat=1000000000000 by decide +kernel]
   refine vW (by decide) (pu ?_)
   exact ⟨rfl,rfl⟩
  refine add_ll (by simp;exact o295) (pu ?_)
  rw [nums_av]
  refine wQ ⟨[("script",.lst (ns.map .int)),("numbers",nsAV (numsOf ns))],[.raw (tabObj #[])]⟩ rfl ?_
  have hn:=nums_len ns
  obtain ⟨hI,hz,hz10⟩:=law_inv ns
  refine xS ?_
  refine' qR rfl rfl ?_
  refine qW rfl hK.g_law_files hK.p_law_files ?_
  refine qC rfl (qB rfl (qE ?_))
  refine qG (c_files hK _ (by exact o296 hn) (by exact o297 hdp) (pu ?_))
  refine wQ ⟨[("script",.lst (ns.map .int)),("numbers",nsAV (numsOf ns)),("files",flAV (lawFs ns))],[.raw (tabObj #[])]⟩ rfl ?_
  refine xS ?_
  refine ss_assignT ⟨qI rfl rfl,qI rfl rfl,qI rfl rfl,trivial⟩ rfl rfl rfl ?_
  refine qW rfl hK.g_law_drawn hK.p_law_drawn ?_
  refine qC rfl (qB rfl (qC rfl (qB rfl (qE ?_))))
  refine qG (c_drawn hK (numsOf ns) (lawFs ns) (by rw [List.length_map];exact o296 hn) hI hz (by exact o298 hdp) (pu ?_))
  obtain ⟨ht4,hhl,ts,n,hlex,hts,hrd⟩:=plain_read hI hz hz10
  generalize hdr:drawn (numsOf ns) (lawFs ns)=D at *
  refine ⟨_,rfl,?_⟩
  refine wQ ⟨[("script",.lst (ns.map .int)),("numbers",nsAV (numsOf ns)),("files",flAV (lawFs ns)),("text",.str (S D.text)),("rank",.int (D.rank:Int)),("holds",boolsAV D.holds)],[.raw (tabObj #[])]⟩ rfl ?_
  refine xS ?_
  refine' qR rfl rfl ?_
  refine qW rfl hK.g_law_tokens hK.p_law_tokens ?_
  refine qC rfl (qB rfl (qE ?_))
  refine qP (c_tokens hK D.text n ts hlex (by exact o299 ht4) (by exact o300 hts) (by exact o298 hdp) fun G=>?_)
  refine wQ ⟨[("script",.lst (ns.map .int)),("numbers",nsAV (numsOf ns)),("files",flAV (lawFs ns)),("text",.str (S D.text)),("rank",.int (D.rank:Int)),("holds",boolsAV D.holds),("signs",.mut (1+G.length))],[.raw (tabObj #[])]++G++[toksAO ts]⟩ rfl ?_
  refine xS ?_
  refine' qR rfl rfl ?_
  refine qW rfl hK.g_law_read hK.p_law_read ?_
  refine qC rfl (qB rfl (qC rfl ?_))
  refine' wI (fun Z=>rfl) rfl rfl (by decide) (by decide) (fun C=>by first | exact qI rfl rfl | exact ⟨qI rfl rfl,trivial⟩ | exact ⟨qI rfl rfl,qI rfl rfl,trivial⟩ | exact ⟨qI rfl rfl,qI rfl rfl,qI rfl rfl,trivial⟩) (by first | exact (fun x cc h=>h) | exact xO rfl | exact (fun x cc h=>by cases h)) ?_
  refine xD ?_
  refine qB rfl ?_
  have hfl:(lawFs ns).length≤10:=by rw [List.length_map];exact o301 hn
  refine ⟨_,rfl,by rw [List.length_map];exact o302 hfl,[],(fun p hp=>nomatch hp),fun C=>?_⟩
  refine vJ fileAV (fun f=>file3AV (f.1,f.2,[kindCh f.1])) (fun f=>[("mode",.int (f.1:Int)),("name",.str (S f.2))]) (lawFs ns) _ (fun Z Z=>rfl) (fun Z Z=>rfl) (fun Z Z=>rfl) (fun f hf raws=>?_) ?_
  ·refine vR (qC rfl (qB rfl (qC rfl (qB rfl (qC rfl ?_)))))
   refine qW rfl hK.g_law_kind hK.p_law_kind ?_
   refine qC rfl (qB rfl (qE ?_))
   refine qG (c_kind hK f.1 (by exact o303 hdp) (pu ?_))
   refine qE ?_
   exact ⟨by show 3≤1000;decide,rfl,rfl⟩
  have e3:(lawFs ns).map (fun f=>file3AV (f.1,f.2,[kindCh f.1]))=(files3 (lawFs ns)).map file3AV:=files3_av _
  rw [e3]
  refine qC rfl (qH (qE ?_))
  have gk:([AO.raw (tabObj #[])]++G++[toksAO ts])[1+G.length]?=some (toksAO ts):=by
   rw [List.getElem?_append_right (by simp;exact o304)];simp [Nat.add_comm]
  have sk:([AO.raw (tabObj #[])]++G++[toksAO ts]).set (1+G.length) (toksAO [])=[AO.raw (tabObj #[])]++G++[toksAO []]:=by
   rw [List.set_append_right _ _ (by simp;exact o304)];simp [Nat.add_comm]
  refine qP (c_read hK (files3 (lawFs ns)) (by unfold files3;rw [List.length_map];exact o305 hfl) _ (3*ts.length+3) (Nat.le_refl _) 0 ts D.holds [] (1+G.length) hrd (by exact o116) (by exact o306 hdp hts) (by exact o307 hu hts) (by exact o308 hts) gk ?_)
  rw [sk]
  generalize hM:G++[toksAO []]=M
  have gM:(AO.raw (tabObj #[])::M)[1+G.length]?=some (.list []):=by
   rw [← hM,Nat.add_comm,List.getElem?_cons_succ,List.getElem?_append_right (Nat.le_refl _)];simp
  refine wQ ⟨[("script",.lst (ns.map .int)),("numbers",nsAV (numsOf ns)),("files",flAV (lawFs ns)),("text",.str (S D.text)),("rank",.int (D.rank:Int)),("holds",boolsAV D.holds),("signs",.mut (1+G.length)),("found",boolsAV D.holds)],.raw (tabObj #[])::M⟩ (by rw [← hM];rfl) ?_
  refine xS ?_
  refine' gI rfl rfl rfl (fun Z=>rfl) rfl rfl (by decide) (by decide) (fun C=>by first | exact qI rfl rfl | exact ⟨qI rfl rfl,trivial⟩ | exact ⟨qI rfl rfl,qI rfl rfl,trivial⟩ | exact ⟨qI rfl rfl,qI rfl rfl,qI rfl rfl,trivial⟩) (by first | exact (fun x cc h=>h) | exact xO rfl | exact (fun x cc h=>by cases h)) ?_
  refine' xE rfl rfl rfl rfl rfl (qS rfl) ?k7 rfl (by decide) (fun a z=>nomatch z) ?_
  case k7=>exact hK.b_zip
  refine qC rfl (qB rfl (qC rfl (qB rfl (qE ?_))))
  refine ic_zip ?_
  rw [kA]
  refine ⟨by rw [List.length_map,List.length_zip];exact o309 hfl,[],(fun p hp=>nomatch hp),fun C=>?_⟩
  refine comp_map holdAV (fun a=>fileAV a.1) (fun a=>a.2) (fun a=>[("one",fileAV a.1),("hold",.bool a.2)]) ((lawFs ns).zip D.holds) _ [] (fun Z Z=>rfl) (fun Z Z=>rfl) (fun a ha raws=>?_) (fun a Z Z=>file_flat a.1) (fun a ha Z raws=>?_) ?_
  ·refine vL ?_
   refine qB rfl (qT ?_)
   exact ⟨rfl,rfl⟩
  ·refine qB rfl ?_
   exact ⟨rfl,rfl⟩
  rw [hits_av]
  have hH:∀f∈hitsL (lawFs ns) D.holds,f.2∈nameTab:=fun f hf=>lawFs_names ns f (hits_mem hf)
  have hHl:=hits_len (lawFs ns) D.holds
  generalize hitsL (lawFs ns) D.holds=H at hH hHl
  refine wQ ⟨[("script",.lst (ns.map .int)),("numbers",nsAV (numsOf ns)),("files",flAV (lawFs ns)),("text",.str (S D.text)),("rank",.int (D.rank:Int)),("holds",boolsAV D.holds),("signs",.mut (1+G.length)),("found",boolsAV D.holds),("hits",flAV H)],.raw (tabObj #[])::M⟩ rfl ?_
  refine zM (ssG_assign (qI rfl rfl) rfl ?_)
  refine evG_call rfl rfl rfl rfl (by exact qS rfl) hK.g_join_shlex hK.p_join_shlex ?_
  refine qC rfl ?_
  refine ev_comp22 fileAV wordsAV (fun f=>[("mode",.int (f.1:Int)),("name",.str (S f.2))]) (fun Z=>rfl) (fun Z Z=>rfl) rfl rfl (by decide) (by decide) (fun C=>⟨qI rfl rfl,qI rfl rfl,trivial⟩) (fun Z=>rfl) (fun Z=>rfl) (by decide) ?_
  refine xD ?_
  refine qB rfl ?_
  refine ⟨_,rfl,H,rfl,fun a ha=>rfl,fun a ha=>⟨rfl,rfl,by show 3≤100;decide⟩,by exact o310 hfl hHl,fun C f hf mu'=>?_,?_⟩
  ·refine vR (qC rfl ?_)
   refine qW rfl hK.g_filemode hK.p_filemode ?_
   refine qC rfl (qB rfl (qE ?_))
   refine qG (c_filemode hK f.1 (by exact o311 hdp) (pu ?_))
   refine qC rfl ?_
   refine qW rfl hK.g_law_figures hK.p_law_figures ?_
   refine qC rfl ?_
   refine qW rfl hK.g_S_IMODE hK.p_S_IMODE ?_
   refine qC rfl (qB rfl (qE ?_))
   refine qG (c_imode hK (by exact o297 hdp) (pu ?_))
   rw [show Builtin.bitAnd ((f.1:Nat):Int) 4095=((f.1%4096:Nat):Int) from by rw [show (4095:Int)=((4095:Nat):Int) from rfl,wE,and_perm]]
   refine qE ?_
   refine qG (jX hK 3 (f.1%4096) (Nat.mod_lt _ (by decide)) (by exact o217) (by exact o312 hdp) (pu ?_))
   refine qC rfl (qB rfl (qE ?_))
   exact ⟨by show 3≤1000;decide,rfl,rfl⟩
  rw [words_av]
  refine qE ?_
  have wl:=words_len H
  refine c_join hK ((wordsL H).map S) rfl (fun x hx=>?_) ?_ (by rw [List.length_map];exact o313 hfl hHl wl) (by exact o314 hdp) (fun o'=>?_)
  ·obtain ⟨l,hl',rfl⟩:=List.mem_map.mp hx
   obtain ⟨w1,w2,w3,_⟩:=words_ok hH l hl'
   exact ⟨w1,w2,w3⟩
  ·rw [words_q,ofS32]
   refine gZ [32] _ ?_
   have:=sum_le ((wordsL H).map quoteL) 20 (fun x hx=>by obtain ⟨l,hl',rfl⟩:=List.mem_map.mp hx;exact (words_ok hH l hl').2.2.2)
   rw [List.length_map] at this ⊢
   simp only [List.length_cons,List.length_nil]
   exact o315 hfl hHl wl this
  have eJ:Txt.join (Str.ofString " ") (((wordsL H).map S).map quoteS)=S (joinL [32] (H.map fun f=>shownL f.1 f.2)):=by rw [words_q,ofS32,join_S,listing_eq H hH]
  rw [eJ]
  generalize hJ:joinL [32] (H.map fun f=>shownL f.1 f.2)=J at eJ ⊢
  with_reducible refine' wQ ⟨[("script",.lst (ns.map .int)),("numbers",nsAV (numsOf ns)),("files",flAV (lawFs ns)),("text",.str (S D.text)),("rank",.int (D.rank:Int)),("holds",boolsAV D.holds),("signs",.mut (1+G.length)),("found",boolsAV D.holds),("hits",flAV H),("listing",.str (S J))],.raw (tabObj o')::M⟩ ?e ?_
  case e=>rfl
  have gM':(AO.raw (tabObj o')::M)[1+G.length]?=some (.list []):=by
   rw [Nat.add_comm,List.getElem?_cons_succ] at gM ⊢;exact gM
  refine zM (gJ (evG_of ?_))
  refine ev_and ?_
  refine vM rfl (qB rfl ?_)
  refine yB ?_
  refine qE ?_
  refine ⟨by decide,?_⟩
  refine eq_mut_nil (by exact o316 hu) gM' (pu ?_)
  refine qT ?_
  refine ⟨fun Z=>?_,fun hb=>(nomatch hb)⟩
  refine ev_and ?_
  refine vM rfl (qB rfl (qB rfl ?_))
  refine eq_bools (by exact o316 hu) (pu ?_)
  refine qT ?_
  refine ⟨fun Z=>?_,fun hb=>absurd hb (by simp)⟩
  refine yQ ?_
  refine vM rfl (qB rfl ?_)
  refine' qQ ?y19z0 ?y19z1 ?_
  case y19z0=>exact qS (by rfl)
  case y19z1=>rfl
  refine qM ?_
  refine yZ ⟨.inr (fun a z=>nomatch z),?_⟩
  refine qC rfl ?_
  refine' wI (fun Z=>rfl) rfl rfl (by decide) (by decide) (fun C=>by first | exact qI rfl rfl | exact ⟨qI rfl rfl,trivial⟩ | exact ⟨qI rfl rfl,qI rfl rfl,trivial⟩ | exact ⟨qI rfl rfl,qI rfl rfl,qI rfl rfl,trivial⟩) (by first | exact (fun x cc h=>h) | exact xO rfl | exact (fun x cc h=>by cases h)) ?_
  refine xD ?_
  refine qB rfl ?_
  refine ⟨_,rfl,by rw [List.length_map];exact o317 hfl hHl,[],(fun p hp=>nomatch hp),fun C=>?_⟩
  refine vJ fileAV (fun f=>.str (S (shownL f.1 f.2))) (fun f=>[("mode",.int (f.1:Int)),("name",.str (S f.2))]) H _ (fun Z Z=>rfl) (fun Z Z=>rfl) (fun Z Z=>rfl) (fun f hf raws=>?_) ?_
  ·skip
   refine qW rfl hK.g_law_shown hK.p_law_shown ?_
   refine qC rfl (qB rfl (qC rfl (qB rfl (qE ?_))))
   refine qG (c_shown hK f.1 f.2 (hH f hf) (by exact o311 hdp) (pu ?_))
   exact ⟨rfl,rfl⟩
  have e6:H.map (fun f=>AV.str (S (shownL f.1 f.2)))=((H.map fun f=>shownL f.1 f.2).map S).map AV.str:=by rw [List.map_map,List.map_map];rfl
  rw [e6]
  refine qE ?_
  have okS:JoinOk (Str.ofString " ") ((H.map fun f=>shownL f.1 f.2).map S)=true:=by
   rw [ofS32]
   refine gZ [32] _ ?_
   have:=sum_le (H.map fun f=>shownL f.1 f.2) 50 (fun x hx=>by obtain ⟨f,hf',rfl⟩:=List.mem_map.mp hx;exact shown_len f (hH f hf'))
   rw [List.length_map] at this ⊢
   simp only [List.length_cons,List.length_nil]
   exact o318 hfl hHl this
  refine qG (call_join okS (pu ?_))
  have eJ2:Txt.join (Str.ofString " ") ((H.map fun f=>shownL f.1 f.2).map S)=S J:=by rw [ofS32,join_S,hJ]
  rw [eJ2]
  refine vU (pu ?_)
  rw [beq_self_eq_true]
  exact h _ _
end c_law
section
variable {c:Cx}{d u:Nat}{env:Env}{σ:St}{mu:List AO}{K:AV→List AO→Prop}
theorem c_law(hK:Keys c.K)(ns:List Int)(hl:ns.length≤63)(hdp:d+310 < recursionLimit)(hu:u≤8000)(h:∀ps M,K (.bool true) (.raw (tabObj ps)::M)):CallG c 862 d u (.ref 945) [.lst (ns.map .int)] [.raw (tabObj #[])] K:=(@eps _ _ c_law.Dq c_law.tq rfl @c_law.T0 (c,d,u,K,ns)) hK hl hdp hu h
end
end
section
section
theorem rels_ints{g:Heap}{as:List Addr}{vs:List Value}{ns:List Int}(h:IntsAre vs ns):Rels g as vs (ns.map .int):=by
 induction h with
 | nil=>exact .nil
 | cons n t h ih=>exact .cons (.int n t) ih
theorem law_fin{prog:Program}{w:World}{K:Frag}{mg mb:Str→Option Value}{s:Shared}{ns:List Int}{p:Program}{loose:List Str}{mean:ExcName→Option Value}{dd:Addr}{ws:List Value}{n:Nat}{d0:Option Addr}{sl:Array (Option Value)}{A:Around}{Q E:Value→Shared→Prop}
  (hK:Keys K) (X:K.In s.heap) (tb:s.heap.get? 862=some (tabObj #[])) (T:Top p loose mean mg mb s.heap) (hl:ns.length≤63) (hg:s.gens=#[]) (ro:Room A 600 1000) (hlim:600+310 < recursionLimit)
  (hol:s.heap.get? dd=some ⟨.type "list",d0,.seq ws.toArray n,sl⟩) (hin:∀g,Rels g [862] ws (ns.map .int))
  (q:∀h' tk' gs',OldK s.heap h'→AllBare gs'→Q (.bool true) { s with heap:=h',toks:=tk',gens:=gs' }) :
  wpAny (model prog w) A (call (.ref 945) [.ref dd]) Q E s:=by
 have hT:TabsAt [(866,862)] s.heap:=fun r hr=>by
  rw [List.mem_singleton.mp hr]
  exact ⟨codeHd_of_K X hK.jhd,tb⟩
 have T':=ghost_top hT T
 have sub:(ghostOf s.heap [(866,862)]).StaysIn s.heap:=fun b o e=>of_hideAll _ e
 refine c_law (c:=⟨prog,w,K,mg,mb⟩) (d:=600) (u:=1000) (K:=fun av mu'=>av=.bool true∧∃ps M,mu'=.raw (tabObj ps)::M) hK ns hl hlim (by exact o162) (fun ps M=>⟨rfl,ps,M,rfl⟩) A (ghostOf s.heap [(866,862)]) [862] s Q E _ ro ⟨ghost_K hT X hK.notab,T'.g,T'.b,T'.builtins,T'.nolimit⟩ T'.bmain ⟨sub,rfl,by simp,fun k a ao h1 h2=>?_,fun a ha=>?_⟩ (.cons (.lst (ghost_get hT hol (fun z=>nomatch z)) (hin _)) .nil) rfl (.of_eq hg) fun v g' as' h' tk' gs' av mu' hg' ha gb' m' rv k=>?_
 ·cases k with
  | zero =>
   cases h1;cases h2
   exact ⟨_,tb,.raw⟩
  | succ k=>cases h1
 ·rw [List.mem_singleton.mp ha]
  exact hideAll_none _ (.head _)
 ·obtain ⟨rfl,ps,M,rfl⟩:=k
  cases rv
  obtain ⟨o,e,so⟩:=m'.at' 0 862 _ (pre0 ha rfl) rfl
  cases so
  refine q h' tk' gs' ⟨fun b o e'=>?_,fun b o e'=>?_⟩ gb'
  ·by_cases hb:b=862
   ·subst hb
    rw [tb] at e';cases e'
    exact .inr (.inl ⟨((hT _ (.head _)).1.tab tb).isCodeTable,rfl,#[],ps,rfl,by simpa using e⟩)
   ·exact .inl (m'.keep _ _ (hg' _ _ (ghost_ne e' (by simpa using hb))))
  ·by_cases hb:b=862
   ·subst hb;exact ⟨_,e⟩
   ·exact ⟨o,m'.keep _ _ (hg' _ _ (ghost_ne e' (by simpa using hb)))⟩
end
end
end Mine.Internal
end
end
set_option Elab.async true
set_option maxHeartbeats 0
section
open PySem PySem.Spec PySem.Calls PyProof PyProof.Rows PySem.W PySem.W.X
local macro_rules | `(tactic| o_head ($h $k $a $p))=>`(tactic| o_head (PySem.W.kmHook $k $a $p [862]))
namespace Mine
noncomputable def t:Nat:=Classical.choice ⟨0⟩
end Mine
namespace Mine.top
noncomputable section
def tw16900427199656544559:=t
def tw13305523845174962083:=t
def tw4468942710605802240:=t
def tw18164388396756303480:=t
def tw7079599612431449588:=t
def tw1841203439943692989:=t
def tw1139600151236580504:=t
def tw1107088416671253978:=t
def tw10996937224433265937:=t
def tw11384800866962632227:=t
def tw14512255991650004360:=t
def tw12193372218175167114:=t
def tw8025738503920905074:=t
def tw16104615914030681952:=t
def tw6733462575251390621:=t
def tw5240762971458559404:=t
def tw18186074749648716422:=t
def tw18085771088847121727:=t
def tw5184313038246851650:=t
def tw18338267663776618500:=t
def tw705360758644809490:=t
def tw8107780213005350392:=t
def tw7926136590108786892:=t
def tw17807222030613408314:=t
def tw16602349044953540217:=t
def tw6240723676877644813:=t
def tw9272544492142499777:=t
def tw8693662901424576113:=t
def tw3473093325804163894:=t
def tw2619622883677149074:=t
def tw10079171474624433434:=t
def tw8237333600419904120:=t
def tw4134505453457115739:=t
def tw4773702212245658779:=t
def tw7033079012710635876:=t
def tw5483185372664623402:=t
def tw5405092056839124451:=t
def tw3479634599624807885:=t
def tw1905192083762578055:=t
def tw10936122117785486979:=t
def tw2404127567346610951:=t
def tw1137235612907882162:=t
def tw17810072253543177317:=t
def tw427420600052151026:=t
def tw18392722231026035453:=t
def tw7069076742222632293:=t
def tw10239475785048107997:=t
def tw302023382947574297:=t
def tw4807402645868434406:=t
def tw13177472732611162249:=t
def tw7444641836354208208:=t
def tw6859976401760118174:=t
def tw1312780250039628139:=t
def tw18289109515434150305:=t
def tw14402358008270493973:=t
def tw2104741419117168686:=t
def tw4186445540838780016:=t
def tw2411195145006440666:=t
def tw14371913498598963198:=t
def tw15696354942287192291:=t
def tw14917401599646851644:=t
def tw15286249088069653756:=t
def tw17790942634138044402:=t
def tw10579768621468169598:=t
def tw8292330764949567954:=t
def tw16262243036561855896:=t
def tw5151264090131730833:=t
def tw3331421620988305804:=t
def tw10773188271377071773:=t
def tw3453223234828964814:=t
def tw12415523145999629524:=t
def tw10989070937934888525:=t
def tw7896245365604500681:=t
def tw672699306608606093:=t
def tw15874363893724204672:=t
def tw15177526630643400193:=t
def tw9962302188120564619:=t
def tw5379463472682653830:=t
def tw14823308797102314842:=t
def tw9936536881743500907:=t
def tw17794366733547915435:=t
def tw17050326753033342646:=t
def tw1955288994477890375:=t
def tw16441578918305252802:=t
def tw5341934141677670832:=t
def tw8716659796364181309:=t
def tw15095372191486117680:=t
def tw2822501910515967889:=t
def tw4058662728301269685:=t
def tw10657950659306570408:=t
def tw3061314461118691792:=t
def tw17355269125676882429:=t
def tw2029088862249889922:=t
def tw2220570432770164149:=t
def tw7671549972530922468:=t
def tw15569959144833144457:=t
def tw1792224892710378537:=t
def tw1284575025550258836:=t
def tw8297286125493194097:=t
def tw8968299171318014206:=t
def tw16982378080980825192:=t
def tw5766051744304087583:=t
def tw5184316447030610940:=t
def tw1516213087968936877:=t
def tw8148004212497801138:=t
def tw13369591340354186047:=t
def tw1007256952997204316:=t
def tw6460121766331871944:=t
def tw2564807258711394888:=t
def tw14042817526060737062:=t
def tw2377541652452675900:=t
def tw2965125352208521119:=t
def tw8874702517807110003:=t
def tw8450641986135516787:=t
def tw9590735534726013551:=t
def tw12894197372075662830:=t
def tw14428541309147478210:=t
def tw8892184565913893157:=t
def tw18326957874037197240:=t
def tw987869383939708018:=t
def tw17176029603704830031:=t
def tw2544169868661182894:=t
def tw11779653239440661071:=t
def tw3254097082911018636:=t
def tw9590619109379692515:=t
def tw11917448952958348678:=t
def tw7436774141650363327:=t
def tw6057728870046649322:=t
def tw3302520138088036313:=t
def tw1304757597395314617:=t
def tw7740461459972228597:=t
def tw8640399195822439974:=t
def tw1236304545764765349:=t
def tw5118827330378232414:=t
def tw5969987386201385886:=t
def tw13191473780850816973:=t
def tw6276886402236213621:=t
def tw14020629218432114621:=t
def tw8817415213059835157:=t
def tw12346959872913080547:=t
def tw9682687983338836895:=t
def tw14263998999751124003:=t
def tw8529706226740600733:=t
def tw7990429038631628895:=t
def tw13501252493785611398:=t
def tw6699709698940308603:=t
def tw2047080938173012442:=t
def tw7779204775136789947:=t
def tw339143206060000330:=t
def tw4331257952254489624:=t
def tw13546161746385187788:=t
def tw15383718091736126541:=t
def tw13890846271309207196:=t
def tw6756868429301003459:=t
def tw6662652255960138227:=t
def tw10248073240650190340:=t
def tw1212798325632107971:=t
def tw4856909995586565122:=t
def tw304654302220672320:=t
def tw6880842911478896597:=t
def tw1805163160381243805:=t
def tw5667650583090716360:=t
def tw6623532728838073528:=t
def tw12559286593441436923:=t
def tw8374938949443298174:=t
def tw18200808041648558556:=t
def tw5290597957214086601:=t
def tw2502181453436431679:=t
def tw17470836177267949868:=t
def tw15245507539482535896:=t
def tw8746941081350896204:=t
def tw17301418000779511131:=t
def tw12554540806306477360:=t
def tw6184946753678143221:=t
def tw7908083297732987344:=t
def tw4023782888421380502:=t
def tw17219337458794519322:=t
def tw5176459694589498394:=t
def tw15877122091014420850:=t
def tw9811366534603930577:=t
def tw17788931634197215145:=t
def tw5692499903750754813:=t
def tw12931362102233154023:=t
def tw12080426169559351053:=t
def tw13799840507378627052:=t
def tw17492772389151264855:=t
def tw8155677260382574692:=t
def tw11263669390164206178:=t
def tw3764141193738528704:=t
def tw15277652076535365695:=t
def tw1706793611546318481:=t
def tw2617719716777270872:=t
def tw18236624570336363585:=t
def tw859137505422859605:=t
def tw443688265066261825:=t
def tw83393220934416808:=t
def tw2972514686349903234:=t
def tw10362775142378211054:=t
def tw6756851087969907010:=t
def tw4770301895538212512:=t
def tw7892811243723596987:=t
def tw3002795768020413707:=t
def tw14724332232928298890:=t
def tw5590232498371695878:=t
def tw2670627174450433442:=t
def tw175884070599452937:=t
def tw7657828476027519975:=t
def tw7158002623345892728:=t
def tw13896958669275611876:=t
def tw6883237821956174555:=t
def tw1169771345039838236:=t
def tw55027467381167213:=t
def tw13549259019975226677:=t
def tw7438316178485321408:=t
def tw16541100652227675460:=t
def tw4940147422707163885:=t
def tw13091174067606910046:=t
def tw5251713544086459897:=t
def tw11468358511172941013:=t
def tw3584897518013459382:=t
def tw15008207993883188931:=t
def tw53344730913325255:=t
def tw10797620697341660853:=t
def tw6749217079512962374:=t
def tw8628236747792435071:=t
def tw6572447435987645144:=t
def tw1611750394293783599:=t
def tw2686433634493928565:=t
def tw14399976873020721970:=t
def tw5915399644114372684:=t
def tw4158126171336067921:=t
def tw10768140376307724812:=t
def tw18444284757076569719:=t
def tw3843465024185675410:=t
def tw6933892841690572062:=t
def tw12012865196380796599:=t
def tw1584292188352093569:=t
def tw15361541807878343388:=t
def tw11577829705659331004:=t
def tw10574840078274726829:=t
def tw387204362621204559:=t
def tw16713831800681072344:=t
def tw16487795177693110071:=t
def tw1368107221856924347:=t
def tw18386854893347148238:=t
def tw16597617366809209970:=t
def tw4828031223510198475:=t
def tw16795567611416646642:=t
def tw18201758440048473509:=t
def tw6287420888163001789:=t
def tw2896640688883821729:=t
def tw16734371015571099844:=t
def tw15878805988109762761:=t
def tw5983031951866500094:=t
def tw3712731000106771831:=t
def tw10467260515200827399:=t
def tw17828378304095215089:=t
def tw8327351992414209593:=t
def tw13922054642007902626:=t
def tw1047907039808853306:=t
def tw956942650209027819:=t
def tw47109162367338493:=t
def tw10892192912376451201:=t
def tw3612091147836175635:=t
def tw11141966352661209427:=t
def tw7826773606061359409:=t
def tw5702910450625016506:=t
def tw17104280840954017025:=t
def tw5058314954733539658:=t
def tw479018264907363369:=t
def tw13500427573557490136:=t
def tw4586369020291528013:=t
def tw84136930442132756:=t
def tw11093206078495630212:=t
def tw6893477703608230032:=t
def tw1803303928475200142:=t
def tw2910609919460849807:=t
def tw1112988674713690477:=t
def tw9919435345466941130:=t
def tw14537839394382259888:=t
def tw8973803690348224638:=t
def tw5380135791562185454:=t
def tw17683472795295644477:=t
def tw13571448547899197161:=t
def tw8443935842833279946:=t
def tw17103585973383926153:=t
def tw7761843605638006849:=t
def tw8204474986945543665:=t
def tw7615525527098106726:=t
def tw10879203082236636788:=t
def tw405421117753717134:=t
def tw15823732540823425666:=t
def tw6930518751129746686:=t
def tw12904532413392791838:=t
def tw7744093853086628109:=t
def tw13272337422414781067:=t
def tw15735037969156040135:=t
def tw4778504736273101941:=t
def tw3357215229441099570:=t
def tw4551080515912023512:=t
def tw13820912127525551613:=t
def tw1970226141267450039:=t
def tw1293289543672728842:=t
def tw8055762299656211675:=t
def tw13223034962123697568:=t
def tw5235370132326077648:=t
def tw8813761850579938390:=t
def tw8999917154711486175:=t
def tw16453443671601555132:=t
def tw7849799639701767664:=t
def tw5591473977707886298:=t
def tw5386005190664262872:=t
def tw427269002284569659:=t
def tw9961057766049560675:=t
def tw14166325574356235509:=t
def tw594810645892935528:=t
def tw10987319290404115282:=t
def tw14308104382005812605:=t
def tw2249405535684624136:=t
def tw7715697345341360870:=t
def tw6263863080660174929:=t
def tw13532860479073427719:=t
def tw16882738081622503669:=t
def tw16264823338695392855:=t
def tw13899568491130100285:=t
def tw16836452506482946331:=t
def tw14065501367340364311:=t
def tw913810622518204374:=t
def tw13629508380711501469:=t
def tw14277827659066580250:=t
def tw681777741448182936:=t
def tw14851680436948445374:=t
def tw11133666699803404755:=t
def tw10296497611174029103:=t
def tw16612331741718818515:=t
def tw14319750081657075607:=t
def tw5105846836358774362:=t
def tw485662357110503675:=t
def tw10763682846017881258:=t
def tw18404935858338921730:=t
def tw2617181576586992344:=t
def tw1186331607622873149:=t
def tw14627593546857162170:=t
def tw10956490626425055710:=t
def tw12488038555639769405:=t
def tw12622177474791663080:=t
def tw15690355392615275366:=t
def tw13830271770371739309:=t
def tw16878204669230926818:=t
def tw13525443076416275642:=t
def tw16354691339474908690:=t
def tw15362295582089109014:=t
def tw3623408313619004113:=t
def tw13420762306968818387:=t
def tw650146959520709813:=t
def tw104434173382791472:=t
def tw12762922103008790111:=t
def tw14429230371299607918:=t
def tw5568030912866071158:=t
def tw7059692629156357883:=t
def tw15508944514630427714:=t
def tw10367675484739944270:=t
def tw5088376156974544275:=t
def tw12944596839952905832:=t
def tw4916261283513009128:=t
def tw2514443458684651071:=t
def tw3033006917804047512:=t
def tw8823455108540655025:=t
def tw9572121911122791463:=t
def tw13994475860397038760:=t
def tw6761616313442571491:=t
def tw7138430578808182737:=t
def tw7389250965806765224:=t
def tw10219655510578893393:=t
def tw5225916559131626549:=t
def tw8679839319945467846:=t
def tw9152664641465651067:=t
def tw16770000883354449096:=t
def tw1759469698184221871:=t
def tw12209182163369298222:=t
def tw2770239361232196585:=t
def tw9635476784945057844:=t
def tw10242591131026960117:=t
def tw10017263926548143515:=t
def tw682014064893787789:=t
def tw14645912567700417926:=t
def tw10195997230039290492:=t
def tw4695670854781333657:=t
def tw5970215366352900667:=t
def tw1880918794155911695:=t
def tw2125386657190883914:=t
def tw5609151216138764652:=t
def tw8722410040271553984:=t
def tw15743347864482560488:=t
def tw8500458220134822360:=t
def tw13083224199667937846:=t
def tw9370798289904765433:=t
def tw6480638250107114081:=t
def tw16885616592811714743:=t
def tw12425085872883035938:=t
def tw15159858333777297473:=t
def tw3831216023754155268:=t
def tw1209819496270969543:=t
def tw6916252892733821390:=t
def tw10752159689236168654:=t
def tw6885214360128481674:=t
def tw12521587561680038787:=t
def tw18064794426631996164:=t
def tw2926424126403749041:=t
def tw2446586112883488508:=t
def tw16550210197400561554:=t
def tw15498596964979890660:=t
def tw4269943819458244956:=t
def tw16157251822727197267:=t
def tw9229161468869434483:=t
def tw12764151676501842404:=t
def tw6430265229019958763:=t
def tw2506305409684761478:=t
def tw16542083797698202722:=t
def tw12756434147638494346:=t
def tw15271675978053873483:=t
def tw7557910624720293991:=t
def tw11199710921928265848:=t
def tw2665807947273092163:=t
def tw453181688931711583:=t
def tw2847958352784047137:=t
def tw9666326922614434849:=t
def tw8912170899635468890:=t
def tw8043003576528973991:=t
def tw2988451766255067171:=t
def tw10350142207108426684:=t
def tw6432616177841060128:=t
def tw1601500998369573665:=t
def tw7429413206186439793:=t
def tw14214845130331304391:=t
def tw11408453963512735496:=t
def tw15740088241188596515:=t
def tw378458367893578143:=t
def tw1697544655201012999:=t
def tw13902025155065610156:=t
def tw7717162694582976202:=t
def tw2835187731363253809:=t
def tw6906291655842520137:=t
def tw11982747722937265360:=t
def tw3695669965767098725:=t
def tw122969803118242243:=t
def tw9233715247699887402:=t
def tw8140125068956082859:=t
def tw7600245330811189008:=t
def tw8879822979380727411:=t
def tw6659320528611288953:=t
def tw6763507551630497732:=t
def tw13990698242589431971:=t
def tw12218787953657430602:=t
def tw7249705126575804556:=t
def tw5163715390036670947:=t
def tw649594095290182367:=t
def tw17391775962083533515:=t
def tw14453841093610474573:=t
def tw9486757043174368735:=t
def tw13029900630750994668:=t
def tw9429129263215473398:=t
def tw114735475811551136:=t
def tw1655259298481077034:=t
def tw18367679650794681301:=t
def tw4977374598719398275:=t
def tw17177869089781658578:=t
def tw16415559393655328363:=t
def tw8547604310838440241:=t
def tw5691087667936548404:=t
def tw1886144042066472794:=t
def tw5365650347091420665:=t
def tw14771320824794740959:=t
def tw4835499133494076262:=t
def tw6187478851450931391:=t
def tw15431936980592406869:=t
def tw11133537522755846099:=t
def tw17565814175750979855:=t
def tw9951221954081769418:=t
def tw17576949682797635024:=t
def tw2741389259953327712:=t
def tw14081109356463234644:=t
def tw14861896470697024400:=t
def tw12191294079412454307:=t
def tw2722852734226103192:=t
def tw6491118196486620199:=t
def tw4859757453598101857:=t
def tw17337222044243258637:=t
def tw17687602583917657593:=t
def tw2307138979858485370:=t
def tw4047667213573674445:=t
def tw10694878333477680388:=t
def tw7160873610591055699:=t
def tw4764630281523977524:=t
def tw8598144960395782539:=t
def tw13012589842206080548:=t
def tw2812155379371279736:=t
def tw8735323631387419056:=t
def tw9930815651645962114:=t
def tw15024216053386777475:=t
def tw7230903212357928904:=t
def tw11760055953109336660:=t
def tw6459276657848829223:=t
def tw870079450109401425:=t
def tw5245862010334584759:=t
def tw1924644684860415827:=t
def tw2464713573024523455:=t
def tw12609506754962336506:=t
def tw17342085116792181814:=t
def tw2405475915293451298:=t
def tw8321918168302905379:=t
def tw668136137496459709:=t
def tw6754034310392073148:=t
def tw3570499242123996262:=t
def tw6469359002631138158:=t
def tw10372856604765933493:=t
def tw8265191368974092141:=t
def tw17030962893124633753:=t
def tw1971433849790844608:=t
def tw13188079976727067231:=t
def tw11199532085631943738:=t
def tw9332579688445097367:=t
def tw4827538265410502810:=t
def tw8265311939077410998:=t
def tw12930217345280339350:=t
def tw13167462122316868159:=t
def tw7538252964068480738:=t
def tw6232382023020714460:=t
def tw2105017259488925948:=t
def tw10577396366154187472:=t
def tw2394881407643693062:=t
def tw14114763150826241340:=t
def tw14983691940233647259:=t
def tw17022078359063049780:=t
def tw7458633546980236471:=t
def tw17595191090738125544:=t
def tw2975709217455756120:=t
def tw11423202765487971197:=t
def tw14481524164817573384:=t
def tw2369445192022557226:=t
def tw1195175773429642966:=t
def tw657111498738832265:=t
def tw15740948416001004644:=t
def tw2424727229257130912:=t
def tw2683898200743741643:=t
def tw2367422256012758020:=t
def tw3347922821702440152:=t
def tw13385244156195431271:=t
def tw5278709424875269971:=t
def tw2712389131950775728:=t
def tw13134186033006778460:=t
def tw1843344800811705456:=t
def tw14553358351307128318:=t
def tw3207569582813703071:=t
def tw11939397010239605379:=t
def tw10567129059001840431:=t
def tw16867195051817565849:=t
def tw419386298079150103:=t
def tw14826035006057030972:=t
def tw1638113669730673903:=t
def tw93012567124736588:=t
def tw17469865338272021226:=t
def tw18185382058313985135:=t
def tw6821124136996835843:=t
def tw3739144386018749749:=t
def tw15860264024139754761:=t
def tw2267912224990424062:=t
def tw5860347150701562758:=t
def tw7527032243904285869:=t
def tw13710211086531791108:=t
def tw15350006587542526571:=t
def tw3715792687998586317:=t
def tw2446451932059125521:=t
def tw1294077662247117797:=t
def tw887695700811335699:=t
def tw8689318265317240412:=t
def tw1869187583165140508:=t
def tw11842451847925006096:=t
def tw9835852885743449411:=t
def tw9059832203979395877:=t
def tw5581607755468803823:=t
def tw620129878449983639:=t
def tw13474863142627684814:=t
def tw9576743257966636567:=t
def tw16844067456194695469:=t
def tw10361075674979980167:=t
def tw4205137553216949640:=t
def tw17916939684832112104:=t
def tw13743916774706631149:=t
def tw11593399256984752444:=t
def tw7250933059871147345:=t
def tw13422366750850697080:=t
def tw14080501097578102754:=t
def tw3392894077380570524:=t
def tw14526540143163920134:=t
def tw832561496525075734:=t
def tw6583040956863952856:=t
def tw3901323768455840569:=t
def tw13576654369662418201:=t
def tw9614876229902214918:=t
def tw12287887523310495049:=t
def tw146815374380898660:=t
def tw8903290554218469011:=t
def tw7488472494771415243:=t
def tw7439886461454727182:=t
def tw3663364146628395187:=t
def tw3767615275625035234:=t
def tw3474246075231452896:=t
def tw18237780215024852062:=t
def tw65929781887070819:=t
def tw2312856594315299383:=t
def tw6973401727384321114:=t
def tw16782997733028217545:=t
def tw13822267516522204269:=t
def tw2126296398998916975:=t
def tw12216630987165489725:=t
def tw7847352863974893604:=t
def tw10836530967397901330:=t
def tw4898356984482387957:=t
def tw5889316905344633881:=t
def tw8139039716903228087:=t
def tw8013090884974467112:=t
def tw450566749975022562:=t
def tw13844505572957833930:=t
def tw13709580248569299487:=t
def tw3378803678994701225:=t
def tw13975414291046593716:=t
def tw7374682395561060027:=t
def tw15029563650323070435:=t
def tw17756194745548210895:=t
def tw16342770487823414484:=t
def tw3548060758652744671:=t
def tw17958866498819703998:=t
def tw3664424711883983056:=t
def tw13068111086705522682:=t
def tw15092371282622821202:=t
def tw11470690223818410786:=t
def tw14992007542361138144:=t
def tw16123964013534891561:=t
def tw12879618353801967718:=t
def tw11520865232209809239:=t
def tw16273406610938067001:=t
def tw9514800995652322822:=t
def tw15151295755643613229:=t
def tw15058813355848621054:=t
def tw5196900775432865589:=t
def tw5850499497852442878:=t
def tw8350982801930248251:=t
def tw17774833976778514315:=t
def tw6075534854705499898:=t
def tw7855079511596107753:=t
def tw3888000255316426991:=t
def tw12166907935582030026:=t
def tw10276331973627342096:=t
def tw18297691965846887475:=t
def tw5077617475879078156:=t
def tw12704153843328093452:=t
def tw7314081408670574914:=t
def tw9843949296442739443:=t
def tw17981982808018919739:=t
def tw8347795973495727564:=t
def tw14648832880067583056:=t
def tw15234444972351076034:=t
def tw11383000496634168614:=t
def tw16721989186581611170:=t
def tw17582957951858275007:=t
def tw7325726471975496349:=t
def tw13303987763403120937:=t
def tw9739860059890490050:=t
def tw13985988839938425345:=t
def tw13307591127769906961:=t
def tw8054331753737935190:=t
def tw3855276242980373810:=t
def tw8376602336982375544:=t
def tw3337584539547039419:=t
def tw17089494485692210459:=t
def tw411662067469150650:=t
def tw5839659824258004927:=t
def tw12783364522390391256:=t
def tw9149571693438533347:=t
def tw15299407806266782574:=t
def tw13047834502658803893:=t
def tw6505410396798821541:=t
def tw17315540178315561739:=t
def tw17138679496734019247:=t
def tw2879243146029554076:=t
def tw7673058066778466091:=t
def tw1068965626710143233:=t
def tw7414872774492366064:=t
def tw2555065506035805374:=t
def tw6553124395847675662:=t
def tw9233335307524088747:=t
def tw17781115878593249900:=t
def tw12625694945159114441:=t
def tw32865551896584297:=t
def tw17709558473723601244:=t
def tw13160728816969591200:=t
def tw3591793333600012464:=t
def tw13178059906610389163:=t
def tw7191137982244381804:=t
def tw13889309363888878346:=t
def tw12340227926317113386:=t
def tw4730768163679209282:=t
def tw5244899138074338376:=t
def tw13805588055438515702:=t
def tw2809488002615124206:=t
def tw14751435942891637570:=t
def tw2707679213066786127:=t
def tw12105128591322288922:=t
def tw4691186174975459493:=t
def tw7764171347637550636:=t
def tw3955772918649907234:=t
def tw9108098604805947806:=t
def tw10648311167861321448:=t
def tw3848903353894205444:=t
def tw14597223018079223185:=t
def tw11145643937294416527:=t
def tw16896751376397280635:=t
def tw381845443943030031:=t
def tw15646934709686841381:=t
def tw12609604535291364189:=t
def tw8833053369097974544:=t
def tw860223938195835975:=t
def tw15506382734810221985:=t
def tw893595371883084398:=t
def tw6600658504840714314:=t
def tw15073315481182737699:=t
def tw9016798869158615873:=t
def tw14810493832863049995:=t
def tw14380302785272570777:=t
def tw6487610083215253720:=t
def tw6664487174759623829:=t
def tw7188692134583612594:=t
def tw5647976800219259906:=t
def tw1717825165581474212:=t
def tw11960245374511038805:=t
def tw6286779285267259847:=t
def tw8340158742958640245:=t
def tw16085473023203611486:=t
def tw18062624165398249997:=t
def tw15166127791298437107:=t
def tw6333448901615975916:=t
def tw9759319705405543751:=t
def tw11862920568910387298:=t
def tw16840627104734473223:=t
def tw11533307084868028949:=t
def tw8260818223659903644:=t
def tw17258124492514966302:=t
def tw6898770573198911631:=t
def tw11279390925490393535:=t
def tw14317375437502057738:=t
def tw14301671488300290737:=t
def tw14219799110322211707:=t
def tw4111001743050654279:=t
def tw12520176845478516731:=t
def tw17253974145678602553:=t
def tw14459580976405569124:=t
def tw4791253341166991637:=t
def tw11466170419677230873:=t
def tw11131206648525784891:=t
def tw7386116660499605909:=t
def tw14265907148425328698:=t
def tw13345470168829271861:=t
def tw17395277212465857529:=t
def tw2009410202504348048:=t
def tw11240886729373846589:=t
def tw7198060816514059695:=t
def tw3644161924160858147:=t
def tw11072019736110318841:=t
def tw6674990990233134667:=t
def tw16866024460163772082:=t
def tw16258771989139608452:=t
def tw9166809390415177425:=t
def tw16325430554902658873:=t
def tw5596365628329696591:=t
def tw1676862907878916244:=t
def tw10783980745131425670:=t
def tw2968346561183084112:=t
def tw14309182039651084788:=t
def tw5938710623178642122:=t
def tw6700739122468367443:=t
def tw6176384092110617959:=t
def tw76412952228603488:=t
def tw2511388062720753356:=t
def tw6143595290313323761:=t
def tw7108139096449030536:=t
def tw9190159020981308655:=t
def tw7273676953221729872:=t
def tw7262835159392043830:=t
def tw132903981291199154:=t
def tw6381231289166406305:=t
def tw8645369167282567922:=t
def tw17486766287000646611:=t
def tw6520327441239513222:=t
def tw4250876409542091131:=t
def tw9059672392935016618:=t
def tw8729362747519067210:=t
def tw196536941598035525:=t
def tw17366924284538989914:=t
def tw6786057226368545225:=t
def tw17474498911051797155:=t
def tw13422432716488540661:=t
def tw5958459099580689026:=t
def tw17576975557295073227:=t
def tw2417791160451022400:=t
def tw13007260833023717011:=t
def tw18144237087569449668:=t
def tw3217022616335106338:=t
def tw942065822205529229:=t
def tw372481440892306632:=t
def tw1353657120722975067:=t
def tw14248925298954806443:=t
def tw3618190572293784073:=t
def tw7215319984434753242:=t
def tw8922926602274725614:=t
def tw16634809260590126417:=t
def tw5476889619067714990:=t
def tw15212760480394562756:=t
def tw1149218181149386328:=t
def tw10968536479657739408:=t
def tw14615657086365298920:=t
def tw11053662475850362967:=t
def tw568400683779154973:=t
def tw4002441696211005659:=t
def tw18086089286151905521:=t
def tw1486479319815781832:=t
def tw1142465760834251562:=t
def tw9768079942903668216:=t
def tw9743097575036673082:=t
def tw1670607248958778201:=t
def tw8069049012094873728:=t
def tw8538268897159353584:=t
def tw8369368087495890639:=t
def tw11762496359356365647:=t
def tw7008692893051332821:=t
def tw5938664839603501006:=t
def tw1897025099450329940:=t
def tw1054488965285714247:=t
def tw16307090917165222298:=t
def tw9378254376102152143:=t
def tw12787338502077490372:=t
def tw729201693064108563:=t
def tw2479311146797828861:=t
def tw9250549774821547598:=t
def tw9589608677651300831:=t
def tw9631074621892390191:=t
def tw984902984118615328:=t
def tw10090393231696489298:=t
def tw10577272966987657301:=t
def tw5072613934562372735:=t
def tw7847650389618582240:=t
def tw13759081321499198575:=t
def tw2727672472851901052:=t
def tw4736427724481360342:=t
def tw4626048006780466326:=t
def tw13359135706311490777:=t
def tw13478431904813821724:=t
def tw8640417174963836015:=t
def tw4052878762203253943:=t
def tw16420938139371093754:=t
def tw1756701500820069048:=t
def tw5225153198818245361:=t
def tw14558130701515357843:=t
def tw11189890337720088615:=t
def tw14349089067433371257:=t
def tw16800595933775061595:=t
def tw16068562728529669930:=t
def tw2859833716702649255:=t
def tw2770563814800254177:=t
def tw4296158901955890720:=t
def tw9287724387753133302:=t
def tw2165817408578904141:=t
def tw3704924817259034979:=t
def tw16759092144687519636:=t
def tw13928562000808390012:=t
def tw13310400573052568472:=t
def tw13432635357386499347:=t
def tw10404823597219466188:=t
def tw4321519831107876412:=t
def tw9178861053002065721:=t
def tw5005317128667965579:=t
def tw3696473221133414273:=t
def tw13290321428070320777:=t
def tw18020188600529744260:=t
def tw1123975283337734383:=t
def tw8184561461823581802:=t
def tw72247145696351765:=t
def tw3874152929960365753:=t
def tw5552270689369575618:=t
def tw5472114250418208992:=t
def tw18177719399980262173:=t
def tw3418912648064540324:=t
def tw5186518429493523239:=t
def tw15985961358823992270:=t
def tw8435561252592420358:=t
def tw15748125925826647682:=t
def tw7737320934136571279:=t
def tw877433047237710547:=t
def tw2601905985415302144:=t
def tw370947364307004932:=t
def tw1536312445118062077:=t
def tw14786789198576647004:=t
def tw8637452081102412489:=t
def tw12043218685254973450:=t
def tw6448850889433096767:=t
def tw3698484244233388692:=t
def tw2758071753971750899:=t
def tw1124271682379634556:=t
def tw15833254233020807429:=t
def tw7266696398310401615:=t
def tw4807692442873511580:=t
def tw14214649769353832295:=t
def tw4796303294375832693:=t
def tw965346924571166687:=t
def tw5571243529121415630:=t
def tw12643520174271941249:=t
def tw3512812017678644602:=t
def tw4181406029030974548:=t
def tw6185767955086497853:=t
def tw7675417749720738473:=t
def tw2630061898475652689:=t
def tw5303079699428457377:=t
def tw5513142621748847562:=t
def tw3242435153667248048:=t
def tw3139715651079098073:=t
def tw3776753064480771068:=t
def tw9165953624949470791:=t
def tw8975108423156789194:=t
def tw8622502720953521162:=t
def tw8720027088463671890:=t
def tw4721632059943922391:=t
def tw8410488445778877200:=t
def tw4177254973167742082:=t
def tw6259670677727819807:=t
def tw16149628235652541579:=t
def tw11459358961799972967:=t
def tw17542608870123051758:=t
def tw7669972870368051581:=t
def tw15966430410579761919:=t
def tw17431308487043992063:=t
def tw1040915598704419856:=t
def tw12182655422080760471:=t
def tw9407396174263392564:=t
def tw3422688185749166683:=t
def tw13713866747541496747:=t
def tw8345894832289464959:=t
def tw9335426496214029073:=t
def tw516228168201391017:=t
def tw13120753694373217308:=t
def tw16615598289260009181:=t
def tw14145802354927516647:=t
def tw12210559395081530917:=t
def tw11584198869435930015:=t
def tw9227057690007400460:=t
def tw7980593446034420393:=t
def tw16155163154822807229:=t
def tw6203543418390704334:=t
def tw13318506193475082254:=t
def tw5804503181746721162:=t
def tw15003358760713899574:=t
def tw16326585352142918636:=t
def tw13802547742096326172:=t
def tw1988063486488863061:=t
def tw16656781636731879198:=t
def tw14687197162769931945:=t
def tw8170299122808406783:=t
def tw216529984938456764:=t
def tw9410359166525395380:=t
def tw16753658254399821694:=t
def tw2849401987805519934:=t
def tw5444345374180229054:=t
def tw12502491890553978562:=t
def tw7204998973626084599:=t
def tw2985252069258134486:=t
def tw372964977893139469:=t
def tw10780478100618124694:=t
def tw8599977235414819352:=t
def tw18137363274558907533:=t
def tw10558761922227201614:=t
def tw5071412327939943321:=t
def tw16736118626332596326:=t
def tw4526881389914513428:=t
def tw3486219094355674750:=t
def tw17346259052997144950:=t
def tw6937078607013753133:=t
def tw6265701101103706036:=t
def tw7925146906966333093:=t
def tw9312507129609754321:=t
def tw8388089289598778967:=t
def tw4656485037274611717:=t
def tw16196420915677631385:=t
def tw2675166985342186458:=t
def tw17964300760807480141:=t
def tw11620634932572840514:=t
def tw9684699057600944294:=t
def tw6265675901050258516:=t
def tw8420165910927482534:=t
def tw18034075008235765660:=t
def tw9516688046558066552:=t
def tw17494340499879156831:=t
def tw6912233166142098652:=t
def tw7913636548009798097:=t
def tw9238823003894178615:=t
def tw12427389293880184781:=t
def tw8814567910327776732:=t
def tw12443789822770055382:=t
def tw12690720440438222101:=t
def tw14608685727046917156:=t
def tw12734148187753135964:=t
def tw17135812771915316397:=t
def tw8243169916365450940:=t
def tw10353446712322349686:=t
def tw15169761463676818070:=t
def tw11858546649754279707:=t
def tw1990408344712342385:=t
def tw8541664164027344294:=t
def tw17785818512168800811:=t
def tw5398424786039705171:=t
def tw11994683656316670133:=t
def tw9358617607463016204:=t
def tw8687831153774095200:=t
def tw775762912060472103:=t
def tw7702549930194098719:=t
def tw17953984050398360512:=t
def tw15766219058475960075:=t
def tw105208000716104510:=t
def tw2680655200719965100:=t
def tw2924597203103170677:=t
def tw15722756333993289495:=t
def tw4299629679881509495:=t
def tw16793365374058956912:=t
def tw1592229195962567352:=t
def tw11334203419191126389:=t
def tw3423177367516475676:=t
def tw3976154599441133093:=t
def tw16869365282274683789:=t
def tw3561193834555079511:=t
def tw4597200072644226624:=t
def tw15542334942015070624:=t
def tw14082171712413598185:=t
def tw9366391650621772374:=t
def tw4758991174889311326:=t
def tw11845233108574324481:=t
def tw16526113553464788058:=t
def tw15349318334595610263:=t
def tw4784893810139332661:=t
def tw2095105360761779985:=t
def tw12318557346453588183:=t
def tw12531357853649682357:=t
def tw18134043772397237400:=t
def tw6503730183909636620:=t
def tw11173010173815179391:=t
def tw4213018616267185653:=t
def tw4154345032738424160:=t
def tw2047500489365003465:=t
def tw13706816188851595723:=t
def tw6698198892039521366:=t
def tw6624316729101989866:=t
def tw9601329371697537090:=t
def tw10101883924317870271:=t
def tw908825868028484722:=t
def tw7326723310030351153:=t
def tw6196800358849779857:=t
def tw16663787254893796032:=t
def tw11828478481110319688:=t
def tw16004416686337608138:=t
def tw8507776931139520737:=t
def tw8672883130414831044:=t
def tw14707807475535933493:=t
def tw3669314199184481253:=t
def tw17830291351795818772:=t
def tw7799483888651840948:=t
def tw394782726556701021:=t
def tw16174758807025615021:=t
def tw17921175469725437805:=t
def tw10333212225245001580:=t
def tw4555866861457887817:=t
def tw11116745826364501430:=t
def tw1867163669062818997:=t
def tw2565563351968343141:=t
def tw11430207588045935325:=t
def tw10341860258655708415:=t
def tw7430551824986917830:=t
def tw10328360990557673835:=t
def tw2700199365505918788:=t
def tw9908339238214195531:=t
def tw10786416110784311137:=t
def tw11765434788231831023:=t
def tw9622763587122877835:=t
def tw2580922434103091657:=t
def tw297971269722091814:=t
def tw12033610942823940228:=t
def tw3140898538269762758:=t
def tw11803689641445798100:=t
def tw9822532417609929294:=t
def tw6127594578889010139:=t
def tw14796646475526232899:=t
def tw8800459187187324500:=t
def tw4571971715460732019:=t
def tw13762209637798829341:=t
def tw1814787853859245837:=t
def tw731822037213393670:=t
def tw11961350612320602522:=t
def tw15254643099363442306:=t
def tw10505224238033894595:=t
def tw15125931889511115149:=t
def tw13915387964903991752:=t
def tw728428047077509346:=t
def tw11159431927160009238:=t
def tw14282377253939248939:=t
def tw13044034144603486326:=t
def tw6509661102738689577:=t
def tw8810280945414196856:=t
def tw4383139521930768336:=t
def tw1321871150748368714:=t
def tw18063644159110109576:=t
def tw17566744294597663674:=t
def tw12430023594945194632:=t
def tw517144808224063464:=t
def tw17377934564383891116:=t
def tw10252623693936335467:=t
def tw15451780782824253742:=t
def tw231919175587332662:=t
def tw14987219478266130788:=t
def tw11334350811105764591:=t
def tw17594962761535629368:=t
def tw10448899703829047738:=t
def tw14632489290957082403:=t
def tw16044733080236030384:=t
def tw15682138244387914425:=t
def tw16345600495311464638:=t
def tw15491019914900986176:=t
def tw14142502885225118848:=t
def tw575894324575664597:=t
def tw4547113066930546574:=t
def tw16007503158450755388:=t
def tw13637463451757290726:=t
def tw1291508964198565346:=t
def tw13326734554550294991:=t
def tw10317287140990440334:=t
def tw3484022092364678248:=t
def tw2685745773621513544:=t
def tw14466935161476858967:=t
def tw6431110157172167083:=t
def tw17323899518341599180:=t
def tw17033825039287860005:=t
def tw12031303853943761323:=t
def tw401921906979044612:=t
def tw2731995056826638727:=t
def tw17069463140951725850:=t
def tw5764397981948056254:=t
def tw15687709949711836451:=t
def tw5648408011753718230:=t
def tw11840804652615492782:=t
def tw12725264436868645240:=t
def tw3195968871104189447:=t
def tw7985608403216412088:=t
def tw7714757148821155124:=t
def tw2742194189697913485:=t
def tw12356875383205683853:=t
def tw2820292455394267575:=t
def tw2732273902793177162:=t
def tw17886615442053742456:=t
def tw16204670001084760307:=t
def tw11542710104232473196:=t
def tw7781603739153083191:=t
def tw8355760468068845380:=t
def tw6292954644110606532:=t
def tw16809779246217341487:=t
def tw12540527436937284434:=t
def tw8363718466572441477:=t
def tw462939625794472801:=t
def tw17103177528636943170:=t
def tw10401608028569396845:=t
def tw16509065781470453940:=t
def tw3603051052118289896:=t
def tw3909029901177050473:=t
def tw16525863338940772298:=t
def tw2737145857125637188:=t
def tw5771795636922677268:=t
def tw11922380849998532372:=t
def tw16426902794028739630:=t
def tw314455870634268127:=t
def tw788273225186049534:=t
def tw9259421805112917234:=t
def tw2529601377429677153:=t
def tw6746510453823603384:=t
def tw14671331368771545958:=t
def tw12117888159696746259:=t
def tw10885322118463539834:=t
def tw14041154887136619503:=t
def tw10010203797729834575:=t
def tw3730354652608582461:=t
def tw10187264123177260123:=t
def tw16352630495959832749:=t
def tw7360070258638436176:=t
def tw4250950275838387964:=t
def tw4951766788466123468:=t
def tw9111341701214203307:=t
def tw9854310039474760501:=t
def tw8212240652046128837:=t
def tw14697636140705633519:=t
def tw15516308363225789855:=t
def tw14789260269991461300:=t
def tw16533540343700365917:=t
def tw13001836021917841797:=t
def tw16510303528373561908:=t
def tw10008474027749305400:=t
def tw4392038535549328194:=t
def tw9833397302626899308:=t
def tw3465488137227279516:=t
def tw15755962551988530747:=t
def tw439095664309466517:=t
def tw6908635100366463001:=t
def tw2782073688633401757:=t
def tw5922324665105752571:=t
def tw6240597372359344220:=t
def tw390997316461189296:=t
def tw14510474431719978317:=t
def tw18229784292405043182:=t
def tw17428532607074087071:=t
def tw7313339093194340965:=t
def tw17795014544551873601:=t
def tw12263070956244924665:=t
def tw17545328352263074274:=t
def tw13187519465064655849:=t
def tw18344159896984962366:=t
def tw1950521091445644615:=t
def tw5790966258338625528:=t
def tw13889484949932952446:=t
def tw17489137672866753323:=t
def tw9685713192446186341:=t
def tw9195894827357321740:=t
def tw18371284783138465269:=t
def tw342308947776675178:=t
def tw16843226685827341786:=t
def tw8694864300669457046:=t
def tw6919701780365589675:=t
def tw151297168226168136:=t
def tw6383614241601562808:=t
def tw9328819404386307858:=t
def tw10549977736560136457:=t
def tw16674975167109581930:=t
def tw3195522803047326042:=t
def tw12342655685612074800:=t
def tw16357309143852133390:=t
def tw10774637447528242797:=t
def tw9361663168868926718:=t
def tw1016984595167383106:=t
def tw13947007510445982354:=t
def tw12543184057631004479:=t
def tw3581848524822189991:=t
def tw15360274220829721888:=t
def tw7830913209206220567:=t
def tw12603656398198563500:=t
def tw3657543652526465285:=t
def tw2867133514656366558:=t
def tw4046864289407762814:=t
def tw9989051494896439582:=t
def tw6189502492464219833:=t
def tw5969682004907312646:=t
def tw16994376123345812558:=t
def tw15240379268576122478:=t
def tw4131498621145694574:=t
def tw3656269831002480980:=t
def tw995497684801637723:=t
def tw9800703332001039478:=t
def tw3605147657684821369:=t
def tw2287362676942042354:=t
def tw2907113945770861938:=t
def tw3846862658102513837:=t
def tw9851269098105209369:=t
def tw7204493036743257322:=t
def tw13987285891283452908:=t
def tw3143785405151724282:=t
def tw99440450732166138:=t
def tw9913501989792142831:=t
def tw6594526768476950845:=t
def tw16919938111736474924:=t
def tw17722117175345764028:=t
def tw5535988348211436712:=t
def tw16752354649701903923:=t
def tw18362437273917381549:=t
def tw2531698151371588898:=t
def tw679676368844127653:=t
def tw46980244435833615:=t
def tw8311017846404947139:=t
def tw6438537300738474071:=t
def tw9953747333497923681:=t
def tw1108800333578037850:=t
def tw16414630628198896168:=t
def tw1043701613660472097:=t
def tw8150499350492408157:=t
def tw1492452104121835379:=t
def tw17085176360113175178:=t
def tw4636308790740814030:=t
def tw8985709366574770022:=t
def tw13901205277877782832:=t
def tw10801874191123338550:=t
def tw956089473029861405:=t
def tw16166457384891526456:=t
def tw10512489437642701289:=t
def tw283044589724301:=t
def tw18121752080927795069:=t
def tw2878843996050045342:=t
def tw9723989250521069032:=t
def tw2752453847809088016:=t
def tw11503242561204267055:=t
def tw1245559373397905713:=t
def tw15248220891095644897:=t
def tw16058212318047004132:=t
def tw13264354339760550358:=t
def tw4713442408853163898:=t
def tw18008055252877512497:=t
def tw1617357707322924660:=t
def tw4566856676736034171:=t
def tw6370870915552960936:=t
def tw5254037755948148165:=t
def tw16034636559557993077:=t
def tw1147548669246485465:=t
def tw8143265674769528471:=t
def tw350670483859837877:=t
def tw2422214840401454511:=t
def tw3389129807090800087:=t
def tw16120041803238788101:=t
def tw2050295075708095047:=t
def tw6942226510957090829:=t
def tw3820434133910038737:=t
def tw4258143625173308034:=t
def tw16739174306508632950:=t
def tw2365566498512967660:=t
def tw17504273579162756690:=t
def tw11377482038585738817:=t
def tw18245740138792012028:=t
def tw501154541418245514:=t
def tw6042063481754889096:=t
def tw12958664272152378060:=t
def tw2218668502564051296:=t
def tw15330153412207162294:=t
def tw4547018644641229820:=t
def tw4462018665069346703:=t
def tw11153979150802330146:=t
def tw4166218997396506358:=t
def tw12718909917080609646:=t
def tw16738887294677167769:=t
def tw16659674399394625376:=t
def tw4231656071295301730:=t
def tw8523463495250067690:=t
def tw3261557481417251176:=t
def tw4885547446624616799:=t
def tw11334415319851112604:=t
def tw1400011881503588481:=t
def tw11735923915801401282:=t
def tw17555251805378815213:=t
def tw3120133295221510679:=t
def tw1192657577511650299:=t
def tw8833944927944761889:=t
def tw10643057118474118344:=t
def tw15744752440731449612:=t
end
end Mine.top
theorem Mine.top:PySem.Challenge.rw_mr0368_01.Holds:=by
 w_on;o_law;k_head
 (case hw=>w_witness2)
 k_fill
 intro w s₀ s₁ mg mb G Y fa o pm cd doc dV kV ho hd hcd hD hmg hg args vals as hpre hlay hrd hwl hlo
 have KX:=km_in_of Y
 have TB:=km_tabs_of Y
 refine Ground.open G ?_
 intro T B D TE TW
 wrow_args hpre hlay hrd hwl hlo
 x_fa T KX hmg
 rename Heap.IsList _ _ _=>hL
 rename IntsAre _ _=>hI
 rename_i hcond _
 obtain ⟨dd,n,sl,hol⟩:=isList_open hL
 show wpAny _ callerA (call (.ref 945) [_]) _ _ s₁
 refine Mine.Internal.law_fin ?keys KX (TB 862 (.head _)) T ?len hg ⟨rfl,?dp,?un⟩ ?lim hol (fun g=>Mine.Internal.rels_ints hI) ?fin
 case len=>omega
 case dp=>decide
 case un=>decide
 case lim=>decide
 case fin =>
  intro h' tk' gs' hk hb
  refine ⟨.inl ⟨_,_,[],rfl,fun _=>rfl,ReadsW.bool true,?_,fun _=>⟨List.nodup_nil,fun _ hm=>(nomatch hm)⟩⟩,hk,rfl,hb⟩
  first | rfl | wrow_post
 case keys =>
  constructor
  case tab =>
   intro g as X
   have h1:=X 161 _ (by k_is)
   refine Mine.Internal.Rel.tup h1 ?_
   repeat (first | exact Mine.Internal.Rels.nil | refine Mine.Internal.Rels.cons ?_ ?_ | exact Mine.Internal.Rel.int _ _ | exact Mine.Internal.Rel.str _ _ | refine Mine.Internal.Rel.tup (X _ _ (by k_is)) ?_)
  case d_shlex_init=>exact ⟨773,_,_,_,by k_is,rfl,rfl,_,_,_,_,_,_,_,_,by k_is,by k_is⟩
  case d_StringIO_init=>exact ⟨484,_,_,_,by k_is,rfl,⟨_,_,rfl⟩,_,_,_,_,_,_,_,_,by k_is,by k_is⟩
  case d_StringIO_read=>exact ⟨660,_,_,_,by k_is,rfl,⟨_,rfl⟩,_,_,_,_,_,_,_,_,by k_is,by k_is⟩
  case d_StringIO_readline=>exact ⟨668,_,_,_,by k_is,rfl,⟨_,rfl⟩,_,_,_,_,_,_,_,_,by k_is,by k_is⟩
  case kit721=>exact ⟨by k_is,by k_is,by k_is,by k_is⟩
  case kit856=>exact ⟨by k_is,by k_is,by k_is,by k_is⟩
  case lx=>(unfold Mine.Internal.lexAttrs;repeat (refine List.forall_mem_cons.mpr ⟨⟨by k_is,by k_is⟩,?_⟩));exact fun x hx=>nomatch hx
  case sx=>(unfold Mine.Internal.sioAttrs;repeat (refine List.forall_mem_cons.mpr ⟨⟨by k_is,by k_is⟩,?_⟩));exact fun x hx=>nomatch hx
  case mt=>(unfold Mine.Internal.lexMeths;repeat (refine List.forall_mem_cons.mpr ⟨⟨by dsimp only;k_is,by dsimp only;k_is,by dsimp only;k_is⟩,?_⟩));exact fun x hx=>nomatch hx
  case pr=>exact ⟨by k_is,by k_is,by k_is,_,by k_is⟩
  case oo721=>exact ⟨_,_,_,_,by k_is,rfl,rfl,rfl,rfl,rfl,rfl⟩
  case os218=>exact ⟨_,by k_is⟩
  case sb721=>intro S;kernel_rfl
  case j_join=>exact ⟨_,_,_,_,_,_,_,by k_is,by k_is⟩
  all_goals first | k_is | exact ⟨⟨_,by k_is,rfl,rfl⟩,⟨_,_,_,_,_,by k_is,rfl,rfl⟩,⟨_,_,by k_is,rfl⟩⟩ | exact ⟨_,by k_is⟩ | exact ⟨_,_,_,_,_,_,_,_,by k_is,by k_is⟩ | kernel_rfl
end
theorem PySem.Challenge.cw_mr0368_01_holds : PySem.Challenge.rw_mr0368_01.Holds :=
  Mine.top
